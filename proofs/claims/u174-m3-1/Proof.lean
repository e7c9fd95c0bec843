import JvmDerived
import JvmDerived.Pilot.@@N@@Statement
import JvmDerived.Pilot.@@N@@Code
set_option linter.unusedVariables false
set_option linter.unusedSimpArgs false
set_option maxRecDepth 65536
set_option maxHeartbeats 40000000
namespace Jvm.Own
open Sem ClassFile Op Lib Bundle Jvm.Stand Jvm.Free Jvm.LawKit Jvm.RoadKit
section Base
variable {p : Program} {l : Launch} {e : Env} {R : Room} {s : State} {m : MethodId} {args : Array Value} {below : List Frame} {meth : Method} {c : Code} {own : String} {Z : State} {a0 : Array Value} {EL : List (String × Nat)} {vm0 vm1 : Vm} {T T' : State} {h h' h1 : Heap} {k n : Nat} {G : Outcome → State → Prop} {pc : Nat} {Ls : Array Slot} {rest : List Value}
/-- the walk comes to an end that G allows -/
def OEnds (p : Program) (e : Env) (below : List Frame) (G : Outcome → State → Prop) (T : State) (g : JFrame) : Prop := ∃ (s₂ : State) (o : Outcome), Steps p.tables e below (T.setTop g) s₂ ∧ s₂.status = .running ∧ Ended s₂ below o ∧ G o s₂
theorem OEnds.go {g g' : JFrame} (st : ∀ t, Steps p.tables e below (T'.setTop g') t → Steps p.tables e below (T.setTop g) t) (q : OEnds p e below G T' g') : OEnds p e below G T g := by
  obtain ⟨s₂, o, h1, r⟩ := q; exact ⟨s₂, o, st _ h1, r⟩
theorem OEnds.tr {g g' : JFrame} (st : Steps p.tables e below (T.setTop g) (T'.setTop g')) (q : OEnds p e below G T' g') : OEnds p e below G T g := by
  obtain ⟨s₂, o, h1, r⟩ := q; exact ⟨s₂, o, st.trans h1, r⟩
theorem OEnds.cast {g g' : JFrame} (q : g = g') (r : OEnds p e below G T g') : OEnds p e below G T g := q ▸ r
theorem ext_refl (h : Heap) : Ext h h := ⟨Nat.le_refl _, fun _ _ q => q⟩
theorem ext_trans (A : Ext h h1) (B : Ext h1 h') : Ext h h' := ⟨Nat.le_trans A.1 B.1, fun a c q => B.2 a c (A.2 a c q)⟩
/-- what was written lies above h: h stands -/
theorem ext_keep {ws : List Addr} (A : Ext h h1) (K : Keep h1 h' ws) (q : ∀ x ∈ ws, h.size ≤ x) : Ext h h' := ⟨Nat.le_trans A.1 K.1, fun a c r => K.2.1 a c (A.2 a c r) fun z => absurd (Array.getElem?_eq_some_iff.mp r).1 (Nat.not_lt.mpr (q a z))⟩
theorem ext_wr {a : Addr} {sl : Nat} {v : Value} (A : Ext h h1) (W : Wr h1 h' a sl v) (q : h.size ≤ a) : Ext h h' := ext_keep A (Keep.of_wr W) (allS q all0)
/-- where the walk stands: the tables vm0, the heap h, at most k cells and n slots made -/
def OSt (p : Program) (l : Launch) (e : Env) (R : Room) (s : State) (m : MethodId) (args : Array Value) (below : List Frame) (meth : Method) (c : Code) (own : String) (Z : State) (EL : List (String × Nat)) (vm0 : Vm) (T : State) (h : Heap) (k n : Nat) : Prop :=
  ∃ locs : List Loc, Stand p l e R (s.setVm vm0) m args below meth c T locs k n ∧ Fr Z.heap.size locs ∧ T.heap = h ∧ (∃ k0, s.Since vm0 k0 ∧ k0 ≤ h.size) ∧ Z.Warmed39 vm0 ∧ vm0.findClass own = some m.cls ∧ CHr Z EL s.vm s.heap vm0 h ∧ Ext Z.heap h ∧ p.tables.exec = Jvm.exec
theorem OSt.here (X : OSt p l e R s m args below meth c own Z EL vm0 T h k n) : At T m c below := by obtain ⟨_, X, _⟩ := X; exact X.here
theorem OSt.hx (X : OSt p l e R s m args below meth c own Z EL vm0 T h k n) : p.tables.exec = Jvm.exec := by obtain ⟨_, _, _, _, _, _, _, _, _, q⟩ := X; exact q
theorem OSt.old (X : OSt p l e R s m args below meth c own Z EL vm0 T h k n) : Ext Z.heap h := by obtain ⟨_, _, _, _, _, _, _, _, q, _⟩ := X; exact q
theorem OSt.hZ (X : OSt p l e R s m args below meth c own Z EL vm0 T h k n) : Z.Warmed39 vm0 := by obtain ⟨_, _, _, _, _, q, _⟩ := X; exact q
theorem OSt.al (X : OSt p l e R s m args below meth c own Z EL vm0 T h k n) : Z.vm.Alike vm0 := X.hZ.alike
theorem OSt.chr (X : OSt p l e R s m args below meth c own Z EL vm0 T h k n) : CHr Z EL s.vm s.heap vm0 h := by obtain ⟨_, _, _, _, _, _, _, q, _⟩ := X; exact q
theorem OSt.chv (X : OSt p l e R s m args below meth c own Z EL vm0 T h k n) : CHv Z EL vm0 h := X.chr.1
theorem OSt.mono (X : OSt p l e R s m args below meth c own Z EL vm0 T h k n) {k' n' : Nat} (hk : k ≤ k') (hn : n ≤ n') : OSt p l e R s m args below meth c own Z EL vm0 T h k' n' := by
  obtain ⟨L, X, r⟩ := X; exact ⟨L, X.mono hk hn, r⟩
theorem OSt.getF (X : OSt p l e R s m args below meth c own Z EL vm0 T h k n) {R0 O nm d : String} {index : Nat} (w : (Cond.fieldLink own index R0 nm d).before a0 Z = true) (via : Via Z R0 O nm d) {a : Addr} {v : Value} (F : Fld Z h a O nm d v) (hd : decode c.code pc = .ok (.getfield index, 3))
    (q : ∀ T', OSt p l e R s m args below meth c own Z EL vm0 T' h k n → OEnds p e below G T' (mkF m (pc + 3) Ls (v :: rest))) : OEnds p e below G T (mkF m pc Ls (.ref a :: rest)) := by
  obtain ⟨L, X, hF, hh, hS, hZ, ho, hC, hO, hx⟩ := X
  obtain ⟨T', X', e', st⟩ := RoadKit.getF (host := "") X hx hZ ho (Or.inl w) via hh F (g := mkF m pc Ls (.ref a :: rest)) rfl rfl hd
  exact (q T' ⟨L, X', hF, e', hS, hZ, ho, hC, hO, hx⟩).go st
theorem OSt.getS (X : OSt p l e R s m args below meth c own Z EL vm0 T h k n) {R0 O nm d : String} {index : Nat} (w : (Cond.fieldLink own index R0 nm d).before a0 Z = true) (via : Via Z R0 O nm d) {v : Value} (F : Sta Z h O nm d v) (hd : decode c.code pc = .ok (.getstatic index, 3))
    (q : ∀ T', OSt p l e R s m args below meth c own Z EL vm0 T' h k n → OEnds p e below G T' (mkF m (pc + 3) Ls (v :: rest))) : OEnds p e below G T (mkF m pc Ls rest) := by
  obtain ⟨L, X, hF, hh, hS, hZ, ho, hC, hO, hx⟩ := X
  obtain ⟨T', X', e', st⟩ := RoadKit.getS (host := "") X hx hZ ho w via hh F (g := mkF m pc Ls rest) rfl hd
  exact (q T' ⟨L, X', hF, e', hS, hZ, ho, hC, hO, hx⟩).go st
theorem Since_le {k0 : Nat} (hk : k0 ≤ h.size) (q : h.size ≤ h'.size) : k0 ≤ h'.size := Nat.le_trans hk q
theorem OSt.putF (X : OSt p l e R s m args below meth c own Z EL vm0 T h k n) {R0 O nm d C : String} {index kk : Nat} {ty : FieldType} (w : (Cond.fieldLink own index R0 nm d).before a0 Z = true) (via : Via Z R0 O nm d) {a : Addr} {v old : Value} (F : Fld Z h a O nm d old) (E : Exa Z h a C)
    (Lw : (Cond.lays C O nm d).before a0 Z = true ∨ ((Cond.laysFinal C O nm d).before a0 Z = true ∧ own = O ∧ meth.name = "<init>")) (wi : (Cond.instantiable C kk).before a0 Z = true) (hty : parseFieldDescriptor d = some ty) (hn : narrow ty v = v) (hf : fits ty v = true)
    (hS : Safe Z EL vm0 h a) (ha : Z.heap.size ≤ a) (hd : decode c.code pc = .ok (.putfield index, 3))
    (q : ∀ T' h', OSt p l e R s m args below meth c own Z EL vm0 T' h' k n → Wr h h' a (Jvm.RoadKit.slotOf Z O nm d) v → OEnds p e below G T' (mkF m (pc + 3) Ls rest)) : OEnds p e below G T (mkF m pc Ls (v :: .ref a :: rest)) := by
  obtain ⟨L, X, hF, hh, ⟨k0, hS0, hk0⟩, hZ, ho, hC, hO, hx⟩ := X
  obtain ⟨T', h', X', e', W, st⟩ := RoadKit.putF (host := "") X hx hZ ho (Or.inl w) via hh F E Lw wi hty hn hf (g := mkF m pc Ls (v :: .ref a :: rest)) rfl rfl hd
  exact (q T' h' ⟨_, X', Fr.snoc X' hF ha, e', ⟨k0, hS0, by rw [W.size]; exact hk0⟩, hZ, ho, hC.trans (CHr.wr W hS hC.1), ext_wr hO W ha, hx⟩ W).go st
theorem OSt.newO (X : OSt p l e R s m args below meth c own Z EL vm0 T h k n) {C : String} {index j : Nat} (w : (Cond.classLink own index C).before a0 Z = true) (wi : (Cond.instantiable C j).before a0 Z = true) (wz : (Cond.initialized C).before a0 Z = true) (hd : decode c.code pc = .ok (.new index, 3)) (hc : k + 1 ≤ R.cells) (hl : n + j ≤ R.slots)
    (q : ∀ T' h' a, h.size = a → OSt p l e R s m args below meth c own Z EL vm0 T' h' (k + 1) (n + j) → Ext h h' → Exa Z h' a C → (∀ {O nm d : String} {ty : FieldType}, Laid Z a0 C O nm d → parseFieldDescriptor d = some ty → Fld Z h' a O nm d (defaultValue ty)) → Unt h' a → OEnds p e below G T' (mkF m (pc + 3) Ls (.ref a :: rest))) : OEnds p e below G T (mkF m pc Ls rest) := by
  obtain ⟨L, X, hF, hh, ⟨k0, hS0, hk0⟩, hZ, ho, hC, hO, hx⟩ := X
  obtain ⟨T', h', X', e', E, A, D, U, st⟩ := RoadKit.newO X hx hZ ho w wi wz hh (g := mkF m pc Ls rest) rfl hd hc hl
  exact (q T' h' _ rfl ⟨_, X', hF, e', ⟨k0, hS0, Nat.le_trans hk0 E.1⟩, hZ, ho, hC.trans (CHr.ext E hC.1), ext_trans hO E, hx⟩ E A D U).go st
theorem OSt.newP (X : OSt p l e R s m args below meth c own Z EL vm0 T h k n) {aty : ArrayType} (w : (Cond.arrayClass (newarray.typeOf aty)).before a0 Z = true) {z : Int32} (hd : decode c.code pc = .ok (.newarray aty, 2)) (hz : ¬ z < 0) {cap : Nat} (hcap : z.toNatClampNeg ≤ cap) (hb : cap * 8 ≤ 536870912) (hc : k + 1 ≤ R.cells) (hl : n + cap ≤ R.slots)
    (q : ∀ T' h' a kc, h.size = a → OSt p l e R s m args below meth c own Z EL vm0 T' h' (k + 1) (n + cap) → Ext h h' → Arv Z h' a kc (newarray.typeOf aty) z [] (defaultValue (newarray.typeOf aty)) → OEnds p e below G T' (mkF m (pc + 2) Ls (.ref a :: rest))) : OEnds p e below G T (mkF m pc Ls (.int z :: rest)) := by
  obtain ⟨L, X, hF, hh, ⟨k0, hS0, hk0⟩, hZ, ho, hC, hO, hx⟩ := X
  obtain ⟨T', h', kc, X', e', E, A, st⟩ := RoadKit.newP X hx hZ w hh (g := mkF m pc Ls (.int z :: rest)) rfl hd rfl hz hcap hb hc hl
  exact (q T' h' _ kc rfl ⟨_, X', hF, e', ⟨k0, hS0, Nat.le_trans hk0 E.1⟩, hZ, ho, hC.trans (CHr.ext E hC.1), ext_trans hO E, hx⟩ E (Arv.new A hz)).go st
theorem OSt.castY (X : OSt p l e R s m args below meth c own Z EL vm0 T h k n) {K : String} {index : Nat} (w : (Cond.classLink own index K).before a0 Z = true) {a : Addr} (F : Ins Z h a K true) (hd : decode c.code pc = .ok (.checkcast index, 3))
    (q : ∀ T', OSt p l e R s m args below meth c own Z EL vm0 T' h k n → OEnds p e below G T' (mkF m (pc + 3) Ls (.ref a :: rest))) : OEnds p e below G T (mkF m pc Ls (.ref a :: rest)) := by
  obtain ⟨L, X, hF, hh, hS, hZ, ho, hC, hO, hx⟩ := X
  obtain ⟨T', X', e', st⟩ := RoadKit.castY X hx hZ ho w hh F (g := mkF m pc Ls (.ref a :: rest)) rfl rfl hd
  exact (q T' ⟨L, X', hF, e', hS, hZ, ho, hC, hO, hx⟩).go st
theorem OSt.instY (X : OSt p l e R s m args below meth c own Z EL vm0 T h k n) {K : String} {index : Nat} (w : (Cond.classLink own index K).before a0 Z = true) {a : Addr} (F : Ins Z h a K true) (hd : decode c.code pc = .ok (.instanceof index, 3))
    (q : ∀ T', OSt p l e R s m args below meth c own Z EL vm0 T' h k n → OEnds p e below G T' (mkF m (pc + 3) Ls (.int 1 :: rest))) : OEnds p e below G T (mkF m pc Ls (.ref a :: rest)) := by
  obtain ⟨L, X, hF, hh, hS, hZ, ho, hC, hO, hx⟩ := X
  obtain ⟨T', X', e', st⟩ := RoadKit.instY X hx hZ ho w hh F (g := mkF m pc Ls (.ref a :: rest)) rfl rfl hd
  exact (q T' ⟨L, X', hF, e', hS, hZ, ho, hC, hO, hx⟩).go st
theorem OSt.instNo (X : OSt p l e R s m args below meth c own Z EL vm0 T h k n) {K C : String} {index : Nat} (w : (Cond.classLink own index K).before a0 Z = true) {a : Addr} (E : Exa Z h a C) (F : ∃ c t, Z.vm.findClass C = some c ∧ Z.vm.findClass K = some t ∧ Z.vm.assignable c t = false) (hd : decode c.code pc = .ok (.instanceof index, 3))
    (q : ∀ T', OSt p l e R s m args below meth c own Z EL vm0 T' h k n → OEnds p e below G T' (mkF m (pc + 3) Ls (.int 0 :: rest))) : OEnds p e below G T (mkF m pc Ls (.ref a :: rest)) := by
  obtain ⟨L, X, hF, hh, hS, hZ, ho, hC, hO, hx⟩ := X
  obtain ⟨T', X', e', st⟩ := RoadKit.instNo X hx hZ ho w hh E F (g := mkF m pc Ls (.ref a :: rest)) rfl rfl hd
  exact (q T' ⟨L, X', hF, e', hS, hZ, ho, hC, hO, hx⟩).go st
theorem OSt.initO (X : OSt p l e R s m args below meth c own Z EL vm0 T h k n) {idx : Nat} (w1 : (Cond.methodLink own idx Lib.objectInit).before a0 Z = true) (w2 : (Cond.instanceMethod Lib.objectInit).before a0 Z = true) (w3 : (Cond.code Lib.objectInit ⟨#[0xb1]⟩ 1 none).before a0 Z = true) {a : Addr} (hsize : Ls.size = c.maxLocals) (hd : decode c.code pc = .ok (.invokespecial idx, 3)) (hf : 1 ≤ R.frames) {W : Nat} (hW : (rest.map fun v => v.category).sum ≤ W) (hl : W + 12 ≤ R.locals)
    (q : ∀ T', OSt p l e R s m args below meth c own Z EL vm0 T' h k n → OEnds p e below G T' (mkF m (pc + 3) Ls rest)) : OEnds p e below G T (mkF m pc Ls (.ref a :: rest)) := by
  obtain ⟨L, X, hF, hh, hS, hZ, ho, hC, hO, hx⟩ := X
  obtain ⟨T', X', e', st⟩ := RoadKit.initO X hx hZ ho w1 w2 w3 hh (g := mkF m pc Ls (.ref a :: rest)) rfl hsize rfl hd hf (W := W) (by show 2 * 0 + _ ≤ _; rw [Nat.mul_zero, Nat.zero_add]; exact hW) hl
  exact (q T' ⟨L, X', hF, e', hS, hZ, ho, hC, hO, hx⟩).go st
end Base
end Jvm.Own
namespace Jvm.Own
open Sem ClassFile Op Lib Bundle Jvm.Stand Jvm.Free Jvm.LawKit Jvm.RoadKit
section Arrays
variable {p : Program} {l : Launch} {e : Env} {R : Room} {s : State} {m : MethodId} {args : Array Value} {below : List Frame} {meth : Method} {c : Code} {own : String} {Z : State} {a0 : Array Value} {EL : List (String × Nat)} {vm0 vm1 : Vm} {T T' : State} {h h' h1 : Heap} {k n : Nat} {G : Outcome → State → Prop} {pc : Nat} {Ls : Array Slot} {rest : List Value}
theorem i2c_id {x : Int32} (h0 : ¬ x < 0) (h1 : ¬ 65535 < x) : x.toUInt32.toUInt16.toUInt32.toInt32 = x := by
  have q := c_i2c x
  have r : (0 : Int32).toInt = 0 := rfl
  have r' : (65535 : Int32).toInt = 65535 := rfl
  simp only [Int32.lt_iff_toInt_lt, r, r'] at h0 h1
  apply Int32.toInt_inj.mp
  omega
theorem OSt.ldcI (X : OSt p l e R s m args below meth c own Z EL vm0 T h k n) {index : Nat} {v : Int32} (w : (Cond.constant own index v).before a0 Z = true) (hd : decode c.code pc = .ok (.ldc index, 2)) (q : OEnds p e below G T (mkF m (pc + 2) Ls (.int v :: rest))) : OEnds p e below G T (mkF m pc Ls rest) := by
  obtain ⟨L, X, hF, hh, hS, hZ, ho, hC, hO, hx⟩ := X
  exact q.go fun t => X.ldcInt hx ho (mvT (s := s.setVm vm0) hZ w) (g := mkF m pc Ls rest) rfl hd t
theorem OSt.ldcJ (X : OSt p l e R s m args below meth c own Z EL vm0 T h k n) {index : Nat} {v : Int64} (w : (Cond.constantLong own index v).before a0 Z = true) (hd : decode c.code pc = .ok (.ldc2_w index, 3)) (q : OEnds p e below G T (mkF m (pc + 3) Ls (.long v :: rest))) : OEnds p e below G T (mkF m pc Ls rest) := by
  obtain ⟨L, X, hF, hh, hS, hZ, ho, hC, hO, hx⟩ := X
  exact q.go fun t => X.ldc2Long hx ho (mvT (s := s.setVm vm0) hZ w) (g := mkF m pc Ls rest) rfl hd t
theorem OSt.alen (X : OSt p l e R s m args below meth c own Z EL vm0 T h k n) {a : Addr} {kc : ClassId} {ty : FieldType} {z : Int32} {vs : List Value} {d : Value} (K : Arv Z h a kc ty z vs d) (hd : decode c.code pc = .ok (.arraylength, 1)) (q : OEnds p e below G T (mkF m (pc + 1) Ls (.int z :: rest))) : OEnds p e below G T (mkF m pc Ls (.ref a :: rest)) := by
  obtain ⟨L, X, hF, hh, hS, hZ, ho, hC, hO, hx⟩ := X
  obtain ⟨cl, A, -, S, hz, -, -⟩ := K
  refine q.go fun t r => X.arraylength hx (by rw [hh]; exact A.1) (State.isArrayOf_alike hZ.alike A.2.1) (g := mkF m pc Ls (.ref a :: rest)) rfl rfl hd t ?_
  rw [len_of S hz]; exact r
theorem OSt.cald (X : OSt p l e R s m args below meth c own Z EL vm0 T h k n) {a : Addr} {kc : ClassId} {z j : Int32} {vs : List Value} {d v : Value} (K : Arv Z h a kc .char z vs d) (hj : ¬ j < 0 ∧ j < z) (u : vs.getD j.toNatClampNeg d = v) (hd : decode c.code pc = .ok (.caload, 1)) (q : OEnds p e below G T (mkF m (pc + 1) Ls (v :: rest))) : OEnds p e below G T (mkF m pc Ls (.int j :: .ref a :: rest)) := by
  obtain ⟨L, X, hF, hh, hS, hZ, ho, hC, hO, hx⟩ := X
  obtain ⟨cl, A, -, S, hz, H, -⟩ := K
  exact q.go fun t => X.caload hx (by rw [hh]; exact A.1) (State.isArrayOf_alike hZ.alike A.2.1) A.2.2 (inb_of S hj) (H.at (inb_of S hj) u) (g := mkF m pc Ls (.int j :: .ref a :: rest)) rfl rfl hd t
theorem OSt.bald (X : OSt p l e R s m args below meth c own Z EL vm0 T h k n) {a : Addr} {kc : ClassId} {z j : Int32} {vs : List Value} {d v : Value} (K : Arv Z h a kc .byte z vs d) (hj : ¬ j < 0 ∧ j < z) (u : vs.getD j.toNatClampNeg d = v) (hd : decode c.code pc = .ok (.baload, 1)) (q : OEnds p e below G T (mkF m (pc + 1) Ls (v :: rest))) : OEnds p e below G T (mkF m pc Ls (.int j :: .ref a :: rest)) := by
  obtain ⟨L, X, hF, hh, hS, hZ, ho, hC, hO, hx⟩ := X
  obtain ⟨cl, A, -, S, hz, H, -⟩ := K
  exact q.go fun t => X.baloadBytes hx (by rw [hh]; exact A.1) (State.isArrayOf_alike hZ.alike A.2.1) A.2.2 (inb_of S hj) (H.at (inb_of S hj) u) (g := mkF m pc Ls (.int j :: .ref a :: rest)) rfl rfl hd t
theorem OSt.stC (X : OSt p l e R s m args below meth c own Z EL vm0 T h k n) {a : Addr} {kc : ClassId} {z j x : Int32} {vs : List Value} {d : Value} (K : Arv Z h a kc .char z vs d) (hj : ¬ j < 0 ∧ j < z) (hx1 : ¬ x < 0 ∧ ¬ 65535 < x) {i : Nat} (hi : j.toNatClampNeg = i) (hl : i < vs.length) (ha : Z.heap.size ≤ a) (hd : decode c.code pc = .ok (.castore, 1))
    (q : ∀ T' h', OSt p l e R s m args below meth c own Z EL vm0 T' h' k n → Wr h h' a i (.int x) → Arv Z h' a kc .char z (vs.set i (.int x)) d → OEnds p e below G T' (mkF m (pc + 1) Ls rest)) : OEnds p e below G T (mkF m pc Ls (.int x :: .int j :: .ref a :: rest)) := by
  have hSf : Safe Z EL vm0 h a := Safe.arv X.al K (by decide)
  obtain ⟨L, X, hF, hh, ⟨k0, hS0, hk0⟩, hZ, ho, hC, hO, hx⟩ := X
  obtain ⟨cl, A, e1, S, hz, H, Gf⟩ := K
  obtain ⟨T', h', X', e', W, st⟩ := RoadKit.stC X hx hZ hh A (inb_of S hj) (x := x) (g := mkF m pc Ls (.int x :: .int j :: .ref a :: rest)) rfl rfl hd
  have hn : nar .char x = x := i2c_id hx1.1 hx1.2
  have hfit : fits .char (.int x) = true := by have := fits_nar_char x; rwa [hn] at this
  rw [hn] at W
  subst hi
  exact (q T' h' ⟨_, X', Fr.snoc X' hF ha, e', ⟨k0, hS0, by rw [W.size]; exact hk0⟩, hZ, ho, hC.trans (CHr.wr W hSf hC.1), ext_wr hO W ha, hx⟩ W (Arv.set A e1 S hz H Gf hfit W _ rfl hl)).go st
theorem OSt.stB (X : OSt p l e R s m args below meth c own Z EL vm0 T h k n) {a : Addr} {kc : ClassId} {z j x : Int32} {vs : List Value} {d : Value} (K : Arv Z h a kc .byte z vs d) (hSf : Safe Z EL vm0 h a) (hj : ¬ j < 0 ∧ j < z) {i : Nat} (hi : j.toNatClampNeg = i) (hl : i < vs.length) (ha : Z.heap.size ≤ a) (hd : decode c.code pc = .ok (.bastore, 1))
    (q : ∀ T' h', OSt p l e R s m args below meth c own Z EL vm0 T' h' k n → Wr h h' a i (.int x.toInt8.toInt32) → Arv Z h' a kc .byte z (vs.set i (.int x.toInt8.toInt32)) d → OEnds p e below G T' (mkF m (pc + 1) Ls rest)) : OEnds p e below G T (mkF m pc Ls (.int x :: .int j :: .ref a :: rest)) := by
  obtain ⟨L, X, hF, hh, ⟨k0, hS0, hk0⟩, hZ, ho, hC, hO, hx⟩ := X
  obtain ⟨cl, A, e1, S, hz, H, Gf⟩ := K
  obtain ⟨T', h', X', e', W, st⟩ := RoadKit.stB X hx hZ hh A (inb_of S hj) (x := x) (g := mkF m pc Ls (.int x :: .int j :: .ref a :: rest)) rfl rfl hd
  subst hi
  exact (q T' h' ⟨_, X', Fr.snoc X' hF ha, e', ⟨k0, hS0, by rw [W.size]; exact hk0⟩, hZ, ho, hC.trans (CHr.wr W hSf hC.1), ext_wr hO W ha, hx⟩ W (Arv.set A e1 S hz H Gf (fits_nar_byte x) W _ rfl hl)).go st
/-- ldc of a String constant whose text is read -/
theorem OSt.ldcR (X : OSt p l e R s m args below meth c own Z EL vm0 T h k n) (hE : EW Z a0 EL) {index : Nat} {text : String} (w : (Cond.stringLink own index text).before a0 Z = true) (wS : ∀ a ∈ Bundle.stringAtoms, a.before a0 Z = true) (hmem : (own, index) ∈ EL)
    {vs : List Value} {z : Int32} (ht : (∀ c ∈ text.toList, c.toNat < 256) ∧ text.toList.map (fun c => Value.int (Jvm.Lit.byteI c.toNat.toUInt16)) = vs) (hz : ¬ z < 0) (hl : z.toNatClampNeg = vs.length) (hd : decode c.code pc = .ok (.ldc index, 2)) {j : Nat} (hj : 4 * text.toList.length ≤ j) (hbig : j ≤ 536870912) (hc : k + 2 ≤ R.cells) (hl' : n + (j + 4) ≤ R.slots)
    (q : ∀ vm1 T' h' a b kb, OSt p l e R s m args below meth c own Z EL vm1 T' h' (k + 2) (n + (j + 4)) → Ext h h' → CHr Z EL vm0 h vm1 h' → Exa Z h' a "java/lang/String" → Fld Z h' a "java/lang/String" "coder" "B" (.int 0) → Fld Z h' a "java/lang/String" "value" "[B" (.ref b) → Arv Z h' b kb .byte z vs (.int 0) → (∀ x, Safe Z EL vm1 h' x → x ≠ a ∧ x ≠ b) → OEnds p e below G T' (mkF m (pc + 2) Ls (.ref a :: rest))) : OEnds p e below G T (mkF m pc Ls rest) := by
  obtain ⟨L, X, hF, hh, ⟨k0, hS0, hk0⟩, hZ, ho, hC, hO, hx⟩ := X
  obtain ⟨a, T', h', k1, b, kb, X', e', E, hS1, hk1, hZ1, ho1, E1, C1, V1, K1, -, -, hC1, -, hne, st⟩ := ldcCH X hx hZ ho w wS hh hS0 hk0 hE hmem hC.1 ht hz hl (g := mkF m pc Ls rest) rfl hd hj hbig hc hl'
  exact (q T'.vm T' h' a b kb ⟨_, X', hF, e', ⟨k1, hS1, hk1⟩, hZ1, ho1, hC.trans hC1, ext_trans hO E, hx⟩ E hC1 E1 C1 V1 K1 hne).go st
/-- ldc of a String constant whose text isn't read -/
theorem OSt.ldcO (X : OSt p l e R s m args below meth c own Z EL vm0 T h k n) (hE : EW Z a0 EL) {index : Nat} {text : String} (w : (Cond.stringLink own index text).before a0 Z = true) (wS : ∀ a ∈ Bundle.stringAtoms, a.before a0 Z = true) (hd : decode c.code pc = .ok (.ldc index, 2)) {j : Nat} (hj : 4 * text.toList.length ≤ j) (hbig : j ≤ 536870912) (hc : k + 2 ≤ R.cells) (hl' : n + (j + 4) ≤ R.slots)
    (q : ∀ vm1 T' h' a, OSt p l e R s m args below meth c own Z EL vm1 T' h' (k + 2) (n + (j + 4)) → Ext h h' → CHr Z EL vm0 h vm1 h' → OEnds p e below G T' (mkF m (pc + 2) Ls (.ref a :: rest))) : OEnds p e below G T (mkF m pc Ls rest) := by
  obtain ⟨L, X, hF, hh, ⟨k0, hS0, hk0⟩, hZ, ho, hC, hO, hx⟩ := X
  obtain ⟨a, T', h', k1, X', e', E, hS1, hk1, hZ1, ho1, hC1, -, st⟩ := ldcOH X hx hZ ho w wS hh hS0 hk0 hE hC.1 (g := mkF m pc Ls rest) rfl hd hj hbig hc hl'
  exact (q T'.vm T' h' a ⟨_, X', hF, e', ⟨k1, hS1, hk1⟩, hZ1, ho1, hC.trans hC1, ext_trans hO E, hx⟩ E hC1).go st
end Arrays
section Ret
variable {p : Program} {l : Launch} {e : Env} {R : Room} {s : State} {m : MethodId} {args : Array Value} {below : List Frame} {meth : Method} {c : Code} {own : String} {Z : State} {a0 : Array Value} {EL : List (String × Nat)} {vm0 vm1 : Vm} {T T' : State} {h h' h1 : Heap} {k n k' n' : Nat} {pc : Nat} {Ls : Array Slot} {rest : List Value} {Q : Option Value → Heap → Prop}
/-- how a walk over s ends: the answer and the heap by Q; the wide frame -/
def GW (Z : State) (EL : List (String × Nat)) (s : State) (Q : Option Value → Heap → Prop) (k n : Nat) (o : Outcome) (u : State) : Prop :=
  ∃ v L, o = .returned v ∧ (Q v u.heap ∧ Fr Z.heap.size L ∧ Ext Z.heap u.heap) ∧ CHr Z EL s.vm s.heap u.vm u.heap ∧ ReturnedEndW s o u L k n
theorem rew_mono {u : State} {o : Outcome} {L : List Loc} (q : ReturnedEndW s o u L k n) (hk : k ≤ k') (hn : n ≤ n') : ReturnedEndW s o u L k' n' := ⟨q.1, q.2.1, q.2.2.1, q.2.2.2.mono hk hn⟩
theorem OSt.retV (X : OSt p l e R s m args below meth c own Z EL vm0 T h k n) (hE : EW Z a0 EL) (hlk : meth.locks = false) {w : Value} {t : FieldType} {i : Instr} (hret : meth.sig.returnType = some t) (hn : narrow t w = w)
    (hi : (i = .ireturn ∧ (t = .int ∨ t = .boolean ∨ t = .byte ∨ t = .char ∨ t = .short) ∧ ∃ z, w = .int z) ∨ (i = .lreturn ∧ t = .long ∧ ∃ z, w = .long z) ∨ (i = .dreturn ∧ t = .double ∧ ∃ z, w = .double z) ∨ (i = .freturn ∧ t = .float ∧ ∃ z, w = .float z) ∨ (i = .areturn ∧ t.isReference = true ∧ w.isRef = true))
    (hd : decode c.code pc = .ok (i, 1)) (hk : k ≤ k') (hn' : n ≤ n') (hQ : Q (some w) h) : OEnds p e below (GW Z EL s Q k' n') T (mkF m pc Ls (w :: rest)) := by
  obtain ⟨L, X, hF, hh, ⟨k0, hS0, hk0⟩, hZ, ho, hC, hO, hx⟩ := X
  have hA := CHv.at X hZ hE hC.1
  obtain ⟨fs, hr, hrun, hended, hend⟩ := X.leaveW hS0 (by rw [hh]; exact hk0) (v := some w) (fun q => by rw [hret] at q; cases q) hlk
  refine ⟨_, _, retOut X hx hret hn hi hd hr, hrun, hended, _, L, rfl, ⟨?_, hF, ?_⟩, ?_, rew_mono hend hk hn'⟩
  · show Q _ T.heap; rw [hh]; exact hQ
  · show Ext _ T.heap; rw [hh]; exact hO
  · show CHr Z EL s.vm s.heap T.vm T.heap; rw [hh]; exact hC.trans hA
theorem OSt.retInt (X : OSt p l e R s m args below meth c own Z EL vm0 T h k n) (hE : EW Z a0 EL) (hlk : meth.locks = false) {z : Int32} (hret : meth.sig.returnType = some .int) (hd : decode c.code pc = .ok (.ireturn, 1)) (hk : k ≤ k') (hn' : n ≤ n') (hQ : Q (some (.int z)) h) : OEnds p e below (GW Z EL s Q k' n') T (mkF m pc Ls (.int z :: rest)) :=
  X.retV hE hlk hret rfl (Or.inl ⟨rfl, Or.inl rfl, z, rfl⟩) hd hk hn' hQ
theorem OSt.retBool (X : OSt p l e R s m args below meth c own Z EL vm0 T h k n) (hE : EW Z a0 EL) (hlk : meth.locks = false) {z : Int32} (hz : z = 0 ∨ z = 1) (hret : meth.sig.returnType = some .boolean) (hd : decode c.code pc = .ok (.ireturn, 1)) (hk : k ≤ k') (hn' : n ≤ n') (hQ : Q (some (.int z)) h) : OEnds p e below (GW Z EL s Q k' n') T (mkF m pc Ls (.int z :: rest)) :=
  X.retV hE hlk hret (by rcases hz with rfl | rfl <;> rfl) (Or.inl ⟨rfl, Or.inr (Or.inl rfl), z, rfl⟩) hd hk hn' hQ
theorem OSt.retByte (X : OSt p l e R s m args below meth c own Z EL vm0 T h k n) (hE : EW Z a0 EL) (hlk : meth.locks = false) {z : Int32} (hz : z.toInt8.toInt32 = z) (hret : meth.sig.returnType = some .byte) (hd : decode c.code pc = .ok (.ireturn, 1)) (hk : k ≤ k') (hn' : n ≤ n') (hQ : Q (some (.int z)) h) : OEnds p e below (GW Z EL s Q k' n') T (mkF m pc Ls (.int z :: rest)) :=
  X.retV hE hlk hret (by show Value.int z.toInt8.toInt32 = _; rw [hz]) (Or.inl ⟨rfl, Or.inr (Or.inr (Or.inl rfl)), z, rfl⟩) hd hk hn' hQ
theorem OSt.retChar (X : OSt p l e R s m args below meth c own Z EL vm0 T h k n) (hE : EW Z a0 EL) (hlk : meth.locks = false) {z : Int32} (hz : ¬ z < 0 ∧ ¬ 65535 < z) (hret : meth.sig.returnType = some .char) (hd : decode c.code pc = .ok (.ireturn, 1)) (hk : k ≤ k') (hn' : n ≤ n') (hQ : Q (some (.int z)) h) : OEnds p e below (GW Z EL s Q k' n') T (mkF m pc Ls (.int z :: rest)) :=
  X.retV hE hlk hret (by show Value.int z.toUInt32.toUInt16.toUInt32.toInt32 = _; rw [i2c_id hz.1 hz.2]) (Or.inl ⟨rfl, Or.inr (Or.inr (Or.inr (Or.inl rfl))), z, rfl⟩) hd hk hn' hQ
theorem narrow_obj {t : FieldType} {w : Value} (h1 : t.isReference = true) : narrow t w = w := by cases t <;> first | rfl | cases h1
theorem OSt.retRef (X : OSt p l e R s m args below meth c own Z EL vm0 T h k n) (hE : EW Z a0 EL) (hlk : meth.locks = false) {w : Value} (hw : w.isRef = true) {t : FieldType} (ht : t.isReference = true) (hret : meth.sig.returnType = some t) (hd : decode c.code pc = .ok (.areturn, 1)) (hk : k ≤ k') (hn' : n ≤ n') (hQ : Q (some w) h) : OEnds p e below (GW Z EL s Q k' n') T (mkF m pc Ls (w :: rest)) :=
  X.retV hE hlk hret (narrow_obj ht) (Or.inr (Or.inr (Or.inr (Or.inr ⟨rfl, ht, hw⟩)))) hd hk hn' hQ
theorem OSt.ret0 (X : OSt p l e R s m args below meth c own Z EL vm0 T h k n) (hE : EW Z a0 EL) (hlk : meth.locks = false) (hret : meth.sig.returnType = none) (hd : decode c.code pc = .ok (.return_, 1)) (hk : k ≤ k') (hn' : n ≤ n') (hQ : Q none h) : OEnds p e below (GW Z EL s Q k' n') T (mkF m pc Ls []) := by
  obtain ⟨L, X, hF, hh, ⟨k0, hS0, hk0⟩, hZ, ho, hC, hO, hx⟩ := X
  have hA := CHv.at X hZ hE hC.1
  obtain ⟨fs, hr, hrun, hended, hend⟩ := X.leaveW hS0 (by rw [hh]; exact hk0) (v := none) (fun _ => rfl) hlk
  refine ⟨_, _, X.returnOut hx hret hd hr, hrun, hended, _, L, rfl, ⟨?_, hF, ?_⟩, ?_, rew_mono hend hk hn'⟩
  · show Q _ T.heap; rw [hh]; exact hQ
  · show Ext _ T.heap; rw [hh]; exact hO
  · show CHr Z EL s.vm s.heap T.vm T.heap; rw [hh]; exact hC.trans hA
end Ret
section Cons
variable {p : Program} {l : Launch} {e : Env} {R : Room} {s : State} {m : MethodId} {args : Array Value} {below : List Frame} {meth : Method} {c : Code} {own : String} {Z : State} {a0 : Array Value} {EL : List (String × Nat)} {vm0 vm1 : Vm} {T T' : State} {h h' h1 : Heap} {k n k' n' : Nat} {G : Outcome → State → Prop} {pc : Nat} {Ls : Array Slot} {rest : List Value} {Q : Option Value → Heap → Prop}
  {y : MethodName} {bytes : ByteArray} {maxL : Nat} {ret : Option FieldType} {rm : Room} {as' : Array Value} {ws : List Cond}
/-- a method's contract, of one call: the arguments as', the heap h at the call -/
def ConX (l : Launch) (Z : State) (EL : List (String × Nat)) (y : MethodName) (bytes : ByteArray) (maxL : Nat) (ret : Option FieldType) (ws : List Cond) (rm : Room) (as' : Array Value) (h : Heap) (Q : Option Value → Heap → Prop) : Prop := Ext Z.heap h →
  MetFree l y (head1 (Cond.code y bytes maxL ret :: ws) rm) (fun a U => a = as' ∧ Z.Warmed39 U.vm ∧ U.heap = h ∧ CHv Z EL U.vm h) (fun _ _ _ _ _ => True) (fun _ U o U' => ∃ v L, o = .returned v ∧ (Q v U'.heap ∧ Fr Z.heap.size L ∧ Ext Z.heap U'.heap) ∧ CHr Z EL U.vm U.heap U'.vm U'.heap ∧ ReturnedEndW U o U' L rm.cells rm.slots)
abbrev Con (l : Launch) (Z : State) (EL : List (String × Nat)) (y : MethodName) (bytes : ByteArray) (maxL : Nat) (ret : Option FieldType) (rm : Room) (as' : Array Value) (h : Heap) (Q : Option Value → Heap → Prop) : Prop := ConX l Z EL y bytes maxL ret [] rm as' h Q
theorem ConX.of (hy : plainFor y = true) (body : ∀ (p : Program) (e : Env) (s : State) (m : MethodId) (below : List Frame) (meth : Method) (c : Code) (T : State), c.code = bytes → c.maxLocals = maxL → meth.sig.returnType = ret → meth.locks = false → meth.name = y.name → OSt p l e rm s m as' below meth c y.cls Z EL s.vm T h 0 0 → OEnds p e below (GW Z EL s Q rm.cells rm.slots) T (entryFrame m as' maxL)) :
    ConX l Z EL y bytes maxL ret ws rm as' h Q := by
  intro hO
  refine MetFree.of_bodySF hy hisR ?_
  intro p e s m args below meth c s₁ Bd hml hP _
  obtain ⟨rfl, hZ, hh, hC⟩ := hP
  have e0 : s₁.heap = h := by rw [← hh, Bd.state]; rfl
  have X0 : Stand p l e rm s m args below meth c s₁ [] 0 0 := Stand.of_body Bd
  have hown : s.vm.findClass y.cls = some m.cls := findClass_of_methodNamed Bd.named
  obtain ⟨s₂, o, h1, h2, h3, v, L, rfl, h4, h5, h6⟩ := body p e s m below meth c s₁ Bd.bytes hml Bd.returns Bd.notSynchronized (name_of_methodNamed Bd.named Bd.method).1
    ⟨[], X0, Fr.nil _, e0, ⟨_, (State.WarmedH.refl s).since 0, Nat.zero_le _⟩, hZ, hown, by rw [hh]; exact CHr.refl hC, hO, Bd.exec⟩
  exact ⟨s₂, _, h1, h2, h3, v, L, rfl, h4, h5, h6⟩
/-- the shape of a payer's premise and answer -/
abbrev PreB (R : Room) (as' : Array Value) (h : Heap) (kc ns : Nat) (A : Pt) (a : Array Value) : Prop := a = as' ∧ A.U.heap = h ∧ A.cells + kc ≤ R.cells ∧ A.slots + ns ≤ R.slots
abbrev PostB (Q : Option Value → Heap → List Loc → Prop) (kc ns : Nat) (A : Pt) (_ : Array Value) (v : Option Value) (B : Pt) : Prop := ∃ L, Q v B.U.heap L ∧ B.locs = A.locs ++ L ∧ B.cells = A.cells + kc ∧ B.slots = A.slots + ns
abbrev PostS (Q : Option Value → Heap → Prop) (Z : State) (EL : List (String × Nat)) (vm0 : Vm) (h : Heap) (kc ns : Nat) (A : Pt) (_ : Array Value) (v : Option Value) (B : Pt) : Prop :=
  ∃ L, (Q v B.U.heap ∧ Fr Z.heap.size L ∧ Ext Z.heap B.U.heap) ∧ B.locs = A.locs ++ L ∧ B.cells = A.cells + kc ∧ B.slots = A.slots + ns ∧ CHr Z EL vm0 h B.U.vm B.U.heap
/-- what a call by contract asks of the caller -/
theorem Con.back {W len : Nat} (K : Con l Z EL y bytes maxL ret rm as' h Q) (hO : Ext Z.heap h) (hZ : Z.Warmed39 vm0) (hE : EW Z a0 EL) (hC : CHv Z EL vm0 h) (wc : (Cond.code y bytes maxL ret).before a0 Z = true) (wz : (Cond.initialized y.cls).before a0 Z = true) (hf : rm.frames + 1 ≤ R.frames) (hl : W + (maxL + 11) + rm.locals ≤ R.locals) :
    BackS l R p e below (s.setVm vm0) args y len W (PreB R as' h rm.cells rm.slots) (PostS Q Z EL vm0 h rm.cells rm.slots) :=
  backOfSH (Q := fun v h' L => Q v h' ∧ Fr Z.heap.size L ∧ Ext Z.heap h') (K hO) hZ wc wz hf hl hE hC
/-- OSt behind a payer that may have interned -/
theorem OSt.behindS (X : OSt p l e R s m args below meth c own Z EL vm0 T h k n) {B : Pt} {v : Option Value} {L0 L : List Loc} (hF0 : Fr Z.heap.size L0) (X' : Stand p l e R (s.setVm B.U.vm) m args below meth c B.U B.locs B.cells B.slots) (hS : (s.setVm vm0).Since B.U.vm B.U.heap.size) (hg : T.heap.size ≤ B.U.heap.size)
    (hF : Fr Z.heap.size L) (hO : Ext Z.heap B.U.heap) (e1 : B.locs = L0 ++ L) (e2 : B.cells = k') (e3 : B.slots = n') (hC' : CHr Z EL vm0 h B.U.vm B.U.heap) : OSt p l e R s m args below meth c own Z EL B.U.vm B.U B.U.heap k' n' := by
  obtain ⟨_, X, -, hh, ⟨k0, hS0, hk0⟩, hZ, ho, hC, -, hx⟩ := X
  obtain ⟨r1, r2, r3, r4⟩ := rebS (own := own) hS0 hk0 X' hS (by rw [← hh]; exact hg) hZ ho
  subst e2 e3
  rw [e1] at r1
  exact ⟨_, r1, hF0.app hF, rfl, ⟨_, r2, Nat.le_refl _⟩, r3, r4, hC.trans hC', hO, hx⟩
theorem OSt.callS (X : OSt p l e R s m args below meth c own Z EL vm0 T h k n) (hE : EW Z a0 EL) (K : Con l Z EL y bytes maxL ret rm as' h Q) {index : Nat} (w1 : (Cond.methodLink own index y).before a0 Z = true) (w2 : (Cond.static y).before a0 Z = true) (wz : (Cond.initialized y.cls).before a0 Z = true) (wc : (Cond.code y bytes maxL ret).before a0 Z = true)
    (hy : y.cls ≠ "java/lang/invoke/MethodHandle" ∧ y.cls ≠ "java/lang/invoke/VarHandle") {W : Nat} (hf : rm.frames + 1 ≤ R.frames) (hl : W + (maxL + 11) + rm.locals ≤ R.locals) {argsL stack : List Value} (ha : argsL.toArray = as') (hlen : ∀ sig, parseMethodDescriptor y.desc = some sig → argsL.length = sig.parameters.length) (hst : stack = argsL.reverse ++ rest) (hsize : Ls.size = c.maxLocals) (hW : (rest.map fun v => v.category).sum ≤ W)
    (hd : decode c.code pc = .ok (.invokestatic index, 3)) (hk : k + rm.cells ≤ R.cells) (hn : n + rm.slots ≤ R.slots)
    (q : ∀ v vm1 T' h', OSt p l e R s m args below meth c own Z EL vm1 T' h' (k + rm.cells) (n + rm.slots) → CHr Z EL vm0 h vm1 h' → Q v h' → OEnds p e below G T' (mkF m (pc + 3) Ls (v.toList ++ rest))) : OEnds p e below G T (mkF m pc Ls stack) := by
  have X1 := X
  obtain ⟨L, X, hF, hh, ⟨k0, hS0, hk0⟩, hZ, ho, hC, hO, hx⟩ := X
  obtain ⟨v, vmx, B, -, X', hS, hgr, ⟨L', ⟨hq, hF', hO'⟩, e1, e2, e3, hC'⟩, st⟩ := callSS X hx ho (mvT (s := s.setVm vm0) hZ w1) (mvT (s := s.setVm vm0) hZ w2) (mvT (s := s.setVm vm0) hZ wz) (mvT (s := s.setVm vm0) hZ wc) hy (K.back hO hZ hE hC.1 wc wz hf hl) (g := mkF m pc Ls stack) rfl hsize (argsL := argsL) (rest := rest) hlen hst (by show 2 * 0 + _ ≤ _; rw [Nat.mul_zero, Nat.zero_add]; exact hW) hd (fun _ _ => ⟨ha, hh, hk, hn⟩)
  exact (q v _ _ _ (X1.behindS (v := v) hF X' hS hgr hF' hO' e1 e2 e3 hC') hC' hq).tr st
theorem OSt.callI (X : OSt p l e R s m args below meth c own Z EL vm0 T h k n) (hE : EW Z a0 EL) (K : Con l Z EL y bytes maxL none rm as' h Q) {index : Nat} (w1 : (Cond.methodLink own index y).before a0 Z = true) (w2 : (Cond.instanceMethod y).before a0 Z = true) (wz : (Cond.initialized y.cls).before a0 Z = true) (wc : (Cond.code y bytes maxL none).before a0 Z = true)
    (hi : y.name = "<init>") (hy : y.cls ≠ "java/lang/invoke/MethodHandle" ∧ y.cls ≠ "java/lang/invoke/VarHandle") {W : Nat} (hf : rm.frames + 1 ≤ R.frames) (hl : W + (maxL + 11) + rm.locals ≤ R.locals) {a : Addr} {argsL stack : List Value} (ha : (.ref a :: argsL).toArray = as') (hlen : ∀ sig, parseMethodDescriptor y.desc = some sig → argsL.length = sig.parameters.length) (hst : stack = argsL.reverse ++ .ref a :: rest) (hsize : Ls.size = c.maxLocals) (hW : (rest.map fun v => v.category).sum ≤ W)
    (hd : decode c.code pc = .ok (.invokespecial index, 3)) (hk : k + rm.cells ≤ R.cells) (hn : n + rm.slots ≤ R.slots)
    (q : ∀ v vm1 T' h', OSt p l e R s m args below meth c own Z EL vm1 T' h' (k + rm.cells) (n + rm.slots) → CHr Z EL vm0 h vm1 h' → Q v h' → OEnds p e below G T' (mkF m (pc + 3) Ls (v.toList ++ rest))) : OEnds p e below G T (mkF m pc Ls stack) := by
  have X1 := X
  obtain ⟨L, X, hF, hh, ⟨k0, hS0, hk0⟩, hZ, ho, hC, hO, hx⟩ := X
  obtain ⟨v, vmx, B, -, X', hS, hgr, ⟨L', ⟨hq, hF', hO'⟩, e1, e2, e3, hC'⟩, st⟩ := X.specialBackS hx hi ho (mvT (s := s.setVm vm0) hZ w1) (mvT (s := s.setVm vm0) hZ w2) (mvT (s := s.setVm vm0) hZ wc) hy (K.back hO hZ hE hC.1 wc wz hf hl) (g := mkF m pc Ls stack) rfl hsize (Steps.refl _) (a := a) (argsL := argsL) (rest := rest) hlen hst (by show 2 * 0 + _ ≤ _; rw [Nat.mul_zero, Nat.zero_add]; exact hW) hd (fun _ _ => ⟨ha, hh, hk, hn⟩)
  exact (q v _ _ _ (X1.behindS (v := v) hF X' hS hgr hF' hO' e1 e2 e3 hC') hC' hq).tr st
theorem OSt.callV (X : OSt p l e R s m args below meth c own Z EL vm0 T h k n) (hE : EW Z a0 EL) {z : MethodName} (K : Con l Z EL z bytes maxL ret rm as' h Q) {C : String} {index : Nat} (w1 : (Cond.methodLink own index y).before a0 Z = true) (w2 : (Cond.declares y).before a0 Z = true) (w3 : (Cond.selects C y z).before a0 Z = true) (w4 : (Cond.instanceMethod z).before a0 Z = true) (wz : (Cond.initialized z.cls).before a0 Z = true) (wc : (Cond.code z bytes maxL ret).before a0 Z = true) (nf : NotFace (s.setVm vm0) y)
    (hy : y.cls ≠ "java/lang/invoke/MethodHandle" ∧ y.cls ≠ "java/lang/invoke/VarHandle") {W : Nat} (hf : rm.frames + 1 ≤ R.frames) (hl : W + (maxL + 11) + rm.locals ≤ R.locals) {a : Addr} (E : Exa Z h a C) {argsL stack : List Value} (ha : (.ref a :: argsL).toArray = as') (hlen : ∀ sig, parseMethodDescriptor y.desc = some sig → argsL.length = sig.parameters.length) (hst : stack = argsL.reverse ++ .ref a :: rest) (hsize : Ls.size = c.maxLocals) (hW : (rest.map fun v => v.category).sum ≤ W)
    (hd : decode c.code pc = .ok (.invokevirtual index, 3)) (hk : k + rm.cells ≤ R.cells) (hn : n + rm.slots ≤ R.slots)
    (q : ∀ v vm1 T' h', OSt p l e R s m args below meth c own Z EL vm1 T' h' (k + rm.cells) (n + rm.slots) → CHr Z EL vm0 h vm1 h' → Q v h' → OEnds p e below G T' (mkF m (pc + 3) Ls (v.toList ++ rest))) : OEnds p e below G T (mkF m pc Ls stack) := by
  have X1 := X
  obtain ⟨L, X, hF, hh, ⟨k0, hS0, hk0⟩, hZ, ho, hC, hO, hx⟩ := X
  obtain ⟨cB, kB, q1, -, q3⟩ := isOf (s := s.setVm vm0) hZ hh E
  obtain ⟨v, vmx, B, -, X', hS, hgr, ⟨L', ⟨hq, hF', hO'⟩, e1, e2, e3, hC'⟩, st⟩ := X.virtualBackS hx ho (mvT (s := s.setVm vm0) hZ w1) (mvT (s := s.setVm vm0) hZ w2) nf (mvT (s := s.setVm vm0) hZ w3) (mvT (s := s.setVm vm0) hZ w4) hy (K.back hO hZ hE hC.1 wc wz hf hl) q1 q3 (g := mkF m pc Ls stack) rfl hsize (Steps.refl _) (argsL := argsL) (rest := rest) hlen hst (by show 2 * 0 + _ ≤ _; rw [Nat.mul_zero, Nat.zero_add]; exact hW) hd (fun _ _ => ⟨ha, hh, hk, hn⟩)
  exact (q v _ _ _ (X1.behindS (v := v) hF X' hS hgr hF' hO' e1 e2 e3 hC') hC' hq).tr st
end Cons
end Jvm.Own
namespace Jvm.Own
open Sem ClassFile Op Lib Bundle Jvm.Stand Jvm.Free Jvm.LawKit Jvm.RoadKit
section Pay
variable {p : Program} {l : Launch} {e : Env} {R : Room} {s : State} {m : MethodId} {args : Array Value} {below : List Frame} {meth : Method} {c : Code} {own : String} {Z : State} {a0 : Array Value} {EL : List (String × Nat)} {vm0 vm1 : Vm} {T T' : State} {h h' h1 : Heap} {k n k' n' : Nat} {G : Outcome → State → Prop} {pc : Nat} {Ls : Array Slot} {rest : List Value} {Q : Option Value → Heap → Prop} {Q3 : Option Value → Heap → List Loc → Prop} {kc ns : Nat}
  {y : MethodName} {bytes : ByteArray} {maxL : Nat} {ret : Option FieldType} {rm : Room} {as' : Array Value} {ws : List Cond}
/-- what the walk must know of a payer's answer -/
abbrev OkB (Z : State) (EL : List (String × Nat)) (vm0 : Vm) (h : Heap) (Q3 : Option Value → Heap → List Loc → Prop) : Prop := ∀ v h' L, Q3 v h' L → Fr Z.heap.size L ∧ Ext Z.heap h' ∧ CHr Z EL vm0 h vm0 h'
theorem OSt.behind (X : OSt p l e R s m args below meth c own Z EL vm0 T h k n) {B : Pt} {L0 L : List Loc} (hF0 : Fr Z.heap.size L0) (X' : Stand p l e R (s.setVm vm0) m args below meth c B.U B.locs B.cells B.slots)
    (hF : Fr Z.heap.size L) (hO : Ext Z.heap B.U.heap) (e1 : B.locs = L0 ++ L) (e2 : B.cells = k') (e3 : B.slots = n') (hC' : CHr Z EL vm0 h vm0 B.U.heap) : OSt p l e R s m args below meth c own Z EL vm0 B.U B.U.heap k' n' := by
  obtain ⟨_, X, -, hh, ⟨k0, hS0, hk0⟩, hZ, ho, hC, -, hx⟩ := X
  subst e2 e3
  rw [e1] at X'
  exact ⟨_, X', hF0.app hF, rfl, ⟨_, hS0, Nat.le_trans hk0 hC'.2.1⟩, hZ, ho, hC.trans hC', hO, hx⟩
theorem OSt.payS (X : OSt p l e R s m args below meth c own Z EL vm0 T h k n) {W : Nat} (K : Back l R p e below (s.setVm vm0) args y 3 W (PreB R as' h kc ns) (PostB Q3 kc ns)) (hK : OkB Z EL vm0 h Q3) {index : Nat} (w1 : (Cond.methodLink own index y).before a0 Z = true) (w2 : (Cond.static y).before a0 Z = true) (wz : (Cond.initialized y.cls).before a0 Z = true) (wc : (Cond.code y bytes maxL ret).before a0 Z = true)
    (hy : y.cls ≠ "java/lang/invoke/MethodHandle" ∧ y.cls ≠ "java/lang/invoke/VarHandle") {argsL stack : List Value} (ha : argsL.toArray = as') (hlen : ∀ sig, parseMethodDescriptor y.desc = some sig → argsL.length = sig.parameters.length) (hst : stack = argsL.reverse ++ rest) (hsize : Ls.size = c.maxLocals) (hW : (rest.map fun v => v.category).sum ≤ W)
    (hd : decode c.code pc = .ok (.invokestatic index, 3)) (hk : k + kc ≤ R.cells) (hn : n + ns ≤ R.slots)
    (q : ∀ v T' h' L, OSt p l e R s m args below meth c own Z EL vm0 T' h' (k + kc) (n + ns) → Q3 v h' L → OEnds p e below G T' (mkF m (pc + 3) Ls (v.toList ++ rest))) : OEnds p e below G T (mkF m pc Ls stack) := by
  have X1 := X
  obtain ⟨L, X, hF, hh, ⟨k0, hS0, hk0⟩, hZ, ho, hC, hO, hx⟩ := X
  obtain ⟨v, vmx, B, -, X', ⟨L', hq, e1, e2, e3⟩, st⟩ := Jvm.LawKit.callS X hx ho (mvT (s := s.setVm vm0) hZ w1) (mvT (s := s.setVm vm0) hZ w2) (mvT (s := s.setVm vm0) hZ wz) (mvT (s := s.setVm vm0) hZ wc) hy K (g := mkF m pc Ls stack) rfl hsize (argsL := argsL) (rest := rest) hlen hst (by show 2 * 0 + _ ≤ _; rw [Nat.mul_zero, Nat.zero_add]; exact hW) hd (fun _ _ => ⟨ha, hh, hk, hn⟩)
  obtain ⟨r1, r2, r3⟩ := hK _ _ _ hq
  exact (q v _ _ _ (X1.behind hF X' r1 r2 e1 e2 e3 r3) hq).go st
theorem OSt.payI (X : OSt p l e R s m args below meth c own Z EL vm0 T h k n) {W : Nat} (K : Back l R p e below (s.setVm vm0) args y 3 W (PreB R as' h kc ns) (PostB Q3 kc ns)) (hK : OkB Z EL vm0 h Q3) {index : Nat} (w1 : (Cond.methodLink own index y).before a0 Z = true) (w2 : (Cond.instanceMethod y).before a0 Z = true) (wc : (Cond.code y bytes maxL none).before a0 Z = true)
    (hi : y.name = "<init>") (hy : y.cls ≠ "java/lang/invoke/MethodHandle" ∧ y.cls ≠ "java/lang/invoke/VarHandle") {a : Addr} {argsL stack : List Value} (ha : (.ref a :: argsL).toArray = as') (hlen : ∀ sig, parseMethodDescriptor y.desc = some sig → argsL.length = sig.parameters.length) (hst : stack = argsL.reverse ++ .ref a :: rest) (hsize : Ls.size = c.maxLocals) (hW : (rest.map fun v => v.category).sum ≤ W)
    (hd : decode c.code pc = .ok (.invokespecial index, 3)) (hk : k + kc ≤ R.cells) (hn : n + ns ≤ R.slots)
    (q : ∀ v T' h' L, OSt p l e R s m args below meth c own Z EL vm0 T' h' (k + kc) (n + ns) → Q3 v h' L → OEnds p e below G T' (mkF m (pc + 3) Ls (v.toList ++ rest))) : OEnds p e below G T (mkF m pc Ls stack) := by
  have X1 := X
  obtain ⟨L, X, hF, hh, ⟨k0, hS0, hk0⟩, hZ, ho, hC, hO, hx⟩ := X
  obtain ⟨v, vmx, B, -, X', ⟨L', hq, e1, e2, e3⟩, st⟩ := X.specialBack hx hi ho (mvT (s := s.setVm vm0) hZ w1) (mvT (s := s.setVm vm0) hZ w2) (mvT (s := s.setVm vm0) hZ wc) hy K (g := mkF m pc Ls stack) rfl hsize (Steps.refl _) (a := a) (argsL := argsL) (rest := rest) hlen hst (by show 2 * 0 + _ ≤ _; rw [Nat.mul_zero, Nat.zero_add]; exact hW) hd (fun _ _ => ⟨ha, hh, hk, hn⟩)
  obtain ⟨r1, r2, r3⟩ := hK _ _ _ hq
  exact (q v _ _ _ (X1.behind hF X' r1 r2 e1 e2 e3 r3) hq).tr st
theorem OSt.payV (X : OSt p l e R s m args below meth c own Z EL vm0 T h k n) {z : MethodName} {W : Nat} (K : Back l R p e below (s.setVm vm0) args z 3 W (PreB R as' h kc ns) (PostB Q3 kc ns)) (hK : OkB Z EL vm0 h Q3) {C : String} {index : Nat} (w1 : (Cond.methodLink own index y).before a0 Z = true) (w2 : (Cond.declares y).before a0 Z = true) (w3 : (Cond.selects C y z).before a0 Z = true) (w4 : (Cond.instanceMethod z).before a0 Z = true) (nf : NotFace (s.setVm vm0) y)
    (hy : y.cls ≠ "java/lang/invoke/MethodHandle" ∧ y.cls ≠ "java/lang/invoke/VarHandle") {a : Addr} (E : Exa Z h a C) {argsL stack : List Value} (ha : (.ref a :: argsL).toArray = as') (hlen : ∀ sig, parseMethodDescriptor y.desc = some sig → argsL.length = sig.parameters.length) (hst : stack = argsL.reverse ++ .ref a :: rest) (hsize : Ls.size = c.maxLocals) (hW : (rest.map fun v => v.category).sum ≤ W)
    (hd : decode c.code pc = .ok (.invokevirtual index, 3)) (hk : k + kc ≤ R.cells) (hn : n + ns ≤ R.slots)
    (q : ∀ v T' h' L, OSt p l e R s m args below meth c own Z EL vm0 T' h' (k + kc) (n + ns) → Q3 v h' L → OEnds p e below G T' (mkF m (pc + 3) Ls (v.toList ++ rest))) : OEnds p e below G T (mkF m pc Ls stack) := by
  have X1 := X
  obtain ⟨L, X, hF, hh, ⟨k0, hS0, hk0⟩, hZ, ho, hC, hO, hx⟩ := X
  obtain ⟨cB, kB, q1, -, q3⟩ := isOf (s := s.setVm vm0) hZ hh E
  obtain ⟨v, vmx, B, -, X', ⟨L', hq, e1, e2, e3⟩, st⟩ := X.virtualBack hx ho (mvT (s := s.setVm vm0) hZ w1) (mvT (s := s.setVm vm0) hZ w2) nf (mvT (s := s.setVm vm0) hZ w3) (mvT (s := s.setVm vm0) hZ w4) hy K q1 q3 (g := mkF m pc Ls stack) rfl hsize (Steps.refl _) (argsL := argsL) (rest := rest) hlen hst (by show 2 * 0 + _ ≤ _; rw [Nat.mul_zero, Nat.zero_add]; exact hW) hd (fun _ _ => ⟨ha, hh, hk, hn⟩)
  obtain ⟨r1, r2, r3⟩ := hK _ _ _ hq
  exact (q v _ _ _ (X1.behind hF X' r1 r2 e1 e2 e3 r3) hq).tr st
theorem OSt.nf (X : OSt p l e R s m args below meth c own Z EL vm0 T h k n) {C : String} (w : (Cond.selects C y y).before a0 Z = true) : NotFace (s.setVm vm0) y := notFace_of_selects (args := #[]) (mvT (s := s.setVm vm0) X.hZ w)
/-- a payer that leaves the heap as it was -/
theorem okPure {Q2 : Option Value → Prop} (X : OSt p l e R s m args below meth c own Z EL vm0 T h k n) : OkB Z EL vm0 h (fun v h' L => Q2 v ∧ L = [] ∧ h' = h) := fun v h' L ⟨_, e1, e2⟩ => by
  subst e1 e2; exact ⟨Fr.nil _, X.old, CHr.refl X.chv⟩
theorem chr_nil {vm : Vm} (q : h.size ≤ h'.size) : CHr Z [] vm h vm h' := ⟨(fun _ hp => (nomatch hp)), q, fun _ B => (by obtain ⟨_, hp, _⟩ := B; cases hp)⟩
theorem safe_nil {vm : Vm} {x : Addr} : Safe Z [] vm h x := fun B => by obtain ⟨_, hp, _⟩ := B; cases hp
end Pay
section Narrow
variable {p : Program} {l : Launch} {e : Env} {R : Room} {s : State} {m : MethodId} {args : Array Value} {below : List Frame} {meth : Method} {c : Code} {own : String} {Z : State} {a0 : Array Value} {vm0 vm1 : Vm} {T T' : State} {h h' h1 : Heap} {k n k' n' : Nat} {G : Outcome → State → Prop} {pc : Nat} {Ls : Array Slot} {rest : List Value} {Q : Option Value → Heap → Prop}
  {y : MethodName} {bytes : ByteArray} {maxL : Nat} {ret : Option FieldType} {rm : Room} {as' : Array Value} {ws : List Cond}
/-- how a walk over s ends, under the narrow frame -/
def GN (Z : State) (s : State) (Q : Option Value → Heap → Prop) (k n : Nat) (o : Outcome) (u : State) : Prop :=
  ∃ v L, o = .returned v ∧ (Q v u.heap ∧ Fr Z.heap.size L ∧ Ext Z.heap u.heap) ∧ FrameEnd s o u L k n
theorem OSt.retVN (X : OSt p l e R s m args below meth c own Z [] s.vm T h k n) (hlk : meth.locks = false) {w : Value} {t : FieldType} {i : Instr} (hret : meth.sig.returnType = some t) (hn : narrow t w = w)
    (hi : (i = .ireturn ∧ (t = .int ∨ t = .boolean ∨ t = .byte ∨ t = .char ∨ t = .short) ∧ ∃ z, w = .int z) ∨ (i = .lreturn ∧ t = .long ∧ ∃ z, w = .long z) ∨ (i = .dreturn ∧ t = .double ∧ ∃ z, w = .double z) ∨ (i = .freturn ∧ t = .float ∧ ∃ z, w = .float z) ∨ (i = .areturn ∧ t.isReference = true ∧ w.isRef = true))
    (hd : decode c.code pc = .ok (i, 1)) (hk : k ≤ k') (hn' : n ≤ n') (hQ : Q (some w) h) : OEnds p e below (GN Z s Q k' n') T (mkF m pc Ls (w :: rest)) := by
  obtain ⟨L, X, hF, hh, ⟨k0, hS0, hk0⟩, hZ, ho, hC, hO, hx⟩ := X
  obtain ⟨fs, hr, hrun, hended, hW, hsame⟩ := Stand.leave (s := s) X (v := some w) (fun q => by rw [hret] at q; cases q) hlk
  refine ⟨_, _, retOut X hx hret hn hi hd hr, hrun, hended, _, L, rfl, ⟨?_, hF, ?_⟩, ⟨_, rfl⟩, hW, hsame.mono hk hn'⟩
  · show Q _ T.heap; rw [hh]; exact hQ
  · show Ext _ T.heap; rw [hh]; exact hO
theorem OSt.retIntN (X : OSt p l e R s m args below meth c own Z [] s.vm T h k n) (hlk : meth.locks = false) {z : Int32} (hret : meth.sig.returnType = some .int) (hd : decode c.code pc = .ok (.ireturn, 1)) (hk : k ≤ k') (hn' : n ≤ n') (hQ : Q (some (.int z)) h) : OEnds p e below (GN Z s Q k' n') T (mkF m pc Ls (.int z :: rest)) :=
  X.retVN hlk hret rfl (Or.inl ⟨rfl, Or.inl rfl, z, rfl⟩) hd hk hn' hQ
theorem OSt.retBoolN (X : OSt p l e R s m args below meth c own Z [] s.vm T h k n) (hlk : meth.locks = false) {z : Int32} (hz : z = 0 ∨ z = 1) (hret : meth.sig.returnType = some .boolean) (hd : decode c.code pc = .ok (.ireturn, 1)) (hk : k ≤ k') (hn' : n ≤ n') (hQ : Q (some (.int z)) h) : OEnds p e below (GN Z s Q k' n') T (mkF m pc Ls (.int z :: rest)) :=
  X.retVN hlk hret (by rcases hz with rfl | rfl <;> rfl) (Or.inl ⟨rfl, Or.inr (Or.inl rfl), z, rfl⟩) hd hk hn' hQ
theorem OSt.retRefN (X : OSt p l e R s m args below meth c own Z [] s.vm T h k n) (hlk : meth.locks = false) {w : Value} (hw : w.isRef = true) {t : FieldType} (ht : t.isReference = true) (hret : meth.sig.returnType = some t) (hd : decode c.code pc = .ok (.areturn, 1)) (hk : k ≤ k') (hn' : n ≤ n') (hQ : Q (some w) h) : OEnds p e below (GN Z s Q k' n') T (mkF m pc Ls (w :: rest)) :=
  X.retVN hlk hret (narrow_obj ht) (Or.inr (Or.inr (Or.inr (Or.inr ⟨rfl, ht, hw⟩)))) hd hk hn' hQ
theorem OSt.ret0N (X : OSt p l e R s m args below meth c own Z [] s.vm T h k n) (hlk : meth.locks = false) (hret : meth.sig.returnType = none) (hd : decode c.code pc = .ok (.return_, 1)) (hk : k ≤ k') (hn' : n ≤ n') (hQ : Q none h) : OEnds p e below (GN Z s Q k' n') T (mkF m pc Ls []) := by
  obtain ⟨L, X, hF, hh, ⟨k0, hS0, hk0⟩, hZ, ho, hC, hO, hx⟩ := X
  obtain ⟨fs, hr, hrun, hended, hW, hsame⟩ := Stand.leave (s := s) X (v := none) (fun _ => rfl) hlk
  refine ⟨_, _, X.returnOut hx hret hd hr, hrun, hended, _, L, rfl, ⟨?_, hF, ?_⟩, ⟨_, rfl⟩, hW, hsame.mono hk hn'⟩
  · show Q _ T.heap; rw [hh]; exact hQ
  · show Ext _ T.heap; rw [hh]; exact hO
def ConN (l : Launch) (Z : State) (y : MethodName) (bytes : ByteArray) (maxL : Nat) (ret : Option FieldType) (ws : List Cond) (rm : Room) (as' : Array Value) (h : Heap) (Q : Option Value → Heap → Prop) : Prop := Ext Z.heap h →
  MetFree l y (head1 (Cond.code y bytes maxL ret :: ws) rm) (fun a U => a = as' ∧ Z.Warmed39 U.vm ∧ U.heap = h) (fun _ _ _ _ _ => True) (fun _ U o U' => ∃ v L, o = .returned v ∧ (Q v U'.heap ∧ Fr Z.heap.size L ∧ Ext Z.heap U'.heap) ∧ FrameEnd U o U' L rm.cells rm.slots)
theorem ConN.of (hy : plainFor y = true) (body : ∀ (p : Program) (e : Env) (s : State) (m : MethodId) (below : List Frame) (meth : Method) (c : Code) (T : State), c.code = bytes → c.maxLocals = maxL → meth.sig.returnType = ret → meth.locks = false → meth.name = y.name → OSt p l e rm s m as' below meth c y.cls Z [] s.vm T h 0 0 → OEnds p e below (GN Z s Q rm.cells rm.slots) T (entryFrame m as' maxL)) :
    ConN l Z y bytes maxL ret ws rm as' h Q := by
  intro hO
  refine MetFree.of_bodySF hy hisR ?_
  intro p e s m args below meth c s₁ Bd hml hP _
  obtain ⟨rfl, hZ, hh⟩ := hP
  have e0 : s₁.heap = h := by rw [← hh, Bd.state]; rfl
  have X0 : Stand p l e rm s m args below meth c s₁ [] 0 0 := Stand.of_body Bd
  have hown : s.vm.findClass y.cls = some m.cls := findClass_of_methodNamed Bd.named
  obtain ⟨s₂, o, h1, h2, h3, v, L, rfl, h4, h5⟩ := body p e s m below meth c s₁ Bd.bytes hml Bd.returns Bd.notSynchronized (name_of_methodNamed Bd.named Bd.method).1
    ⟨[], X0, Fr.nil _, e0, ⟨_, (State.WarmedH.refl s).since 0, Nat.zero_le _⟩, hZ, hown, by rw [hh]; exact chr_nil (Nat.le_refl _), hO, Bd.exec⟩
  exact ⟨s₂, _, h1, h2, h3, v, L, rfl, h4, h5⟩
theorem ConN.back {W len : Nat} (K : ConN l Z y bytes maxL ret [] rm as' h Q) (hO : Ext Z.heap h) (hZ : Z.Warmed39 vm0) (wc : (Cond.code y bytes maxL ret).before a0 Z = true) (wz : (Cond.initialized y.cls).before a0 Z = true) (hf : rm.frames + 1 ≤ R.frames) (hl : W + (maxL + 11) + rm.locals ≤ R.locals) :
    Back l R p e below (s.setVm vm0) args y len W (PreB R as' h rm.cells rm.slots) (PostB (fun v h' L => Q v h' ∧ Fr Z.heap.size L ∧ Ext Z.heap h') rm.cells rm.slots) :=
  backOf (Q := fun v h' L => Q v h' ∧ Fr Z.heap.size L ∧ Ext Z.heap h') (K hO) hZ wc wz hf hl
theorem okN (hq : ∀ v h', Q v h' → h.size ≤ h'.size) : OkB Z [] vm0 h (fun v h' L => Q v h' ∧ Fr Z.heap.size L ∧ Ext Z.heap h') := fun v h' L r => ⟨r.2.1, r.2.2, chr_nil (hq v h' r.1)⟩
end Narrow
end Jvm.Own
namespace Jvm.Own
open Sem ClassFile Op Lib Bundle Jvm.Stand Jvm.Free Jvm.LawKit Jvm.RoadKit
section More
variable {p : Program} {l : Launch} {e : Env} {R : Room} {s : State} {m : MethodId} {args : Array Value} {below : List Frame} {meth : Method} {c : Code} {own : String} {Z : State} {a0 : Array Value} {EL : List (String × Nat)} {vm0 : Vm} {T : State} {h : Heap} {k n : Nat} {G : Outcome → State → Prop} {pc : Nat} {Ls : Array Slot} {rest : List Value}
theorem OSt.instNull (X : OSt p l e R s m args below meth c own Z EL vm0 T h k n) {index : Nat} (hd : decode c.code pc = .ok (.instanceof index, 3)) (q : OEnds p e below G T (mkF m (pc + 3) Ls (.int 0 :: rest))) : OEnds p e below G T (mkF m pc Ls (.null :: rest)) := by
  obtain ⟨L, X, hF, hh, hS, hZ, ho, hC, hO, hx⟩ := X
  exact q.go fun t => X.instanceofNull hx (g := mkF m pc Ls (.null :: rest)) rfl rfl hd t
theorem nsRoot {O K : String} {j : Nat} (wr : (Cond.noSuperclass O).before a0 Z = true) (wi : (Cond.instantiable K j).before a0 Z = true) (hn : O ≠ K) : NS Z O K := by
  obtain ⟨t, k', g0, -⟩ := Cond.instantiable_spec wi
  obtain ⟨cO, kO, o1, o2, o3, -, -⟩ := Cond.noSuperclass_spec wr
  have ne := ids_ne o1 g0 hn
  refine ⟨cO, t, o1, g0, fun fuel => ?_⟩
  cases fuel with
  | zero => rfl
  | succ f => simp [Vm.isSubclassAux, ne, o2, o3]
/-- an object of the class C isn't one of the class K, which can be made -/
theorem nsNo {C S K : String} {j : Nat} (w : (Cond.superclass C S).before a0 Z = true) (wi : (Cond.instantiable K j).before a0 Z = true) (n : NS Z C K) (hn : C ≠ K) : ∃ c t, Z.vm.findClass C = some c ∧ Z.vm.findClass K = some t ∧ Z.vm.assignable c t = false := by
  obtain ⟨c, t, h0, g0, n3⟩ := n
  obtain ⟨t', k', g0', g2, g5, g7, -, -⟩ := Cond.instantiable_spec wi
  cases g0.symm.trans g0'
  obtain ⟨p, k, kp, h1, h2, h3, h4, h5, -, h7⟩ := Cond.superclass_spec h0 w
  have ne := ids_ne h0 g0 hn
  have g8 : k'.isInterface = false := (Bool.or_eq_false_iff.mp g7).1
  refine ⟨c, t, h0, g0, ?_⟩
  show Z.vm.assignableAux (255 + 1) c t = false
  simp [Vm.assignableAux, ne, h2, g2, h5, g5, g8, Vm.isSubclass, n3]
end More
end Jvm.Own
namespace Jvm.Own
open Sem ClassFile Op Lib Bundle Jvm.Stand Jvm.Free Jvm.LawKit Jvm.RoadKit
section Small
variable {Z : State} {h h' : Heap} {EL : List (String × Nat)} {vm : Vm}
theorem own_irem {tb : Tables} [Ours tb] {e : Env} {below : List Frame} {T target : State} {m : MethodId} {c : Code} {g : JFrame} (h : At T m c below) (hx : tb.exec = Jvm.exec) (hg : g.method = m) {x y : Int32} {rest : List Value} (hd : decode c.code g.pc = .ok (.irem, 1)) (hs : g.stack = .int y :: .int x :: rest) (hy : y ≠ 0)
    (hr : Steps tb e below (T.setTop { g with pc := g.pc + 1, stack := .int (x % y) :: rest }) target) : Steps tb e below (T.setTop g) target := by
  have q : x - x / y * y = x % y := irem_eq_mod x y
  exact XS.irem h hx hg hd hs hy (by rw [q]; exact hr)
theorem own_lrem {tb : Tables} [Ours tb] {e : Env} {below : List Frame} {T target : State} {m : MethodId} {c : Code} {g : JFrame} (h : At T m c below) (hx : tb.exec = Jvm.exec) (hg : g.method = m) {x y : Int64} {rest : List Value} (hd : decode c.code g.pc = .ok (.lrem, 1)) (hs : g.stack = .long y :: .long x :: rest) (hy : y ≠ 0)
    (hr : Steps tb e below (T.setTop { g with pc := g.pc + 1, stack := .long (x % y) :: rest }) target) : Steps tb e below (T.setTop g) target := by
  have q : x - (x / y) * y = x % y := lrem_mod x y
  exact XS.lrem h hx hg hd hs hy (by rw [q]; exact hr)
theorem own_acneY {x y : Value} (h1 : x.isRef = true) (h2 : y.isRef = true) (q : decide (x = y) = false) : XT.acmp .ne x y = true := by simpa [XT.acmp] using q
theorem own_acneN {x y : Value} (h1 : x.isRef = true) (h2 : y.isRef = true) (q : decide (x = y) = true) : XT.acmp .ne x y = false := by simpa [XT.acmp] using q
theorem own_aceqY {x y : Value} (h1 : x.isRef = true) (h2 : y.isRef = true) (q : decide (x = y) = true) : XT.acmp .eq x y = true := by simpa [XT.acmp] using q
theorem own_aceqN {x y : Value} (h1 : x.isRef = true) (h2 : y.isRef = true) (q : decide (x = y) = false) : XT.acmp .eq x y = false := by simpa [XT.acmp] using q
theorem own_fits {t : FieldType} {v : Value} (h1 : t.isReference = true) (h2 : v.isRef = true) : fits t v = true := by
  rcases ref_cases h2 with rfl | ⟨a, rfl⟩ <;> cases t <;> first | rfl | cases h1
abbrev lo8 (c : Int32) : Int32 := c.toInt8.toInt32
/-- the object x is a String that spells cs, each from 0 to 255 -/
def OStr (Z : State) (h : Heap) (x : Addr) (cs : List Int32) : Prop := Exa Z h x "java/lang/String" ∧ Fld Z h x "java/lang/String" "coder" "B" (.int 0) ∧ (∃ (t : Addr) (kb : ClassId), Fld Z h x "java/lang/String" "value" "[B" (.ref t) ∧ Arv Z h t kb .byte (Int32.ofNat cs.length) ((cs.map lo8).map Value.int) (.int 0)) ∧ (∀ c ∈ cs, ¬ c < 0 ∧ ¬ (255 : Int32) < c) ∧ cs.length ≤ 4000
theorem OStr.ext {x : Addr} {cs : List Int32} (F : OStr Z h x cs) (E : Ext h h') : OStr Z h' x cs := by
  obtain ⟨h1, h2, ⟨t, kb, h3, h4⟩, r⟩ := F; exact ⟨h1.ext E, h2.ext E, ⟨t, kb, h3.ext E, h4.ext E⟩, r⟩
theorem OStr.exa {x : Addr} {cs : List Int32} (F : OStr Z h x cs) : Exa Z h x "java/lang/String" := F.1
theorem OStr.lt {x : Addr} {cs : List Int32} (F : OStr Z h x cs) : x < h.size := F.1.lt
theorem all_nil {P : Int32 → Prop} : ∀ c ∈ ([] : List Int32), P c := fun _ q => nomatch q
theorem all_cons {P : Int32 → Prop} {c : Int32} {cs : List Int32} (h1 : P c) (h2 : ∀ c ∈ cs, P c) : ∀ x ∈ c :: cs, P x := fun x q => (List.mem_cons.mp q).elim (fun u => u ▸ h1) (h2 x)
theorem up255 {c : Int32} (h : ¬ c < 0 ∧ ¬ (255 : Int32) < c) : ¬ c < 0 ∧ ¬ (65535 : Int32) < c := by
  have r : (0 : Int32).toInt = 0 := rfl
  have r1 : (255 : Int32).toInt = 255 := rfl
  have r2 : (65535 : Int32).toInt = 65535 := rfl
  simp only [Int32.lt_iff_toInt_lt, r, r1, r2] at h ⊢; omega
theorem and255 (x : Int32) : ¬ (x &&& 255) < 0 ∧ ¬ (255 : Int32) < (x &&& 255) := by
  have q := c_and x 255 (by decide)
  have r : (0 : Int32).toInt = 0 := rfl
  have r1 : (255 : Int32).toInt = 255 := rfl
  simp only [Int32.lt_iff_toInt_lt, r, r1] at q ⊢; omega
theorem ch255 (x : Int32) : ¬ ((x &&& 255).toUInt32.toUInt16.toUInt32.toInt32) < 0 ∧ ¬ (255 : Int32) < ((x &&& 255).toUInt32.toUInt16.toUInt32.toInt32) := by
  rw [i2c_mask]; exact and255 x
/-- a String that has only been made holds no array: no constant is booked at it -/
theorem safe_blank {x : Addr} (hal : Z.vm.Alike vm) (E : Exa Z h x "java/lang/String") (V : Fld Z h x "java/lang/String" "value" "[B" .null) : Safe Z EL vm h x := fun B => by
  obtain ⟨cell, kk, e1, e2, e3, -, -⟩ := E
  obtain ⟨cell', cf, kx, i, f, v1, v2, -, -, -, -, v7⟩ := V
  cases e1.symm.trans v1
  obtain ⟨p, -, u, a, -, q, -, F, hy⟩ := B
  rcases hy with rfl | rfl
  · cases (show h[q.sa]? = some q.sC from F.ha).symm.trans e1
    obtain ⟨cS, ⟨⟨-, -, -, ⟨c1, k1, i1, f1, -⟩, -, -, -, w1, -⟩, -⟩, -⟩ := F
    obtain ⟨k3, e4⟩ := ff_back (U := Wst Z vm h) hal f1
    cases e4.symm.trans v2
    have := w1.symm.trans v7
    cases this
  · cases (show h[q.sd]? = some q.SA from F.hd).symm.trans e1
    obtain ⟨cS, -, -, f4, -⟩ := F
    have f5 : vm.findClass "[B" = some q.SA.cls := f4
    rw [hal.findClass] at f5
    obtain ⟨k5, q5, q6⟩ := Vm.findClass_spec f5
    obtain ⟨k6, q7, q8⟩ := Vm.findClass_spec e2
    cases q5.symm.trans q7
    exact absurd (q6.symm.trans q8) (by decide)
end Small
end Jvm.Own
namespace Jvm.Own
open Sem ClassFile Op Lib Bundle Jvm.Stand Jvm.Free Jvm.LawKit Jvm.RoadKit
section Copy
variable {p : Program} {l : Launch} {e : Env} {R : Room} {s : State} {m : MethodId} {args : Array Value} {below : List Frame} {meth : Method} {c : Code} {own : String} {Z : State} {a0 : Array Value} {EL : List (String × Nat)} {vm0 : Vm} {T : State} {h : Heap} {k n : Nat} {G : Outcome → State → Prop} {pc : Nat} {Ls : Array Slot} {rest : List Value}
/-- System.arraycopy between two byte arrays -/
theorem OSt.cpB (X : OSt p l e R s m args below meth c own Z EL vm0 T h k n) {index : Nat} (w1 : (Cond.methodLink own index Jvm.Stand.acN).before a0 Z = true) (w2 : (Cond.native Jvm.Stand.acN).before a0 Z = true) (w3 : (Cond.static Jvm.Stand.acN).before a0 Z = true) (w4 : (Cond.initialized "java/lang/System").before a0 Z = true)
    {a b : Addr} {ka kb : ClassId} {z z' sp dp nn : Int32} {vs vd us : List Value} {dv dd : Value} (A : Arv Z h a ka .byte z vs dv) (B : Arv Z h b kb .byte z' vd dd) (h1 : ¬ sp < 0) (h2 : ¬ dp < 0) (h3 : ¬ nn < 0) (h4 : sp.toNatClampNeg + nn.toNatClampNeg ≤ z.toNatClampNeg) (h5 : dp.toNatClampNeg + nn.toNatClampNeg ≤ z'.toNatClampNeg)
    (hus : us = (List.range nn.toNatClampNeg).map fun i => vs.getD (sp.toNatClampNeg + i) dv) (hl : dp.toNatClampNeg + nn.toNatClampNeg ≤ vd.length) (hSf : Safe Z EL vm0 h b) (ge : Z.heap.size ≤ b) (hsize : Ls.size = c.maxLocals) (hd : decode c.code pc = .ok (.invokestatic index, 3))
    (hf : 1 ≤ R.frames) {W : Nat} (hW : (rest.map fun v => v.category).sum ≤ W) (hlo : W + (nativeFrameWords "java/lang/System" "arraycopy" 5 + 11) ≤ R.locals)
    (q : ∀ T' h', OSt p l e R s m args below meth c own Z EL vm0 T' h' k n → Keep h h' [b] → Arv Z h' b kb .byte z' (vd.take dp.toNatClampNeg ++ us ++ vd.drop (dp.toNatClampNeg + nn.toNatClampNeg)) dd → OEnds p e below G T' (mkF m (pc + 3) Ls rest)) : OEnds p e below G T (mkF m pc Ls (.int nn :: .int dp :: .ref b :: .int sp :: .ref a :: rest)) := by
  obtain ⟨L, X, hF, hh, ⟨k0, hS0, hk0⟩, hZ, ho, hC, hO, hx⟩ := X
  obtain ⟨T', h', L', X', e', F', K, B', st⟩ := RoadKit.cpA X hx hZ ho w1 w2 w3 w4 hh A B (Or.inl ⟨rfl, rfl⟩) h1 h2 h3 h4 h5 hus hl hF ge (g := mkF m pc Ls (.int nn :: .int dp :: .ref b :: .int sp :: .ref a :: rest)) rfl hsize rfl hd hf (W := W) (by show 2 * 0 + _ ≤ _; rw [Nat.mul_zero, Nat.zero_add]; exact hW) hlo
  exact (q T' h' ⟨L', X', F', e', ⟨k0, hS0, Nat.le_trans hk0 K.1⟩, hZ, ho, hC.trans (CHr.keep K (fun x hx => by cases List.mem_singleton.mp hx; exact hSf) hC.1), ext_keep hO K (allS ge all0), hx⟩ K B').go st
end Copy
end Jvm.Own
namespace Jvm.Own
open Sem ClassFile Op Lib Bundle Jvm.Stand Jvm.Free Jvm.LawKit Jvm.RoadKit
theorem ofN {n : Nat} (h : n < 2147483648) : (Int32.ofNat n).toInt = n := Int32.toInt_ofNat_small h
theorem ofN_lt {a b : Nat} (ha : a < 2147483648) (hb : b < 2147483648) : Int32.ofNat a < Int32.ofNat b ↔ a < b := by
  rw [Int32.lt_iff_toInt_lt, ofN ha, ofN hb]; omega
theorem ofN_eq {a b : Nat} (ha : a < 2147483648) (hb : b < 2147483648) : Int32.ofNat a = Int32.ofNat b ↔ a = b := by
  rw [← Int32.toInt_inj, ofN ha, ofN hb]; omega
theorem ofN_neg {a : Nat} (ha : a < 2147483648) : ¬ Int32.ofNat a < 0 := by
  rw [Int32.lt_iff_toInt_lt, ofN ha]; have : (0 : Int32).toInt = 0 := rfl
  omega
theorem ofN_nat {a : Nat} (ha : a < 2147483648) : (Int32.ofNat a).toNatClampNeg = a := by
  rw [Int32.toNatClampNeg, ofN ha]; omega
theorem ofN_sub {a b : Nat} (ha : a < 2147483648) (h : b ≤ a) : Int32.ofNat a - Int32.ofNat b = Int32.ofNat (a - b) := by
  apply Int32.toInt_inj.mp
  have q := c_isub (Int32.ofNat a) (Int32.ofNat b)
  have r := rng32 (Int32.ofNat a - Int32.ofNat b)
  rw [ofN ha, ofN (by omega)] at q
  rw [ofN (by omega)]; omega
theorem ofN_add {a b : Nat} (h : a + b < 2147483648) : Int32.ofNat a + Int32.ofNat b = Int32.ofNat (a + b) := by
  apply Int32.toInt_inj.mp
  have q := c_iadd (Int32.ofNat a) (Int32.ofNat b)
  have r := rng32 (Int32.ofNat a + Int32.ofNat b)
  rw [ofN (by omega), ofN (by omega)] at q
  rw [ofN h]; omega
theorem ofN_of {x : Int32} (h : ¬ x < 0) : x = Int32.ofNat x.toNatClampNeg ∧ x.toNatClampNeg < 2147483648 := by
  have r := rng32 x
  have z : (0 : Int32).toInt = 0 := rfl
  rw [Int32.lt_iff_toInt_lt, z] at h
  have e : x.toNatClampNeg < 2147483648 := by rw [Int32.toNatClampNeg]; omega
  refine ⟨Int32.toInt_inj.mp ?_, e⟩
  rw [ofN e, Int32.toNatClampNeg]; omega
end Jvm.Own
/- laws to paste: Road.backV (cut by pick.py; bodies as the Statement names them) -/
namespace Jvm.Pilot.@@N@@
namespace StrChars
open Jvm Sem ClassFile Op Lib Jvm.Stand Jvm.Free.XT Jvm.Free.ALB Jvm.Free.JM Jvm.Free
open Jvm.Lib.Cold (StaticIs)
/-- a char array whose places are chars -/
def Ch (a : Addr) (A : Cell) (U : State) : Prop := Arr .char a A U ∧ Typed .char A
theorem Ch.mv {a : Addr} {A : Cell} {U U' : State} (h : Ch a A U) (hal : U.vm.Alike U'.vm) (hh : U'.heap = U.heap) : Ch a A U' := ⟨h.1.mv hal hh, h.2⟩
theorem Ch.keep {a : Addr} {A : Cell} {U U' : State} (h : Ch a A U) (hal : U.vm.Alike U'.vm) (hk : U'.heap[a]? = some A) : Ch a A U' := ⟨h.1.keep hal hk, h.2⟩
/-- what place i of a char[]'s cell holds -/
def cv (A : Cell) (i : Nat) : Int32 := match A.slots[i]? with | some (.int x) => x | _ => 0
theorem Ch.get {a : Addr} {A : Cell} {U : State} (h : Ch a A U) {i : Nat} (hi : i < A.slots.size) : A.slots[i]? = some (.int (cv A i)) := by
  have e := Array.getElem?_eq_getElem hi
  have f := h.2 i _ e
  unfold cv; rw [e]
  generalize A.slots[i] = v at f
  cases v <;> simp [fits] at f ⊢
/-- the byte that i2b leaves of a char -/
def lo8 (x : Int32) : Int32 := x.toInt8.toInt32
theorem fits_lo8 (y : Int32) : fits .byte (.int (lo8 y)) = true := by
  have h1 := y.toInt8.le_toInt
  have h2 := y.toInt8.toInt_lt
  simp only [lo8, fits, Bool.and_eq_true, decide_eq_true_eq, Int32.le_iff_toInt_le, Int8.toInt_toInt32, show (-128 : Int32).toInt = -128 from by decide, show (127 : Int32).toInt = 127 from by decide]
  omega
/-- A' is A but that each place j of lo .. hi - 1 holds f j -/
def Laid (A A' : Cell) (lo hi : Nat) (f : Nat → Value) : Prop := A'.cls = A.cls ∧ A'.vm = A.vm ∧ A'.slots.size = A.slots.size ∧ ∀ i, A'.slots[i]? = if lo ≤ i ∧ i < hi then some (f i) else A.slots[i]?
theorem Laid.zero (A : Cell) (lo : Nat) (f : Nat → Value) : Laid A A lo (lo + 0) f := ⟨rfl, rfl, rfl, fun i => by rw [if_neg (by omega)]⟩
theorem Laid.step {A Ak : Cell} {lo k : Nat} {f : Nat → Value} {v : Value} (h : Laid A Ak lo k f) (hlo : lo ≤ k) (hk : k < Ak.slots.size) (hv : v = f k) : Laid A (Ak.setSlot k v) lo (k + 1) f := by
  refine ⟨h.1, h.2.1, by simpa [Cell.setSlot] using h.2.2.1, fun i => ?_⟩
  by_cases e : k = i
  · subst e; rw [Cell.slots_setSlot_self v hk, if_pos (by omega), hv]
  · rw [Cell.slots_setSlot_ne v e, h.2.2.2 i]
    by_cases q : lo ≤ i ∧ i < k
    · rw [if_pos q, if_pos (by omega)]
    · rw [if_neg q, if_neg (by omega)]
def U16 : String := "java/lang/StringUTF16"
namespace Cmp5
def yN : MethodName := ⟨"java/lang/StringUTF16", "compress", "([CI[BII)I"⟩
abbrev yB : ByteArray := jdk_52_method_21_code
theorem d0 : decode yB 0 = .ok (.iconst 0, 1) := by decide +kernel
theorem d1 : decode yB 1 = .ok (.istore 5, 2) := by decide +kernel
theorem d3 : decode yB 3 = .ok (.iload 5, 2) := by decide +kernel
theorem d5 : decode yB 5 = .ok (.iload 4, 2) := by decide +kernel
theorem d7 : decode yB 7 = .ok (.if_icmp (.ge) 37, 3) := by decide +kernel
theorem d10 : decode yB 10 = .ok (.aload_n 0, 1) := by decide +kernel
theorem d11 : decode yB 11 = .ok (.iload_n 1, 1) := by decide +kernel
theorem d12 : decode yB 12 = .ok (.caload, 1) := by decide +kernel
theorem d13 : decode yB 13 = .ok (.istore 6, 2) := by decide +kernel
theorem d15 : decode yB 15 = .ok (.iload 6, 2) := by decide +kernel
theorem d17 : decode yB 17 = .ok (.sipush 255, 3) := by decide +kernel
theorem d20 : decode yB 20 = .ok (.if_icmp (.le) 6, 3) := by decide +kernel
theorem d26 : decode yB 26 = .ok (.aload_n 2, 1) := by decide +kernel
theorem d27 : decode yB 27 = .ok (.iload_n 3, 1) := by decide +kernel
theorem d28 : decode yB 28 = .ok (.iload 6, 2) := by decide +kernel
theorem d30 : decode yB 30 = .ok (.i2b, 1) := by decide +kernel
theorem d31 : decode yB 31 = .ok (.bastore, 1) := by decide +kernel
theorem d32 : decode yB 32 = .ok (.iinc 1 1, 3) := by decide +kernel
theorem d35 : decode yB 35 = .ok (.iinc 3 1, 3) := by decide +kernel
theorem d38 : decode yB 38 = .ok (.iinc 5 1, 3) := by decide +kernel
theorem d41 : decode yB 41 = .ok (.goto (-38), 3) := by decide +kernel
theorem d44 : decode yB 44 = .ok (.iload 4, 2) := by decide +kernel
theorem d46 : decode yB 46 = .ok (.ireturn, 1) := by decide +kernel
def site : List Cond := []
def tab : Cond := tabOf yN yB 7 (some .int) site
def P (b : Addr) (A : Cell) (d : Addr) (B : Cell) (o q len : Nat) (args : Array Value) (s : State) : Prop := args = #[.ref b, .int (Int32.ofNat o), .ref d, .int (Int32.ofNat q), .int (Int32.ofNat len)] ∧ Ch b A s ∧ Arr .byte d B s ∧ b ≠ d ∧ o + len ≤ A.slots.size ∧ q + len ≤ B.slots.size ∧ ∀ i, i < len → ¬ 255 < cv A (o + i)
def E (b : Addr) (A : Cell) (d : Addr) (B : Cell) (o q len : Nat) (r : Option Value) (s u : State) : Prop := r = some (.int (Int32.ofNat len)) ∧ ∃ B', Put d B' s u ∧ Laid B B' q (q + len) (fun j => Value.int (lo8 (cv A (o + (j - q)))))
/-- no char of the range above 255: len; the places written hold each char's low byte -/
theorem law (l : Launch) (b : Addr) (A : Cell) (d : Addr) (B : Cell) (o q len : Nat) : Law l yN 5 5 0 0 yB 7 (some .int) site (P b A d B o q len) (E b A d B o q len) (copyLocs d q len) 0 0 := by
  refine Law.of_walk (plainFor_of_name (by decide +kernel)) (by decide +kernel) (by decide +kernel) (by decide) (fun _ _ h => by rw [h.1]; rfl) (fun _ U U' hal hh h => ⟨h.1, h.2.1.mv hal hh, h.2.2.1.mv hal hh, h.2.2.2⟩) (fun r U U' V V' h1 hal h2 h => ⟨h.1, h.2.elim fun B' q => ⟨B', q.1.mv h1 h2, q.2⟩⟩) ?_
  intro p e s m args below meth c s₁ X0 hexec hbytes hml hret hlk hnm hown hh0 W hP
  obtain ⟨rfl, hA, hB, hne, l1, l2, hp⟩ := hP
  have c1 : Steps p.tables e below (s₁.setTop (entryFrame m #[.ref b, .int (Int32.ofNat o), .ref d, .int (Int32.ofNat q), .int (Int32.ofNat len)] 7)) (s₁.setTop (mkF m 0 #[.val (.ref b), .val (.int (Int32.ofNat o)), .val (.ref d), .val (.int (Int32.ofNat q)), .val (.int (Int32.ofNat len)), .unset, .unset] [])) := entry rfl
  have hA0 := hA.1.mv X0.warmed.alike hh0
  have hB0 := hB.mv X0.warmed.alike hh0
  have a31 := hA.1.2.2.2
  have c2 : Steps p.tables e below (s₁.setTop (entryFrame m #[.ref b, .int (Int32.ofNat o), .ref d, .int (Int32.ofNat q), .int (Int32.ofNat len)] 7)) (s₁.setTop (mkF m 3 #[.val (.ref b), .val (.int (Int32.ofNat o)), .val (.ref d), .val (.int (Int32.ofNat q)), .val (.int (Int32.ofNat len)), .val (.int 0), .unset] [])) := c1.trans (by
    refine iconstV X0.here hexec rfl 0 (hb hbytes d0) (by decide) ?_
    refine XS.istore X0.here hexec rfl (hb hbytes d1) rfl rfl ?_
    exact Steps.refl _)
  have loop : ∀ (r i : Nat), i + r = len → ∀ (z : Slot), (z = .unset ∨ ∃ w, z = .val w ∧ w.category = 1) → ∀ (Tl : State) (Bk : Cell), Stand p l e { frames := 0, locals := 0, cells := 0, slots := 0 } s m #[.ref b, .int (Int32.ofNat o), .ref d, .int (Int32.ofNat q), .int (Int32.ofNat len)] below meth c Tl ([] ++ copyLocs d q i) 0 0 → Put d Bk s₁ Tl → Laid B Bk q (q + i) (fun j => Value.int (lo8 (cv A (o + (j - q))))) →
      Steps p.tables e below (s₁.setTop (entryFrame m #[.ref b, .int (Int32.ofNat o), .ref d, .int (Int32.ofNat q), .int (Int32.ofNat len)] 7)) (Tl.setTop (mkF m 3 #[.val (.ref b), .val (.int (Int32.ofNat (o + i))), .val (.ref d), .val (.int (Int32.ofNat (q + i))), .val (.int (Int32.ofNat len)), .val (.int (Int32.ofNat i)), z] [])) → ∃ (T' : State) (B' : Cell) (z' : Slot), Stand p l e { frames := 0, locals := 0, cells := 0, slots := 0 } s m #[.ref b, .int (Int32.ofNat o), .ref d, .int (Int32.ofNat q), .int (Int32.ofNat len)] below meth c T' ([] ++ copyLocs d q len) 0 0 ∧ Put d B' s₁ T' ∧ Laid B B' q (q + len) (fun j => Value.int (lo8 (cv A (o + (j - q))))) ∧
      Steps p.tables e below (s₁.setTop (entryFrame m #[.ref b, .int (Int32.ofNat o), .ref d, .int (Int32.ofNat q), .int (Int32.ofNat len)] 7)) (T'.setTop (mkF m 3 #[.val (.ref b), .val (.int (Int32.ofNat (o + len))), .val (.ref d), .val (.int (Int32.ofNat (q + len))), .val (.int (Int32.ofNat len)), .val (.int (Int32.ofNat len)), z'] [])) := by
    intro r
    induction r with
    | zero =>
      intro i hi z hz Tl Bk Xl pl fl cl
      have hil : i = len := by omega
      rw [hil] at Xl fl cl
      exact ⟨Tl, Bk, z, Xl, pl, fl, cl⟩
    | succ r ih =>
      intro i hi z hz Tl Bk Xl pl fl cl
      have all := X0.warmed.alike.symm.trans Xl.warmed.alike
      have hAl := hA0.keep all (pl.other hne hA0.1)
      have hBk := hB0.like all pl.1 fl.1 fl.2.1 fl.2.2.1
      have hlt : q + i < Bk.slots.size := by rw [fl.2.2.1]; omega
      have c3 : Steps p.tables e below (s₁.setTop (entryFrame m #[.ref b, .int (Int32.ofNat o), .ref d, .int (Int32.ofNat q), .int (Int32.ofNat len)] 7)) (Tl.setTop (mkF m 12 #[.val (.ref b), .val (.int (Int32.ofNat (o + i))), .val (.ref d), .val (.int (Int32.ofNat (q + i))), .val (.int (Int32.ofNat len)), .val (.int (Int32.ofNat i)), z] [.int (Int32.ofNat (o + i)), .ref b])) := cl.trans (by
        refine XS.iload Xl.here hexec rfl (hb hbytes d3) rfl ?_
        refine XS.iload Xl.here hexec rfl (hb hbytes d5) rfl ?_
        refine XS.icmpNo Xl.here hexec rfl (hb hbytes d7) rfl (ii_ge_f (lt32 (by omega) (by omega))) ?_
        refine XS.aloadN Xl.here hexec rfl (hb hbytes d10) rfl rfl ?_
        refine XS.iloadN Xl.here hexec rfl (hb hbytes d11) rfl ?_
        exact Steps.refl _)
      have c4 : Steps p.tables e below (s₁.setTop (entryFrame m #[.ref b, .int (Int32.ofNat o), .ref d, .int (Int32.ofNat q), .int (Int32.ofNat len)] 7)) (Tl.setTop (mkF m 13 #[.val (.ref b), .val (.int (Int32.ofNat (o + i))), .val (.ref d), .val (.int (Int32.ofNat (q + i))), .val (.int (Int32.ofNat len)), .val (.int (Int32.ofNat i)), z] [.int (cv A (o + i))])) := c3.trans (by
        refine Xl.aget hexec hAl rfl (hA.get (i := o + i) (by omega)) rfl rfl (hb hbytes d12) ?_
        exact Steps.refl _)
      have c5 : Steps p.tables e below (s₁.setTop (entryFrame m #[.ref b, .int (Int32.ofNat o), .ref d, .int (Int32.ofNat q), .int (Int32.ofNat len)] 7)) (Tl.setTop (mkF m 15 #[.val (.ref b), .val (.int (Int32.ofNat (o + i))), .val (.ref d), .val (.int (Int32.ofNat (q + i))), .val (.int (Int32.ofNat len)), .val (.int (Int32.ofNat i)), .val (.int (cv A (o + i)))] [])) := c4.trans (by
        refine XS.istoreS Xl.here hexec rfl (hb hbytes d13) rfl rfl hz ?_
        exact Steps.refl _)
      have c6 : Steps p.tables e below (s₁.setTop (entryFrame m #[.ref b, .int (Int32.ofNat o), .ref d, .int (Int32.ofNat q), .int (Int32.ofNat len)] 7)) (Tl.setTop (mkF m 31 #[.val (.ref b), .val (.int (Int32.ofNat (o + i))), .val (.ref d), .val (.int (Int32.ofNat (q + i))), .val (.int (Int32.ofNat len)), .val (.int (Int32.ofNat i)), .val (.int (cv A (o + i)))] [.int (lo8 (cv A (o + i))), .int (Int32.ofNat (q + i)), .ref d])) := c5.trans (by
        refine XS.iload Xl.here hexec rfl (hb hbytes d15) rfl ?_
        refine sipushV Xl.here hexec rfl 255 (hb hbytes d17) (by decide) ?_
        refine XS.icmpYes Xl.here hexec rfl (pc0 := 20) rfl (hb hbytes d20) rfl (ii_le_t (hp i (by omega))) (by decide) rfl ?_
        refine XS.aloadN Xl.here hexec rfl (hb hbytes d26) rfl rfl ?_
        refine XS.iloadN Xl.here hexec rfl (hb hbytes d27) rfl ?_
        refine XS.iload Xl.here hexec rfl (hb hbytes d28) rfl ?_
        refine i2b Xl.here hexec rfl (hb hbytes d30) rfl ?_
        exact Steps.refl _)
      obtain ⟨T7, X7, p7, st7⟩ := Xl.aput hexec hBk rfl hlt rfl (fits_lo8 (cv A (o + i))) (g := (mkF m 31 #[.val (.ref b), .val (.int (Int32.ofNat (o + i))), .val (.ref d), .val (.int (Int32.ofNat (q + i))), .val (.int (Int32.ofNat len)), .val (.int (Int32.ofNat i)), .val (.int (cv A (o + i)))] [.int (lo8 (cv A (o + i))), .int (Int32.ofNat (q + i)), .ref d])) rfl (rest := []) rfl (hb hbytes d31)
      have c8 : Steps p.tables e below (s₁.setTop (entryFrame m #[.ref b, .int (Int32.ofNat o), .ref d, .int (Int32.ofNat q), .int (Int32.ofNat len)] 7)) (T7.setTop (mkF m 32 #[.val (.ref b), .val (.int (Int32.ofNat (o + i))), .val (.ref d), .val (.int (Int32.ofNat (q + i))), .val (.int (Int32.ofNat len)), .val (.int (Int32.ofNat i)), .val (.int (cv A (o + i)))] [])) := c6.trans (st7 _ (Steps.refl _))
      have c9 : Steps p.tables e below (s₁.setTop (entryFrame m #[.ref b, .int (Int32.ofNat o), .ref d, .int (Int32.ofNat q), .int (Int32.ofNat len)] 7)) (T7.setTop (mkF m 3 #[.val (.ref b), .val (.int (Int32.ofNat (o + i) + 1)), .val (.ref d), .val (.int (Int32.ofNat (q + i) + 1)), .val (.int (Int32.ofNat len)), .val (.int (Int32.ofNat i + 1)), .val (.int (cv A (o + i)))] [])) := c8.trans (by
        refine iincV X7.here hexec rfl 1 (hb hbytes d32) (by decide) rfl rfl ?_
        refine iincV X7.here hexec rfl 1 (hb hbytes d35) (by decide) rfl rfl ?_
        refine iincV X7.here hexec rfl 1 (hb hbytes d38) (by decide) rfl rfl ?_
        refine XS.goto X7.here hexec rfl (pc0 := 41) rfl (hb hbytes d41) (by decide) rfl ?_
        exact Steps.refl _)
      have c10 : Steps p.tables e below (s₁.setTop (entryFrame m #[.ref b, .int (Int32.ofNat o), .ref d, .int (Int32.ofNat q), .int (Int32.ofNat len)] 7)) (T7.setTop (mkF m 3 #[.val (.ref b), .val (.int (Int32.ofNat (o + (i + 1)))), .val (.ref d), .val (.int (Int32.ofNat (q + (i + 1)))), .val (.int (Int32.ofNat len)), .val (.int (Int32.ofNat (i + 1))), .val (.int (cv A (o + i)))] [])) := by
        have := c9
        rw [succ32, succ32, succ32] at this
        exact this
      exact ih (i + 1) (by omega) _ (Or.inr ⟨_, rfl, rfl⟩) T7 _ (by rw [copyLocs_step, ← List.append_assoc]; exact X7) (pl.trans p7) (fl.step (by omega) hlt (by simp)) c10
  obtain ⟨T9, B9, z9, X9, p9, f9, g9⟩ := loop len 0 (by omega) .unset (Or.inl rfl) s₁ B (by simpa [copyLocs] using X0) ⟨hB0.1, fun _ _ => rfl, rfl⟩ (Laid.zero _ _ _) c2
  have c11 : Steps p.tables e below (s₁.setTop (entryFrame m #[.ref b, .int (Int32.ofNat o), .ref d, .int (Int32.ofNat q), .int (Int32.ofNat len)] 7)) (T9.setTop (mkF m 46 #[.val (.ref b), .val (.int (Int32.ofNat (o + len))), .val (.ref d), .val (.int (Int32.ofNat (q + len))), .val (.int (Int32.ofNat len)), .val (.int (Int32.ofNat len)), z9] [.int (Int32.ofNat len)])) := g9.trans (by
    refine XS.iload X9.here hexec rfl (hb hbytes d3) rfl ?_
    refine XS.iload X9.here hexec rfl (hb hbytes d5) rfl ?_
    refine XS.icmpYes X9.here hexec rfl (pc0 := 7) rfl (hb hbytes d7) rfl (ii_ge_t (nlt32 (by omega) (Nat.le_refl _))) (by decide) rfl ?_
    refine XS.iload X9.here hexec rfl (hb hbytes d44) rfl ?_
    exact Steps.refl _)
  exact ⟨T9, some (.int (Int32.ofNat len)), _, _, _, X9, by simp, rfl, rfl, (fun h => by cases h), ⟨rfl, B9, p9.from hh0, f9⟩, fun fs hl => c11.trans (X9.ireturnOut hexec hret rfl (Or.inl rfl) (hb hbytes d46) hl)⟩
end Cmp5
namespace Cmp3
def yN : MethodName := ⟨"java/lang/StringUTF16", "compress", "([CII)[B"⟩
abbrev yB : ByteArray := jdk_52_method_16_code
theorem d0 : decode yB 0 = .ok (.iload_n 2, 1) := by decide +kernel
theorem d1 : decode yB 1 = .ok (.newarray .byte, 2) := by decide +kernel
theorem d3 : decode yB 3 = .ok (.astore_n 3, 1) := by decide +kernel
theorem d4 : decode yB 4 = .ok (.aload_n 0, 1) := by decide +kernel
theorem d5 : decode yB 5 = .ok (.iload_n 1, 1) := by decide +kernel
theorem d6 : decode yB 6 = .ok (.aload_n 3, 1) := by decide +kernel
theorem d7 : decode yB 7 = .ok (.iconst 0, 1) := by decide +kernel
theorem d8 : decode yB 8 = .ok (.iload_n 2, 1) := by decide +kernel
theorem d9 : decode yB 9 = .ok (.invokestatic 115, 3) := by decide +kernel
theorem d12 : decode yB 12 = .ok (.istore 4, 2) := by decide +kernel
theorem d14 : decode yB 14 = .ok (.iload 4, 2) := by decide +kernel
theorem d16 : decode yB 16 = .ok (.iload_n 2, 1) := by decide +kernel
theorem d17 : decode yB 17 = .ok (.if_icmp (.eq) 40, 3) := by decide +kernel
theorem d57 : decode yB 57 = .ok (.aload_n 3, 1) := by decide +kernel
theorem d58 : decode yB 58 = .ok (.areturn, 1) := by decide +kernel
def site : List Cond := [.arrayClass .byte, Cmp5.tab] ++ staticW U16 115 Cmp5.yN
def tab : Cond := tabOf yN yB 6 (some (.array .byte)) site
def P (b : Addr) (A : Cell) (o len : Nat) (args : Array Value) (s : State) : Prop := args = #[.ref b, .int (Int32.ofNat o), .int (Int32.ofNat len)] ∧ Ch b A s ∧ o + len ≤ A.slots.size ∧ len ≤ 536870912 ∧ ∀ i, i < len → ¬ 255 < cv A (o + i)
def E (b : Addr) (A : Cell) (o len : Nat) (r : Option Value) (s u : State) : Prop := NewArr .byte "[B" len (fun j => .int (lo8 (cv A (o + j)))) r s u ∧ u.heap.size = s.heap.size + 1
/-- no char of the range above 255: a new byte[] of their low bytes -/
theorem law (l : Launch) (b : Addr) (A : Cell) (o len : Nat) : Law l yN 3 3 1 18 yB 6 (some (.array .byte)) site (P b A o len) (E b A o len) [] 1 len := by
  refine Law.of_walk (plainFor_of_name (by decide +kernel)) (by decide +kernel) (by decide +kernel) (by decide) (fun _ _ h => by rw [h.1]; rfl) (fun _ U U' hal hh h => ⟨h.1, h.2.1.mv hal hh, h.2.2⟩) (fun r U U' V V' h1 hal h2 h => ⟨NewArr.mv r U U' V V' h1 hal h2 h.1, by rw [h1, h2]; exact h.2⟩) ?_
  intro p e s m args below meth c s₁ X0 hexec hbytes hml hret hlk hnm hown hh0 W hP
  obtain ⟨rfl, hA, l1, l2, hp⟩ := hP
  have a31 := hA.1.2.2.2
  have c1 : Steps p.tables e below (s₁.setTop (entryFrame m #[.ref b, .int (Int32.ofNat o), .int (Int32.ofNat len)] 6)) (s₁.setTop (mkF m 0 #[.val (.ref b), .val (.int (Int32.ofNat o)), .val (.int (Int32.ofNat len)), .unset, .unset, .unset] [])) := entry rfl
  have c2 : Steps p.tables e below (s₁.setTop (entryFrame m #[.ref b, .int (Int32.ofNat o), .int (Int32.ofNat len)] 6)) (s₁.setTop (mkF m 1 #[.val (.ref b), .val (.int (Int32.ofNat o)), .val (.int (Int32.ofNat len)), .unset, .unset, .unset] [.int (Int32.ofNat len)])) := c1.trans (by
    refine XS.iloadN X0.here hexec rfl (hb hbytes d0) rfl ?_
    exact Steps.refl _)
  obtain ⟨T3, B3, X3, ba3, bs3, bv3, bh3, bf3, st3⟩ := X0.anew hexec (atype := .byte) (wk W (.arrayClass .byte)) rfl (by show len * 1 ≤ _; omega) (by omega) (g := (mkF m 1 #[.val (.ref b), .val (.int (Int32.ofNat o)), .val (.int (Int32.ofNat len)), .unset, .unset, .unset] [.int (Int32.ofNat len)])) rfl (hb hbytes d1) (rest := []) rfl (Nat.le_refl _) (by show 0 + len ≤ len; omega)
  rw [hh0] at ba3 st3
  have kp3 : XT.Kept s T3 := (XT.Kept.of_eq hh0).push bh3
  have hA3 := hA.keep X3.warmed.alike (kp3 _ _ hA.1.1)
  have hne : b ≠ s.heap.size := hA.1.ne
  have c4 : Steps p.tables e below (s₁.setTop (entryFrame m #[.ref b, .int (Int32.ofNat o), .int (Int32.ofNat len)] 6)) (T3.setTop (mkF m 3 #[.val (.ref b), .val (.int (Int32.ofNat o)), .val (.int (Int32.ofNat len)), .unset, .unset, .unset] [.ref s.heap.size])) := c2.trans (st3 _ (Steps.refl _))
  have c5 : Steps p.tables e below (s₁.setTop (entryFrame m #[.ref b, .int (Int32.ofNat o), .int (Int32.ofNat len)] 6)) (T3.setTop (mkF m 9 #[.val (.ref b), .val (.int (Int32.ofNat o)), .val (.int (Int32.ofNat len)), .val (.ref s.heap.size), .unset, .unset] [.int (Int32.ofNat len), .int 0, .ref s.heap.size, .int (Int32.ofNat o), .ref b])) := c4.trans (by
    refine XS.astoreN X3.here hexec rfl (hb hbytes d3) rfl rfl rfl ?_
    refine XS.aloadN X3.here hexec rfl (hb hbytes d4) rfl rfl ?_
    refine XS.iloadN X3.here hexec rfl (hb hbytes d5) rfl ?_
    refine XS.aloadN X3.here hexec rfl (hb hbytes d6) rfl rfl ?_
    refine iconstV X3.here hexec rfl 0 (hb hbytes d7) (by decide) ?_
    refine XS.iloadN X3.here hexec rfl (hb hbytes d8) rfl ?_
    exact Steps.refl _)
  obtain ⟨v6, T6, X6, E6, g6⟩ := X3.callS hexec (Cmp5.law l b A s.heap.size B3 o 0 len) hown (wks W (staticW U16 115 Cmp5.yN)) (wk W Cmp5.tab) (W := 0) (Nat.le_of_ble_eq_true rfl) (Nat.le_of_ble_eq_true rfl) (Nat.le_refl _) (by show 0 + len + 0 ≤ len; omega) (g := (mkF m 9 #[.val (.ref b), .val (.int (Int32.ofNat o)), .val (.int (Int32.ofNat len)), .val (.ref s.heap.size), .unset, .unset] [.int (Int32.ofNat len), .int (Int32.ofNat 0), .ref s.heap.size, .int (Int32.ofNat o), .ref b])) rfl (by rw [hml]; rfl) c5 (argsL := [.ref b, .int (Int32.ofNat o), .ref s.heap.size, .int (Int32.ofNat 0), .int (Int32.ofNat len)]) (rest := []) rfl rfl (by show 2 * 0 + 0 ≤ _; decide) (hb hbytes d9) (⟨rfl, hA3, ba3, hne, l1, by rw [bs3]; simp, hp⟩)
  obtain ⟨rfl, B6, p6, f6⟩ := E6
  have c7 : Steps p.tables e below (s₁.setTop (entryFrame m #[.ref b, .int (Int32.ofNat o), .int (Int32.ofNat len)] 6)) (T6.setTop (mkF m 12 #[.val (.ref b), .val (.int (Int32.ofNat o)), .val (.int (Int32.ofNat len)), .val (.ref s.heap.size), .unset, .unset] [.int (Int32.ofNat len)])) := g6
  have c8 : Steps p.tables e below (s₁.setTop (entryFrame m #[.ref b, .int (Int32.ofNat o), .int (Int32.ofNat len)] 6)) (T6.setTop (mkF m 58 #[.val (.ref b), .val (.int (Int32.ofNat o)), .val (.int (Int32.ofNat len)), .val (.ref s.heap.size), .val (.int (Int32.ofNat len)), .unset] [.ref s.heap.size])) := c7.trans (by
    refine XS.istore X6.here hexec rfl (hb hbytes d12) rfl rfl ?_
    refine XS.iload X6.here hexec rfl (hb hbytes d14) rfl ?_
    refine XS.iloadN X6.here hexec rfl (hb hbytes d16) rfl ?_
    refine XS.icmpYes X6.here hexec rfl (pc0 := 17) rfl (hb hbytes d17) rfl (ii_eq_t rfl) (by decide) rfl ?_
    refine XS.aloadN X6.here hexec rfl (hb hbytes d57) rfl rfl ?_
    exact Steps.refl _)
  have X8 := X6.wide (L' := []) (cells' := 1) (slots' := len) (fun x hx hlt => by
    simp only [List.nil_append, copyLocs, List.mem_map, List.mem_range] at hx
    obtain ⟨i, -, rfl⟩ := hx
    exact absurd hlt (Nat.lt_irrefl _)) (Nat.le_refl _) (by omega)
  exact ⟨T6, some (.ref s.heap.size), _, _, _, X8, rfl, rfl, rfl, (fun h => by cases h), ⟨⟨rfl, B6, ba3.like (X3.warmed.alike.symm.trans X6.warmed.alike) p6.1 f6.1 f6.2.1 f6.2.2.1, f6.2.1.trans bv3, by rw [X6.warmed.alike.findClass, f6.1]; exact bf3, by rw [f6.2.2.1, bs3]; simp, fun j hj => by rw [f6.2.2.2 j, if_pos (by omega)]; rfl, kp3.put p6 (Nat.le_refl _)⟩, by rw [p6.2.2, bh3, hh0]; simp⟩, fun fs hl => c8.trans (X8.areturnOut hexec rfl hret rfl (hb hbytes d58) hl)⟩
end Cmp3
namespace CodL
def yN : MethodName := ⟨"java/lang/StringUTF16", "coderFromArrayLen", "([BI)B"⟩
abbrev yB : ByteArray := jdk_52_method_15_code
theorem d0 : decode yB 0 = .ok (.iload_n 1, 1) := by decide +kernel
theorem d1 : decode yB 1 = .ok (.aload_n 0, 1) := by decide +kernel
theorem d2 : decode yB 2 = .ok (.arraylength, 1) := by decide +kernel
theorem d3 : decode yB 3 = .ok (.isub, 1) := by decide +kernel
theorem d4 : decode yB 4 = .ok (.bipush 31, 2) := by decide +kernel
theorem d6 : decode yB 6 = .ok (.iushr, 1) := by decide +kernel
theorem d7 : decode yB 7 = .ok (.i2b, 1) := by decide +kernel
theorem d8 : decode yB 8 = .ok (.ireturn, 1) := by decide +kernel
def site : List Cond := []
def tab : Cond := tabOf yN yB 2 (some .byte) site
def P (d : Addr) (B : Cell) (args : Array Value) (s : State) : Prop := args = #[.ref d, .int (Int32.ofNat B.slots.size)] ∧ Arr .byte d B s
def E (r : Option Value) (s u : State) : Prop := XT.PureE (some (.int 0)) r s u
/-- an array as long as the number of chars: LATIN1 -/
theorem law (l : Launch) (d : Addr) (B : Cell) : Law l yN 2 2 0 0 yB 2 (some .byte) site (P d B) E [] 0 0 := by
  refine Law.of_walk (plainFor_of_name (by decide +kernel)) (by decide +kernel) (by decide +kernel) (by decide) (fun _ _ h => by rw [h.1]; rfl) (fun _ U U' hal hh h => ⟨h.1, h.2.mv hal hh⟩) (fun r U U' V V' h1 hal h2 h => XT.PureE.mv r U U' V V' h1 hal h2 h) ?_
  intro p e s m args below meth c s₁ X0 hexec hbytes hml hret hlk hnm hown hh0 W hP
  obtain ⟨rfl, hB⟩ := hP
  have hB0 := hB.mv X0.warmed.alike hh0
  have c1 : Steps p.tables e below (s₁.setTop (entryFrame m #[.ref d, .int (Int32.ofNat B.slots.size)] 2)) (s₁.setTop (mkF m 0 #[.val (.ref d), .val (.int (Int32.ofNat B.slots.size))] [])) := entry rfl
  have c2 : Steps p.tables e below (s₁.setTop (entryFrame m #[.ref d, .int (Int32.ofNat B.slots.size)] 2)) (s₁.setTop (mkF m 2 #[.val (.ref d), .val (.int (Int32.ofNat B.slots.size))] [.ref d, .int (Int32.ofNat B.slots.size)])) := c1.trans (by
    refine XS.iloadN X0.here hexec rfl (hb hbytes d0) rfl ?_
    refine XS.aloadN X0.here hexec rfl (hb hbytes d1) rfl rfl ?_
    exact Steps.refl _)
  have c3 : Steps p.tables e below (s₁.setTop (entryFrame m #[.ref d, .int (Int32.ofNat B.slots.size)] 2)) (s₁.setTop (mkF m 8 #[.val (.ref d), .val (.int (Int32.ofNat B.slots.size))] [.int (lo8 (ushr (Int32.ofNat B.slots.size - Int32.ofNat B.slots.size) 31))])) := c2.trans (by
    refine X0.alen hexec hB0 rfl rfl (hb hbytes d2) ?_
    refine XS.isub X0.here hexec rfl (hb hbytes d3) rfl ?_
    refine bipushV X0.here hexec rfl 31 (hb hbytes d4) (by decide) ?_
    refine iushr X0.here hexec rfl (hb hbytes d6) rfl ?_
    refine i2b X0.here hexec rfl (hb hbytes d7) rfl ?_
    exact Steps.refl _)
  have e0 : lo8 (ushr (Int32.ofNat B.slots.size - Int32.ofNat B.slots.size) 31) = 0 := by rw [Int32.sub_self]; decide
  rw [e0] at c3
  exact ⟨s₁, some (.int 0), _, _, _, X0, rfl, rfl, rfl, (fun h => by cases h), ⟨rfl, hh0⟩, fun fs hl => c3.trans (X0.ireturnOut hexec hret rfl (Or.inr (Or.inr (Or.inl rfl))) (hb hbytes d8) hl)⟩
end CodL
/-- the String at a is Latin-1 over a new byte[] (the heap's one new cell): the low bytes of the len chars of A from o on; every cell but a is kept -/
def Got (a : Addr) (D : Cell) (fV fC : Field) (A : Cell) (o len : Nat) (r : Option Value) (s u : State) : Prop := r = none ∧ ∃ D' V : Cell, Blank "java/lang/String" a D' u ∧ Same D D' [fV.slot, fC.slot] ∧ D'.slots[fV.slot]? = some (.ref s.heap.size) ∧ D'.slots[fC.slot]? = some (.int 0) ∧ Arr .byte s.heap.size V u ∧ V.vm = .none ∧ u.vm.findClass "[B" = some V.cls ∧ V.slots.size = len ∧ (∀ j, j < len → V.slots[j]? = some (.int (lo8 (cv A (o + j))))) ∧ (∀ (y : Addr) (c : Cell), y ≠ a → s.heap[y]? = some c → u.heap[y]? = some c) ∧ u.heap.size = s.heap.size + 1
theorem Got.mv {a : Addr} {D A : Cell} {fV fC : Field} {o len : Nat} : ∀ r (U U' V V' : State), U'.heap = U.heap → V.vm.Alike V'.vm → V'.heap = V.heap → Got a D fV fC A o len r U V → Got a D fV fC A o len r U' V' :=
  fun r U U' V V' h1 hal h2 ⟨e0, D', X, a1, a2, a3, a4, a5, a6, a7, a8, a9, a10, a11⟩ => ⟨e0, D', X, a1.mv hal h2, a2, by rw [h1]; exact a3, a4, by rw [h1]; exact a5.mv hal h2, a6, by rw [hal.findClass]; exact a7, a8, a9, by rw [h1, h2]; exact a10, by rw [h1, h2]; exact a11⟩
namespace New4
def yN : MethodName := ⟨"java/lang/String", "<init>", "([CIILjava/lang/Void;)V"⟩
abbrev yB : ByteArray := jdk_42_method_149_code
theorem d0 : decode yB 0 = .ok (.aload_n 0, 1) := by decide +kernel
theorem d1 : decode yB 1 = .ok (.invokespecial 1, 3) := by decide +kernel
theorem d4 : decode yB 4 = .ok (.iload_n 3, 1) := by decide +kernel
theorem d5 : decode yB 5 = .ok (.ifCond (.ne) 22, 3) := by decide +kernel
theorem d27 : decode yB 27 = .ok (.getstatic 38, 3) := by decide +kernel
theorem d30 : decode yB 30 = .ok (.ifCond (.eq) 28, 3) := by decide +kernel
theorem d33 : decode yB 33 = .ok (.aload_n 1, 1) := by decide +kernel
theorem d34 : decode yB 34 = .ok (.iload_n 2, 1) := by decide +kernel
theorem d35 : decode yB 35 = .ok (.iload_n 3, 1) := by decide +kernel
theorem d36 : decode yB 36 = .ok (.invokestatic 177, 3) := by decide +kernel
theorem d39 : decode yB 39 = .ok (.astore 5, 2) := by decide +kernel
theorem d41 : decode yB 41 = .ok (.aload_n 0, 1) := by decide +kernel
theorem d42 : decode yB 42 = .ok (.aload 5, 2) := by decide +kernel
theorem d44 : decode yB 44 = .ok (.iload_n 3, 1) := by decide +kernel
theorem d45 : decode yB 45 = .ok (.invokestatic 47, 3) := by decide +kernel
theorem d48 : decode yB 48 = .ok (.putfield 15, 3) := by decide +kernel
theorem d51 : decode yB 51 = .ok (.aload_n 0, 1) := by decide +kernel
theorem d52 : decode yB 52 = .ok (.aload 5, 2) := by decide +kernel
theorem d54 : decode yB 54 = .ok (.putfield 9, 3) := by decide +kernel
theorem d57 : decode yB 57 = .ok (.return_, 1) := by decide +kernel
def site : List Cond := [.fieldLink "java/lang/String" 38 "java/lang/String" "COMPACT_STRINGS" "Z", Cmp3.tab, CodL.tab, .laysFinal "java/lang/String" "java/lang/String" "value" "[B", .fieldLink "java/lang/String" 9 "java/lang/String" "value" "[B", .laysFinal "java/lang/String" "java/lang/String" "coder" "B", .fieldLink "java/lang/String" 15 "java/lang/String" "coder" "B"] ++ objW "java/lang/String" 1 ++ staticW "java/lang/String" 177 Cmp3.yN ++ staticW "java/lang/String" 47 CodL.yN
def tab : Cond := tabOf yN yB 6 none site
def P (a : Addr) (D : Cell) (fV fC : Field) (b : Addr) (A : Cell) (z : Int32) (o len : Nat) (args : Array Value) (s : State) : Prop := args = #[.ref a, .ref b, .int (Int32.ofNat o), .int (Int32.ofNat len), .null] ∧ Blank "java/lang/String" a D s ∧ Found "java/lang/String" "value" "[B" fV s ∧ Found "java/lang/String" "coder" "B" fC s ∧ Ch b A s ∧ StaticIs s "java/lang/String" "COMPACT_STRINGS" "Z" (.int z) ∧ ¬ z = 0 ∧ 0 < len ∧ o + len ≤ A.slots.size ∧ len ≤ 536870912 ∧ ∀ i, i < len → ¬ 255 < cv A (o + i)
def E (a : Addr) (D : Cell) (fV fC : Field) (A : Cell) (o len : Nat) (r : Option Value) (s u : State) : Prop := Got a D fV fC A o len r s u
/-- len > 0, no char of the range above 255: a Latin-1 String of their low bytes -/
theorem law (l : Launch) (a : Addr) (D : Cell) (fV fC : Field) (b : Addr) (A : Cell) (z : Int32) (o len : Nat) : Law l yN 5 4 2 35 yB 6 none site (P a D fV fC b A z o len) (E a D fV fC A o len) [⟨a, fC.slot⟩, ⟨a, fV.slot⟩] 1 len := by
  refine Law.of_walk (plainFor_of_name (by decide +kernel)) (by decide +kernel) (by decide +kernel) (by decide) (fun _ _ h => by rw [h.1]; rfl) (fun _ U U' hal hh h => ⟨h.1, h.2.1.mv hal hh, h.2.2.1.al hal, h.2.2.2.1.al hal, h.2.2.2.2.1.mv hal hh, h.2.2.2.2.2.1.there hal hh, h.2.2.2.2.2.2⟩) (fun r U U' V V' h1 hal h2 h => Got.mv r U U' V V' h1 hal h2 h) ?_
  intro p e s m args below meth c s₁ X0 hexec hbytes hml hret hlk hnm hown hh0 W hP
  obtain ⟨rfl, hB, f1, f2, hA, s1, hz, l0, l1, l2, hp⟩ := hP
  have a31 := hA.1.2.2.2
  have c1 : Steps p.tables e below (s₁.setTop (entryFrame m #[.ref a, .ref b, .int (Int32.ofNat o), .int (Int32.ofNat len), .null] 6)) (s₁.setTop (mkF m 0 #[.val (.ref a), .val (.ref b), .val (.int (Int32.ofNat o)), .val (.int (Int32.ofNat len)), .val .null, .unset] [])) := entry rfl
  have c2 : Steps p.tables e below (s₁.setTop (entryFrame m #[.ref a, .ref b, .int (Int32.ofNat o), .int (Int32.ofNat len), .null] 6)) (s₁.setTop (mkF m 1 #[.val (.ref a), .val (.ref b), .val (.int (Int32.ofNat o)), .val (.int (Int32.ofNat len)), .val .null, .unset] [.ref a])) := c1.trans (by
    refine XS.aloadN X0.here hexec rfl (hb hbytes d0) rfl rfl ?_
    exact Steps.refl _)
  obtain ⟨T3, X3, q3, st3⟩ := X0.oinit hexec hown (wks W (objW "java/lang/String" 1)) (g := (mkF m 1 #[.val (.ref a), .val (.ref b), .val (.int (Int32.ofNat o)), .val (.int (Int32.ofNat len)), .val .null, .unset] [.ref a])) rfl (by rw [hml]; rfl) (rest := []) rfl (hb hbytes d1) (W := 0) (by show 2 * 0 + 0 ≤ _; decide) (Nat.le_of_ble_eq_true rfl) (Nat.le_of_ble_eq_true rfl)
  have hh3 := q3.trans hh0
  have c4 : Steps p.tables e below (s₁.setTop (entryFrame m #[.ref a, .ref b, .int (Int32.ofNat o), .int (Int32.ofNat len), .null] 6)) (T3.setTop (mkF m 27 #[.val (.ref a), .val (.ref b), .val (.int (Int32.ofNat o)), .val (.int (Int32.ofNat len)), .val .null, .unset] [])) := (c2.trans (st3 _ (Steps.refl _))).trans (by
    refine XS.iloadN X3.here hexec rfl (hb hbytes d4) rfl ?_
    refine XS.ifYes X3.here hexec rfl (pc0 := 5) rfl (hb hbytes d5) rfl (i0_ne_t (nz32 (by omega) l0)) (by decide) rfl ?_
    exact Steps.refl _)
  obtain ⟨T5, X5, q5, st5⟩ := X3.sget hexec hown (wk W (.fieldLink "java/lang/String" 38 "java/lang/String" "COMPACT_STRINGS" "Z")) s1 (fun _ _ h => by rw [hh3]; exact h) (g := (mkF m 27 #[.val (.ref a), .val (.ref b), .val (.int (Int32.ofNat o)), .val (.int (Int32.ofNat len)), .val .null, .unset] [])) rfl (hb hbytes d27)
  have hh5 := q5.trans hh3
  have c6 : Steps p.tables e below (s₁.setTop (entryFrame m #[.ref a, .ref b, .int (Int32.ofNat o), .int (Int32.ofNat len), .null] 6)) (T5.setTop (mkF m 30 #[.val (.ref a), .val (.ref b), .val (.int (Int32.ofNat o)), .val (.int (Int32.ofNat len)), .val .null, .unset] [.int z])) := c4.trans (st5 _ (Steps.refl _))
  have c7 : Steps p.tables e below (s₁.setTop (entryFrame m #[.ref a, .ref b, .int (Int32.ofNat o), .int (Int32.ofNat len), .null] 6)) (T5.setTop (mkF m 36 #[.val (.ref a), .val (.ref b), .val (.int (Int32.ofNat o)), .val (.int (Int32.ofNat len)), .val .null, .unset] [.int (Int32.ofNat len), .int (Int32.ofNat o), .ref b])) := c6.trans (by
    refine XS.ifNo X5.here hexec rfl (hb hbytes d30) rfl (i0_eq_f hz) ?_
    refine XS.aloadN X5.here hexec rfl (hb hbytes d33) rfl rfl ?_
    refine XS.iloadN X5.here hexec rfl (hb hbytes d34) rfl ?_
    refine XS.iloadN X5.here hexec rfl (hb hbytes d35) rfl ?_
    exact Steps.refl _)
  obtain ⟨v8, T8, X8, E8, g8⟩ := X5.callS hexec (Cmp3.law l b A o len) hown (wks W (staticW "java/lang/String" 177 Cmp3.yN)) (wk W Cmp3.tab) (W := 0) (Nat.le_of_ble_eq_true rfl) (Nat.le_of_ble_eq_true rfl) (Nat.le_refl _) (by show 0 + len ≤ len; omega) (g := (mkF m 36 #[.val (.ref a), .val (.ref b), .val (.int (Int32.ofNat o)), .val (.int (Int32.ofNat len)), .val .null, .unset] [.int (Int32.ofNat len), .int (Int32.ofNat o), .ref b])) rfl (by rw [hml]; rfl) c7 (argsL := [.ref b, .int (Int32.ofNat o), .int (Int32.ofNat len)]) (rest := []) rfl rfl (by show 2 * 0 + 0 ≤ _; decide) (hb hbytes d36) (⟨rfl, hA.mv X5.warmed.alike hh5, l1, l2, hp⟩)
  obtain ⟨e8, z8⟩ := E8
  obtain ⟨rfl, N, n1, n2, n3, n4, n5, n6⟩ := NewArr.mv _ T5 s _ _ hh5.symm (Vm.Alike.refl _) rfl e8
  rw [hh5] at z8
  have hB1 := hB.keep X8.warmed.alike (n6 _ _ hB.1)
  have hne : s.heap.size ≠ a := (Nat.ne_of_lt (Array.getElem?_eq_some_iff.mp hB.1).1).symm
  have c9 : Steps p.tables e below (s₁.setTop (entryFrame m #[.ref a, .ref b, .int (Int32.ofNat o), .int (Int32.ofNat len), .null] 6)) (T8.setTop (mkF m 39 #[.val (.ref a), .val (.ref b), .val (.int (Int32.ofNat o)), .val (.int (Int32.ofNat len)), .val .null, .unset] [.ref s.heap.size])) := g8
  have c10 : Steps p.tables e below (s₁.setTop (entryFrame m #[.ref a, .ref b, .int (Int32.ofNat o), .int (Int32.ofNat len), .null] 6)) (T8.setTop (mkF m 45 #[.val (.ref a), .val (.ref b), .val (.int (Int32.ofNat o)), .val (.int (Int32.ofNat len)), .val .null, .val (.ref s.heap.size)] [.int (Int32.ofNat N.slots.size), .ref s.heap.size, .ref a])) := by
    have hc : Steps p.tables e below (s₁.setTop (entryFrame m #[.ref a, .ref b, .int (Int32.ofNat o), .int (Int32.ofNat len), .null] 6)) (T8.setTop (mkF m 45 #[.val (.ref a), .val (.ref b), .val (.int (Int32.ofNat o)), .val (.int (Int32.ofNat len)), .val .null, .val (.ref s.heap.size)] [.int (Int32.ofNat len), .ref s.heap.size, .ref a])) := c9.trans (by
      refine XS.astore X8.here hexec rfl (hb hbytes d39) rfl rfl rfl ?_
      refine XS.aloadN X8.here hexec rfl (hb hbytes d41) rfl rfl ?_
      refine XS.aload X8.here hexec rfl (hb hbytes d42) rfl rfl ?_
      refine XS.iloadN X8.here hexec rfl (hb hbytes d44) rfl ?_
      exact Steps.refl _)
    rw [n4]; exact hc
  obtain ⟨v11, T11, X11, E11, g11⟩ := X8.callS hexec (CodL.law l s.heap.size N) hown (wks W (staticW "java/lang/String" 47 CodL.yN)) (wk W CodL.tab) (W := 1) (Nat.le_of_ble_eq_true rfl) (Nat.le_of_ble_eq_true rfl) (Nat.le_refl _) (by show 0 + len + 0 ≤ len; omega) (g := (mkF m 45 #[.val (.ref a), .val (.ref b), .val (.int (Int32.ofNat o)), .val (.int (Int32.ofNat len)), .val .null, .val (.ref s.heap.size)] [.int (Int32.ofNat N.slots.size), .ref s.heap.size, .ref a])) rfl (by rw [hml]; rfl) c10 (argsL := [.ref s.heap.size, .int (Int32.ofNat N.slots.size)]) (rest := [.ref a]) rfl rfl (by show 2 * 0 + (1 + 0) ≤ _; decide) (hb hbytes d45) (⟨rfl, n1⟩)
  obtain ⟨rfl, q11⟩ := E11
  have hB11 := hB1.mv (X8.warmed.alike.symm.trans X11.warmed.alike) q11
  have c12 : Steps p.tables e below (s₁.setTop (entryFrame m #[.ref a, .ref b, .int (Int32.ofNat o), .int (Int32.ofNat len), .null] 6)) (T11.setTop (mkF m 48 #[.val (.ref a), .val (.ref b), .val (.int (Int32.ofNat o)), .val (.int (Int32.ofNat len)), .val .null, .val (.ref s.heap.size)] [.int 0, .ref a])) := g11
  obtain ⟨T13, X13, p13, bl13, sl13, st13⟩ := X11.finit hexec hown (wk W (.fieldLink "java/lang/String" 15 "java/lang/String" "coder" "B")) (Or.inr ⟨_, (wk W (.laysFinal "java/lang/String" "java/lang/String" "coder" "B"))⟩) (Or.inl ⟨rfl, hnm⟩) f2 (Or.inl rfl) hB11 (t := .byte) (by decide +kernel) rfl (g := (mkF m 48 #[.val (.ref a), .val (.ref b), .val (.int (Int32.ofNat o)), .val (.int (Int32.ofNat len)), .val .null, .val (.ref s.heap.size)] [.int 0, .ref a])) rfl (rest := []) rfl (hb hbytes d48)
  have c14 : Steps p.tables e below (s₁.setTop (entryFrame m #[.ref a, .ref b, .int (Int32.ofNat o), .int (Int32.ofNat len), .null] 6)) (T13.setTop (mkF m 54 #[.val (.ref a), .val (.ref b), .val (.int (Int32.ofNat o)), .val (.int (Int32.ofNat len)), .val .null, .val (.ref s.heap.size)] [.ref s.heap.size, .ref a])) := (c12.trans (st13 _ (Steps.refl _))).trans (by
    refine XS.aloadN X13.here hexec rfl (hb hbytes d51) rfl rfl ?_
    refine XS.aload X13.here hexec rfl (hb hbytes d52) rfl rfl ?_
    exact Steps.refl _)
  obtain ⟨T15, X15, p15, bl15, sl15, st15⟩ := X13.finit hexec hown (wk W (.fieldLink "java/lang/String" 9 "java/lang/String" "value" "[B")) (Or.inr ⟨_, (wk W (.laysFinal "java/lang/String" "java/lang/String" "value" "[B"))⟩) (Or.inl ⟨rfl, hnm⟩) f1 (Or.inl rfl) bl13 (t := (.array .byte)) (by decide +kernel) rfl (g := (mkF m 54 #[.val (.ref a), .val (.ref b), .val (.int (Int32.ofNat o)), .val (.int (Int32.ofNat len)), .val .null, .val (.ref s.heap.size)] [.ref s.heap.size, .ref a])) rfl (rest := []) rfl (hb hbytes d54)
  have c16 : Steps p.tables e below (s₁.setTop (entryFrame m #[.ref a, .ref b, .int (Int32.ofNat o), .int (Int32.ofNat len), .null] 6)) (T15.setTop (mkF m 57 #[.val (.ref a), .val (.ref b), .val (.int (Int32.ofNat o)), .val (.int (Int32.ofNat len)), .val .null, .val (.ref s.heap.size)] [])) := c14.trans (st15 _ (Steps.refl _))
  have ap := apart (Or.inr ⟨_, (wk W (.laysFinal "java/lang/String" "java/lang/String" "value" "[B"))⟩) (Or.inr ⟨_, (wk W (.laysFinal "java/lang/String" "java/lang/String" "coder" "B"))⟩) f1 f2 (t₁ := .array .byte) (t₂ := .byte) (by decide +kernel) (by decide +kernel) (by decide)
  have al := X8.warmed.alike.symm.trans X15.warmed.alike
  have n7 : T11.heap[s.heap.size]? = some N := by rw [q11]; exact n1.1
  exact ⟨T15, none, _, _, _, X15, by simp, rfl, by omega, (fun _ => rfl), ⟨rfl, _, N, bl15, ((Same.refl D _).set _ (by simp)).set _ (by simp), sl15, (Cell.slots_setSlot_ne _ ap).trans sl13, n1.keep al (p15.other hne (p13.other hne n7)), n2, by rw [al.findClass]; exact n3, n4, n5, fun y c h1 h2 => p15.other h1 (p13.other h1 (by rw [q11]; exact n6 y c h2)), by rw [p15.2.2, p13.2.2, q11]; exact z8⟩, fun fs hl => c16.trans (X15.returnOut hexec hret (hb hbytes d57) hl)⟩
end New4
namespace New1
def yN : MethodName := ⟨"java/lang/String", "<init>", "([C)V"⟩
abbrev yB : ByteArray := jdk_42_method_3_code
theorem d0 : decode yB 0 = .ok (.aload_n 0, 1) := by decide +kernel
theorem d1 : decode yB 1 = .ok (.aload_n 1, 1) := by decide +kernel
theorem d2 : decode yB 2 = .ok (.iconst 0, 1) := by decide +kernel
theorem d3 : decode yB 3 = .ok (.aload_n 1, 1) := by decide +kernel
theorem d4 : decode yB 4 = .ok (.arraylength, 1) := by decide +kernel
theorem d5 : decode yB 5 = .ok (.aconst_null, 1) := by decide +kernel
theorem d6 : decode yB 6 = .ok (.invokespecial 27, 3) := by decide +kernel
theorem d9 : decode yB 9 = .ok (.return_, 1) := by decide +kernel
def site : List Cond := [New4.tab] ++ initW "java/lang/String" 27 New4.yN
def tab : Cond := tabOf yN yB 2 none site
def P (a : Addr) (D : Cell) (fV fC : Field) (b : Addr) (A : Cell) (z : Int32) (args : Array Value) (s : State) : Prop := args = #[.ref a, .ref b] ∧ Blank "java/lang/String" a D s ∧ Found "java/lang/String" "value" "[B" fV s ∧ Found "java/lang/String" "coder" "B" fC s ∧ Ch b A s ∧ StaticIs s "java/lang/String" "COMPACT_STRINGS" "Z" (.int z) ∧ ¬ z = 0 ∧ 0 < A.slots.size ∧ A.slots.size ≤ 536870912 ∧ ∀ i, i < A.slots.size → ¬ 255 < cv A i
def E (a : Addr) (D : Cell) (fV fC : Field) (A : Cell) (r : Option Value) (s u : State) : Prop := Got a D fV fC A 0 A.slots.size r s u
/-- new String(chars), not empty, no char above 255: a Latin-1 String of their low bytes -/
theorem law (l : Launch) (a : Addr) (D : Cell) (fV fC : Field) (b : Addr) (A : Cell) (z : Int32) : Law l yN 2 1 3 52 yB 2 none site (P a D fV fC b A z) (E a D fV fC A) [⟨a, fC.slot⟩, ⟨a, fV.slot⟩] 1 A.slots.size := by
  refine Law.of_walk (plainFor_of_name (by decide +kernel)) (by decide +kernel) (by decide +kernel) (by decide) (fun _ _ h => by rw [h.1]; rfl) (fun _ U U' hal hh h => ⟨h.1, h.2.1.mv hal hh, h.2.2.1.al hal, h.2.2.2.1.al hal, h.2.2.2.2.1.mv hal hh, h.2.2.2.2.2.1.there hal hh, h.2.2.2.2.2.2⟩) (fun r U U' V V' h1 hal h2 h => Got.mv r U U' V V' h1 hal h2 h) ?_
  intro p e s m args below meth c s₁ X0 hexec hbytes hml hret hlk hnm hown hh0 W hP
  obtain ⟨rfl, hB, f1, f2, hA, s1, hz, l0, l2, hp⟩ := hP
  have c1 : Steps p.tables e below (s₁.setTop (entryFrame m #[.ref a, .ref b] 2)) (s₁.setTop (mkF m 0 #[.val (.ref a), .val (.ref b)] [])) := entry rfl
  have c2 : Steps p.tables e below (s₁.setTop (entryFrame m #[.ref a, .ref b] 2)) (s₁.setTop (mkF m 6 #[.val (.ref a), .val (.ref b)] [.null, .int (Int32.ofNat A.slots.size), .int 0, .ref b, .ref a])) := c1.trans (by
    refine XS.aloadN X0.here hexec rfl (hb hbytes d0) rfl rfl ?_
    refine XS.aloadN X0.here hexec rfl (hb hbytes d1) rfl rfl ?_
    refine iconstV X0.here hexec rfl 0 (hb hbytes d2) (by decide) ?_
    refine XS.aloadN X0.here hexec rfl (hb hbytes d3) rfl rfl ?_
    refine X0.alen hexec (hA.1.mv X0.warmed.alike hh0) rfl rfl (hb hbytes d4) ?_
    refine XS.aconstNull X0.here hexec rfl (hb hbytes d5) ?_
    exact Steps.refl _)
  obtain ⟨v3, T3, X3, E3, g3⟩ := X0.callN hexec (New4.law l a D fV fC b A z 0 A.slots.size) rfl hown (wks W (initW "java/lang/String" 27 New4.yN)) (W New4.tab (by simp only [site, List.mem_cons, List.mem_append, true_or, or_true])) (W := 0) (Nat.le_of_ble_eq_true rfl) (Nat.le_of_ble_eq_true rfl) (Nat.le_refl _) (by show 0 + A.slots.size ≤ A.slots.size; omega) (g := (mkF m 6 #[.val (.ref a), .val (.ref b)] [.null, .int (Int32.ofNat A.slots.size), .int (Int32.ofNat 0), .ref b, .ref a])) rfl (by rw [hml]; rfl) c2 (argsL := [.ref b, .int (Int32.ofNat 0), .int (Int32.ofNat A.slots.size), .null]) (rest := []) rfl rfl (by show 2 * 0 + 0 ≤ _; decide) (hb hbytes d6) (⟨rfl, hB.mv X0.warmed.alike hh0, f1.al X0.warmed.alike, f2.al X0.warmed.alike, hA.mv X0.warmed.alike hh0, s1.there X0.warmed.alike hh0, hz, l0, by omega, l2, fun i hi => by rw [Nat.zero_add]; exact hp i hi⟩)
  have e0 := Got.mv _ s₁ s _ _ hh0.symm (Vm.Alike.refl _) rfl E3
  obtain rfl := e0.1
  have c4 : Steps p.tables e below (s₁.setTop (entryFrame m #[.ref a, .ref b] 2)) (T3.setTop (mkF m 9 #[.val (.ref a), .val (.ref b)] [])) := g3
  exact ⟨T3, none, _, _, _, X3, by simp, rfl, by omega, (fun _ => rfl), e0, fun fs hl => c4.trans (X3.returnOut hexec hret (hb hbytes d9) hl)⟩
theorem pays {l : Launch} {R : Room} {p : Program} {e : Env} {below : List Frame} {s : State} {sargs : Array Value} {len W : Nat} (a : Addr) (D : Cell) (fV fC : Field) (b : Addr) (A : Cell) (z : Int32) (htab : tab.before sargs s = true) (hfr : 4 ≤ R.frames) (hlo : W + 65 ≤ R.locals) :
    Back l R p e below s sargs yN len W (fun A₁ a₁ => A₁.cells + 1 ≤ R.cells ∧ A₁.slots + A.slots.size ≤ R.slots ∧ P a D fV fC b A z a₁ A₁.U) (fun A₁ _ v₁ B₁ => E a D fV fC A v₁ A₁.U B₁.U ∧ B₁.locs = A₁.locs ++ [⟨a, fC.slot⟩, ⟨a, fV.slot⟩] ∧ B₁.cells = A₁.cells + 1 ∧ B₁.slots = A₁.slots + A.slots.size) :=
  (law l a D fV fC b A z).pays htab hfr (by omega)
end New1
end StrChars
namespace StrChars.Road
open Jvm Sem ClassFile Op Lib Jvm.Stand Jvm.Free Jvm.Free.XT
open Jvm.Lib.Cold (StaticIs)
abbrev ST : String := "java/lang/String"
/-- every table word that New1's law asks, flat -/
abbrev words : List Jvm.Cond := [.code New1.yN New1.yB 2 none, .initialized ST, .methodLink ST 27 New4.yN, .instanceMethod New4.yN,
  .code New4.yN New4.yB 6 none, .fieldLink ST 38 ST "COMPACT_STRINGS" "Z", .laysFinal ST ST "value" "[B", .fieldLink ST 9 ST "value" "[B", .laysFinal ST ST "coder" "B", .fieldLink ST 15 ST "coder" "B",
  .methodLink ST 1 Lib.objectInit, .instanceMethod Lib.objectInit, .code Lib.objectInit ⟨#[0xb1]⟩ 1 none, .methodLink ST 177 Cmp3.yN, .static Cmp3.yN, .methodLink ST 47 CodL.yN, .static CodL.yN,
  .code Cmp3.yN Cmp3.yB 6 (some (.array .byte)), .initialized U16, .arrayClass .byte, .methodLink U16 115 Cmp5.yN, .static Cmp5.yN, .code Cmp5.yN Cmp5.yB 7 (some .int), .code CodL.yN CodL.yB 2 (some .byte)]
theorem tab_of {a : Array Value} {s : State} (h : ∀ w ∈ words, w.before a s = true) : New1.tab.before a s = true := by
  have h5 : Cmp5.tab.before a s = true := unparts (wk h (.code Cmp5.yN Cmp5.yB 7 (some .int))) (wks h (.initialized Cmp5.yN.cls :: Cmp5.site))
  have hc : CodL.tab.before a s = true := unparts (wk h (.code CodL.yN CodL.yB 2 (some .byte))) (wks h (.initialized CodL.yN.cls :: CodL.site))
  have q5 : ∀ w ∈ Cmp5.tab :: words, w.before a s = true := fun w hw => (List.mem_cons.mp hw).elim (fun e => e ▸ h5) (h w)
  have h3 : Cmp3.tab.before a s = true := unparts (wk q5 (.code Cmp3.yN Cmp3.yB 6 (some (.array .byte)))) (wks q5 (.initialized Cmp3.yN.cls :: Cmp3.site))
  have q3 : ∀ w ∈ Cmp3.tab :: CodL.tab :: words, w.before a s = true := fun w hw => (List.mem_cons.mp hw).elim (fun e => e ▸ h3) fun hw => (List.mem_cons.mp hw).elim (fun e => e ▸ hc) (h w)
  have h4 : New4.tab.before a s = true := unparts (wk q3 (.code New4.yN New4.yB 6 none)) (wks q3 (.initialized New4.yN.cls :: New4.site))
  have q4 : ∀ w ∈ New4.tab :: words, w.before a s = true := fun w hw => (List.mem_cons.mp hw).elim (fun e => e ▸ h4) (h w)
  exact unparts (wk q4 (.code New1.yN New1.yB 2 none)) (wks q4 (.initialized New1.yN.cls :: New1.site))
/-- the words ride from the start Z to the walk's own state -/
theorem moved {Z s : State} {a0 args : Array Value} (hZ : Z.Warmed39 s.vm) (hw : ∀ d ∈ words, d.before a0 Z = true) : ∀ d ∈ words, d.before args s = true := fun d hd => by
  have q := hw d hd
  have t : ∀ d ∈ words, d = .arrayClass .byte ∨ (d.onTables && d.keepsFace) = true := by decide +kernel
  rcases t d hd with rfl | t
  · exact RoadKit.mvA hZ q
  · exact RoadKit.mv hZ q t
/-- WHAT COMES BACK, over the tables of the start Z: h the heap at the call, h' behind it -/
def Q (Z : State) (x : Addr) (A : Cell) (h : Heap) (v : Option Value) (h' : Heap) (L : List Loc) : Prop := v = none ∧ (∀ y ∈ L, y.base = x) ∧ RoadKit.Keep h h' [x] ∧ h'.size = h.size + 1 ∧ RoadKit.Exa Z h' x ST ∧ RoadKit.Fld Z h' x ST "value" "[B" (.ref h.size) ∧ RoadKit.Fld Z h' x ST "coder" "B" (.int 0) ∧
  (∃ V : Cell, RoadKit.Arr Z h' h.size V .byte ∧ V.vm = .none ∧ Z.vm.findClass "[B" = some V.cls ∧ V.slots.size = A.slots.size ∧ ∀ j, j < A.slots.size → V.slots[j]? = some (.int (lo8 (cv A j)))) ∧
  ∀ (O n d : String) (w : Value), RoadKit.Fld Z h x O n d w → RoadKit.slotOf Z O n d ≠ RoadKit.slotOf Z ST "value" "[B" → RoadKit.slotOf Z O n d ≠ RoadKit.slotOf Z ST "coder" "B" → RoadKit.Fld Z h' x O n d w
/-- **new String(chars) AT A CALL, IN THE ROAD'S FORM**: for specialBack behind newO: x the fresh String, b the char[] with the cell A -/
theorem back {p : Program} {l : Launch} {e : Env} {R : Room} {s : State} {args : Array Value} {below : List Frame} {len W : Nat} {Z : State} {a0 : Array Value} {h : Heap} (hZ : Z.Warmed39 s.vm) (hw : ∀ d ∈ words, d.before a0 Z = true) {kI : Nat} (wi : (Jvm.Cond.instantiable ST kI).before a0 Z = true)
    {x b : Addr} {A : Cell} {z : Int32} {v0 c0 : Value} (E : RoadKit.Exa Z h x ST) (V : RoadKit.Fld Z h x ST "value" "[B" v0) (C : RoadKit.Fld Z h x ST "coder" "B" c0) (K : RoadKit.Arr Z h b A .char) (hty : Typed .char A) (S : RoadKit.Sta Z h ST "COMPACT_STRINGS" "Z" (.int z)) (hz : ¬ z = 0)
    (l0 : 0 < A.slots.size) (l2 : A.slots.size ≤ 536870912) (hp : ∀ i, i < A.slots.size → ¬ 255 < cv A i) (hfr : 4 ≤ R.frames) (hlo : W + 65 ≤ R.locals) :
    Back l R p e below s args New1.yN len W (fun P a => a = #[.ref x, .ref b] ∧ P.U.heap = h ∧ P.cells + 1 ≤ R.cells ∧ P.slots + A.slots.size ≤ R.slots)
      (fun P _ v B => ∃ L, Q Z x A h v B.U.heap L ∧ B.locs = P.locs ++ L ∧ B.cells = P.cells + 1 ∧ B.slots = P.slots + A.slots.size) := by
  intro m meth c P g ig mk a X hg hsize hdg hW hn hp'
  obtain ⟨rfl, rfl, r1, r2⟩ := hp'
  have al : Z.vm.Alike P.U.vm := hZ.alike.trans X.warmed.alike
  obtain ⟨D, cfV, kV, iV, fV, hD, gV, stV, knV, obV, asV, slV⟩ := id V
  obtain ⟨D', cfC, kC, iC, fC, hD', gC, stC, -, -, asC, slC⟩ := id C
  cases hD.symm.trans hD'
  obtain ⟨D2, kD, e1, e2, e3, e4, e5⟩ := id E
  cases hD.symm.trans e1
  obtain ⟨c2, k2, i1, i2, i3, -⟩ := Cond.instantiable_spec wi
  cases e2.symm.trans i1
  cases e3.symm.trans i2
  obtain ⟨kU, u1, u2⟩ := al.2.2 _ _ e3
  have hB : Blank ST x D P.U := ⟨hD, ⟨knV, fun q hq => by rw [hq] at obV; cases obV⟩, by rw [al.findClass]; exact e2, kU, u1, by rw [u2]; exact i3, by rw [u2]; exact e5 i3⟩
  have F1 : Found ST "value" "[B" fV P.U := ⟨SBG.found_only al ⟨cfV, kV, iV, gV⟩, stV⟩
  have F2 : Found ST "coder" "B" fC P.U := ⟨SBG.found_only al ⟨cfC, kC, iC, gC⟩, stC⟩
  have hA : Ch b A P.U := ⟨⟨K.1, State.isArrayOf_alike al K.2.1, K.2.2, by omega⟩, hty⟩
  have hS : StaticIs P.U ST "COMPACT_STRINGS" "Z" (.int z) := by
    obtain ⟨cfS, iS, kS, fS, st, cS, t1, t2, t3, t4, t5, t6, t7⟩ := S
    exact StaticIs.there (s := { Z with heap := P.U.heap }) ⟨cfS, iS, kS, fS, st, cS, t1, t2, t3, t4, t5, (fun q => by rw [q] at t6; cases t6), t7⟩ al rfl
  obtain ⟨v, B, X', ⟨⟨hv, E', V', q1, q2, q3, q4, q5, q6, q7, q8, q9, q10, q11⟩, hl, hc, hs⟩, st⟩ := New1.pays x D fV fC b A z (tab_of (moved hZ hw)) hfr hlo m meth c P g ig mk _ X hg hsize hdg hW hn ⟨r1, r2, rfl, hB, F1, F2, hA, hS, hz, l0, l2, hp⟩
  have al' : Z.vm.Alike B.U.vm := hZ.alike.trans X'.warmed.alike
  have hsz : E'.slots.size = D.slots.size := by
    obtain ⟨-, -, -, kB, w1, w2, w3⟩ := q1
    obtain ⟨kB', y1, y2⟩ := al'.2.2 _ _ e3
    rw [q2.2.1] at w1
    cases w1.symm.trans y1
    rw [w3, e5 i3, y2]
  refine ⟨v, B, X', ⟨_, ⟨hv, ?_, ⟨by omega, fun y cy hy hn' => q10 y cy (by simpa using hn') hy, fun y cy hy => ?_⟩, q11, ⟨E', _, q1.1, by rw [q2.2.1]; exact e2, by rw [q2.2.1]; exact e3, by rw [q2.1]; exact obV, fun _ => by rw [hsz]; exact e5 i3⟩,
    ⟨E', cfV, kV, iV, fV, q1.1, gV, stV, by rw [q2.1]; exact knV, by rw [q2.1]; exact obV, by rw [q2.2.1]; exact asV, q3⟩, ⟨E', cfC, kC, iC, fC, q1.1, gC, stC, by rw [q2.1]; exact knV, by rw [q2.1]; exact obV, by rw [q2.2.1]; exact asC, q4⟩,
    ⟨V', ⟨q5.1, State.isArrayOf_alike al'.symm q5.2.1, q5.2.2.1⟩, q6, by rw [← al'.findClass]; exact q7, q8, fun j hj => by have := q9 j hj; rwa [Nat.zero_add] at this⟩, fun O n d w F n1 n2 => ?_⟩, hl, hc, hs⟩, st⟩
  · intro y hy
    simp only [List.mem_cons, List.not_mem_nil, or_false] at hy
    rcases hy with rfl | rfl <;> rfl
  · by_cases q : y = x
    · subst q
      cases hD.symm.trans hy
      exact ⟨E', q1.1, q2.2.1, q2.1, hsz⟩
    · exact ⟨cy, q10 y cy q hy, rfl, rfl, rfl⟩
  · obtain ⟨D3, cf, k, i, f, g1, g2, g3, g4, g5, g6, g7⟩ := F
    cases hD.symm.trans g1
    simp only [RoadKit.slotOf, g2, gV, gC, Option.map_some, Option.getD_some] at n1 n2
    exact ⟨E', cf, k, i, f, q1.1, g2, g3, by rw [q2.1]; exact g4, by rw [q2.1]; exact g5, by rw [q2.2.1]; exact g6, by rw [q2.2.2 f.slot (by simp [n1, n2])]; exact g7⟩
end StrChars.Road
namespace StrChars.Road
open Jvm Sem ClassFile Op Lib Jvm.Stand Jvm.Free Jvm.Free.XT
/-- WHAT COMES BACK, the byte[] as a list of values -/
def QA (Z : State) (x : Addr) (zn : Int32) (cs : List Int32) (h : Heap) (v : Option Value) (h' : Heap) (L : List Loc) : Prop := v = none ∧ (∀ y ∈ L, y.base = x) ∧ RoadKit.Keep h h' [x] ∧ h'.size = h.size + 1 ∧ RoadKit.Exa Z h' x ST ∧ RoadKit.Fld Z h' x ST "value" "[B" (.ref h.size) ∧ RoadKit.Fld Z h' x ST "coder" "B" (.int 0) ∧
  (∃ kb, Z.vm.findClass "[B" = some kb ∧ RoadKit.Arv Z h' h.size kb .byte zn (cs.map fun c => .int (lo8 c)) (.int 0)) ∧
  ∀ (O n d : String) (w : Value), RoadKit.Fld Z h x O n d w → RoadKit.slotOf Z O n d ≠ RoadKit.slotOf Z ST "value" "[B" → RoadKit.slotOf Z O n d ≠ RoadKit.slotOf Z ST "coder" "B" → RoadKit.Fld Z h' x O n d w
/-- **new String(chars) AT A CALL, THE ARRAYS AS LISTS**: the char[] at b holds cs, not empty, no char above 255 -/
theorem backArv {p : Program} {l : Launch} {e : Env} {R : Room} {s : State} {args : Array Value} {below : List Frame} {len W : Nat} {Z : State} {a0 : Array Value} {h : Heap} (hZ : Z.Warmed39 s.vm) (hw : ∀ d ∈ words, d.before a0 Z = true) {kI : Nat} (wi : (Jvm.Cond.instantiable ST kI).before a0 Z = true)
    {x b : Addr} {k : ClassId} {zn z : Int32} {cs : List Int32} {dv v0 c0 : Value} (E : RoadKit.Exa Z h x ST) (V : RoadKit.Fld Z h x ST "value" "[B" v0) (C : RoadKit.Fld Z h x ST "coder" "B" c0) (K : RoadKit.Arv Z h b k .char zn (cs.map Value.int) dv) (S : RoadKit.Sta Z h ST "COMPACT_STRINGS" "Z" (.int z)) (hz : ¬ z = 0)
    (hlen : zn.toNatClampNeg = cs.length) (h0 : 0 < cs.length) (hbig : cs.length ≤ 536870912) (hall : ∀ c ∈ cs, ¬ 255 < c) (hfr : 4 ≤ R.frames) (hlo : W + 65 ≤ R.locals) :
    Back l R p e below s args New1.yN len W (fun P a => a = #[.ref x, .ref b] ∧ P.U.heap = h ∧ P.cells + 1 ≤ R.cells ∧ P.slots + cs.length ≤ R.slots)
      (fun P _ v B => ∃ L, QA Z x zn cs h v B.U.heap L ∧ B.locs = P.locs ++ L ∧ B.cells = P.cells + 1 ∧ B.slots = P.slots + cs.length) := by
  obtain ⟨A, K1, K2, K3, K4, K5, K6⟩ := K
  have e : A.slots.size = cs.length := K3.trans hlen
  have hat : ∀ (i : Nat) (hi : i < cs.length), A.slots[i]? = some (.int cs[i]) := fun i hi => by rw [K5 i (by omega)]; simp [List.getD_eq_getElem?_getD, hi]
  have hcv : ∀ (i : Nat) (hi : i < cs.length), cv A i = cs[i] := fun i hi => by unfold cv; rw [hat i hi]
  have hty : Typed .char A := fun i v hv => by
    have hi : i < A.slots.size := (Array.getElem?_eq_some_iff.mp hv).1
    have q := K5 i hi
    rw [hv] at q
    rw [Option.some.inj q]
    exact K6 i hi
  refine Back.mono (back hZ hw wi E V C K1 hty S hz (by omega) (by omega) (fun i hi => by rw [hcv i (by omega)]; exact hall _ (List.getElem_mem _)) hfr hlo) (fun P a hp => ⟨hp.1, hp.2.1, hp.2.2.1, by rw [e]; exact hp.2.2.2⟩) (fun P a v B hp hq => ?_)
  obtain ⟨L, ⟨q1, q2, q3, q4, q5, q6, q7, ⟨V', v1, v2, v3, v4, v5⟩, q9⟩, hl, hc, hs⟩ := hq
  refine ⟨L, ⟨q1, q2, q3, q4, q5, q6, q7, ⟨V'.cls, v3, V', v1, rfl, by rw [v4, e, hlen], K4, fun i hi => ?_, fun i hi => ?_⟩, q9⟩, hl, hc, by rw [hs, e]⟩
  · have hi' : i < cs.length := by omega
    rw [v5 i (by omega), hcv i hi']; simp [List.getD_eq_getElem?_getD, hi']
  · have hi' : i < cs.length := by omega
    simp only [List.getD_eq_getElem?_getD, List.getElem?_map, List.getElem?_eq_getElem hi', Option.map_some, Option.getD_some]
    exact fits_lo8 _
end StrChars.Road
namespace StrChars.Road
open Jvm Sem ClassFile Op Lib Jvm.Stand Jvm.Free Jvm.Free.XT
/-- WHAT COMES BACK, in the writer's own shape -/
def QV (Z : State) (x : Addr) (N : Int32) (bs : List Int32) (h : Heap) (n0 : Nat) (v : Option Value) (h' : Heap) (L : List Loc) : Prop := v = none ∧ RoadKit.Fr n0 L ∧ RoadKit.Keep h h' [x] ∧ RoadKit.Exa Z h' x ST ∧ RoadKit.Fld Z h' x ST "coder" "B" (.int 0) ∧
  ∃ (t : Addr) (kb : ClassId), n0 ≤ t ∧ h.size ≤ t ∧ ¬ t = x ∧ RoadKit.Fld Z h' x ST "value" "[B" (.ref t) ∧ RoadKit.Arv Z h' t kb .byte N (bs.map Value.int) (.int 0)
/-- **new String(chars) AT A CALL, FOR THE WRITER**: a char[] of n known ints, each 0 to 255 -/
theorem backV {p : Program} {l : Launch} {e : Env} {R : Room} {s : State} {args : Array Value} {below : List Frame} {len W : Nat} {Z : State} {a0 : Array Value} {h : Heap} (hZ : Z.Warmed39 s.vm) (hw : ∀ d ∈ words, d.before a0 Z = true) {kI : Nat} (wi : (Jvm.Cond.instantiable ST kI).before a0 Z = true)
    {x b : Addr} {kC : ClassId} {cs bs : List Int32} {d v0 c0 : Value} {z N : Int32} {n n0 : Nat} (hx0 : n0 ≤ x) (hh0 : n0 ≤ h.size) (E : RoadKit.Exa Z h x ST) (V : RoadKit.Fld Z h x ST "value" "[B" v0) (C : RoadKit.Fld Z h x ST "coder" "B" c0) (K : RoadKit.Arv Z h b kC .char N (cs.map Value.int) d) (S : RoadKit.Sta Z h ST "COMPACT_STRINGS" "Z" (.int z)) (hz : ¬ z = 0)
    (hn : cs.length = n) (hN : N = Int32.ofNat n) (l0 : 0 < n) (l2 : n ≤ 4000) (hp : ∀ c ∈ cs, ¬ c < 0 ∧ ¬ (255 : Int32) < c) (hb : bs = cs.map (fun c => c.toInt8.toInt32)) (hfr : 4 ≤ R.frames) (hlo : W + 65 ≤ R.locals) :
    Back l R p e below s args (⟨"java/lang/String", "<init>", "([C)V"⟩ : MethodName) len W (fun P a => a = #[.ref x, .ref b] ∧ P.U.heap = h ∧ P.cells + 1 ≤ R.cells ∧ P.slots + n ≤ R.slots)
      (fun P _ v B => ∃ L, QV Z x N bs h n0 v B.U.heap L ∧ B.locs = P.locs ++ L ∧ B.cells = P.cells + 1 ∧ B.slots = P.slots + n) := by
  subst hn hN hb
  refine Back.mono (backArv hZ hw wi E V C K S hz (n32 (by omega)) l0 (by omega) (fun c hc => (hp c hc).2) hfr hlo) (fun P a hp => hp) (fun P a v B hp hq => ?_)
  obtain ⟨L, ⟨q1, q2, q3, q4, q5, q6, q7, ⟨kb, v1, v2⟩, q9⟩, hl, hc, hs⟩ := hq
  exact ⟨L, ⟨q1, fun y hy => by rw [q2 y hy]; exact hx0, q3, q5, q7, h.size, kb, hh0, Nat.le_refl _, Nat.ne_of_gt E.lt, q6, by rw [List.map_map]; exact v2⟩, hl, hc, hs⟩
end StrChars.Road
end Jvm.Pilot.@@N@@
namespace Jvm.Pilot.@@N@@
open Jvm Jvm.ClassFile Sem Op Lib Jvm.Free Jvm.Stand Jvm.LawKit Jvm.RoadKit Jvm.Own Bundle Jvm.Pilot.@@N@@.Jvm.D
def Ctx (Z : State) (a0 : Array Value) (cz : Int32) (fm : Value) (tk : Addr) : Prop := (∀ d ∈ tables_1, d.before a0 Z = true) ∧ EW Z a0 consts_1 ∧ Sta Z Z.heap "java/lang/String" "COMPACT_STRINGS" "Z" (.int cz) ∧ ¬ cz = 0 ∧ Sta Z Z.heap "jdk/internal/util/Preconditions" "SIOOBE_FORMATTER" "Ljava/util/function/BiFunction;" fm ∧ fm.isRef = true ∧ Sta Z Z.heap "com/example/vouchgate/vouchgate/gate/Answer$Outcome" "TICKET" "Lcom/example/vouchgate/vouchgate/gate/Answer$Outcome;" (.ref tk)
theorem own_pdC : parseMethodDescriptor "([C)V" = some ⟨[.array .char], none⟩ := by decide +kernel
theorem own_lo8 (v : Int32) : (v.toInt8.toInt32).toInt8.toInt32 = v.toInt8.toInt32 := by simp
theorem own_wS {Z : State} {a0 : Array Value} (hw : ∀ d ∈ tables_1, d.before a0 Z = true) : ∀ d ∈ Bundle.stringAtoms, d.before a0 Z = true := fun d hd => hw d ((by decide +kernel : ∀ d ∈ Bundle.stringAtoms, d ∈ tables_1) d hd)
theorem own_words {Z : State} {a0 : Array Value} (hw : ∀ d ∈ tables_1, d.before a0 Z = true) : ∀ d ∈ StrChars.Road.words, d.before a0 Z = true := fun d hd => hw d ((by decide +kernel : ∀ d ∈ StrChars.Road.words, d ∈ tables_1) d hd)
theorem own_newStr {l : Launch} {Z : State} {a0 : Array Value} {cz : Int32} {fm : Value} {tk : Addr} (H : Ctx Z a0 cz fm tk) {p : Program} {e : Env} {R : Room} {s : State} {m : MethodId} {args : Array Value} {below : List Frame} {meth : Method} {c : Code} {own : String} {vm0 : Vm} {T : State} {h : Heap} {k n : Nat} {G : Outcome → State → Prop} {pc : Nat} {Ls : Array Slot} {rest : List Value}
    (X : OSt p l e R s m args below meth c own Z consts_1 vm0 T h k n) {x b : Addr} {kC : ClassId} {cs : List Int32} {d : Value} {N : Int32} {j : Nat} (hx0 : Z.heap.size ≤ x) (E : Exa Z h x "java/lang/String") (V : Fld Z h x "java/lang/String" "value" "[B" .null) (C : Fld Z h x "java/lang/String" "coder" "B" (.int (0 : Int32))) (K : Arv Z h b kC .char N (cs.map Value.int) d)
    (hN : N = Int32.ofNat cs.length) (hj : cs.length = j) (l0 : 0 < j) (l2 : j ≤ 4000) (hp : ∀ c ∈ cs, ¬ c < 0 ∧ ¬ (255 : Int32) < c) {index : Nat} (w1 : (Jvm.Cond.methodLink own index ⟨"java/lang/String", "<init>", "([C)V"⟩).before a0 Z = true) {W : Nat} (hfr : 4 ≤ R.frames) (hlo : W + 65 ≤ R.locals) (hsize : Ls.size = c.maxLocals) (hW : (rest.map fun v => v.category).sum ≤ W) (hd : decode c.code pc = .ok (.invokespecial index, 3)) (hk : k + 1 ≤ R.cells) (hn : n + j ≤ R.slots)
    (q : ∀ T' h', OSt p l e R s m args below meth c own Z consts_1 vm0 T' h' (k + 1) (n + j) → Keep h h' [x] → OStr Z h' x cs → OEnds p e below G T' (mkF m (pc + 3) Ls rest)) : OEnds p e below G T (mkF m pc Ls (.ref b :: .ref x :: rest)) := by
  obtain ⟨hw, hE, S0, hcz, -⟩ := id H
  refine X.payI (StrChars.Road.backV (W := W) (n0 := Z.heap.size) (s := s.setVm vm0) X.hZ (own_words hw) (kI := 4) (hw _ (List.mem_of_getElem? (i := 10) rfl)) (cs := cs) (bs := cs.map (fun c => c.toInt8.toInt32)) (n := j) hx0 X.old.1 E V C K (S0.ext X.old) hcz hj (by rw [hN, hj]) l0 l2 hp rfl hfr hlo) ?_ w1 (hw _ (List.mem_of_getElem? (i := 67) rfl)) (hw _ (List.mem_of_getElem? (i := 68) rfl)) rfl (by decide) (a := x) (argsL := [.ref b]) (rest := rest) rfl (lenOf own_pdC rfl) rfl hsize hW hd hk hn ?_
  · rintro v h' L ⟨q1, q2, q3, -⟩
    exact ⟨q2, ext_keep X.old q3 (allS hx0 all0), CHr.keep q3 (sfS (safe_blank X.al E V) sf0) X.chv⟩
  · rintro v T' h' L X' ⟨rfl, q2, q3, q4, q5, t, kb, -, -, -, q9, q10⟩
    subst hj
    exact q T' h' X' q3 ⟨q4, q5, ⟨t, kb, q9, by rw [hN] at q10; exact q10⟩, hp, l2⟩
theorem own_pn0 : plainName "java/lang/String" = true := by first | (simp [plainName, overriddenIn]; done) | decide +kernel
theorem own_ef0 (m : MethodId) (x0 : Addr) (x1 : Addr) (x2 : Int32) (x3 : Int32)  : entryFrame m #[(.ref x0), (.ref x1), (.int x2), (.int x3), (.null)] 6 = mkF m 0 #[.val (.ref x0), .val (.ref x1), .val (.int x2), .val (.int x3), .val (.null), .unset] [] := by first | rfl | (simp [entryFrame, mkF, argsToLocals, Value.category]; done)
theorem d_jdk_42_method_149_0 : decode jdk_42_method_149_code 0 = .ok (.aload_n 0, 1) := by decide +kernel
theorem d_jdk_42_method_149_1 : decode jdk_42_method_149_code 1 = .ok (.invokespecial 1, 3) := by decide +kernel
theorem d_jdk_42_method_149_4 : decode jdk_42_method_149_code 4 = .ok (.iload_n 3, 1) := by decide +kernel
theorem d_jdk_42_method_149_5 : decode jdk_42_method_149_code 5 = .ok (.ifCond .ne 22, 3) := by decide +kernel
theorem d_jdk_42_method_149_8 : decode jdk_42_method_149_code 8 = .ok (.aload_n 0, 1) := by decide +kernel
theorem d_jdk_42_method_149_9 : decode jdk_42_method_149_code 9 = .ok (.ldc 7, 2) := by decide +kernel
theorem d_jdk_42_method_149_11 : decode jdk_42_method_149_code 11 = .ok (.getfield 9, 3) := by decide +kernel
theorem d_jdk_42_method_149_14 : decode jdk_42_method_149_code 14 = .ok (.putfield 9, 3) := by decide +kernel
theorem d_jdk_42_method_149_17 : decode jdk_42_method_149_code 17 = .ok (.aload_n 0, 1) := by decide +kernel
theorem d_jdk_42_method_149_18 : decode jdk_42_method_149_code 18 = .ok (.ldc 7, 2) := by decide +kernel
theorem d_jdk_42_method_149_20 : decode jdk_42_method_149_code 20 = .ok (.getfield 15, 3) := by decide +kernel
theorem d_jdk_42_method_149_23 : decode jdk_42_method_149_code 23 = .ok (.putfield 15, 3) := by decide +kernel
theorem d_jdk_42_method_149_26 : decode jdk_42_method_149_code 26 = .ok (.return_, 1) := by decide +kernel
theorem own_ef1 (m : MethodId) (x0 : Addr) (x1 : Addr)  : entryFrame m #[(.ref x0), (.ref x1)] 2 = mkF m 0 #[.val (.ref x0), .val (.ref x1)] [] := by first | rfl | (simp [entryFrame, mkF, argsToLocals, Value.category]; done)
theorem d_jdk_42_method_3_0 : decode jdk_42_method_3_code 0 = .ok (.aload_n 0, 1) := by decide +kernel
theorem d_jdk_42_method_3_1 : decode jdk_42_method_3_code 1 = .ok (.aload_n 1, 1) := by decide +kernel
theorem d_jdk_42_method_3_2 : decode jdk_42_method_3_code 2 = .ok (.iconst 0, 1) := by decide +kernel
theorem d_jdk_42_method_3_3 : decode jdk_42_method_3_code 3 = .ok (.aload_n 1, 1) := by decide +kernel
theorem d_jdk_42_method_3_4 : decode jdk_42_method_3_code 4 = .ok (.arraylength, 1) := by decide +kernel
theorem d_jdk_42_method_3_5 : decode jdk_42_method_3_code 5 = .ok (.aconst_null, 1) := by decide +kernel
theorem own_pd0 : parseMethodDescriptor "([CIILjava/lang/Void;)V" = some ⟨[(FieldType.array FieldType.char), FieldType.int, FieldType.int, (FieldType.object "java/lang/Void")], none⟩ := by decide +kernel
theorem d_jdk_42_method_3_6 : decode jdk_42_method_3_code 6 = .ok (.invokespecial 27, 3) := by decide +kernel
theorem d_jdk_42_method_3_9 : decode jdk_42_method_3_code 9 = .ok (.return_, 1) := by decide +kernel
theorem own_pn1 : plainName "java/lang/StringLatin1" = true := by first | (simp [plainName, overriddenIn]; done) | decide +kernel
theorem own_ef2 (m : MethodId) (x0 : Int32)  : entryFrame m #[(.int x0)] 1 = mkF m 0 #[.val (.int x0)] [] := by first | rfl | (simp [entryFrame, mkF, argsToLocals, Value.category]; done)
theorem d_jdk_43_method_3_0 : decode jdk_43_method_3_code 0 = .ok (.iload_n 0, 1) := by decide +kernel
theorem d_jdk_43_method_3_1 : decode jdk_43_method_3_code 1 = .ok (.sipush 255, 3) := by decide +kernel
theorem d_jdk_43_method_3_4 : decode jdk_43_method_3_code 4 = .ok (.if_icmp .gt 7, 3) := by decide +kernel
theorem d_jdk_43_method_3_7 : decode jdk_43_method_3_code 7 = .ok (.iconst 1, 1) := by decide +kernel
theorem d_jdk_43_method_3_8 : decode jdk_43_method_3_code 8 = .ok (.goto 4, 3) := by decide +kernel
theorem d_jdk_43_method_3_12 : decode jdk_43_method_3_code 12 = .ok (.ireturn, 1) := by decide +kernel
theorem d_jdk_43_method_46_0 : decode jdk_43_method_46_code 0 = .ok (.iconst 1, 1) := by decide +kernel
theorem d_jdk_43_method_46_1 : decode jdk_43_method_46_code 1 = .ok (.newarray .byte, 2) := by decide +kernel
theorem d_jdk_43_method_46_3 : decode jdk_43_method_46_code 3 = .ok (.dup, 1) := by decide +kernel
theorem d_jdk_43_method_46_4 : decode jdk_43_method_46_code 4 = .ok (.iconst 0, 1) := by decide +kernel
theorem d_jdk_43_method_46_5 : decode jdk_43_method_46_code 5 = .ok (.iload_n 0, 1) := by decide +kernel
theorem d_jdk_43_method_46_6 : decode jdk_43_method_46_code 6 = .ok (.i2b, 1) := by decide +kernel
theorem d_jdk_43_method_46_7 : decode jdk_43_method_46_code 7 = .ok (.bastore, 1) := by decide +kernel
theorem d_jdk_43_method_46_8 : decode jdk_43_method_46_code 8 = .ok (.areturn, 1) := by decide +kernel
theorem own_ef3 (m : MethodId) (x0 : Addr) (x1 : Addr) (x2 : Int32)  : entryFrame m #[(.ref x0), (.ref x1), (.int x2)] 3 = mkF m 0 #[.val (.ref x0), .val (.ref x1), .val (.int x2)] [] := by first | rfl | (simp [entryFrame, mkF, argsToLocals, Value.category]; done)
theorem d_jdk_42_method_151_0 : decode jdk_42_method_151_code 0 = .ok (.aload_n 0, 1) := by decide +kernel
theorem d_jdk_42_method_151_1 : decode jdk_42_method_151_code 1 = .ok (.invokespecial 1, 3) := by decide +kernel
theorem d_jdk_42_method_151_4 : decode jdk_42_method_151_code 4 = .ok (.aload_n 0, 1) := by decide +kernel
theorem d_jdk_42_method_151_5 : decode jdk_42_method_151_code 5 = .ok (.aload_n 1, 1) := by decide +kernel
theorem d_jdk_42_method_151_6 : decode jdk_42_method_151_code 6 = .ok (.putfield 9, 3) := by decide +kernel
theorem d_jdk_42_method_151_9 : decode jdk_42_method_151_code 9 = .ok (.aload_n 0, 1) := by decide +kernel
theorem d_jdk_42_method_151_10 : decode jdk_42_method_151_code 10 = .ok (.iload_n 2, 1) := by decide +kernel
theorem d_jdk_42_method_151_11 : decode jdk_42_method_151_code 11 = .ok (.putfield 15, 3) := by decide +kernel
theorem d_jdk_42_method_151_14 : decode jdk_42_method_151_code 14 = .ok (.return_, 1) := by decide +kernel
theorem d_jdk_42_method_139_0 : decode jdk_42_method_139_code 0 = .ok (.getstatic 38, 3) := by decide +kernel
theorem d_jdk_42_method_139_3 : decode jdk_42_method_139_code 3 = .ok (.ifCond .eq 23, 3) := by decide +kernel
theorem d_jdk_42_method_139_6 : decode jdk_42_method_139_code 6 = .ok (.iload_n 0, 1) := by decide +kernel
theorem own_pd1 : parseMethodDescriptor "(C)Z" = some ⟨[FieldType.char], some FieldType.boolean⟩ := by decide +kernel
theorem d_jdk_42_method_139_7 : decode jdk_42_method_139_code 7 = .ok (.invokestatic 1015, 3) := by decide +kernel
theorem d_jdk_42_method_139_10 : decode jdk_42_method_139_code 10 = .ok (.ifCond .eq 16, 3) := by decide +kernel
theorem d_jdk_42_method_139_13 : decode jdk_42_method_139_code 13 = .ok (.new 10, 3) := by decide +kernel
theorem d_jdk_42_method_139_16 : decode jdk_42_method_139_code 16 = .ok (.dup, 1) := by decide +kernel
theorem d_jdk_42_method_139_17 : decode jdk_42_method_139_code 17 = .ok (.iload_n 0, 1) := by decide +kernel
theorem own_pd2 : parseMethodDescriptor "(C)[B" = some ⟨[FieldType.char], some (FieldType.array FieldType.byte)⟩ := by decide +kernel
theorem d_jdk_42_method_139_18 : decode jdk_42_method_139_code 18 = .ok (.invokestatic 1018, 3) := by decide +kernel
theorem d_jdk_42_method_139_21 : decode jdk_42_method_139_code 21 = .ok (.iconst 0, 1) := by decide +kernel
theorem own_pd3 : parseMethodDescriptor "([BB)V" = some ⟨[(FieldType.array FieldType.byte), FieldType.byte], none⟩ := by decide +kernel
theorem d_jdk_42_method_139_22 : decode jdk_42_method_139_code 22 = .ok (.invokespecial 209, 3) := by decide +kernel
theorem d_jdk_42_method_139_25 : decode jdk_42_method_139_code 25 = .ok (.areturn, 1) := by decide +kernel
theorem own_pn2 : plainName "java/lang/Record" = true := by first | (simp [plainName, overriddenIn]; done) | decide +kernel
theorem own_ef4 (m : MethodId) (x0 : Addr)  : entryFrame m #[(.ref x0)] 1 = mkF m 0 #[.val (.ref x0)] [] := by first | rfl | (simp [entryFrame, mkF, argsToLocals, Value.category]; done)
theorem d_jdk_30_method_1_0 : decode jdk_30_method_1_code 0 = .ok (.aload_n 0, 1) := by decide +kernel
theorem d_jdk_30_method_1_1 : decode jdk_30_method_1_code 1 = .ok (.invokespecial 1, 3) := by decide +kernel
theorem d_jdk_30_method_1_4 : decode jdk_30_method_1_code 4 = .ok (.return_, 1) := by decide +kernel
theorem own_pn3 : plainName "com/example/vouchgate/vouchgate/gate/Answer" = true := by first | (simp [plainName, overriddenIn]; done) | decide +kernel
theorem own_ef5 (m : MethodId) (x0 : Addr) (x1 : Addr) (x2 : Addr)  : entryFrame m #[(.ref x0), (.ref x1), (.ref x2)] 3 = mkF m 0 #[.val (.ref x0), .val (.ref x1), .val (.ref x2)] [] := by first | rfl | (simp [entryFrame, mkF, argsToLocals, Value.category]; done)
theorem d_prog_14_method_1_0 : decode prog_14_method_1_code 0 = .ok (.aload_n 0, 1) := by decide +kernel
theorem own_pd4 : parseMethodDescriptor "()V" = some ⟨[], none⟩ := by decide +kernel
theorem d_prog_14_method_1_1 : decode prog_14_method_1_code 1 = .ok (.invokespecial 1, 3) := by decide +kernel
theorem d_prog_14_method_1_4 : decode prog_14_method_1_code 4 = .ok (.aload_n 0, 1) := by decide +kernel
theorem d_prog_14_method_1_5 : decode prog_14_method_1_code 5 = .ok (.aload_n 1, 1) := by decide +kernel
theorem d_prog_14_method_1_6 : decode prog_14_method_1_code 6 = .ok (.putfield 7, 3) := by decide +kernel
theorem d_prog_14_method_1_9 : decode prog_14_method_1_code 9 = .ok (.aload_n 0, 1) := by decide +kernel
theorem d_prog_14_method_1_10 : decode prog_14_method_1_code 10 = .ok (.aload_n 2, 1) := by decide +kernel
theorem d_prog_14_method_1_11 : decode prog_14_method_1_code 11 = .ok (.putfield 13, 3) := by decide +kernel
theorem d_prog_14_method_1_14 : decode prog_14_method_1_code 14 = .ok (.return_, 1) := by decide +kernel
theorem d_prog_14_method_2_0 : decode prog_14_method_2_code 0 = .ok (.new 8, 3) := by decide +kernel
theorem d_prog_14_method_2_3 : decode prog_14_method_2_code 3 = .ok (.dup, 1) := by decide +kernel
theorem d_prog_14_method_2_4 : decode prog_14_method_2_code 4 = .ok (.getstatic 17, 3) := by decide +kernel
theorem d_prog_14_method_2_7 : decode prog_14_method_2_code 7 = .ok (.aload_n 0, 1) := by decide +kernel
theorem own_pd5 : parseMethodDescriptor "(Lcom/example/vouchgate/vouchgate/gate/Answer$Outcome;Ljava/lang/String;)V" = some ⟨[(FieldType.object "com/example/vouchgate/vouchgate/gate/Answer$Outcome"), (FieldType.object "java/lang/String")], none⟩ := by decide +kernel
theorem d_prog_14_method_2_8 : decode prog_14_method_2_code 8 = .ok (.invokespecial 22, 3) := by decide +kernel
theorem d_prog_14_method_2_11 : decode prog_14_method_2_code 11 = .ok (.areturn, 1) := by decide +kernel
theorem d_prog_14_method_6_0 : decode prog_14_method_6_code 0 = .ok (.aload_n 0, 1) := by decide +kernel
theorem d_prog_14_method_6_1 : decode prog_14_method_6_code 1 = .ok (.getfield 7, 3) := by decide +kernel
theorem d_prog_14_method_6_4 : decode prog_14_method_6_code 4 = .ok (.areturn, 1) := by decide +kernel
theorem d_prog_14_method_7_0 : decode prog_14_method_7_code 0 = .ok (.aload_n 0, 1) := by decide +kernel
theorem d_prog_14_method_7_1 : decode prog_14_method_7_code 1 = .ok (.getfield 13, 3) := by decide +kernel
theorem d_prog_14_method_7_4 : decode prog_14_method_7_code 4 = .ok (.areturn, 1) := by decide +kernel
theorem own_ef6 (m : MethodId) (x0 : Addr) (x1 : Addr)  : entryFrame m #[(.ref x0), (.ref x1)] 3 = mkF m 0 #[.val (.ref x0), .val (.ref x1), .unset] [] := by first | rfl | (simp [entryFrame, mkF, argsToLocals, Value.category]; done)
theorem d_jdk_42_method_66_0 : decode jdk_42_method_66_code 0 = .ok (.aload_n 0, 1) := by decide +kernel
theorem d_jdk_42_method_66_1 : decode jdk_42_method_66_code 1 = .ok (.aload_n 1, 1) := by decide +kernel
theorem d_jdk_42_method_66_2 : decode jdk_42_method_66_code 2 = .ok (.if_acmp .ne 5, 3) := by decide +kernel
theorem d_jdk_42_method_66_5 : decode jdk_42_method_66_code 5 = .ok (.iconst 1, 1) := by decide +kernel
theorem d_jdk_42_method_66_6 : decode jdk_42_method_66_code 6 = .ok (.ireturn, 1) := by decide +kernel
theorem own_pn4 : plainName "com/example/vouchgate/vouchgate/gate/AnswerTicketPinLaw" = true := by first | (simp [plainName, overriddenIn]; done) | decide +kernel
theorem own_ef7 (m : MethodId) (x0 : Int32) (x1 : Int32) (x2 : Int32) (x3 : Int32)  : entryFrame m #[(.int x0), (.int x1), (.int x2), (.int x3)] 10 = mkF m 0 #[.val (.int x0), .val (.int x1), .val (.int x2), .val (.int x3), .unset, .unset, .unset, .unset, .unset, .unset] [] := by first | rfl | (simp [entryFrame, mkF, argsToLocals, Value.category]; done)
theorem own_pd6 : parseMethodDescriptor "(Ljava/lang/String;)Lcom/example/vouchgate/vouchgate/gate/Answer;" = some ⟨[(FieldType.object "java/lang/String")], some (FieldType.object "com/example/vouchgate/vouchgate/gate/Answer")⟩ := by decide +kernel
theorem own_pd7 : parseMethodDescriptor "()Lcom/example/vouchgate/vouchgate/gate/Answer$Outcome;" = some ⟨[], some (FieldType.object "com/example/vouchgate/vouchgate/gate/Answer$Outcome")⟩ := by decide +kernel
theorem own_pd8 : parseMethodDescriptor "()Ljava/lang/String;" = some ⟨[], some (FieldType.object "java/lang/String")⟩ := by decide +kernel
theorem own_pd9 : parseMethodDescriptor "(Ljava/lang/Object;)Z" = some ⟨[(FieldType.object "java/lang/Object")], some FieldType.boolean⟩ := by decide +kernel
theorem own_pd10 : parseMethodDescriptor "([C)V" = some ⟨[(FieldType.array FieldType.char)], none⟩ := by decide +kernel
theorem own_pd11 : parseMethodDescriptor "(C)Ljava/lang/String;" = some ⟨[FieldType.char], some (FieldType.object "java/lang/String")⟩ := by decide +kernel
theorem con_new4e {l : Launch} {Z : State} {a0 : Array Value} {cz : Int32} {fm : Value} {tk : Addr} (H : Ctx Z a0 cz fm tk) (x b : Addr) (gzx : Z.heap.size ≤ x) (h0 : Heap) (Ax : Exa Z h0 x "java/lang/String") (Fx_value : Fld Z h0 x "java/lang/String" "value" "[B" .null) (Fx_coder : Fld Z h0 x "java/lang/String" "coder" "B" (.int (0 : Int32))) :
    ConX l Z consts_1 (⟨"java/lang/String", "<init>", "([CIILjava/lang/Void;)V"⟩ : MethodName) jdk_42_method_149_code 6 (none : Option FieldType) [] ({ frames := 1, cells := 4, slots := 8, locals := 12 } : Room) #[(.ref x), (.ref b), (.int (0 : Int32)), (.int (0 : Int32)), (.null)] h0 (fun r h => r = none ∧ Keep h0 h [x] ∧ OStr Z h x []) := by
  obtain ⟨hw, hE, S0, hcz, S1, rf, SX0⟩ := id H
  refine ConX.of (plainFor_of_name own_pn0) ?_
  intro p e s m below meth c T hby hml hret hlk hnm X0
  have EX0 := ext_refl h0
  refine OEnds.cast (own_ef0 m x b (0 : Int32) (0 : Int32) ) ?_
  show OEnds p e below _ T (mkF m 0 #[.val (.ref x), .val (.ref b), .val (.int (0 : Int32)), .val (.int (0 : Int32)), .val (.null), .unset] [])
  have K0 := Keep.refl h0 [x]
  refine OEnds.go (fun _ q => XS.aloadN X0.here X0.hx rfl (hb hby d_jdk_42_method_149_0) rfl rfl q) ?_
  show OEnds p e below _ T (mkF m 1 #[.val (.ref x), .val (.ref b), .val (.int (0 : Int32)), .val (.int (0 : Int32)), .val (.null), .unset] [(.ref x)])
  refine X0.initO (hw _ (List.mem_of_getElem? (i := 19) rfl)) (hw _ (List.mem_of_getElem? (i := 20) rfl)) (hw _ (List.mem_of_getElem? (i := 21) rfl)) (by rw [hml]; rfl) (hb hby d_jdk_42_method_149_1) (by decide) (W := 0) (Nat.le_of_eq rfl) (by decide) ?_
  intro T1 X2
  show OEnds p e below _ T1 (mkF m 4 #[.val (.ref x), .val (.ref b), .val (.int (0 : Int32)), .val (.int (0 : Int32)), .val (.null), .unset] [])
  refine OEnds.go (fun _ q => XS.iloadN X2.here X2.hx rfl (hb hby d_jdk_42_method_149_4) rfl q) ?_
  show OEnds p e below _ T1 (mkF m 5 #[.val (.ref x), .val (.ref b), .val (.int (0 : Int32)), .val (.int (0 : Int32)), .val (.null), .unset] [(.int (0 : Int32))])
  refine OEnds.go (fun _ q => XS.ifNo X2.here X2.hx rfl (hb hby d_jdk_42_method_149_5) rfl ((if0 _ _).trans (teq (rfl : (0 : Int32) = 0)).2) q) ?_
  show OEnds p e below _ T1 (mkF m 8 #[.val (.ref x), .val (.ref b), .val (.int (0 : Int32)), .val (.int (0 : Int32)), .val (.null), .unset] [])
  refine OEnds.go (fun _ q => XS.aloadN X2.here X2.hx rfl (hb hby d_jdk_42_method_149_8) rfl rfl q) ?_
  show OEnds p e below _ T1 (mkF m 9 #[.val (.ref x), .val (.ref b), .val (.int (0 : Int32)), .val (.int (0 : Int32)), .val (.null), .unset] [(.ref x)])
  have Sfx := safe_blank (EL := consts_1) X2.al Ax Fx_value
  refine X2.ldcR hE (hw _ (List.mem_of_getElem? (i := 82) rfl)) (own_wS hw) (List.mem_of_getElem? (i := 0) rfl) (vs := []) (z := 0) ⟨by decide, rfl⟩ (by decide) (by decide) (hb hby d_jdk_42_method_149_9) (j := 0) (by decide) (by decide) (by decide) (by decide) ?_
  intro vm3 T4 h5 a6 a7 ka7 X8 E9 C10 Aa6 Ca6 Va6 Ka7 ne11
  have Sf12 := C10.safe Ax.lt Sfx
  have Ax_h5 := Ax.ext E9
  have Fx_value_h5 := Fx_value.ext E9
  have Fx_coder_h5 := Fx_coder.ext E9
  have EX_h5 := ext_trans EX0 E9
  have Kpx_h5 := K0.ext E9
  show OEnds p e below _ T4 (mkF m 11 #[.val (.ref x), .val (.ref b), .val (.int (0 : Int32)), .val (.int (0 : Int32)), .val (.null), .unset] [(.ref a6), (.ref x)])
  refine X8.getF (hw _ (List.mem_of_getElem? (i := 22) rfl)) Via.refl Va6 (hb hby d_jdk_42_method_149_11) ?_
  intro T13 X14
  show OEnds p e below _ T13 (mkF m 14 #[.val (.ref x), .val (.ref b), .val (.int (0 : Int32)), .val (.int (0 : Int32)), .val (.null), .unset] [(.ref a7), (.ref x)])
  refine X14.putF (v := (.ref a7)) (hw _ (List.mem_of_getElem? (i := 22) rfl)) Via.refl Fx_value_h5 Ax_h5 (Or.inr ⟨(hw _ (List.mem_of_getElem? (i := 23) rfl)), rfl, hnm⟩) (hw _ (List.mem_of_getElem? (i := 10) rfl)) (ty := (FieldType.array FieldType.byte)) (by decide) rfl rfl Sf12 gzx (hb hby d_jdk_42_method_149_14) ?_
  intro T15 h17 X16 W18
  have Fx_value_h17 := Fx_value_h5.same W18
  have Ax_h17 := Ax_h5.wr W18
  have Fx_coder_h17 := Fx_coder_h5.other W18 (Or.inr (slot_ne (a0 := a0) (Or.inr (hw _ (List.mem_of_getElem? (i := 25) rfl))) (Or.inr (hw _ (List.mem_of_getElem? (i := 23) rfl))) (by decide) (t := FieldType.byte) (by decide) (t' := (FieldType.array FieldType.byte)) (by decide)))
  have K19 := Kpx_h5.wr W18 (Or.inl (List.mem_of_getElem? (i := 0) rfl))
  have Sf20 := Safe.wr W18 Sf12 X14.chv Sf12
  have Aa6_h17 := Aa6.wr W18
  have Ca6_h17 := Ca6.other W18 (Or.inl ((ne11 _ Sf12).1.symm))
  have Va6_h17 := Va6.other W18 (Or.inl ((ne11 _ Sf12).1.symm))
  have Ka7_h17 := Ka7.other W18 ((ne11 _ Sf12).2.symm)
  show OEnds p e below _ T15 (mkF m 17 #[.val (.ref x), .val (.ref b), .val (.int (0 : Int32)), .val (.int (0 : Int32)), .val (.null), .unset] [])
  refine OEnds.go (fun _ q => XS.aloadN X16.here X16.hx rfl (hb hby d_jdk_42_method_149_17) rfl rfl q) ?_
  show OEnds p e below _ T15 (mkF m 18 #[.val (.ref x), .val (.ref b), .val (.int (0 : Int32)), .val (.int (0 : Int32)), .val (.null), .unset] [(.ref x)])
  refine X16.ldcR hE (hw _ (List.mem_of_getElem? (i := 82) rfl)) (own_wS hw) (List.mem_of_getElem? (i := 0) rfl) (vs := []) (z := 0) ⟨by decide, rfl⟩ (by decide) (by decide) (hb hby d_jdk_42_method_149_18) (j := 0) (by decide) (by decide) (by decide) (by decide) ?_
  intro vm21 T22 h23 a24 a25 ka25 X26 E27 C28 Aa24 Ca24 Va24 Ka25 ne29
  have Sf30 := C28.safe Ax_h17.lt Sf20
  have Aa6_h23 := Aa6_h17.ext E27
  have Ca6_h23 := Ca6_h17.ext E27
  have Va6_h23 := Va6_h17.ext E27
  have Ka7_h23 := Ka7_h17.ext E27
  have Fx_value_h23 := Fx_value_h17.ext E27
  have Ax_h23 := Ax_h17.ext E27
  have Fx_coder_h23 := Fx_coder_h17.ext E27
  have Kpx_h23 := K19.ext E27
  show OEnds p e below _ T22 (mkF m 20 #[.val (.ref x), .val (.ref b), .val (.int (0 : Int32)), .val (.int (0 : Int32)), .val (.null), .unset] [(.ref a24), (.ref x)])
  refine X26.getF (hw _ (List.mem_of_getElem? (i := 24) rfl)) Via.refl Ca24 (hb hby d_jdk_42_method_149_20) ?_
  intro T31 X32
  show OEnds p e below _ T31 (mkF m 23 #[.val (.ref x), .val (.ref b), .val (.int (0 : Int32)), .val (.int (0 : Int32)), .val (.null), .unset] [(.int (0 : Int32)), (.ref x)])
  refine X32.putF (v := (.int (0 : Int32))) (hw _ (List.mem_of_getElem? (i := 24) rfl)) Via.refl Fx_coder_h23 Ax_h23 (Or.inr ⟨(hw _ (List.mem_of_getElem? (i := 25) rfl)), rfl, hnm⟩) (hw _ (List.mem_of_getElem? (i := 10) rfl)) (ty := FieldType.byte) (by decide) rfl rfl Sf30 gzx (hb hby d_jdk_42_method_149_23) ?_
  intro T33 h35 X34 W36
  have Fx_coder_h35 := Fx_coder_h23.same W36
  have Ax_h35 := Ax_h23.wr W36
  have Fx_value_h35 := Fx_value_h23.other W36 (Or.inr (slot_ne (a0 := a0) (Or.inr (hw _ (List.mem_of_getElem? (i := 23) rfl))) (Or.inr (hw _ (List.mem_of_getElem? (i := 25) rfl))) (by decide) (t := (FieldType.array FieldType.byte)) (by decide) (t' := FieldType.byte) (by decide)))
  have K37 := Kpx_h23.wr W36 (Or.inl (List.mem_of_getElem? (i := 0) rfl))
  have Sf38 := Safe.wr W36 Sf30 X32.chv Sf30
  have Aa6_h35 := Aa6_h23.wr W36
  have Ca6_h35 := Ca6_h23.other W36 (Or.inl ((ne11 _ Sf12).1.symm))
  have Va6_h35 := Va6_h23.other W36 (Or.inl ((ne11 _ Sf12).1.symm))
  have Ka7_h35 := Ka7_h23.other W36 ((ne11 _ Sf12).2.symm)
  have Aa24_h35 := Aa24.wr W36
  have Ca24_h35 := Ca24.other W36 (Or.inl ((ne29 _ Sf30).1.symm))
  have Va24_h35 := Va24.other W36 (Or.inl ((ne29 _ Sf30).1.symm))
  have Ka25_h35 := Ka25.other W36 ((ne29 _ Sf30).2.symm)
  show OEnds p e below _ T33 (mkF m 26 #[.val (.ref x), .val (.ref b), .val (.int (0 : Int32)), .val (.int (0 : Int32)), .val (.null), .unset] [])
  exact X34.ret0 hE hlk  hret (hb hby d_jdk_42_method_149_26) (by decide) (by decide) ⟨rfl, K37, Ax_h35, Fx_coder_h35, ⟨a7, ka7, Fx_value_h35, Ka7_h35⟩, all_nil, by decide⟩
theorem con_strE {l : Launch} {Z : State} {a0 : Array Value} {cz : Int32} {fm : Value} {tk : Addr} (H : Ctx Z a0 cz fm tk) (x b : Addr) (kC : ClassId) (dv : Value) (gzx : Z.heap.size ≤ x) (h0 : Heap) (Ax : Exa Z h0 x "java/lang/String") (Fx_value : Fld Z h0 x "java/lang/String" "value" "[B" .null) (Fx_coder : Fld Z h0 x "java/lang/String" "coder" "B" (.int (0 : Int32))) (Kb : Arv Z h0 b kC .char (0 : Int32) [] dv) :
    ConX l Z consts_1 (⟨"java/lang/String", "<init>", "([C)V"⟩ : MethodName) jdk_42_method_3_code 2 (none : Option FieldType) [] ({ frames := 2, cells := 4, slots := 8, locals := 29 } : Room) #[(.ref x), (.ref b)] h0 (fun r h => r = none ∧ Keep h0 h [x] ∧ OStr Z h x []) := by
  obtain ⟨hw, hE, S0, hcz, S1, rf, SX0⟩ := id H
  refine ConX.of (plainFor_of_name own_pn0) ?_
  intro p e s m below meth c T hby hml hret hlk hnm X0
  have EX0 := ext_refl h0
  refine OEnds.cast (own_ef1 m x b ) ?_
  show OEnds p e below _ T (mkF m 0 #[.val (.ref x), .val (.ref b)] [])
  have K0 := Keep.refl h0 [x]
  refine OEnds.go (fun _ q => XS.aloadN X0.here X0.hx rfl (hb hby d_jdk_42_method_3_0) rfl rfl q) ?_
  show OEnds p e below _ T (mkF m 1 #[.val (.ref x), .val (.ref b)] [(.ref x)])
  refine OEnds.go (fun _ q => XS.aloadN X0.here X0.hx rfl (hb hby d_jdk_42_method_3_1) rfl rfl q) ?_
  show OEnds p e below _ T (mkF m 2 #[.val (.ref x), .val (.ref b)] [(.ref b), (.ref x)])
  refine OEnds.go (fun _ q => XS.iconst X0.here X0.hx rfl (hb hby d_jdk_42_method_3_2) q) ?_
  show OEnds p e below _ T (mkF m 3 #[.val (.ref x), .val (.ref b)] [(.int (0 : Int32)), (.ref b), (.ref x)])
  refine OEnds.go (fun _ q => XS.aloadN X0.here X0.hx rfl (hb hby d_jdk_42_method_3_3) rfl rfl q) ?_
  show OEnds p e below _ T (mkF m 4 #[.val (.ref x), .val (.ref b)] [(.ref b), (.int (0 : Int32)), (.ref b), (.ref x)])
  refine X0.alen Kb (hb hby d_jdk_42_method_3_4) ?_
  show OEnds p e below _ T (mkF m 5 #[.val (.ref x), .val (.ref b)] [(.int (0 : Int32)), (.int (0 : Int32)), (.ref b), (.ref x)])
  refine OEnds.go (fun _ q => XS.aconstNull X0.here X0.hx rfl (hb hby d_jdk_42_method_3_5) q) ?_
  show OEnds p e below _ T (mkF m 6 #[.val (.ref x), .val (.ref b)] [(.null), (.int (0 : Int32)), (.int (0 : Int32)), (.ref b), (.ref x)])
  refine X0.callI hE (con_new4e H x b gzx h0 Ax Fx_value Fx_coder) (hw _ (List.mem_of_getElem? (i := 69) rfl)) (hw _ (List.mem_of_getElem? (i := 70) rfl)) (hw _ (List.mem_of_getElem? (i := 2) rfl)) (hw _ (List.mem_of_getElem? (i := 71) rfl)) rfl (by decide) (W := 0) (by decide) (by decide) (a := x) (argsL := [(.ref b), (.int (0 : Int32)), (.int (0 : Int32)), (.null)]) (rest := []) rfl (lenOf own_pd0 rfl) rfl (by rw [hml]; rfl) (Nat.le_of_eq rfl) (hb hby d_jdk_42_method_3_6) (by decide) (by decide) ?_
  intro v6 vm4 T1 h3 X2 C5 q7
  obtain ⟨rfl, K1, S1x⟩ := q7
  show OEnds p e below _ T1 (mkF m 9 #[.val (.ref x), .val (.ref b)] [])
  exact X2.ret0 hE hlk  hret (hb hby d_jdk_42_method_3_9) (by decide) (by decide) ⟨rfl, K1, S1x⟩
theorem con_canE {l : Launch} {Z : State} {a0 : Array Value} {cz : Int32} {fm : Value} {tk : Addr} (H : Ctx Z a0 cz fm tk) (v : Int32) (hv : ¬ (255 : Int32) < v) (h0 : Heap)  :
    ConX l Z consts_1 (⟨"java/lang/StringLatin1", "canEncode", "(C)Z"⟩ : MethodName) jdk_43_method_3_code 1 (some FieldType.boolean) [] ({ frames := 0, cells := 0, slots := 0, locals := 0 } : Room) #[(.int v)] h0 (fun r h => r = some (.int 1) ∧ h0 = h) := by
  obtain ⟨hw, hE, S0, hcz, S1, rf, SX0⟩ := id H
  refine ConX.of (plainFor_of_name own_pn1) ?_
  intro p e s m below meth c T hby hml hret hlk hnm X0
  have EX0 := ext_refl h0
  refine OEnds.cast (own_ef2 m v ) ?_
  show OEnds p e below _ T (mkF m 0 #[.val (.int v)] [])
  refine OEnds.go (fun _ q => XS.iloadN X0.here X0.hx rfl (hb hby d_jdk_43_method_3_0) rfl q) ?_
  show OEnds p e below _ T (mkF m 1 #[.val (.int v)] [(.int v)])
  refine OEnds.go (fun _ q => XS.sipush X0.here X0.hx rfl (hb hby d_jdk_43_method_3_1) q) ?_
  show OEnds p e below _ T (mkF m 4 #[.val (.int v)] [(.int (255 : Int32)), (.int v)])
  refine OEnds.go (fun _ q => XS.icmpNo X0.here X0.hx rfl (hb hby d_jdk_43_method_3_4) rfl (flt hv).2.2.1 q) ?_
  show OEnds p e below _ T (mkF m 7 #[.val (.int v)] [])
  refine OEnds.go (fun _ q => XS.iconst X0.here X0.hx rfl (hb hby d_jdk_43_method_3_7) q) ?_
  show OEnds p e below _ T (mkF m 8 #[.val (.int v)] [(.int (1 : Int32))])
  refine OEnds.go (fun _ q => XS.goto X0.here X0.hx rfl (pc0 := 8) (pc' := 12) rfl (hb hby d_jdk_43_method_3_8) (by decide) (by decide) q) ?_
  show OEnds p e below _ T (mkF m 12 #[.val (.int v)] [(.int (1 : Int32))])
  exact X0.retBool hE hlk (by first | exact Or.inl rfl | exact Or.inr rfl | assumption) hret (hb hby d_jdk_43_method_3_12) (by decide) (by decide) ⟨rfl, rfl⟩
theorem con_toB {l : Launch} {Z : State} {a0 : Array Value} {cz : Int32} {fm : Value} {tk : Addr} (H : Ctx Z a0 cz fm tk) (v : Int32) (h0 : Heap)  :
    ConX l Z consts_1 (⟨"java/lang/StringLatin1", "toBytes", "(C)[B"⟩ : MethodName) jdk_43_method_46_code 1 (some (FieldType.array FieldType.byte)) [] ({ frames := 0, cells := 1, slots := 1, locals := 0 } : Room) #[(.int v)] h0 (fun r h => ∃ (t : Addr) (kb : ClassId), r = some (.ref t) ∧ Ext h0 h ∧ Arv Z h t kb .byte (1 : Int32) [.int v.toInt8.toInt32] (.int (0 : Int32)) ∧ h0.size ≤ t) := by
  obtain ⟨hw, hE, S0, hcz, S1, rf, SX0⟩ := id H
  refine ConX.of (plainFor_of_name own_pn1) ?_
  intro p e s m below meth c T hby hml hret hlk hnm X0
  have EX0 := ext_refl h0
  refine OEnds.cast (own_ef2 m v ) ?_
  show OEnds p e below _ T (mkF m 0 #[.val (.int v)] [])
  refine OEnds.go (fun _ q => XS.iconst X0.here X0.hx rfl (hb hby d_jdk_43_method_46_0) q) ?_
  show OEnds p e below _ T (mkF m 1 #[.val (.int v)] [(.int (1 : Int32))])
  refine X0.newP (hw _ (List.mem_of_getElem? (i := 14) rfl)) (hb hby d_jdk_43_method_46_1) (by decide) (cap := 1) (by decide) (by decide) (by decide) (by decide) ?_
  intro T1 h3 a5 ka5 ga5 X2 E4 Ka5
  have gza5 : Z.heap.size ≤ a5 := ga5 ▸ X0.old.1
  have EX_h3 := ext_trans EX0 E4
  have Sfa5 : Safe Z consts_1 s.vm h3 a5 := Safe.ext E4 X0.chv (Safe.new (Nat.le_of_eq ga5))
  have Ka5_0 : Arv Z h3 a5 ka5 .byte (1 : Int32) [.int (0 : Int32)] (.int (0 : Int32)) := Ka5.pad (pad_rep [] (.int (0 : Int32)) 1)
  show OEnds p e below _ T1 (mkF m 3 #[.val (.int v)] [(.ref a5)])
  refine OEnds.go (fun _ q => XS.dup X2.here X2.hx rfl (hb hby d_jdk_43_method_46_3) rfl rfl q) ?_
  show OEnds p e below _ T1 (mkF m 4 #[.val (.int v)] [(.ref a5), (.ref a5)])
  refine OEnds.go (fun _ q => XS.iconst X2.here X2.hx rfl (hb hby d_jdk_43_method_46_4) q) ?_
  show OEnds p e below _ T1 (mkF m 5 #[.val (.int v)] [(.int (0 : Int32)), (.ref a5), (.ref a5)])
  refine OEnds.go (fun _ q => XS.iloadN X2.here X2.hx rfl (hb hby d_jdk_43_method_46_5) rfl q) ?_
  show OEnds p e below _ T1 (mkF m 6 #[.val (.int v)] [(.int v), (.int (0 : Int32)), (.ref a5), (.ref a5)])
  refine OEnds.go (fun _ q => XS.i2b X2.here X2.hx rfl (hb hby d_jdk_43_method_46_6) rfl q) ?_
  show OEnds p e below _ T1 (mkF m 7 #[.val (.int v)] [(.int (v.toInt8.toInt32)), (.int (0 : Int32)), (.ref a5), (.ref a5)])
  refine X2.stB Ka5_0 Sfa5 (by decide) (i := 0) rfl (Nat.le_of_ble_eq_true rfl) gza5 (hb hby d_jdk_43_method_46_7) ?_
  intro T6 h8 X7 W9 Ka5_h8x
  have Sf10 := Safe.wr W9 Sfa5 X2.chv Sfa5
  have Ka5_h8 : Arv Z h8 a5 ka5 .byte (1 : Int32) [.int (v.toInt8.toInt32).toInt8.toInt32] (.int (0 : Int32)) := Ka5_h8x
  have EBa5_h8 := ext_wr E4 W9 (Nat.le_of_eq ga5)
  have EX_h8 := ext_wr EX_h3 W9 (Nat.le_trans EX0.1 (Nat.le_of_eq ga5))
  show OEnds p e below _ T6 (mkF m 8 #[.val (.int v)] [(.ref a5)])
  have hK : Arv Z h8 a5 ka5 .byte (1 : Int32) [.int v.toInt8.toInt32] (.int (0 : Int32)) := by
    have e : (v.toInt8.toInt32).toInt8.toInt32 = v.toInt8.toInt32 := own_lo8 v
    have q := Ka5_h8
    rw [e] at q; exact q
  exact X7.retRef hE hlk rfl (t := (FieldType.array FieldType.byte)) rfl hret (hb hby d_jdk_43_method_46_8) (by decide) (by decide) ⟨_, ka5, rfl, EX_h8, hK, Nat.le_of_eq ga5⟩
theorem con_sBB {l : Launch} {Z : State} {a0 : Array Value} {cz : Int32} {fm : Value} {tk : Addr} (H : Ctx Z a0 cz fm tk) (a : Addr) (t : Addr) (gza : Z.heap.size ≤ a) (h0 : Heap) (Aa : Exa Z h0 a "java/lang/String") (Fa_value : Fld Z h0 a "java/lang/String" "value" "[B" .null) (Fa_coder : Fld Z h0 a "java/lang/String" "coder" "B" (.int (0 : Int32))) :
    ConX l Z consts_1 (⟨"java/lang/String", "<init>", "([BB)V"⟩ : MethodName) jdk_42_method_151_code 3 (none : Option FieldType) [] ({ frames := 1, cells := 0, slots := 0, locals := 12 } : Room) #[(.ref a), (.ref t), (.int (0 : Int32))] h0 (fun r h => r = none ∧ Keep h0 h [a] ∧ Exa Z h a "java/lang/String" ∧ Fld Z h a "java/lang/String" "value" "[B" (.ref t) ∧ Fld Z h a "java/lang/String" "coder" "B" (.int (0 : Int32))) := by
  obtain ⟨hw, hE, S0, hcz, S1, rf, SX0⟩ := id H
  refine ConX.of (plainFor_of_name own_pn0) ?_
  intro p e s m below meth c T hby hml hret hlk hnm X0
  have EX0 := ext_refl h0
  refine OEnds.cast (own_ef3 m a t (0 : Int32) ) ?_
  show OEnds p e below _ T (mkF m 0 #[.val (.ref a), .val (.ref t), .val (.int (0 : Int32))] [])
  have K0 := Keep.refl h0 [a]
  refine OEnds.go (fun _ q => XS.aloadN X0.here X0.hx rfl (hb hby d_jdk_42_method_151_0) rfl rfl q) ?_
  show OEnds p e below _ T (mkF m 1 #[.val (.ref a), .val (.ref t), .val (.int (0 : Int32))] [(.ref a)])
  refine X0.initO (hw _ (List.mem_of_getElem? (i := 19) rfl)) (hw _ (List.mem_of_getElem? (i := 20) rfl)) (hw _ (List.mem_of_getElem? (i := 21) rfl)) (by rw [hml]; rfl) (hb hby d_jdk_42_method_151_1) (by decide) (W := 0) (Nat.le_of_eq rfl) (by decide) ?_
  intro T1 X2
  show OEnds p e below _ T1 (mkF m 4 #[.val (.ref a), .val (.ref t), .val (.int (0 : Int32))] [])
  refine OEnds.go (fun _ q => XS.aloadN X2.here X2.hx rfl (hb hby d_jdk_42_method_151_4) rfl rfl q) ?_
  show OEnds p e below _ T1 (mkF m 5 #[.val (.ref a), .val (.ref t), .val (.int (0 : Int32))] [(.ref a)])
  refine OEnds.go (fun _ q => XS.aloadN X2.here X2.hx rfl (hb hby d_jdk_42_method_151_5) rfl rfl q) ?_
  show OEnds p e below _ T1 (mkF m 6 #[.val (.ref a), .val (.ref t), .val (.int (0 : Int32))] [(.ref t), (.ref a)])
  refine X2.putF (v := (.ref t)) (hw _ (List.mem_of_getElem? (i := 22) rfl)) Via.refl Fa_value Aa (Or.inr ⟨(hw _ (List.mem_of_getElem? (i := 23) rfl)), rfl, hnm⟩) (hw _ (List.mem_of_getElem? (i := 10) rfl)) (ty := (FieldType.array FieldType.byte)) (by decide) rfl rfl (safe_blank X2.al Aa Fa_value) gza (hb hby d_jdk_42_method_151_6) ?_
  intro T3 h5 X4 W6
  have Fa_value_h5 := Fa_value.same W6
  have Aa_h5 := Aa.wr W6
  have Fa_coder_h5 := Fa_coder.other W6 (Or.inr (slot_ne (a0 := a0) (Or.inr (hw _ (List.mem_of_getElem? (i := 25) rfl))) (Or.inr (hw _ (List.mem_of_getElem? (i := 23) rfl))) (by decide) (t := FieldType.byte) (by decide) (t' := (FieldType.array FieldType.byte)) (by decide)))
  have K7 := K0.wr W6 (Or.inl (List.mem_of_getElem? (i := 0) rfl))
  have Sf8 := Safe.wr W6 (safe_blank X2.al Aa Fa_value) X2.chv (safe_blank X2.al Aa Fa_value)
  show OEnds p e below _ T3 (mkF m 9 #[.val (.ref a), .val (.ref t), .val (.int (0 : Int32))] [])
  refine OEnds.go (fun _ q => XS.aloadN X4.here X4.hx rfl (hb hby d_jdk_42_method_151_9) rfl rfl q) ?_
  show OEnds p e below _ T3 (mkF m 10 #[.val (.ref a), .val (.ref t), .val (.int (0 : Int32))] [(.ref a)])
  refine OEnds.go (fun _ q => XS.iloadN X4.here X4.hx rfl (hb hby d_jdk_42_method_151_10) rfl q) ?_
  show OEnds p e below _ T3 (mkF m 11 #[.val (.ref a), .val (.ref t), .val (.int (0 : Int32))] [(.int (0 : Int32)), (.ref a)])
  refine X4.putF (v := (.int (0 : Int32))) (hw _ (List.mem_of_getElem? (i := 24) rfl)) Via.refl Fa_coder_h5 Aa_h5 (Or.inr ⟨(hw _ (List.mem_of_getElem? (i := 25) rfl)), rfl, hnm⟩) (hw _ (List.mem_of_getElem? (i := 10) rfl)) (ty := FieldType.byte) (by decide) rfl rfl Sf8 gza (hb hby d_jdk_42_method_151_11) ?_
  intro T9 h11 X10 W12
  have Fa_coder_h11 := Fa_coder_h5.same W12
  have Aa_h11 := Aa_h5.wr W12
  have Fa_value_h11 := Fa_value_h5.other W12 (Or.inr (slot_ne (a0 := a0) (Or.inr (hw _ (List.mem_of_getElem? (i := 23) rfl))) (Or.inr (hw _ (List.mem_of_getElem? (i := 25) rfl))) (by decide) (t := (FieldType.array FieldType.byte)) (by decide) (t' := FieldType.byte) (by decide)))
  have K13 := K7.wr W12 (Or.inl (List.mem_of_getElem? (i := 0) rfl))
  have Sf14 := Safe.wr W12 Sf8 X4.chv Sf8
  show OEnds p e below _ T9 (mkF m 14 #[.val (.ref a), .val (.ref t), .val (.int (0 : Int32))] [])
  exact X10.ret0 hE hlk  hret (hb hby d_jdk_42_method_151_14) (by decide) (by decide) ⟨rfl, K13, Aa_h11, Fa_value_h11, Fa_coder_h11⟩
theorem con_valC {l : Launch} {Z : State} {a0 : Array Value} {cz : Int32} {fm : Value} {tk : Addr} (H : Ctx Z a0 cz fm tk) (v : Int32) (hv : ¬ v < 0 ∧ ¬ (255 : Int32) < v) (h0 : Heap)  :
    ConX l Z consts_1 (⟨"java/lang/String", "valueOf", "(C)Ljava/lang/String;"⟩ : MethodName) jdk_42_method_139_code 1 (some (FieldType.object "java/lang/String")) [] ({ frames := 2, cells := 2, slots := 5, locals := 27 } : Room) #[(.int v)] h0 (fun r h => ∃ x : Addr, r = some (.ref x) ∧ Ext h0 h ∧ OStr Z h x [v]) := by
  obtain ⟨hw, hE, S0, hcz, S1, rf, SX0⟩ := id H
  refine ConX.of (plainFor_of_name own_pn0) ?_
  intro p e s m below meth c T hby hml hret hlk hnm X0
  have EX0 := ext_refl h0
  refine OEnds.cast (own_ef2 m v ) ?_
  show OEnds p e below _ T (mkF m 0 #[.val (.int v)] [])
  refine X0.getS (hw _ (List.mem_of_getElem? (i := 4) rfl)) Via.refl (S0.ext X0.old) (hb hby d_jdk_42_method_139_0) ?_
  intro T1 X2
  show OEnds p e below _ T1 (mkF m 3 #[.val (.int v)] [(.int cz)])
  refine OEnds.go (fun _ q => XS.ifNo X2.here X2.hx rfl (hb hby d_jdk_42_method_139_3) rfl ((if0 _ _).trans (feq hcz).1) q) ?_
  show OEnds p e below _ T1 (mkF m 6 #[.val (.int v)] [])
  refine OEnds.go (fun _ q => XS.iloadN X2.here X2.hx rfl (hb hby d_jdk_42_method_139_6) rfl q) ?_
  show OEnds p e below _ T1 (mkF m 7 #[.val (.int v)] [(.int v)])
  refine X2.callS hE (con_canE H v hv.2 h0) (hw _ (List.mem_of_getElem? (i := 5) rfl)) (hw _ (List.mem_of_getElem? (i := 6) rfl)) (hw _ (List.mem_of_getElem? (i := 7) rfl)) (hw _ (List.mem_of_getElem? (i := 8) rfl))  (by decide) (W := 0) (by decide) (by decide) (argsL := [(.int v)]) (rest := []) rfl (lenOf own_pd1 rfl) rfl (by rw [hml]; rfl) (Nat.le_of_eq rfl) (hb hby d_jdk_42_method_139_7) (by decide) (by decide) ?_
  intro v8 vm6 T3 h5 X4 C7 q9
  obtain ⟨rfl, rfl⟩ := q9
  show OEnds p e below _ T3 (mkF m 10 #[.val (.int v)] [(.int (1 : Int32))])
  refine OEnds.go (fun _ q => XS.ifNo X4.here X4.hx rfl (hb hby d_jdk_42_method_139_10) rfl ((if0 _ _).trans (feq (by decide)).1) q) ?_
  show OEnds p e below _ T3 (mkF m 13 #[.val (.int v)] [])
  refine X4.newO (hw _ (List.mem_of_getElem? (i := 9) rfl)) (hw _ (List.mem_of_getElem? (i := 10) rfl)) (hw _ (List.mem_of_getElem? (i := 2) rfl)) (hb hby d_jdk_42_method_139_13) (by decide) (by decide) ?_
  intro T10 h12 a14 ga14 X11 E13 Aa14 Da14 Ua14
  have gza14 : Z.heap.size ≤ a14 := ga14 ▸ X4.old.1
  have EX_h12 := ext_trans EX0 E13
  have Fa14_value : Fld Z h12 a14 "java/lang/String" "value" "[B" .null := Da14 (Or.inr (hw _ (List.mem_of_getElem? (i := 23) rfl))) (ty := (FieldType.array FieldType.byte)) (by decide)
  have Fa14_coder : Fld Z h12 a14 "java/lang/String" "coder" "B" (.int (0 : Int32)) := Da14 (Or.inr (hw _ (List.mem_of_getElem? (i := 25) rfl))) (ty := FieldType.byte) (by decide)
  show OEnds p e below _ T10 (mkF m 16 #[.val (.int v)] [(.ref a14)])
  refine OEnds.go (fun _ q => XS.dup X11.here X11.hx rfl (hb hby d_jdk_42_method_139_16) rfl rfl q) ?_
  show OEnds p e below _ T10 (mkF m 17 #[.val (.int v)] [(.ref a14), (.ref a14)])
  refine OEnds.go (fun _ q => XS.iloadN X11.here X11.hx rfl (hb hby d_jdk_42_method_139_17) rfl q) ?_
  show OEnds p e below _ T10 (mkF m 18 #[.val (.int v)] [(.int v), (.ref a14), (.ref a14)])
  refine X11.callS hE (con_toB H v h12) (hw _ (List.mem_of_getElem? (i := 11) rfl)) (hw _ (List.mem_of_getElem? (i := 12) rfl)) (hw _ (List.mem_of_getElem? (i := 7) rfl)) (hw _ (List.mem_of_getElem? (i := 13) rfl))  (by decide) (W := 2) (by decide) (by decide) (argsL := [(.int v)]) (rest := [(.ref a14), (.ref a14)]) rfl (lenOf own_pd2 rfl) rfl (by rw [hml]; rfl) (Nat.le_of_eq rfl) (hb hby d_jdk_42_method_139_18) (by decide) (by decide) ?_
  intro v20 vm18 T15 h17 X16 C19 q21
  obtain ⟨t, kb, rfl, Et, Kt, ft⟩ := q21
  have Aa14_h17 := Aa14.ext Et
  have Fa14_value_h17 := Fa14_value.ext Et
  have Fa14_coder_h17 := Fa14_coder.ext Et
  have EBa14_h17 := ext_trans E13 Et
  have EX_h17 := ext_trans EX_h12 Et
  show OEnds p e below _ T15 (mkF m 21 #[.val (.int v)] [(.ref t), (.ref a14), (.ref a14)])
  refine OEnds.go (fun _ q => XS.iconst X16.here X16.hx rfl (hb hby d_jdk_42_method_139_21) q) ?_
  show OEnds p e below _ T15 (mkF m 22 #[.val (.int v)] [(.int (0 : Int32)), (.ref t), (.ref a14), (.ref a14)])
  refine X16.callI hE (con_sBB H a14 t gza14 h17 Aa14_h17 Fa14_value_h17 Fa14_coder_h17) (hw _ (List.mem_of_getElem? (i := 15) rfl)) (hw _ (List.mem_of_getElem? (i := 16) rfl)) (hw _ (List.mem_of_getElem? (i := 2) rfl)) (hw _ (List.mem_of_getElem? (i := 18) rfl)) rfl (by decide) (W := 1) (by decide) (by decide) (a := a14) (argsL := [(.ref t), (.int (0 : Int32))]) (rest := [(.ref a14)]) rfl (lenOf own_pd3 rfl) rfl (by rw [hml]; rfl) (Nat.le_of_eq rfl) (hb hby d_jdk_42_method_139_22) (by decide) (by decide) ?_
  intro v31 vm29 T26 h28 X27 C30 q32
  obtain ⟨rfl, K22, E23, Ff24_value, Ff25_coder⟩ := q32
  have EBa14_h28 := ext_keep EBa14_h17 K22 (allS (Nat.le_of_eq ga14) all0)
  have Kt_h28 := Kt.keep K22 (ninS (Nat.ne_of_gt (Nat.lt_of_lt_of_le Aa14.lt ft)) nin0)
  have EX_h28 := ext_keep EX_h17 K22 (allS (Nat.le_trans EX0.1 (Nat.le_of_eq ga14)) all0)
  show OEnds p e below _ T26 (mkF m 25 #[.val (.int v)] [(.ref a14)])
  exact X27.retRef hE hlk rfl (t := (FieldType.object "java/lang/String")) rfl hret (hb hby d_jdk_42_method_139_25) (by decide) (by decide) ⟨a14, rfl, EX_h28, E23, Ff25_coder, ⟨t, kb, Ff24_value, Kt_h28⟩, all_cons hv all_nil, Nat.le_of_ble_eq_true rfl⟩
theorem con_rec {l : Launch} {Z : State} {a0 : Array Value} {cz : Int32} {fm : Value} {tk : Addr} (H : Ctx Z a0 cz fm tk) (a : Addr) (h0 : Heap)  :
    ConX l Z consts_1 (⟨"java/lang/Record", "<init>", "()V"⟩ : MethodName) jdk_30_method_1_code 1 (none : Option FieldType) [] ({ frames := 1, cells := 0, slots := 0, locals := 12 } : Room) #[(.ref a)] h0 (fun r h => r = none ∧ h0 = h) := by
  obtain ⟨hw, hE, S0, hcz, S1, rf, SX0⟩ := id H
  refine ConX.of (plainFor_of_name own_pn2) ?_
  intro p e s m below meth c T hby hml hret hlk hnm X0
  have EX0 := ext_refl h0
  refine OEnds.cast (own_ef4 m a ) ?_
  show OEnds p e below _ T (mkF m 0 #[.val (.ref a)] [])
  refine OEnds.go (fun _ q => XS.aloadN X0.here X0.hx rfl (hb hby d_jdk_30_method_1_0) rfl rfl q) ?_
  show OEnds p e below _ T (mkF m 1 #[.val (.ref a)] [(.ref a)])
  refine X0.initO (hw _ (List.mem_of_getElem? (i := 43) rfl)) (hw _ (List.mem_of_getElem? (i := 20) rfl)) (hw _ (List.mem_of_getElem? (i := 21) rfl)) (by rw [hml]; rfl) (hb hby d_jdk_30_method_1_1) (by decide) (W := 0) (Nat.le_of_eq rfl) (by decide) ?_
  intro T1 X2
  show OEnds p e below _ T1 (mkF m 4 #[.val (.ref a)] [])
  exact X2.ret0 hE hlk  hret (hb hby d_jdk_30_method_1_4) (by decide) (by decide) ⟨rfl, rfl⟩
theorem con_ans {l : Launch} {Z : State} {a0 : Array Value} {cz : Int32} {fm : Value} {tk : Addr} (H : Ctx Z a0 cz fm tk) (a : Addr) (oc : Addr) (s1 : Addr) (gza : Z.heap.size ≤ a) (h0 : Heap) (Aa : Exa Z h0 a "com/example/vouchgate/vouchgate/gate/Answer") (Fa_outcome : Fld Z h0 a "com/example/vouchgate/vouchgate/gate/Answer" "outcome" "Lcom/example/vouchgate/vouchgate/gate/Answer$Outcome;" .null) (Fa_ticket : Fld Z h0 a "com/example/vouchgate/vouchgate/gate/Answer" "ticket" "Ljava/lang/String;" .null) :
    ConX l Z consts_1 (⟨"com/example/vouchgate/vouchgate/gate/Answer", "<init>", "(Lcom/example/vouchgate/vouchgate/gate/Answer$Outcome;Ljava/lang/String;)V"⟩ : MethodName) prog_14_method_1_code 3 (none : Option FieldType) [] ({ frames := 2, cells := 0, slots := 0, locals := 24 } : Room) #[(.ref a), (.ref oc), (.ref s1)] h0 (fun r h => r = none ∧ Keep h0 h [a] ∧ Exa Z h a "com/example/vouchgate/vouchgate/gate/Answer" ∧ Fld Z h a "com/example/vouchgate/vouchgate/gate/Answer" "outcome" "Lcom/example/vouchgate/vouchgate/gate/Answer$Outcome;" (.ref oc) ∧ Fld Z h a "com/example/vouchgate/vouchgate/gate/Answer" "ticket" "Ljava/lang/String;" (.ref s1)) := by
  obtain ⟨hw, hE, S0, hcz, S1, rf, SX0⟩ := id H
  refine ConX.of (plainFor_of_name own_pn3) ?_
  intro p e s m below meth c T hby hml hret hlk hnm X0
  have EX0 := ext_refl h0
  refine OEnds.cast (own_ef5 m a oc s1 ) ?_
  show OEnds p e below _ T (mkF m 0 #[.val (.ref a), .val (.ref oc), .val (.ref s1)] [])
  have K0 := Keep.refl h0 [a]
  refine OEnds.go (fun _ q => XS.aloadN X0.here X0.hx rfl (hb hby d_prog_14_method_1_0) rfl rfl q) ?_
  show OEnds p e below _ T (mkF m 1 #[.val (.ref a), .val (.ref oc), .val (.ref s1)] [(.ref a)])
  refine X0.callI hE (con_rec H a h0) (hw _ (List.mem_of_getElem? (i := 38) rfl)) (hw _ (List.mem_of_getElem? (i := 39) rfl)) (hw _ (List.mem_of_getElem? (i := 41) rfl)) (hw _ (List.mem_of_getElem? (i := 42) rfl)) rfl (by decide) (W := 0) (by decide) (by decide) (a := a) (argsL := []) (rest := []) rfl (lenOf own_pd4 rfl) rfl (by rw [hml]; rfl) (Nat.le_of_eq rfl) (hb hby d_prog_14_method_1_1) (by decide) (by decide) ?_
  intro v6 vm4 T1 h3 X2 C5 q7
  obtain ⟨rfl, rfl⟩ := q7
  show OEnds p e below _ T1 (mkF m 4 #[.val (.ref a), .val (.ref oc), .val (.ref s1)] [])
  refine OEnds.go (fun _ q => XS.aloadN X2.here X2.hx rfl (hb hby d_prog_14_method_1_4) rfl rfl q) ?_
  show OEnds p e below _ T1 (mkF m 5 #[.val (.ref a), .val (.ref oc), .val (.ref s1)] [(.ref a)])
  refine OEnds.go (fun _ q => XS.aloadN X2.here X2.hx rfl (hb hby d_prog_14_method_1_5) rfl rfl q) ?_
  show OEnds p e below _ T1 (mkF m 6 #[.val (.ref a), .val (.ref oc), .val (.ref s1)] [(.ref oc), (.ref a)])
  refine X2.putF (v := (.ref oc)) (hw _ (List.mem_of_getElem? (i := 44) rfl)) Via.refl Fa_outcome Aa (Or.inr ⟨(hw _ (List.mem_of_getElem? (i := 45) rfl)), rfl, hnm⟩) (hw _ (List.mem_of_getElem? (i := 31) rfl)) (ty := (FieldType.object "com/example/vouchgate/vouchgate/gate/Answer$Outcome")) (by decide) rfl rfl (Safe.exa X2.al Aa (by decide) (by decide)) gza (hb hby d_prog_14_method_1_6) ?_
  intro T8 h10 X9 W11
  have Fa_outcome_h10 := Fa_outcome.same W11
  have Aa_h10 := Aa.wr W11
  have Fa_ticket_h10 := Fa_ticket.other W11 (Or.inr (slot_ne (a0 := a0) (Or.inr (hw _ (List.mem_of_getElem? (i := 47) rfl))) (Or.inr (hw _ (List.mem_of_getElem? (i := 45) rfl))) (by decide) (t := (FieldType.object "java/lang/String")) (by decide) (t' := (FieldType.object "com/example/vouchgate/vouchgate/gate/Answer$Outcome")) (by decide)))
  have K12 := K0.wr W11 (Or.inl (List.mem_of_getElem? (i := 0) rfl))
  show OEnds p e below _ T8 (mkF m 9 #[.val (.ref a), .val (.ref oc), .val (.ref s1)] [])
  refine OEnds.go (fun _ q => XS.aloadN X9.here X9.hx rfl (hb hby d_prog_14_method_1_9) rfl rfl q) ?_
  show OEnds p e below _ T8 (mkF m 10 #[.val (.ref a), .val (.ref oc), .val (.ref s1)] [(.ref a)])
  refine OEnds.go (fun _ q => XS.aloadN X9.here X9.hx rfl (hb hby d_prog_14_method_1_10) rfl rfl q) ?_
  show OEnds p e below _ T8 (mkF m 11 #[.val (.ref a), .val (.ref oc), .val (.ref s1)] [(.ref s1), (.ref a)])
  refine X9.putF (v := (.ref s1)) (hw _ (List.mem_of_getElem? (i := 46) rfl)) Via.refl Fa_ticket_h10 Aa_h10 (Or.inr ⟨(hw _ (List.mem_of_getElem? (i := 47) rfl)), rfl, hnm⟩) (hw _ (List.mem_of_getElem? (i := 31) rfl)) (ty := (FieldType.object "java/lang/String")) (by decide) rfl rfl (Safe.exa X9.al Aa_h10 (by decide) (by decide)) gza (hb hby d_prog_14_method_1_11) ?_
  intro T13 h15 X14 W16
  have Fa_ticket_h15 := Fa_ticket_h10.same W16
  have Aa_h15 := Aa_h10.wr W16
  have Fa_outcome_h15 := Fa_outcome_h10.other W16 (Or.inr (slot_ne (a0 := a0) (Or.inr (hw _ (List.mem_of_getElem? (i := 45) rfl))) (Or.inr (hw _ (List.mem_of_getElem? (i := 47) rfl))) (by decide) (t := (FieldType.object "com/example/vouchgate/vouchgate/gate/Answer$Outcome")) (by decide) (t' := (FieldType.object "java/lang/String")) (by decide)))
  have K17 := K12.wr W16 (Or.inl (List.mem_of_getElem? (i := 0) rfl))
  show OEnds p e below _ T13 (mkF m 14 #[.val (.ref a), .val (.ref oc), .val (.ref s1)] [])
  exact X14.ret0 hE hlk  hret (hb hby d_prog_14_method_1_14) (by decide) (by decide) ⟨rfl, K17, Aa_h15, Fa_outcome_h15, Fa_ticket_h15⟩
theorem con_tic {l : Launch} {Z : State} {a0 : Array Value} {cz : Int32} {fm : Value} {tk : Addr} (H : Ctx Z a0 cz fm tk) (s1 : Addr) (h0 : Heap)  :
    ConX l Z consts_1 (⟨"com/example/vouchgate/vouchgate/gate/Answer", "ticket", "(Ljava/lang/String;)Lcom/example/vouchgate/vouchgate/gate/Answer;"⟩ : MethodName) prog_14_method_2_code 1 (some (FieldType.object "com/example/vouchgate/vouchgate/gate/Answer")) [] ({ frames := 3, cells := 1, slots := 2, locals := 39 } : Room) #[(.ref s1)] h0 (fun r h => ∃ x : Addr, r = some (.ref x) ∧ Ext h0 h ∧ Exa Z h x "com/example/vouchgate/vouchgate/gate/Answer" ∧ Fld Z h x "com/example/vouchgate/vouchgate/gate/Answer" "outcome" "Lcom/example/vouchgate/vouchgate/gate/Answer$Outcome;" (.ref tk) ∧ Fld Z h x "com/example/vouchgate/vouchgate/gate/Answer" "ticket" "Ljava/lang/String;" (.ref s1)) := by
  obtain ⟨hw, hE, S0, hcz, S1, rf, SX0⟩ := id H
  refine ConX.of (plainFor_of_name own_pn3) ?_
  intro p e s m below meth c T hby hml hret hlk hnm X0
  have EX0 := ext_refl h0
  refine OEnds.cast (own_ef4 m s1 ) ?_
  show OEnds p e below _ T (mkF m 0 #[.val (.ref s1)] [])
  refine X0.newO (hw _ (List.mem_of_getElem? (i := 30) rfl)) (hw _ (List.mem_of_getElem? (i := 31) rfl)) (hw _ (List.mem_of_getElem? (i := 28) rfl)) (hb hby d_prog_14_method_2_0) (by decide) (by decide) ?_
  intro T1 h3 a5 ga5 X2 E4 Aa5 Da5 Ua5
  have gza5 : Z.heap.size ≤ a5 := ga5 ▸ X0.old.1
  have EX_h3 := ext_trans EX0 E4
  have Fa5_outcome : Fld Z h3 a5 "com/example/vouchgate/vouchgate/gate/Answer" "outcome" "Lcom/example/vouchgate/vouchgate/gate/Answer$Outcome;" .null := Da5 (Or.inr (hw _ (List.mem_of_getElem? (i := 45) rfl))) (ty := (FieldType.object "com/example/vouchgate/vouchgate/gate/Answer$Outcome")) (by decide)
  have Fa5_ticket : Fld Z h3 a5 "com/example/vouchgate/vouchgate/gate/Answer" "ticket" "Ljava/lang/String;" .null := Da5 (Or.inr (hw _ (List.mem_of_getElem? (i := 47) rfl))) (ty := (FieldType.object "java/lang/String")) (by decide)
  show OEnds p e below _ T1 (mkF m 3 #[.val (.ref s1)] [(.ref a5)])
  refine OEnds.go (fun _ q => XS.dup X2.here X2.hx rfl (hb hby d_prog_14_method_2_3) rfl rfl q) ?_
  show OEnds p e below _ T1 (mkF m 4 #[.val (.ref s1)] [(.ref a5), (.ref a5)])
  refine X2.getS (hw _ (List.mem_of_getElem? (i := 32) rfl)) Via.refl (SX0.ext X2.old) (hb hby d_prog_14_method_2_4) ?_
  intro T6 X7
  show OEnds p e below _ T6 (mkF m 7 #[.val (.ref s1)] [(.ref tk), (.ref a5), (.ref a5)])
  refine OEnds.go (fun _ q => XS.aloadN X7.here X7.hx rfl (hb hby d_prog_14_method_2_7) rfl rfl q) ?_
  show OEnds p e below _ T6 (mkF m 8 #[.val (.ref s1)] [(.ref s1), (.ref tk), (.ref a5), (.ref a5)])
  refine X7.callI hE (con_ans H a5 tk s1 gza5 h3 Aa5 Fa5_outcome Fa5_ticket) (hw _ (List.mem_of_getElem? (i := 35) rfl)) (hw _ (List.mem_of_getElem? (i := 36) rfl)) (hw _ (List.mem_of_getElem? (i := 28) rfl)) (hw _ (List.mem_of_getElem? (i := 37) rfl)) rfl (by decide) (W := 1) (by decide) (by decide) (a := a5) (argsL := [(.ref tk), (.ref s1)]) (rest := [(.ref a5)]) rfl (lenOf own_pd5 rfl) rfl (by rw [hml]; rfl) (Nat.le_of_eq rfl) (hb hby d_prog_14_method_2_8) (by decide) (by decide) ?_
  intro v17 vm15 T12 h14 X13 C16 q18
  obtain ⟨rfl, K8, E9, Ff10_outcome, Ff11_ticket⟩ := q18
  have EBa5_h14 := ext_keep E4 K8 (allS (Nat.le_of_eq ga5) all0)
  have EX_h14 := ext_keep EX_h3 K8 (allS (Nat.le_trans EX0.1 (Nat.le_of_eq ga5)) all0)
  show OEnds p e below _ T12 (mkF m 11 #[.val (.ref s1)] [(.ref a5)])
  exact X13.retRef hE hlk rfl (t := (FieldType.object "com/example/vouchgate/vouchgate/gate/Answer")) rfl hret (hb hby d_prog_14_method_2_11) (by decide) (by decide) ⟨a5, rfl, EX_h14, E9, Ff10_outcome, Ff11_ticket⟩
theorem con_out {l : Launch} {Z : State} {a0 : Array Value} {cz : Int32} {fm : Value} {tk : Addr} (H : Ctx Z a0 cz fm tk) (a : Addr) (v : Addr) (h0 : Heap) (Fa : Fld Z h0 a "com/example/vouchgate/vouchgate/gate/Answer" "outcome" "Lcom/example/vouchgate/vouchgate/gate/Answer$Outcome;" (.ref v)) :
    ConX l Z consts_1 (⟨"com/example/vouchgate/vouchgate/gate/Answer", "outcome", "()Lcom/example/vouchgate/vouchgate/gate/Answer$Outcome;"⟩ : MethodName) prog_14_method_6_code 1 (some (FieldType.object "com/example/vouchgate/vouchgate/gate/Answer$Outcome")) [] ({ frames := 0, cells := 0, slots := 0, locals := 0 } : Room) #[(.ref a)] h0 (fun r h => r = some (.ref v) ∧ h0 = h) := by
  obtain ⟨hw, hE, S0, hcz, S1, rf, SX0⟩ := id H
  refine ConX.of (plainFor_of_name own_pn3) ?_
  intro p e s m below meth c T hby hml hret hlk hnm X0
  have EX0 := ext_refl h0
  refine OEnds.cast (own_ef4 m a ) ?_
  show OEnds p e below _ T (mkF m 0 #[.val (.ref a)] [])
  refine OEnds.go (fun _ q => XS.aloadN X0.here X0.hx rfl (hb hby d_prog_14_method_6_0) rfl rfl q) ?_
  show OEnds p e below _ T (mkF m 1 #[.val (.ref a)] [(.ref a)])
  refine X0.getF (hw _ (List.mem_of_getElem? (i := 44) rfl)) Via.refl Fa (hb hby d_prog_14_method_6_1) ?_
  intro T1 X2
  show OEnds p e below _ T1 (mkF m 4 #[.val (.ref a)] [(.ref v)])
  exact X2.retRef hE hlk rfl (t := (FieldType.object "com/example/vouchgate/vouchgate/gate/Answer$Outcome")) rfl hret (hb hby d_prog_14_method_6_4) (by decide) (by decide) ⟨rfl, rfl⟩
theorem con_tkt {l : Launch} {Z : State} {a0 : Array Value} {cz : Int32} {fm : Value} {tk : Addr} (H : Ctx Z a0 cz fm tk) (a : Addr) (v : Addr) (h0 : Heap) (Fa : Fld Z h0 a "com/example/vouchgate/vouchgate/gate/Answer" "ticket" "Ljava/lang/String;" (.ref v)) :
    ConX l Z consts_1 (⟨"com/example/vouchgate/vouchgate/gate/Answer", "ticket", "()Ljava/lang/String;"⟩ : MethodName) prog_14_method_7_code 1 (some (FieldType.object "java/lang/String")) [] ({ frames := 0, cells := 0, slots := 0, locals := 0 } : Room) #[(.ref a)] h0 (fun r h => r = some (.ref v) ∧ h0 = h) := by
  obtain ⟨hw, hE, S0, hcz, S1, rf, SX0⟩ := id H
  refine ConX.of (plainFor_of_name own_pn3) ?_
  intro p e s m below meth c T hby hml hret hlk hnm X0
  have EX0 := ext_refl h0
  refine OEnds.cast (own_ef4 m a ) ?_
  show OEnds p e below _ T (mkF m 0 #[.val (.ref a)] [])
  refine OEnds.go (fun _ q => XS.aloadN X0.here X0.hx rfl (hb hby d_prog_14_method_7_0) rfl rfl q) ?_
  show OEnds p e below _ T (mkF m 1 #[.val (.ref a)] [(.ref a)])
  refine X0.getF (hw _ (List.mem_of_getElem? (i := 46) rfl)) Via.refl Fa (hb hby d_prog_14_method_7_1) ?_
  intro T1 X2
  show OEnds p e below _ T1 (mkF m 4 #[.val (.ref a)] [(.ref v)])
  exact X2.retRef hE hlk rfl (t := (FieldType.object "java/lang/String")) rfl hret (hb hby d_prog_14_method_7_4) (by decide) (by decide) ⟨rfl, rfl⟩
theorem con_eqs {l : Launch} {Z : State} {a0 : Array Value} {cz : Int32} {fm : Value} {tk : Addr} (H : Ctx Z a0 cz fm tk) (a : Addr) (h0 : Heap)  :
    ConX l Z consts_1 (⟨"java/lang/String", "equals", "(Ljava/lang/Object;)Z"⟩ : MethodName) jdk_42_method_66_code 3 (some FieldType.boolean) [] ({ frames := 0, cells := 0, slots := 0, locals := 0 } : Room) #[(.ref a), (.ref a)] h0 (fun r h => r = some (.int 1) ∧ h0 = h) := by
  obtain ⟨hw, hE, S0, hcz, S1, rf, SX0⟩ := id H
  refine ConX.of (plainFor_of_name own_pn0) ?_
  intro p e s m below meth c T hby hml hret hlk hnm X0
  have EX0 := ext_refl h0
  refine OEnds.cast (own_ef6 m a a ) ?_
  show OEnds p e below _ T (mkF m 0 #[.val (.ref a), .val (.ref a), .unset] [])
  refine OEnds.go (fun _ q => XS.aloadN X0.here X0.hx rfl (hb hby d_jdk_42_method_66_0) rfl rfl q) ?_
  show OEnds p e below _ T (mkF m 1 #[.val (.ref a), .val (.ref a), .unset] [(.ref a)])
  refine OEnds.go (fun _ q => XS.aloadN X0.here X0.hx rfl (hb hby d_jdk_42_method_66_1) rfl rfl q) ?_
  show OEnds p e below _ T (mkF m 2 #[.val (.ref a), .val (.ref a), .unset] [(.ref a), (.ref a)])
  refine OEnds.go (fun _ q => XT.acmpNo X0.here X0.hx rfl (hb hby d_jdk_42_method_66_2) rfl rfl rfl (own_acneN rfl rfl (decide_eq_true rfl)) q) ?_
  show OEnds p e below _ T (mkF m 5 #[.val (.ref a), .val (.ref a), .unset] [])
  refine OEnds.go (fun _ q => XS.iconst X0.here X0.hx rfl (hb hby d_jdk_42_method_66_5) q) ?_
  show OEnds p e below _ T (mkF m 6 #[.val (.ref a), .val (.ref a), .unset] [(.int (1 : Int32))])
  exact X0.retBool hE hlk (by first | exact Or.inl rfl | exact Or.inr rfl | assumption) hret (hb hby d_jdk_42_method_66_6) (by decide) (by decide) ⟨rfl, rfl⟩
theorem con_law {l : Launch} {Z : State} {a0 : Array Value} {cz : Int32} {fm : Value} {tk : Addr} (H : Ctx Z a0 cz fm tk) (x0 x1 x2 x3 : Int32) (h0 : Heap)  :
    ConX l Z consts_1 x code maxLocals ret tables_1 room_1 #[(.int x0), (.int x1), (.int x2), (.int x3)] h0 (fun r h => r = some (.int 1)) := by
  obtain ⟨hw, hE, S0, hcz, S1, rf, SX0⟩ := id H
  refine ConX.of (plainFor_of_name own_pn4) ?_
  intro p e s m below meth c T hby hml hret hlk hnm X0
  have EX0 := ext_refl h0
  refine OEnds.cast (own_ef7 m x0 x1 x2 x3 ) ?_
  show OEnds p e below _ T (mkF m 0 #[.val (.int x0), .val (.int x1), .val (.int x2), .val (.int x3), .unset, .unset, .unset, .unset, .unset, .unset] [])
  refine OEnds.go (fun _ q => XS.iloadN X0.here X0.hx rfl (hb hby at_0) rfl q) ?_
  show OEnds p e below _ T (mkF m 1 #[.val (.int x0), .val (.int x1), .val (.int x2), .val (.int x3), .unset, .unset, .unset, .unset, .unset, .unset] [(.int x0)])
  refine OEnds.go (fun _ q => XS.sipush X0.here X0.hx rfl (hb hby at_1) q) ?_
  show OEnds p e below _ T (mkF m 4 #[.val (.int x0), .val (.int x1), .val (.int x2), .val (.int x3), .unset, .unset, .unset, .unset, .unset, .unset] [(.int (255 : Int32)), (.int x0)])
  refine OEnds.go (fun _ q => XS.iand X0.here X0.hx rfl (hb hby at_4) rfl q) ?_
  show OEnds p e below _ T (mkF m 5 #[.val (.int x0), .val (.int x1), .val (.int x2), .val (.int x3), .unset, .unset, .unset, .unset, .unset, .unset] [(.int (x0 &&& (255 : Int32)))])
  refine OEnds.go (fun _ q => XS.i2c X0.here X0.hx rfl (hb hby at_5) rfl q) ?_
  show OEnds p e below _ T (mkF m 6 #[.val (.int x0), .val (.int x1), .val (.int x2), .val (.int x3), .unset, .unset, .unset, .unset, .unset, .unset] [(.int ((x0 &&& (255 : Int32)).toUInt32.toUInt16.toUInt32.toInt32))])
  obtain ⟨ca, hca⟩ : ∃ z : Int32, z = ((x0 &&& (255 : Int32)).toUInt32.toUInt16.toUInt32.toInt32) := ⟨_, rfl⟩
  rw [← hca]
  show OEnds p e below _ T (mkF m 6 #[.val (.int x0), .val (.int x1), .val (.int x2), .val (.int x3), .unset, .unset, .unset, .unset, .unset, .unset] [(.int ca)])
  have hcab : ¬ ca < 0 ∧ ¬ (255 : Int32) < ca := hca ▸ ch255 x0
  refine OEnds.go (fun _ q => XS.istore X0.here X0.hx rfl (hb hby at_6) rfl (l' := #[.val (.int x0), .val (.int x1), .val (.int x2), .val (.int x3), .val (.int ca), .unset, .unset, .unset, .unset, .unset]) rfl q) ?_
  show OEnds p e below _ T (mkF m 8 #[.val (.int x0), .val (.int x1), .val (.int x2), .val (.int x3), .val (.int ca), .unset, .unset, .unset, .unset, .unset] [])
  refine OEnds.go (fun _ q => XS.iloadN X0.here X0.hx rfl (hb hby at_8) rfl q) ?_
  show OEnds p e below _ T (mkF m 9 #[.val (.int x0), .val (.int x1), .val (.int x2), .val (.int x3), .val (.int ca), .unset, .unset, .unset, .unset, .unset] [(.int x1)])
  refine OEnds.go (fun _ q => XS.sipush X0.here X0.hx rfl (hb hby at_9) q) ?_
  show OEnds p e below _ T (mkF m 12 #[.val (.int x0), .val (.int x1), .val (.int x2), .val (.int x3), .val (.int ca), .unset, .unset, .unset, .unset, .unset] [(.int (255 : Int32)), (.int x1)])
  refine OEnds.go (fun _ q => XS.iand X0.here X0.hx rfl (hb hby at_12) rfl q) ?_
  show OEnds p e below _ T (mkF m 13 #[.val (.int x0), .val (.int x1), .val (.int x2), .val (.int x3), .val (.int ca), .unset, .unset, .unset, .unset, .unset] [(.int (x1 &&& (255 : Int32)))])
  refine OEnds.go (fun _ q => XS.i2c X0.here X0.hx rfl (hb hby at_13) rfl q) ?_
  show OEnds p e below _ T (mkF m 14 #[.val (.int x0), .val (.int x1), .val (.int x2), .val (.int x3), .val (.int ca), .unset, .unset, .unset, .unset, .unset] [(.int ((x1 &&& (255 : Int32)).toUInt32.toUInt16.toUInt32.toInt32))])
  obtain ⟨cb, hcb⟩ : ∃ z : Int32, z = ((x1 &&& (255 : Int32)).toUInt32.toUInt16.toUInt32.toInt32) := ⟨_, rfl⟩
  rw [← hcb]
  show OEnds p e below _ T (mkF m 14 #[.val (.int x0), .val (.int x1), .val (.int x2), .val (.int x3), .val (.int ca), .unset, .unset, .unset, .unset, .unset] [(.int cb)])
  have hcbb : ¬ cb < 0 ∧ ¬ (255 : Int32) < cb := hcb ▸ ch255 x1
  refine OEnds.go (fun _ q => XS.istore X0.here X0.hx rfl (hb hby at_14) rfl (l' := #[.val (.int x0), .val (.int x1), .val (.int x2), .val (.int x3), .val (.int ca), .val (.int cb), .unset, .unset, .unset, .unset]) rfl q) ?_
  show OEnds p e below _ T (mkF m 16 #[.val (.int x0), .val (.int x1), .val (.int x2), .val (.int x3), .val (.int ca), .val (.int cb), .unset, .unset, .unset, .unset] [])
  refine OEnds.go (fun _ q => XS.iloadN X0.here X0.hx rfl (hb hby at_16) rfl q) ?_
  show OEnds p e below _ T (mkF m 17 #[.val (.int x0), .val (.int x1), .val (.int x2), .val (.int x3), .val (.int ca), .val (.int cb), .unset, .unset, .unset, .unset] [(.int x2)])
  refine OEnds.go (fun _ q => XS.sipush X0.here X0.hx rfl (hb hby at_17) q) ?_
  show OEnds p e below _ T (mkF m 20 #[.val (.int x0), .val (.int x1), .val (.int x2), .val (.int x3), .val (.int ca), .val (.int cb), .unset, .unset, .unset, .unset] [(.int (255 : Int32)), (.int x2)])
  refine OEnds.go (fun _ q => XS.iand X0.here X0.hx rfl (hb hby at_20) rfl q) ?_
  show OEnds p e below _ T (mkF m 21 #[.val (.int x0), .val (.int x1), .val (.int x2), .val (.int x3), .val (.int ca), .val (.int cb), .unset, .unset, .unset, .unset] [(.int (x2 &&& (255 : Int32)))])
  refine OEnds.go (fun _ q => XS.i2c X0.here X0.hx rfl (hb hby at_21) rfl q) ?_
  show OEnds p e below _ T (mkF m 22 #[.val (.int x0), .val (.int x1), .val (.int x2), .val (.int x3), .val (.int ca), .val (.int cb), .unset, .unset, .unset, .unset] [(.int ((x2 &&& (255 : Int32)).toUInt32.toUInt16.toUInt32.toInt32))])
  obtain ⟨cc, hcc⟩ : ∃ z : Int32, z = ((x2 &&& (255 : Int32)).toUInt32.toUInt16.toUInt32.toInt32) := ⟨_, rfl⟩
  rw [← hcc]
  show OEnds p e below _ T (mkF m 22 #[.val (.int x0), .val (.int x1), .val (.int x2), .val (.int x3), .val (.int ca), .val (.int cb), .unset, .unset, .unset, .unset] [(.int cc)])
  have hccb : ¬ cc < 0 ∧ ¬ (255 : Int32) < cc := hcc ▸ ch255 x2
  refine OEnds.go (fun _ q => XS.istore X0.here X0.hx rfl (hb hby at_22) rfl (l' := #[.val (.int x0), .val (.int x1), .val (.int x2), .val (.int x3), .val (.int ca), .val (.int cb), .val (.int cc), .unset, .unset, .unset]) rfl q) ?_
  show OEnds p e below _ T (mkF m 24 #[.val (.int x0), .val (.int x1), .val (.int x2), .val (.int x3), .val (.int ca), .val (.int cb), .val (.int cc), .unset, .unset, .unset] [])
  refine OEnds.go (fun _ q => XS.iloadN X0.here X0.hx rfl (hb hby at_24) rfl q) ?_
  show OEnds p e below _ T (mkF m 25 #[.val (.int x0), .val (.int x1), .val (.int x2), .val (.int x3), .val (.int ca), .val (.int cb), .val (.int cc), .unset, .unset, .unset] [(.int x3)])
  refine OEnds.go (fun _ q => XS.iconst X0.here X0.hx rfl (hb hby at_25) q) ?_
  show OEnds p e below _ T (mkF m 26 #[.val (.int x0), .val (.int x1), .val (.int x2), .val (.int x3), .val (.int ca), .val (.int cb), .val (.int cc), .unset, .unset, .unset] [(.int (3 : Int32)), (.int x3)])
  refine OEnds.go (fun _ q => XS.iand X0.here X0.hx rfl (hb hby at_26) rfl q) ?_
  show OEnds p e below _ T (mkF m 27 #[.val (.int x0), .val (.int x1), .val (.int x2), .val (.int x3), .val (.int ca), .val (.int cb), .val (.int cc), .unset, .unset, .unset] [(.int (x3 &&& (3 : Int32)))])
  obtain ⟨kk, hkk⟩ : ∃ z : Int32, z = (x3 &&& (3 : Int32)) := ⟨_, rfl⟩
  rw [← hkk]
  show OEnds p e below _ T (mkF m 27 #[.val (.int x0), .val (.int x1), .val (.int x2), .val (.int x3), .val (.int ca), .val (.int cb), .val (.int cc), .unset, .unset, .unset] [(.int kk)])
  refine OEnds.go (fun _ q => XS.istore X0.here X0.hx rfl (hb hby at_27) rfl (l' := #[.val (.int x0), .val (.int x1), .val (.int x2), .val (.int x3), .val (.int ca), .val (.int cb), .val (.int cc), .val (.int kk), .unset, .unset]) rfl q) ?_
  show OEnds p e below _ T (mkF m 29 #[.val (.int x0), .val (.int x1), .val (.int x2), .val (.int x3), .val (.int ca), .val (.int cb), .val (.int cc), .val (.int kk), .unset, .unset] [])
  refine OEnds.go (fun _ q => XS.iload X0.here X0.hx rfl (hb hby at_29) rfl q) ?_
  show OEnds p e below _ T (mkF m 31 #[.val (.int x0), .val (.int x1), .val (.int x2), .val (.int x3), .val (.int ca), .val (.int cb), .val (.int cc), .val (.int kk), .unset, .unset] [(.int kk)])
  have J : ∀ (vmj1 : Vm) (Tj1 : State) (hj1 : Heap) (sx : Addr) (cs : List Int32), OSt p l e room_1 s m #[(.int x0), (.int x1), (.int x2), (.int x3)] below meth c "com/example/vouchgate/vouchgate/gate/AnswerTicketPinLaw" Z consts_1 vmj1 Tj1 hj1 6 12 → OStr Z hj1 sx cs → OEnds p e below (GW Z consts_1 s (fun r h => r = some (.int 1)) room_1.cells room_1.slots) Tj1 (mkF m 123 #[.val (.int x0), .val (.int x1), .val (.int x2), .val (.int x3), .val (.int ca), .val (.int cb), .val (.int cc), .val (.int kk), .val (.ref sx), .unset] []) := by
    intro vmj1 Tj1 hj1 sx cs Xj1 Ssx
    refine OEnds.go (fun _ q => XS.aload Xj1.here Xj1.hx rfl (hb hby at_123) rfl rfl q) ?_
    show OEnds p e below _ Tj1 (mkF m 125 #[.val (.int x0), .val (.int x1), .val (.int x2), .val (.int x3), .val (.int ca), .val (.int cb), .val (.int cc), .val (.int kk), .val (.ref sx), .unset] [(.ref sx)])
    refine Xj1.callS hE (con_tic H sx hj1) (hw _ (List.mem_of_getElem? (i := 26) rfl)) (hw _ (List.mem_of_getElem? (i := 27) rfl)) (hw _ (List.mem_of_getElem? (i := 28) rfl)) (hw _ (List.mem_of_getElem? (i := 29) rfl))  (by decide) (W := 0) (by decide) (by decide) (argsL := [(.ref sx)]) (rest := []) rfl (lenOf own_pd6 rfl) rfl (by rw [hml]; rfl) (Nat.le_of_eq rfl) (hb hby at_125) (by decide) (by decide) ?_
    intro v7 vm5 T2 h4 X3 C6 q8
    obtain ⟨rr, rfl, Er, Ar, Fo, Ft⟩ := q8
    have Ssx_h4 := Ssx.ext Er
    show OEnds p e below _ T2 (mkF m 128 #[.val (.int x0), .val (.int x1), .val (.int x2), .val (.int x3), .val (.int ca), .val (.int cb), .val (.int cc), .val (.int kk), .val (.ref sx), .unset] [(.ref rr)])
    refine OEnds.go (fun _ q => XS.astore X3.here X3.hx rfl (hb hby at_128) rfl rfl (l' := #[.val (.int x0), .val (.int x1), .val (.int x2), .val (.int x3), .val (.int ca), .val (.int cb), .val (.int cc), .val (.int kk), .val (.ref sx), .val (.ref rr)]) rfl q) ?_
    show OEnds p e below _ T2 (mkF m 130 #[.val (.int x0), .val (.int x1), .val (.int x2), .val (.int x3), .val (.int ca), .val (.int cb), .val (.int cc), .val (.int kk), .val (.ref sx), .val (.ref rr)] [])
    refine OEnds.go (fun _ q => XS.aload X3.here X3.hx rfl (hb hby at_130) rfl rfl q) ?_
    show OEnds p e below _ T2 (mkF m 132 #[.val (.int x0), .val (.int x1), .val (.int x2), .val (.int x3), .val (.int ca), .val (.int cb), .val (.int cc), .val (.int kk), .val (.ref sx), .val (.ref rr)] [(.ref rr)])
    refine X3.callV hE (con_out H rr tk h4 Fo) (hw _ (List.mem_of_getElem? (i := 48) rfl)) (hw _ (List.mem_of_getElem? (i := 49) rfl)) (hw _ (List.mem_of_getElem? (i := 51) rfl)) (hw _ (List.mem_of_getElem? (i := 50) rfl)) (hw _ (List.mem_of_getElem? (i := 28) rfl)) (hw _ (List.mem_of_getElem? (i := 52) rfl)) (X3.nf (hw _ (List.mem_of_getElem? (i := 51) rfl))) (by decide) (W := 0) (by decide) (by decide) Ar (argsL := []) (rest := []) rfl (lenOf own_pd7 rfl) rfl (by rw [hml]; rfl) (Nat.le_of_eq rfl) (hb hby at_132) (by decide) (by decide) ?_
    intro v14 vm12 T9 h11 X10 C13 q15
    obtain ⟨rfl, rfl⟩ := q15
    show OEnds p e below _ T9 (mkF m 135 #[.val (.int x0), .val (.int x1), .val (.int x2), .val (.int x3), .val (.int ca), .val (.int cb), .val (.int cc), .val (.int kk), .val (.ref sx), .val (.ref rr)] [(.ref tk)])
    refine X10.getS (hw _ (List.mem_of_getElem? (i := 53) rfl)) Via.refl (SX0.ext X10.old) (hb hby at_135) ?_
    intro T16 X17
    show OEnds p e below _ T16 (mkF m 138 #[.val (.int x0), .val (.int x1), .val (.int x2), .val (.int x3), .val (.int ca), .val (.int cb), .val (.int cc), .val (.int kk), .val (.ref sx), .val (.ref rr)] [(.ref tk), (.ref tk)])
    refine OEnds.go (fun _ q => XT.acmpNo X17.here X17.hx rfl (hb hby at_138) rfl rfl rfl (own_acneN rfl rfl (decide_eq_true rfl)) q) ?_
    show OEnds p e below _ T16 (mkF m 141 #[.val (.int x0), .val (.int x1), .val (.int x2), .val (.int x3), .val (.int ca), .val (.int cb), .val (.int cc), .val (.int kk), .val (.ref sx), .val (.ref rr)] [])
    refine OEnds.go (fun _ q => XS.aload X17.here X17.hx rfl (hb hby at_141) rfl rfl q) ?_
    show OEnds p e below _ T16 (mkF m 143 #[.val (.int x0), .val (.int x1), .val (.int x2), .val (.int x3), .val (.int ca), .val (.int cb), .val (.int cc), .val (.int kk), .val (.ref sx), .val (.ref rr)] [(.ref sx)])
    refine OEnds.go (fun _ q => XS.aload X17.here X17.hx rfl (hb hby at_143) rfl rfl q) ?_
    show OEnds p e below _ T16 (mkF m 145 #[.val (.int x0), .val (.int x1), .val (.int x2), .val (.int x3), .val (.int ca), .val (.int cb), .val (.int cc), .val (.int kk), .val (.ref sx), .val (.ref rr)] [(.ref rr), (.ref sx)])
    refine X17.callV hE (con_tkt H rr sx h4 Ft) (hw _ (List.mem_of_getElem? (i := 54) rfl)) (hw _ (List.mem_of_getElem? (i := 55) rfl)) (hw _ (List.mem_of_getElem? (i := 57) rfl)) (hw _ (List.mem_of_getElem? (i := 56) rfl)) (hw _ (List.mem_of_getElem? (i := 28) rfl)) (hw _ (List.mem_of_getElem? (i := 58) rfl)) (X17.nf (hw _ (List.mem_of_getElem? (i := 57) rfl))) (by decide) (W := 1) (by decide) (by decide) Ar (argsL := []) (rest := [(.ref sx)]) rfl (lenOf own_pd8 rfl) rfl (by rw [hml]; rfl) (Nat.le_of_eq rfl) (hb hby at_145) (by decide) (by decide) ?_
    intro v23 vm21 T18 h20 X19 C22 q24
    obtain ⟨rfl, rfl⟩ := q24
    show OEnds p e below _ T18 (mkF m 148 #[.val (.int x0), .val (.int x1), .val (.int x2), .val (.int x3), .val (.int ca), .val (.int cb), .val (.int cc), .val (.int kk), .val (.ref sx), .val (.ref rr)] [(.ref sx), (.ref sx)])
    refine X19.callV hE (con_eqs H sx h4) (hw _ (List.mem_of_getElem? (i := 59) rfl)) (hw _ (List.mem_of_getElem? (i := 60) rfl)) (hw _ (List.mem_of_getElem? (i := 62) rfl)) (hw _ (List.mem_of_getElem? (i := 61) rfl)) (hw _ (List.mem_of_getElem? (i := 2) rfl)) (hw _ (List.mem_of_getElem? (i := 63) rfl)) (X19.nf (hw _ (List.mem_of_getElem? (i := 62) rfl))) (by decide) (W := 0) (by decide) (by decide) Ssx_h4.exa (argsL := [(.ref sx)]) (rest := []) rfl (lenOf own_pd9 rfl) rfl (by rw [hml]; rfl) (Nat.le_of_eq rfl) (hb hby at_148) (by decide) (by decide) ?_
    intro v30 vm28 T25 h27 X26 C29 q31
    obtain ⟨rfl, rfl⟩ := q31
    show OEnds p e below _ T25 (mkF m 151 #[.val (.int x0), .val (.int x1), .val (.int x2), .val (.int x3), .val (.int ca), .val (.int cb), .val (.int cc), .val (.int kk), .val (.ref sx), .val (.ref rr)] [(.int (1 : Int32))])
    refine OEnds.go (fun _ q => XS.ifNo X26.here X26.hx rfl (hb hby at_151) rfl ((if0 _ _).trans (feq (by decide)).1) q) ?_
    show OEnds p e below _ T25 (mkF m 154 #[.val (.int x0), .val (.int x1), .val (.int x2), .val (.int x3), .val (.int ca), .val (.int cb), .val (.int cc), .val (.int kk), .val (.ref sx), .val (.ref rr)] [])
    refine OEnds.go (fun _ q => XS.iconst X26.here X26.hx rfl (hb hby at_154) q) ?_
    show OEnds p e below _ T25 (mkF m 155 #[.val (.int x0), .val (.int x1), .val (.int x2), .val (.int x3), .val (.int ca), .val (.int cb), .val (.int cc), .val (.int kk), .val (.ref sx), .val (.ref rr)] [(.int (1 : Int32))])
    refine OEnds.go (fun _ q => XS.goto X26.here X26.hx rfl (pc0 := 155) (pc' := 159) rfl (hb hby at_155) (by decide) (by decide) q) ?_
    show OEnds p e below _ T25 (mkF m 159 #[.val (.int x0), .val (.int x1), .val (.int x2), .val (.int x3), .val (.int ca), .val (.int cb), .val (.int cc), .val (.int kk), .val (.ref sx), .val (.ref rr)] [(.int (1 : Int32))])
    exact X26.retBool hE hlk (by first | exact Or.inl rfl | exact Or.inr rfl | assumption) hret (hb hby at_159) (by decide) (by decide) rfl
  by_cases hk0 : kk = (0 : Int32)
  · skip
    refine OEnds.go (fun _ q => XS.ifNo X0.here X0.hx rfl (hb hby at_31) rfl ((if0 _ _).trans (teq hk0).2) q) ?_
    show OEnds p e below _ T (mkF m 34 #[.val (.int x0), .val (.int x1), .val (.int x2), .val (.int x3), .val (.int ca), .val (.int cb), .val (.int cc), .val (.int kk), .unset, .unset] [])
    refine X0.newO (hw _ (List.mem_of_getElem? (i := 64) rfl)) (hw _ (List.mem_of_getElem? (i := 10) rfl)) (hw _ (List.mem_of_getElem? (i := 2) rfl)) (hb hby at_34) (by decide) (by decide) ?_
    intro T32 h34 a36 ga36 X33 E35 Aa36 Da36 Ua36
    have gza36 : Z.heap.size ≤ a36 := ga36 ▸ X0.old.1
    have EX_h34 := ext_trans EX0 E35
    have Fa36_value : Fld Z h34 a36 "java/lang/String" "value" "[B" .null := Da36 (Or.inr (hw _ (List.mem_of_getElem? (i := 23) rfl))) (ty := (FieldType.array FieldType.byte)) (by decide)
    have Fa36_coder : Fld Z h34 a36 "java/lang/String" "coder" "B" (.int (0 : Int32)) := Da36 (Or.inr (hw _ (List.mem_of_getElem? (i := 25) rfl))) (ty := FieldType.byte) (by decide)
    show OEnds p e below _ T32 (mkF m 37 #[.val (.int x0), .val (.int x1), .val (.int x2), .val (.int x3), .val (.int ca), .val (.int cb), .val (.int cc), .val (.int kk), .unset, .unset] [(.ref a36)])
    refine OEnds.go (fun _ q => XS.dup X33.here X33.hx rfl (hb hby at_37) rfl rfl q) ?_
    show OEnds p e below _ T32 (mkF m 38 #[.val (.int x0), .val (.int x1), .val (.int x2), .val (.int x3), .val (.int ca), .val (.int cb), .val (.int cc), .val (.int kk), .unset, .unset] [(.ref a36), (.ref a36)])
    refine OEnds.go (fun _ q => XS.iconst X33.here X33.hx rfl (hb hby at_38) q) ?_
    show OEnds p e below _ T32 (mkF m 39 #[.val (.int x0), .val (.int x1), .val (.int x2), .val (.int x3), .val (.int ca), .val (.int cb), .val (.int cc), .val (.int kk), .unset, .unset] [(.int (0 : Int32)), (.ref a36), (.ref a36)])
    refine X33.newP (hw _ (List.mem_of_getElem? (i := 65) rfl)) (hb hby at_39) (by decide) (cap := 0) (by decide) (by decide) (by decide) (by decide) ?_
    intro T37 h39 a41 ka41 ga41 X38 E40 Ka41
    have gza41 : Z.heap.size ≤ a41 := ga41 ▸ X33.old.1
    have Aa36_h39 := Aa36.ext E40
    have Fa36_value_h39 := Fa36_value.ext E40
    have Fa36_coder_h39 := Fa36_coder.ext E40
    have EBa36_h39 := ext_trans E35 E40
    have EX_h39 := ext_trans EX_h34 E40
    have Ka41_0 : Arv Z h39 a41 ka41 .char (0 : Int32) [] (.int (0 : Int32)) := Ka41.pad (pad_rep [] (.int (0 : Int32)) 0)
    show OEnds p e below _ T37 (mkF m 41 #[.val (.int x0), .val (.int x1), .val (.int x2), .val (.int x3), .val (.int ca), .val (.int cb), .val (.int cc), .val (.int kk), .unset, .unset] [(.ref a41), (.ref a36), (.ref a36)])
    refine X38.callI hE (con_strE H a36 a41 ka41 (.int (0 : Int32)) gza36 h39 Aa36_h39 Fa36_value_h39 Fa36_coder_h39 Ka41_0) (hw _ (List.mem_of_getElem? (i := 66) rfl)) (hw _ (List.mem_of_getElem? (i := 67) rfl)) (hw _ (List.mem_of_getElem? (i := 2) rfl)) (hw _ (List.mem_of_getElem? (i := 68) rfl)) rfl (by decide) (W := 1) (by decide) (by decide) (a := a36) (argsL := [(.ref a41)]) (rest := [(.ref a36)]) rfl (lenOf own_pd10 rfl) rfl (by rw [hml]; rfl) (Nat.le_of_eq rfl) (hb hby at_41) (by decide) (by decide) ?_
    intro v49 vm47 T44 h46 X45 C48 q50
    obtain ⟨rfl, K42, Str43⟩ := q50
    have EBa36_h46 := ext_keep EBa36_h39 K42 (allS (Nat.le_of_eq ga36) all0)
    have EX_h46 := ext_keep EX_h39 K42 (allS (Nat.le_trans EX0.1 (Nat.le_of_eq ga36)) all0)
    show OEnds p e below _ T44 (mkF m 44 #[.val (.int x0), .val (.int x1), .val (.int x2), .val (.int x3), .val (.int ca), .val (.int cb), .val (.int cc), .val (.int kk), .unset, .unset] [(.ref a36)])
    refine OEnds.go (fun _ q => XS.astore X45.here X45.hx rfl (hb hby at_44) rfl rfl (l' := #[.val (.int x0), .val (.int x1), .val (.int x2), .val (.int x3), .val (.int ca), .val (.int cb), .val (.int cc), .val (.int kk), .val (.ref a36), .unset]) rfl q) ?_
    show OEnds p e below _ T44 (mkF m 46 #[.val (.int x0), .val (.int x1), .val (.int x2), .val (.int x3), .val (.int ca), .val (.int cb), .val (.int cc), .val (.int kk), .val (.ref a36), .unset] [])
    refine OEnds.go (fun _ q => XS.goto X45.here X45.hx rfl (pc0 := 46) (pc' := 123) rfl (hb hby at_46) (by decide) (by decide) q) ?_
    show OEnds p e below _ T44 (mkF m 123 #[.val (.int x0), .val (.int x1), .val (.int x2), .val (.int x3), .val (.int ca), .val (.int cb), .val (.int cc), .val (.int kk), .val (.ref a36), .unset] [])
    exact J _ _ _ a36 _ (X45.mono (by decide) (by decide)) Str43 
  · skip
    refine OEnds.go (fun _ q => XS.ifYes X0.here X0.hx rfl (pc0 := 31) (pc' := 49) rfl (hb hby at_31) rfl ((if0 _ _).trans (feq hk0).2) (by decide) (by decide) q) ?_
    show OEnds p e below _ T (mkF m 49 #[.val (.int x0), .val (.int x1), .val (.int x2), .val (.int x3), .val (.int ca), .val (.int cb), .val (.int cc), .val (.int kk), .unset, .unset] [])
    refine OEnds.go (fun _ q => XS.iload X0.here X0.hx rfl (hb hby at_49) rfl q) ?_
    show OEnds p e below _ T (mkF m 51 #[.val (.int x0), .val (.int x1), .val (.int x2), .val (.int x3), .val (.int ca), .val (.int cb), .val (.int cc), .val (.int kk), .unset, .unset] [(.int kk)])
    refine OEnds.go (fun _ q => XS.iconst X0.here X0.hx rfl (hb hby at_51) q) ?_
    show OEnds p e below _ T (mkF m 52 #[.val (.int x0), .val (.int x1), .val (.int x2), .val (.int x3), .val (.int ca), .val (.int cb), .val (.int cc), .val (.int kk), .unset, .unset] [(.int (1 : Int32)), (.int kk)])
    by_cases hk1 : kk = (1 : Int32)
    · skip
      refine OEnds.go (fun _ q => XS.icmpNo X0.here X0.hx rfl (hb hby at_52) rfl (teq hk1).2 q) ?_
      show OEnds p e below _ T (mkF m 55 #[.val (.int x0), .val (.int x1), .val (.int x2), .val (.int x3), .val (.int ca), .val (.int cb), .val (.int cc), .val (.int kk), .unset, .unset] [])
      refine OEnds.go (fun _ q => XS.iload X0.here X0.hx rfl (hb hby at_55) rfl q) ?_
      show OEnds p e below _ T (mkF m 57 #[.val (.int x0), .val (.int x1), .val (.int x2), .val (.int x3), .val (.int ca), .val (.int cb), .val (.int cc), .val (.int kk), .unset, .unset] [(.int ca)])
      refine X0.callS hE (con_valC H ca hcab h0) (hw _ (List.mem_of_getElem? (i := 0) rfl)) (hw _ (List.mem_of_getElem? (i := 1) rfl)) (hw _ (List.mem_of_getElem? (i := 2) rfl)) (hw _ (List.mem_of_getElem? (i := 3) rfl))  (by decide) (W := 0) (by decide) (by decide) (argsL := [(.int ca)]) (rest := []) rfl (lenOf own_pd11 rfl) rfl (by rw [hml]; rfl) (Nat.le_of_eq rfl) (hb hby at_57) (by decide) (by decide) ?_
      intro v59 vm57 T54 h56 X55 C58 q60
      obtain ⟨a51, rfl, E52, Str53⟩ := q60
      have EX_h56 := ext_trans EX0 E52
      show OEnds p e below _ T54 (mkF m 60 #[.val (.int x0), .val (.int x1), .val (.int x2), .val (.int x3), .val (.int ca), .val (.int cb), .val (.int cc), .val (.int kk), .unset, .unset] [(.ref a51)])
      refine OEnds.go (fun _ q => XS.astore X55.here X55.hx rfl (hb hby at_60) rfl rfl (l' := #[.val (.int x0), .val (.int x1), .val (.int x2), .val (.int x3), .val (.int ca), .val (.int cb), .val (.int cc), .val (.int kk), .val (.ref a51), .unset]) rfl q) ?_
      show OEnds p e below _ T54 (mkF m 62 #[.val (.int x0), .val (.int x1), .val (.int x2), .val (.int x3), .val (.int ca), .val (.int cb), .val (.int cc), .val (.int kk), .val (.ref a51), .unset] [])
      refine OEnds.go (fun _ q => XS.goto X55.here X55.hx rfl (pc0 := 62) (pc' := 123) rfl (hb hby at_62) (by decide) (by decide) q) ?_
      show OEnds p e below _ T54 (mkF m 123 #[.val (.int x0), .val (.int x1), .val (.int x2), .val (.int x3), .val (.int ca), .val (.int cb), .val (.int cc), .val (.int kk), .val (.ref a51), .unset] [])
      exact J _ _ _ a51 _ (X55.mono (by decide) (by decide)) Str53 
    · skip
      refine OEnds.go (fun _ q => XS.icmpYes X0.here X0.hx rfl (pc0 := 52) (pc' := 65) rfl (hb hby at_52) rfl (feq hk1).2 (by decide) (by decide) q) ?_
      show OEnds p e below _ T (mkF m 65 #[.val (.int x0), .val (.int x1), .val (.int x2), .val (.int x3), .val (.int ca), .val (.int cb), .val (.int cc), .val (.int kk), .unset, .unset] [])
      refine OEnds.go (fun _ q => XS.iload X0.here X0.hx rfl (hb hby at_65) rfl q) ?_
      show OEnds p e below _ T (mkF m 67 #[.val (.int x0), .val (.int x1), .val (.int x2), .val (.int x3), .val (.int ca), .val (.int cb), .val (.int cc), .val (.int kk), .unset, .unset] [(.int kk)])
      refine OEnds.go (fun _ q => XS.iconst X0.here X0.hx rfl (hb hby at_67) q) ?_
      show OEnds p e below _ T (mkF m 68 #[.val (.int x0), .val (.int x1), .val (.int x2), .val (.int x3), .val (.int ca), .val (.int cb), .val (.int cc), .val (.int kk), .unset, .unset] [(.int (2 : Int32)), (.int kk)])
      by_cases hk2 : kk = (2 : Int32)
      · skip
        refine OEnds.go (fun _ q => XS.icmpNo X0.here X0.hx rfl (hb hby at_68) rfl (teq hk2).2 q) ?_
        show OEnds p e below _ T (mkF m 71 #[.val (.int x0), .val (.int x1), .val (.int x2), .val (.int x3), .val (.int ca), .val (.int cb), .val (.int cc), .val (.int kk), .unset, .unset] [])
        refine X0.newO (hw _ (List.mem_of_getElem? (i := 64) rfl)) (hw _ (List.mem_of_getElem? (i := 10) rfl)) (hw _ (List.mem_of_getElem? (i := 2) rfl)) (hb hby at_71) (by decide) (by decide) ?_
        intro T61 h63 a65 ga65 X62 E64 Aa65 Da65 Ua65
        have gza65 : Z.heap.size ≤ a65 := ga65 ▸ X0.old.1
        have EX_h63 := ext_trans EX0 E64
        have Fa65_value : Fld Z h63 a65 "java/lang/String" "value" "[B" .null := Da65 (Or.inr (hw _ (List.mem_of_getElem? (i := 23) rfl))) (ty := (FieldType.array FieldType.byte)) (by decide)
        have Fa65_coder : Fld Z h63 a65 "java/lang/String" "coder" "B" (.int (0 : Int32)) := Da65 (Or.inr (hw _ (List.mem_of_getElem? (i := 25) rfl))) (ty := FieldType.byte) (by decide)
        show OEnds p e below _ T61 (mkF m 74 #[.val (.int x0), .val (.int x1), .val (.int x2), .val (.int x3), .val (.int ca), .val (.int cb), .val (.int cc), .val (.int kk), .unset, .unset] [(.ref a65)])
        refine OEnds.go (fun _ q => XS.dup X62.here X62.hx rfl (hb hby at_74) rfl rfl q) ?_
        show OEnds p e below _ T61 (mkF m 75 #[.val (.int x0), .val (.int x1), .val (.int x2), .val (.int x3), .val (.int ca), .val (.int cb), .val (.int cc), .val (.int kk), .unset, .unset] [(.ref a65), (.ref a65)])
        refine OEnds.go (fun _ q => XS.iconst X62.here X62.hx rfl (hb hby at_75) q) ?_
        show OEnds p e below _ T61 (mkF m 76 #[.val (.int x0), .val (.int x1), .val (.int x2), .val (.int x3), .val (.int ca), .val (.int cb), .val (.int cc), .val (.int kk), .unset, .unset] [(.int (2 : Int32)), (.ref a65), (.ref a65)])
        refine X62.newP (hw _ (List.mem_of_getElem? (i := 65) rfl)) (hb hby at_76) (by decide) (cap := 2) (by decide) (by decide) (by decide) (by decide) ?_
        intro T66 h68 a70 ka70 ga70 X67 E69 Ka70
        have gza70 : Z.heap.size ≤ a70 := ga70 ▸ X62.old.1
        have Aa65_h68 := Aa65.ext E69
        have Fa65_value_h68 := Fa65_value.ext E69
        have Fa65_coder_h68 := Fa65_coder.ext E69
        have EBa65_h68 := ext_trans E64 E69
        have EX_h68 := ext_trans EX_h63 E69
        have Ka70_0 : Arv Z h68 a70 ka70 .char (2 : Int32) [.int (0 : Int32), .int (0 : Int32)] (.int (0 : Int32)) := Ka70.pad (pad_rep [] (.int (0 : Int32)) 2)
        show OEnds p e below _ T66 (mkF m 78 #[.val (.int x0), .val (.int x1), .val (.int x2), .val (.int x3), .val (.int ca), .val (.int cb), .val (.int cc), .val (.int kk), .unset, .unset] [(.ref a70), (.ref a65), (.ref a65)])
        refine OEnds.go (fun _ q => XS.dup X67.here X67.hx rfl (hb hby at_78) rfl rfl q) ?_
        show OEnds p e below _ T66 (mkF m 79 #[.val (.int x0), .val (.int x1), .val (.int x2), .val (.int x3), .val (.int ca), .val (.int cb), .val (.int cc), .val (.int kk), .unset, .unset] [(.ref a70), (.ref a70), (.ref a65), (.ref a65)])
        refine OEnds.go (fun _ q => XS.iconst X67.here X67.hx rfl (hb hby at_79) q) ?_
        show OEnds p e below _ T66 (mkF m 80 #[.val (.int x0), .val (.int x1), .val (.int x2), .val (.int x3), .val (.int ca), .val (.int cb), .val (.int cc), .val (.int kk), .unset, .unset] [(.int (0 : Int32)), (.ref a70), (.ref a70), (.ref a65), (.ref a65)])
        refine OEnds.go (fun _ q => XS.iload X67.here X67.hx rfl (hb hby at_80) rfl q) ?_
        show OEnds p e below _ T66 (mkF m 82 #[.val (.int x0), .val (.int x1), .val (.int x2), .val (.int x3), .val (.int ca), .val (.int cb), .val (.int cc), .val (.int kk), .unset, .unset] [(.int ca), (.int (0 : Int32)), (.ref a70), (.ref a70), (.ref a65), (.ref a65)])
        refine X67.stC Ka70_0 (by decide) (up255 hcab) (i := 0) rfl (Nat.le_of_ble_eq_true rfl) gza70 (hb hby at_82) ?_
        intro T71 h73 X72 W74 Ka70_h73x
        have Ka70_h73 : Arv Z h73 a70 ka70 .char (2 : Int32) [.int ca, .int (0 : Int32)] (.int (0 : Int32)) := Ka70_h73x
        have EBa70_h73 := ext_wr E69 W74 (Nat.le_of_eq ga70)
        have Aa65_h73 := Aa65.ext EBa70_h73
        have Fa65_value_h73 := Fa65_value.ext EBa70_h73
        have Fa65_coder_h73 := Fa65_coder.ext EBa70_h73
        have EX_h73 := ext_wr EX_h68 W74 (Nat.le_trans EX_h63.1 (Nat.le_of_eq ga70))
        have EBa65_h73 := ext_wr EBa65_h68 W74 (Nat.le_trans E64.1 (Nat.le_of_eq ga70))
        show OEnds p e below _ T71 (mkF m 83 #[.val (.int x0), .val (.int x1), .val (.int x2), .val (.int x3), .val (.int ca), .val (.int cb), .val (.int cc), .val (.int kk), .unset, .unset] [(.ref a70), (.ref a65), (.ref a65)])
        refine OEnds.go (fun _ q => XS.dup X72.here X72.hx rfl (hb hby at_83) rfl rfl q) ?_
        show OEnds p e below _ T71 (mkF m 84 #[.val (.int x0), .val (.int x1), .val (.int x2), .val (.int x3), .val (.int ca), .val (.int cb), .val (.int cc), .val (.int kk), .unset, .unset] [(.ref a70), (.ref a70), (.ref a65), (.ref a65)])
        refine OEnds.go (fun _ q => XS.iconst X72.here X72.hx rfl (hb hby at_84) q) ?_
        show OEnds p e below _ T71 (mkF m 85 #[.val (.int x0), .val (.int x1), .val (.int x2), .val (.int x3), .val (.int ca), .val (.int cb), .val (.int cc), .val (.int kk), .unset, .unset] [(.int (1 : Int32)), (.ref a70), (.ref a70), (.ref a65), (.ref a65)])
        refine OEnds.go (fun _ q => XS.iload X72.here X72.hx rfl (hb hby at_85) rfl q) ?_
        show OEnds p e below _ T71 (mkF m 87 #[.val (.int x0), .val (.int x1), .val (.int x2), .val (.int x3), .val (.int ca), .val (.int cb), .val (.int cc), .val (.int kk), .unset, .unset] [(.int cb), (.int (1 : Int32)), (.ref a70), (.ref a70), (.ref a65), (.ref a65)])
        refine X72.stC Ka70_h73 (by decide) (up255 hcbb) (i := 1) rfl (Nat.le_of_ble_eq_true rfl) gza70 (hb hby at_87) ?_
        intro T75 h77 X76 W78 Ka70_h77x
        have Ka70_h77 : Arv Z h77 a70 ka70 .char (2 : Int32) [.int ca, .int cb] (.int (0 : Int32)) := Ka70_h77x
        have EBa70_h77 := ext_wr EBa70_h73 W78 (Nat.le_of_eq ga70)
        have Aa65_h77 := Aa65.ext EBa70_h77
        have Fa65_value_h77 := Fa65_value.ext EBa70_h77
        have Fa65_coder_h77 := Fa65_coder.ext EBa70_h77
        have EX_h77 := ext_wr EX_h73 W78 (Nat.le_trans EX_h63.1 (Nat.le_of_eq ga70))
        have EBa65_h77 := ext_wr EBa65_h73 W78 (Nat.le_trans E64.1 (Nat.le_of_eq ga70))
        show OEnds p e below _ T75 (mkF m 88 #[.val (.int x0), .val (.int x1), .val (.int x2), .val (.int x3), .val (.int ca), .val (.int cb), .val (.int cc), .val (.int kk), .unset, .unset] [(.ref a70), (.ref a65), (.ref a65)])
        refine own_newStr H X76 (cs := [ca, cb]) (j := 2) gza65 Aa65_h77 Fa65_value_h77 Fa65_coder_h77 Ka70_h77 rfl rfl (by decide) (by decide) (all_cons hcab (all_cons hcbb all_nil)) (hw _ (List.mem_of_getElem? (i := 66) rfl)) (W := 1) (by decide) (by decide) (by rw [hml]; rfl) (Nat.le_of_eq rfl) (hb hby at_88) (by decide) (by decide) ?_
        intro T79 h81 X80 K82 Str83
        have EBa65_h81 := ext_keep EBa65_h77 K82 (allS (Nat.le_of_eq ga65) all0)
        have EX_h81 := ext_keep EX_h77 K82 (allS (Nat.le_trans EX0.1 (Nat.le_of_eq ga65)) all0)
        show OEnds p e below _ T79 (mkF m 91 #[.val (.int x0), .val (.int x1), .val (.int x2), .val (.int x3), .val (.int ca), .val (.int cb), .val (.int cc), .val (.int kk), .unset, .unset] [(.ref a65)])
        refine OEnds.go (fun _ q => XS.astore X80.here X80.hx rfl (hb hby at_91) rfl rfl (l' := #[.val (.int x0), .val (.int x1), .val (.int x2), .val (.int x3), .val (.int ca), .val (.int cb), .val (.int cc), .val (.int kk), .val (.ref a65), .unset]) rfl q) ?_
        show OEnds p e below _ T79 (mkF m 93 #[.val (.int x0), .val (.int x1), .val (.int x2), .val (.int x3), .val (.int ca), .val (.int cb), .val (.int cc), .val (.int kk), .val (.ref a65), .unset] [])
        refine OEnds.go (fun _ q => XS.goto X80.here X80.hx rfl (pc0 := 93) (pc' := 123) rfl (hb hby at_93) (by decide) (by decide) q) ?_
        show OEnds p e below _ T79 (mkF m 123 #[.val (.int x0), .val (.int x1), .val (.int x2), .val (.int x3), .val (.int ca), .val (.int cb), .val (.int cc), .val (.int kk), .val (.ref a65), .unset] [])
        exact J _ _ _ a65 _ (X80.mono (by decide) (by decide)) Str83 
      · skip
        refine OEnds.go (fun _ q => XS.icmpYes X0.here X0.hx rfl (pc0 := 68) (pc' := 96) rfl (hb hby at_68) rfl (feq hk2).2 (by decide) (by decide) q) ?_
        show OEnds p e below _ T (mkF m 96 #[.val (.int x0), .val (.int x1), .val (.int x2), .val (.int x3), .val (.int ca), .val (.int cb), .val (.int cc), .val (.int kk), .unset, .unset] [])
        refine X0.newO (hw _ (List.mem_of_getElem? (i := 64) rfl)) (hw _ (List.mem_of_getElem? (i := 10) rfl)) (hw _ (List.mem_of_getElem? (i := 2) rfl)) (hb hby at_96) (by decide) (by decide) ?_
        intro T84 h86 a88 ga88 X85 E87 Aa88 Da88 Ua88
        have gza88 : Z.heap.size ≤ a88 := ga88 ▸ X0.old.1
        have EX_h86 := ext_trans EX0 E87
        have Fa88_value : Fld Z h86 a88 "java/lang/String" "value" "[B" .null := Da88 (Or.inr (hw _ (List.mem_of_getElem? (i := 23) rfl))) (ty := (FieldType.array FieldType.byte)) (by decide)
        have Fa88_coder : Fld Z h86 a88 "java/lang/String" "coder" "B" (.int (0 : Int32)) := Da88 (Or.inr (hw _ (List.mem_of_getElem? (i := 25) rfl))) (ty := FieldType.byte) (by decide)
        show OEnds p e below _ T84 (mkF m 99 #[.val (.int x0), .val (.int x1), .val (.int x2), .val (.int x3), .val (.int ca), .val (.int cb), .val (.int cc), .val (.int kk), .unset, .unset] [(.ref a88)])
        refine OEnds.go (fun _ q => XS.dup X85.here X85.hx rfl (hb hby at_99) rfl rfl q) ?_
        show OEnds p e below _ T84 (mkF m 100 #[.val (.int x0), .val (.int x1), .val (.int x2), .val (.int x3), .val (.int ca), .val (.int cb), .val (.int cc), .val (.int kk), .unset, .unset] [(.ref a88), (.ref a88)])
        refine OEnds.go (fun _ q => XS.iconst X85.here X85.hx rfl (hb hby at_100) q) ?_
        show OEnds p e below _ T84 (mkF m 101 #[.val (.int x0), .val (.int x1), .val (.int x2), .val (.int x3), .val (.int ca), .val (.int cb), .val (.int cc), .val (.int kk), .unset, .unset] [(.int (3 : Int32)), (.ref a88), (.ref a88)])
        refine X85.newP (hw _ (List.mem_of_getElem? (i := 65) rfl)) (hb hby at_101) (by decide) (cap := 3) (by decide) (by decide) (by decide) (by decide) ?_
        intro T89 h91 a93 ka93 ga93 X90 E92 Ka93
        have gza93 : Z.heap.size ≤ a93 := ga93 ▸ X85.old.1
        have Aa88_h91 := Aa88.ext E92
        have Fa88_value_h91 := Fa88_value.ext E92
        have Fa88_coder_h91 := Fa88_coder.ext E92
        have EBa88_h91 := ext_trans E87 E92
        have EX_h91 := ext_trans EX_h86 E92
        have Ka93_0 : Arv Z h91 a93 ka93 .char (3 : Int32) [.int (0 : Int32), .int (0 : Int32), .int (0 : Int32)] (.int (0 : Int32)) := Ka93.pad (pad_rep [] (.int (0 : Int32)) 3)
        show OEnds p e below _ T89 (mkF m 103 #[.val (.int x0), .val (.int x1), .val (.int x2), .val (.int x3), .val (.int ca), .val (.int cb), .val (.int cc), .val (.int kk), .unset, .unset] [(.ref a93), (.ref a88), (.ref a88)])
        refine OEnds.go (fun _ q => XS.dup X90.here X90.hx rfl (hb hby at_103) rfl rfl q) ?_
        show OEnds p e below _ T89 (mkF m 104 #[.val (.int x0), .val (.int x1), .val (.int x2), .val (.int x3), .val (.int ca), .val (.int cb), .val (.int cc), .val (.int kk), .unset, .unset] [(.ref a93), (.ref a93), (.ref a88), (.ref a88)])
        refine OEnds.go (fun _ q => XS.iconst X90.here X90.hx rfl (hb hby at_104) q) ?_
        show OEnds p e below _ T89 (mkF m 105 #[.val (.int x0), .val (.int x1), .val (.int x2), .val (.int x3), .val (.int ca), .val (.int cb), .val (.int cc), .val (.int kk), .unset, .unset] [(.int (0 : Int32)), (.ref a93), (.ref a93), (.ref a88), (.ref a88)])
        refine OEnds.go (fun _ q => XS.iload X90.here X90.hx rfl (hb hby at_105) rfl q) ?_
        show OEnds p e below _ T89 (mkF m 107 #[.val (.int x0), .val (.int x1), .val (.int x2), .val (.int x3), .val (.int ca), .val (.int cb), .val (.int cc), .val (.int kk), .unset, .unset] [(.int ca), (.int (0 : Int32)), (.ref a93), (.ref a93), (.ref a88), (.ref a88)])
        refine X90.stC Ka93_0 (by decide) (up255 hcab) (i := 0) rfl (Nat.le_of_ble_eq_true rfl) gza93 (hb hby at_107) ?_
        intro T94 h96 X95 W97 Ka93_h96x
        have Ka93_h96 : Arv Z h96 a93 ka93 .char (3 : Int32) [.int ca, .int (0 : Int32), .int (0 : Int32)] (.int (0 : Int32)) := Ka93_h96x
        have EBa93_h96 := ext_wr E92 W97 (Nat.le_of_eq ga93)
        have Aa88_h96 := Aa88.ext EBa93_h96
        have Fa88_value_h96 := Fa88_value.ext EBa93_h96
        have Fa88_coder_h96 := Fa88_coder.ext EBa93_h96
        have EX_h96 := ext_wr EX_h91 W97 (Nat.le_trans EX_h86.1 (Nat.le_of_eq ga93))
        have EBa88_h96 := ext_wr EBa88_h91 W97 (Nat.le_trans E87.1 (Nat.le_of_eq ga93))
        show OEnds p e below _ T94 (mkF m 108 #[.val (.int x0), .val (.int x1), .val (.int x2), .val (.int x3), .val (.int ca), .val (.int cb), .val (.int cc), .val (.int kk), .unset, .unset] [(.ref a93), (.ref a88), (.ref a88)])
        refine OEnds.go (fun _ q => XS.dup X95.here X95.hx rfl (hb hby at_108) rfl rfl q) ?_
        show OEnds p e below _ T94 (mkF m 109 #[.val (.int x0), .val (.int x1), .val (.int x2), .val (.int x3), .val (.int ca), .val (.int cb), .val (.int cc), .val (.int kk), .unset, .unset] [(.ref a93), (.ref a93), (.ref a88), (.ref a88)])
        refine OEnds.go (fun _ q => XS.iconst X95.here X95.hx rfl (hb hby at_109) q) ?_
        show OEnds p e below _ T94 (mkF m 110 #[.val (.int x0), .val (.int x1), .val (.int x2), .val (.int x3), .val (.int ca), .val (.int cb), .val (.int cc), .val (.int kk), .unset, .unset] [(.int (1 : Int32)), (.ref a93), (.ref a93), (.ref a88), (.ref a88)])
        refine OEnds.go (fun _ q => XS.iload X95.here X95.hx rfl (hb hby at_110) rfl q) ?_
        show OEnds p e below _ T94 (mkF m 112 #[.val (.int x0), .val (.int x1), .val (.int x2), .val (.int x3), .val (.int ca), .val (.int cb), .val (.int cc), .val (.int kk), .unset, .unset] [(.int cb), (.int (1 : Int32)), (.ref a93), (.ref a93), (.ref a88), (.ref a88)])
        refine X95.stC Ka93_h96 (by decide) (up255 hcbb) (i := 1) rfl (Nat.le_of_ble_eq_true rfl) gza93 (hb hby at_112) ?_
        intro T98 h100 X99 W101 Ka93_h100x
        have Ka93_h100 : Arv Z h100 a93 ka93 .char (3 : Int32) [.int ca, .int cb, .int (0 : Int32)] (.int (0 : Int32)) := Ka93_h100x
        have EBa93_h100 := ext_wr EBa93_h96 W101 (Nat.le_of_eq ga93)
        have Aa88_h100 := Aa88.ext EBa93_h100
        have Fa88_value_h100 := Fa88_value.ext EBa93_h100
        have Fa88_coder_h100 := Fa88_coder.ext EBa93_h100
        have EX_h100 := ext_wr EX_h96 W101 (Nat.le_trans EX_h86.1 (Nat.le_of_eq ga93))
        have EBa88_h100 := ext_wr EBa88_h96 W101 (Nat.le_trans E87.1 (Nat.le_of_eq ga93))
        show OEnds p e below _ T98 (mkF m 113 #[.val (.int x0), .val (.int x1), .val (.int x2), .val (.int x3), .val (.int ca), .val (.int cb), .val (.int cc), .val (.int kk), .unset, .unset] [(.ref a93), (.ref a88), (.ref a88)])
        refine OEnds.go (fun _ q => XS.dup X99.here X99.hx rfl (hb hby at_113) rfl rfl q) ?_
        show OEnds p e below _ T98 (mkF m 114 #[.val (.int x0), .val (.int x1), .val (.int x2), .val (.int x3), .val (.int ca), .val (.int cb), .val (.int cc), .val (.int kk), .unset, .unset] [(.ref a93), (.ref a93), (.ref a88), (.ref a88)])
        refine OEnds.go (fun _ q => XS.iconst X99.here X99.hx rfl (hb hby at_114) q) ?_
        show OEnds p e below _ T98 (mkF m 115 #[.val (.int x0), .val (.int x1), .val (.int x2), .val (.int x3), .val (.int ca), .val (.int cb), .val (.int cc), .val (.int kk), .unset, .unset] [(.int (2 : Int32)), (.ref a93), (.ref a93), (.ref a88), (.ref a88)])
        refine OEnds.go (fun _ q => XS.iload X99.here X99.hx rfl (hb hby at_115) rfl q) ?_
        show OEnds p e below _ T98 (mkF m 117 #[.val (.int x0), .val (.int x1), .val (.int x2), .val (.int x3), .val (.int ca), .val (.int cb), .val (.int cc), .val (.int kk), .unset, .unset] [(.int cc), (.int (2 : Int32)), (.ref a93), (.ref a93), (.ref a88), (.ref a88)])
        refine X99.stC Ka93_h100 (by decide) (up255 hccb) (i := 2) rfl (Nat.le_of_ble_eq_true rfl) gza93 (hb hby at_117) ?_
        intro T102 h104 X103 W105 Ka93_h104x
        have Ka93_h104 : Arv Z h104 a93 ka93 .char (3 : Int32) [.int ca, .int cb, .int cc] (.int (0 : Int32)) := Ka93_h104x
        have EBa93_h104 := ext_wr EBa93_h100 W105 (Nat.le_of_eq ga93)
        have Aa88_h104 := Aa88.ext EBa93_h104
        have Fa88_value_h104 := Fa88_value.ext EBa93_h104
        have Fa88_coder_h104 := Fa88_coder.ext EBa93_h104
        have EX_h104 := ext_wr EX_h100 W105 (Nat.le_trans EX_h86.1 (Nat.le_of_eq ga93))
        have EBa88_h104 := ext_wr EBa88_h100 W105 (Nat.le_trans E87.1 (Nat.le_of_eq ga93))
        show OEnds p e below _ T102 (mkF m 118 #[.val (.int x0), .val (.int x1), .val (.int x2), .val (.int x3), .val (.int ca), .val (.int cb), .val (.int cc), .val (.int kk), .unset, .unset] [(.ref a93), (.ref a88), (.ref a88)])
        refine own_newStr H X103 (cs := [ca, cb, cc]) (j := 3) gza88 Aa88_h104 Fa88_value_h104 Fa88_coder_h104 Ka93_h104 rfl rfl (by decide) (by decide) (all_cons hcab (all_cons hcbb (all_cons hccb all_nil))) (hw _ (List.mem_of_getElem? (i := 66) rfl)) (W := 1) (by decide) (by decide) (by rw [hml]; rfl) (Nat.le_of_eq rfl) (hb hby at_118) (by decide) (by decide) ?_
        intro T106 h108 X107 K109 Str110
        have EBa88_h108 := ext_keep EBa88_h104 K109 (allS (Nat.le_of_eq ga88) all0)
        have EX_h108 := ext_keep EX_h104 K109 (allS (Nat.le_trans EX0.1 (Nat.le_of_eq ga88)) all0)
        show OEnds p e below _ T106 (mkF m 121 #[.val (.int x0), .val (.int x1), .val (.int x2), .val (.int x3), .val (.int ca), .val (.int cb), .val (.int cc), .val (.int kk), .unset, .unset] [(.ref a88)])
        refine OEnds.go (fun _ q => XS.astore X107.here X107.hx rfl (hb hby at_121) rfl rfl (l' := #[.val (.int x0), .val (.int x1), .val (.int x2), .val (.int x3), .val (.int ca), .val (.int cb), .val (.int cc), .val (.int kk), .val (.ref a88), .unset]) rfl q) ?_
        show OEnds p e below _ T106 (mkF m 123 #[.val (.int x0), .val (.int x1), .val (.int x2), .val (.int x3), .val (.int ca), .val (.int cb), .val (.int cc), .val (.int kk), .val (.ref a88), .unset] [])
        exact J _ _ _ a88 _ (X107.mono (by decide) (by decide)) Str110 
theorem comes_1 {Post : Tables → Env → Array Value → State → Outcome → State → Prop} (hpost : ∀ tb e args s v u, (limb_1_1.after args s (.returned v) u = true ∧ limb_1_2.after args s (.returned v) u = true ∧ True) → ReturnedEndW s (.returned v) u (Jvm.fieldLocs frame_1_writes args s ++ Jvm.arrayLocs frame_1_arrays args s ++ Jvm.staticLocs frame_1_statics s) 24 1152 → Post tb e args s (.returned v) u) :
    ArmFor flags0 classFile x code maxLocals ret World_1 tables_1 room_1 Calls_1 rest_1 Pre_1 Post := by
  intro l hfl _ _ p e ha hc hk s m args below hf hA hF happ hP
  obtain ⟨hcalls, hrest, hpre⟩ := hP
  obtain ⟨-, -, -, hnamed, -, -, -, hat⟩ := (Spec.applies_iff hf).mp happ
  obtain ⟨hg, hn⟩ := and_e (Cond.before_iff.mp (show (Jvm.Cond.and given_1 narrow_1).before args s = true from hpre))
  obtain ⟨g0, gr⟩ := and_e hg
  obtain ⟨ga0, gr⟩ := and_e gr
  obtain ⟨ga1, gr⟩ := and_e gr
  obtain ⟨ga2, gr⟩ := and_e gr
  obtain ⟨w0, w1, w2, w3, rfl⟩ : ∃ w0 w1 w2 w3 : Value, args = #[w0, w1, w2, w3] := by
    have hs : args.size = 4 := by simpa [Cond.value, given_1] using g0
    obtain ⟨L⟩ := args
    match L, hs with
    | [w0, w1, w2, w3], _ => exact ⟨w0, w1, w2, w3, rfl⟩
  have hw := fun d (hd : d ∈ tables_1) => atoms_spec (ws := Jvm.Cond.code x code maxLocals ret :: tables_1) hat d (List.mem_cons_of_mem _ hd)
  obtain ⟨hsets, hown0⟩ := atoms_of _ (rest_1_c_eq ▸ (show rest_1_c.before _ s = true from hrest))
  have hfit : Fit s := fun {y c} hc i hi => by
    obtain ⟨ha, rfl⟩ := Array.getElem?_eq_some_iff.mp hc
    have q := List.all_eq_true.mp ((Array.all_eq_true_iff_forall_mem.mp hF) _ (Array.getElem_mem ha)) i (List.mem_range.mpr hi)
    simpa [Array.getElem?_eq_getElem hi] using q
  obtain ⟨i0, e0⟩ := is_v ga0
  obtain rfl : w0 = (.int i0) := Option.some.inj e0
  obtain ⟨i1, e1⟩ := is_v ga1
  obtain rfl : w1 = (.int i1) := Option.some.inj e1
  obtain ⟨i2, e2⟩ := is_v ga2
  obtain rfl : w2 = (.int i2) := Option.some.inj e2
  obtain ⟨i3, e3⟩ := is_v gr
  obtain rfl : w3 = (.int i3) := Option.some.inj e3
  obtain ⟨cz, ecz⟩ := is_v (Cond.before_iff.mp (hsets _ (List.mem_of_getElem? (i := 1) rfl)))
  have S0 : Sta s s.heap "java/lang/String" "COMPACT_STRINGS" "Z" (.int cz) := Sta.start ecz (Or.inl (hsets _ (List.mem_of_getElem? (i := 0) rfl)))
  have hcz : ¬ (cz = (0 : Int32)) := gotF (Cond.eq_ints ecz (Term.int_eval (0))) (not_v (Cond.before_iff.mp (hsets _ (List.mem_of_getElem? (i := 2) rfl))))
  obtain ⟨fm, efm, rf⟩ := isR_v (Cond.before_iff.mp (hsets _ (List.mem_of_getElem? (i := 8) rfl)))
  have S1 : Sta s s.heap "jdk/internal/util/Preconditions" "SIOOBE_FORMATTER" "Ljava/util/function/BiFunction;" fm := Sta.start efm (Or.inl (hsets _ (List.mem_of_getElem? (i := 7) rfl)))
  obtain ⟨tk, etk⟩ := exa_v hn
  have SX0 : Sta s s.heap "com/example/vouchgate/vouchgate/gate/Answer$Outcome" "TICKET" "Lcom/example/vouchgate/vouchgate/gate/Answer$Outcome;" (.ref tk) := Sta.start etk (Or.inr ⟨(hw _ (List.mem_of_getElem? (i := 33) rfl)), (hw _ (List.mem_of_getElem? (i := 34) rfl))⟩)
  have hE : EW s #[.int i0, .int i1, .int i2, .int i3] consts_1 := EW.cons (hw _ (List.mem_of_getElem? (i := 82) rfl)) (by decide) (EW.nil)
  have hCH : CHv s consts_1 s.vm s.heap := CHv.start hE hcalls.1 (hsets _ (List.mem_of_getElem? (i := 2) rfl)) (hw _ (List.mem_of_getElem? (i := 14) rfl)) (hw _ (List.mem_of_getElem? (i := 10) rfl))
  obtain ⟨n, o, h1, h2, h3, v, L, rfl, ⟨rfl, N, -⟩, hq⟩ := con_law (l := l) (Z := s) (a0 := _) ⟨hw, hE, S0, hcz, S1, rf, SX0⟩ i0 i1 i2 i3 s.heap (ext_refl _) p e ha hc hk s m _ below hf ((Spec.applies_iff_loose hf).mp happ).1 ⟨rfl, State.Warmed39.refl s, rfl, hCH⟩ trivial
  refine ⟨n, _, h1, h2, h3, hpost _ _ _ _ _ _ ⟨Cond.after_iff.mpr rfl, Cond.after_iff.mpr (eq_i res_at (Term.int_eval (1)) rfl), trivial⟩ ⟨hq.2.1, hq.2.2.1, hq.2.2.2.1, (hq.2.2.2.2.sift fun y hy => Or.inr (N y hy)).mono (by decide) (by decide)⟩⟩
theorem main_1_1 : Claimed_1_1 := comes_1 fun _ _ _ _ _ _ h hF => ⟨h.1, hF⟩
theorem main_1_2 : Claimed_1_2 := comes_1 fun _ _ _ _ _ _ h hF => ⟨h.2.1, hF⟩
end Jvm.Pilot.@@N@@
namespace Jvm.Pilot.@@N@@
open Jvm Jvm.ClassFile Sem Op Lib Jvm.Free Jvm.Stand Jvm.Pilot.@@N@@.Jvm.D
/-! MADE BY PROGRAM (witnessworld.py) out of the Statement's table words and the real class files: 23 classes; the members and pool entries that the words name. The judged class is class 1, her method 1. -/
namespace start1
open Jvm.ClassFile
def u (s : String) : CpInfo := .utf8 (stringToUtf16 s)
/-- a pool by its gaps: so many unusable entries, then the entry; so many at the end -/
def gap : Nat → List CpInfo → List CpInfo
  | 0, r => r
  | n + 1, r => .unusable :: gap n r
def poolList (es : List (Nat × CpInfo)) (last : Nat) : List CpInfo := es.foldr (fun e r => gap e.1 (e.2 :: r)) (gap last [])
def pool (es : List (Nat × CpInfo)) (last : Nat) : Array CpInfo := ⟨poolList es last⟩
def fileOf (pool : Array CpInfo) (this : Nat) (attrs : Array Attribute := #[]) (ms : Array MethodInfo := #[]) (fl : Nat := 33) (sup : Nat := 0) (ifs : Array Nat := #[]) (fds : Array FieldInfo := #[]) : ClassFile where
  minorVersion := 0
  majorVersion := 65
  constantPool := pool
  accessFlags := fl
  thisClass := this
  superClass := sup
  interfaces := ifs
  fields := fds
  methods := ms
  attributes := attrs
def plain (name : String) (sup : Option ClassId) : Class where
  name := name
  kind := .ordinary
  loader := none
  accessFlags := 33
  super := sup
  interfaces := #[]
  cf := none
  fields := #[]
  methods := #[]
  instanceTypes := #[]
  staticTypes := #[]
  resolved := #[]
  callSites := []
  init := .initialized
  statics := none
  mirror := none

def pool0 : Array CpInfo := pool [(5, u "<init>"), (0, u "()V"), (1, .class_ 10), (1, u "java/lang/Object")] 113

def k0c0 : Code := { maxStack := 0, maxLocals := 1, code := object_method_1_code, exceptionTable := #[], attributes := #[] }
def k0m0 : Method := { name := "<init>", desc := "()V", sig := { parameters := [], returnType := none }, accessFlags := 1, code := some k0c0 }
/-- java/lang/Object -/
def k0 : Class := { plain "java/lang/Object" none with
  accessFlags := 33
  interfaces := #[]
  cf := some (fileOf pool0 8 #[] #[{ accessFlags := 1, nameIndex := 5, descriptorIndex := 6, attributes := #[] }] 33 0 #[] #[])
  fields := #[]
  methods := #[k0m0]
  instanceTypes := #[]
  staticTypes := #[]
  resolved := Array.replicate 124 none
  statics := none }

def pool1 : Array CpInfo := pool [(2, .class_ 4), (1, u "java/lang/Object"), (0, u "<init>"), (0, u "()V"), (0, .class_ 8), (0, u "java/lang/String"), (0, .methodref 7 10), (0, .nameAndType 5 11), (0, u "([C)V"), (0, .methodref 7 13), (0, .nameAndType 14 15), (0, u "valueOf"), (0, u "(C)Ljava/lang/String;"), (0, .methodref 17 18), (0, .class_ 19), (0, .nameAndType 20 21), (0, u "com/example/vouchgate/vouchgate/gate/Answer"), (0, u "ticket"), (0, u "(Ljava/lang/String;)Lcom/example/vouchgate/vouchgate/gate/Answer;"), (0, .methodref 17 23), (0, .nameAndType 24 25), (0, u "outcome"), (0, u "()Lcom/example/vouchgate/vouchgate/gate/Answer$Outcome;"), (0, .fieldref 27 28), (0, .class_ 29), (0, .nameAndType 30 31), (0, u "com/example/vouchgate/vouchgate/gate/Answer$Outcome"), (0, u "TICKET"), (0, u "Lcom/example/vouchgate/vouchgate/gate/Answer$Outcome;"), (0, .methodref 17 33), (0, .nameAndType 20 34), (0, u "()Ljava/lang/String;"), (0, .methodref 7 36), (0, .nameAndType 37 38), (0, u "equals"), (0, u "(Ljava/lang/Object;)Z"), (0, .class_ 40), (0, u "com/example/vouchgate/vouchgate/gate/AnswerTicketPinLaw"), (2, u "law"), (0, u "(IIII)Z")] 5

def k1m0 : Method := { name := "<init>", desc := "()V", sig := { parameters := [], returnType := none }, accessFlags := 1, code := none }
def k1c1 : Code := { maxStack := 6, maxLocals := 10, code := code, exceptionTable := #[], attributes := #[] }
def k1m1 : Method := { name := "law", desc := "(IIII)Z", sig := { parameters := [.int, .int, .int, .int], returnType := some .boolean }, accessFlags := 9, code := some k1c1 }
/-- com/example/vouchgate/vouchgate/gate/AnswerTicketPinLaw -/
def k1 : Class := { plain "com/example/vouchgate/vouchgate/gate/AnswerTicketPinLaw" (some 0) with
  accessFlags := 49
  interfaces := #[]
  cf := some (fileOf pool1 39 #[] #[{ accessFlags := 1, nameIndex := 5, descriptorIndex := 6, attributes := #[] }, { accessFlags := 9, nameIndex := 43, descriptorIndex := 44, attributes := #[] }] 49 2 #[] #[])
  fields := #[]
  methods := #[k1m0, k1m1]
  instanceTypes := #[]
  staticTypes := #[]
  resolved := Array.replicate 50 none
  statics := none }

def pool2 : Array CpInfo := pool [(1, .class_ 2), (0, u "java/io/Serializable"), (0, .class_ 4), (0, u "java/lang/Object")] 2

/-- java/io/Serializable -/
def k2 : Class := { plain "java/io/Serializable" (some 0) with
  accessFlags := 1537
  interfaces := #[]
  cf := some (fileOf pool2 1 #[] #[] 1537 3 #[] #[])
  fields := #[]
  methods := #[]
  instanceTypes := #[]
  staticTypes := #[]
  resolved := Array.replicate 7 none
  statics := none }

def pool3 : Array CpInfo := pool [(1, .class_ 2), (0, u "java/lang/Comparable"), (0, .class_ 4), (0, u "java/lang/Object")] 7

/-- java/lang/Comparable -/
def k3 : Class := { plain "java/lang/Comparable" (some 0) with
  accessFlags := 1537
  interfaces := #[]
  cf := some (fileOf pool3 1 #[] #[] 1537 3 #[] #[])
  fields := #[]
  methods := #[]
  instanceTypes := #[]
  staticTypes := #[]
  resolved := Array.replicate 12 none
  statics := none }

def pool4 : Array CpInfo := pool [(2, .class_ 4), (1, u "java/lang/CharSequence"), (42, .class_ 48), (0, u "java/lang/CharSequence$1CodePointIterator"), (10, .class_ 60), (0, u "java/lang/CharSequence$1CharIterator"), (5, .class_ 67), (0, u "java/lang/Object")] 63

/-- java/lang/CharSequence -/
def k4 : Class := { plain "java/lang/CharSequence" (some 0) with
  accessFlags := 1537
  interfaces := #[]
  cf := some (fileOf pool4 2 #[.nestMembers #[47, 59]] #[] 1537 66 #[] #[])
  fields := #[]
  methods := #[]
  instanceTypes := #[]
  staticTypes := #[]
  resolved := Array.replicate 131 none
  statics := none }

def pool5 : Array CpInfo := pool [(1, .class_ 2), (0, u "java/lang/constant/Constable"), (0, .class_ 4), (0, u "java/lang/Object")] 6

/-- java/lang/constant/Constable -/
def k5 : Class := { plain "java/lang/constant/Constable" (some 0) with
  accessFlags := 1537
  interfaces := #[]
  cf := some (fileOf pool5 1 #[] #[] 1537 3 #[] #[])
  fields := #[]
  methods := #[]
  instanceTypes := #[]
  staticTypes := #[]
  resolved := Array.replicate 11 none
  statics := none }

def pool6 : Array CpInfo := pool [(1, .class_ 2), (0, u "java/lang/constant/ConstantDesc"), (0, .class_ 4), (0, u "java/lang/Object")] 32

/-- java/lang/constant/ConstantDesc -/
def k6 : Class := { plain "java/lang/constant/ConstantDesc" (some 0) with
  accessFlags := 1537
  interfaces := #[]
  cf := some (fileOf pool6 1 #[] #[] 1537 3 #[] #[])
  fields := #[]
  methods := #[]
  instanceTypes := #[]
  staticTypes := #[]
  resolved := Array.replicate 37 none
  statics := none }

def pool7 : Array CpInfo := pool [(1, .methodref 2 3), (0, .class_ 4), (0, .nameAndType 5 6), (0, u "java/lang/Object"), (0, u "<init>"), (0, u "()V"), (0, .string 8), (0, u ""), (0, .fieldref 10 11), (0, .class_ 12), (0, .nameAndType 13 14), (0, u "java/lang/String"), (0, u "value"), (0, u "[B"), (0, .fieldref 10 16), (0, .nameAndType 17 18), (0, u "coder"), (0, u "B"), (2, u "hash"), (0, u "I"), (2, u "hashIsZero"), (0, u "Z"), (0, .methodref 10 28), (0, .nameAndType 5 29), (0, u "([CIILjava/lang/Void;)V"), (8, .fieldref 10 39), (0, .nameAndType 40 26), (0, u "COMPACT_STRINGS"), (1, .class_ 44), (1, u "java/lang/StringUTF16"), (0, u "compress"), (1, .methodref 42 48), (0, .nameAndType 49 50), (0, u "coderFromArrayLen"), (0, u "([BI)B"), (2, u "toBytes"), (53, .class_ 109), (1, u "java/lang/StringLatin1"), (67, .methodref 42 178), (0, .nameAndType 45 179), (0, u "([CII)[B"), (29, .methodref 10 210), (0, .nameAndType 5 211), (0, u "([BB)V"), (157, u "(C)Z"), (173, u "equals"), (29, u "(Ljava/lang/Object;)Z"), (1, .class_ 576), (0, u "java/lang/CharSequence"), (22, u "CASE_INSENSITIVE_ORDER"), (0, u "Ljava/util/Comparator;"), (181, u "valueOf"), (0, u "(C)Ljava/lang/String;"), (226, u "([C)V"), (4, .methodref 107 1016), (0, .nameAndType 1017 369), (0, u "canEncode"), (0, .methodref 107 1019), (0, .nameAndType 53 1020), (0, u "(C)[B"), (80, u "serialPersistentFields"), (0, u "[Ljava/io/ObjectStreamField;"), (0, .class_ 1104), (0, u "java/lang/String$CaseInsensitiveComparator"), (1, .class_ 1107), (0, u "java/io/Serializable"), (0, .class_ 1109), (0, u "java/lang/Comparable"), (0, .class_ 1111), (0, u "java/lang/constant/Constable"), (0, .class_ 1113), (0, u "java/lang/constant/ConstantDesc"), (2, u "serialVersionUID"), (0, u "J"), (3, u "REPL"), (0, u "C"), (2, u "LATIN1"), (1, u "UTF16")] 323

def k7m0 : Method := { name := "<init>", desc := "()V", sig := { parameters := [], returnType := none }, accessFlags := 1, code := none }
def k7c1 : Code := { maxStack := 5, maxLocals := 2, code := jdk_42_method_3_code, exceptionTable := #[], attributes := #[] }
def k7m1 : Method := { name := "<init>", desc := "([C)V", sig := { parameters := [(.array .char)], returnType := none }, accessFlags := 1, code := some k7c1 }
def k7c2 : Code := { maxStack := 2, maxLocals := 3, code := jdk_42_method_66_code, exceptionTable := #[], attributes := #[] }
def k7m2 : Method := { name := "equals", desc := "(Ljava/lang/Object;)Z", sig := { parameters := [(.object "java/lang/Object")], returnType := some .boolean }, accessFlags := 1, code := some k7c2 }
def k7c3 : Code := { maxStack := 4, maxLocals := 1, code := jdk_42_method_139_code, exceptionTable := #[], attributes := #[] }
def k7m3 : Method := { name := "valueOf", desc := "(C)Ljava/lang/String;", sig := { parameters := [.char], returnType := some (.object "java/lang/String") }, accessFlags := 9, code := some k7c3 }
def k7c4 : Code := { maxStack := 4, maxLocals := 6, code := jdk_42_method_149_code, exceptionTable := #[], attributes := #[] }
def k7m4 : Method := { name := "<init>", desc := "([CIILjava/lang/Void;)V", sig := { parameters := [(.array .char), .int, .int, (.object "java/lang/Void")], returnType := none }, accessFlags := 2, code := some k7c4 }
def k7c5 : Code := { maxStack := 2, maxLocals := 3, code := jdk_42_method_151_code, exceptionTable := #[], attributes := #[] }
def k7m5 : Method := { name := "<init>", desc := "([BB)V", sig := { parameters := [(.array .byte), .byte], returnType := none }, accessFlags := 0, code := some k7c5 }
/-- java/lang/String -/
def k7 : Class := { plain "java/lang/String" (some 0) with
  accessFlags := 49
  interfaces := #[2, 3, 4, 5, 6]
  cf := some (fileOf pool7 10 #[.nestMembers #[1103]] #[{ accessFlags := 1, nameIndex := 5, descriptorIndex := 6, attributes := #[] }, { accessFlags := 1, nameIndex := 5, descriptorIndex := 1010, attributes := #[] }, { accessFlags := 1, nameIndex := 543, descriptorIndex := 573, attributes := #[] }, { accessFlags := 9, nameIndex := 782, descriptorIndex := 783, attributes := #[] }, { accessFlags := 2, nameIndex := 5, descriptorIndex := 29, attributes := #[] }, { accessFlags := 0, nameIndex := 5, descriptorIndex := 211, attributes := #[] }] 49 2 #[1106, 1108, 575, 1110, 1112] #[{ accessFlags := 18, nameIndex := 13, descriptorIndex := 14, attributes := #[] }, { accessFlags := 18, nameIndex := 17, descriptorIndex := 18, attributes := #[] }, { accessFlags := 2, nameIndex := 21, descriptorIndex := 22, attributes := #[] }, { accessFlags := 2, nameIndex := 25, descriptorIndex := 26, attributes := #[] }, { accessFlags := 26, nameIndex := 1116, descriptorIndex := 1117, attributes := #[] }, { accessFlags := 24, nameIndex := 40, descriptorIndex := 26, attributes := #[] }, { accessFlags := 26, nameIndex := 1101, descriptorIndex := 1102, attributes := #[] }, { accessFlags := 26, nameIndex := 1121, descriptorIndex := 1122, attributes := #[] }, { accessFlags := 25, nameIndex := 599, descriptorIndex := 600, attributes := #[] }, { accessFlags := 24, nameIndex := 1125, descriptorIndex := 18, attributes := #[] }, { accessFlags := 24, nameIndex := 1127, descriptorIndex := 18, attributes := #[] }])
  fields := #[{ name := "value", type := (.array .byte), accessFlags := 18, slot := 0, constantValue := 0 }, { name := "coder", type := .byte, accessFlags := 18, slot := 1, constantValue := 0 }, { name := "hash", type := .int, accessFlags := 2, slot := 2, constantValue := 0 }, { name := "hashIsZero", type := .boolean, accessFlags := 2, slot := 3, constantValue := 0 }, { name := "serialVersionUID", type := .long, accessFlags := 26, slot := 0, constantValue := 0 }, { name := "COMPACT_STRINGS", type := .boolean, accessFlags := 24, slot := 1, constantValue := 0 }, { name := "serialPersistentFields", type := (.array (.object "java/io/ObjectStreamField")), accessFlags := 26, slot := 2, constantValue := 0 }, { name := "REPL", type := .char, accessFlags := 26, slot := 3, constantValue := 0 }, { name := "CASE_INSENSITIVE_ORDER", type := (.object "java/util/Comparator"), accessFlags := 25, slot := 4, constantValue := 0 }, { name := "LATIN1", type := .byte, accessFlags := 24, slot := 5, constantValue := 0 }, { name := "UTF16", type := .byte, accessFlags := 24, slot := 6, constantValue := 0 }]
  methods := #[k7m0, k7m1, k7m2, k7m3, k7m4, k7m5]
  instanceTypes := #[(.array .byte), .byte, .int, .boolean]
  staticTypes := #[.long, .boolean, (.array (.object "java/io/ObjectStreamField")), .char, (.object "java/util/Comparator"), .byte, .byte]
  resolved := Array.replicate 1451 none
  statics := some 0 }

def pool8 : Array CpInfo := pool [(4, .class_ 6), (1, u "java/lang/Object"), (0, u "<init>"), (0, u "()V"), (5, .class_ 16), (1, u "java/lang/StringLatin1"), (73, u "canEncode"), (14, u "(C)Z"), (15, u "$assertionsDisabled"), (0, u "Z"), (98, .class_ 223), (1, u "java/lang/StringLatin1$LinesSpliterator"), (156, u "toBytes"), (1, u "(C)[B"), (7, .class_ 391), (0, u "java/lang/StringLatin1$CharsSpliterator")] 3

def k8m0 : Method := { name := "<init>", desc := "()V", sig := { parameters := [], returnType := none }, accessFlags := 0, code := none }
def k8c1 : Code := { maxStack := 2, maxLocals := 1, code := jdk_43_method_3_code, exceptionTable := #[], attributes := #[] }
def k8m1 : Method := { name := "canEncode", desc := "(C)Z", sig := { parameters := [.char], returnType := some .boolean }, accessFlags := 9, code := some k8c1 }
def k8c2 : Code := { maxStack := 4, maxLocals := 1, code := jdk_43_method_46_code, exceptionTable := #[], attributes := #[] }
def k8m2 : Method := { name := "toBytes", desc := "(C)[B", sig := { parameters := [.char], returnType := some (.array .byte) }, accessFlags := 9, code := some k8c2 }
/-- java/lang/StringLatin1 -/
def k8 : Class := { plain "java/lang/StringLatin1" (some 0) with
  accessFlags := 48
  interfaces := #[]
  cf := some (fileOf pool8 14 #[.nestMembers #[390, 221]] #[{ accessFlags := 0, nameIndex := 7, descriptorIndex := 8, attributes := #[] }, { accessFlags := 9, nameIndex := 90, descriptorIndex := 105, attributes := #[] }, { accessFlags := 9, nameIndex := 380, descriptorIndex := 382, attributes := #[] }] 48 4 #[] #[{ accessFlags := 4120, nameIndex := 121, descriptorIndex := 122, attributes := #[] }])
  fields := #[{ name := "$assertionsDisabled", type := .boolean, accessFlags := 4120, slot := 0, constantValue := 0 }]
  methods := #[k8m0, k8m1, k8m2]
  instanceTypes := #[]
  staticTypes := #[.boolean]
  resolved := Array.replicate 395 none
  statics := none }

def pool9 : Array CpInfo := pool [(1, .methodref 2 3), (0, .class_ 4), (0, .nameAndType 5 6), (0, u "java/lang/Object"), (0, u "<init>"), (0, u "()V"), (0, .class_ 8), (0, u "java/lang/Record")] 13

def k9c0 : Code := { maxStack := 1, maxLocals := 1, code := jdk_30_method_1_code, exceptionTable := #[], attributes := #[] }
def k9m0 : Method := { name := "<init>", desc := "()V", sig := { parameters := [], returnType := none }, accessFlags := 4, code := some k9c0 }
/-- java/lang/Record -/
def k9 : Class := { plain "java/lang/Record" (some 0) with
  accessFlags := 1057
  interfaces := #[]
  cf := some (fileOf pool9 7 #[] #[{ accessFlags := 4, nameIndex := 5, descriptorIndex := 6, attributes := #[] }] 1057 2 #[] #[])
  fields := #[]
  methods := #[k9m0]
  instanceTypes := #[]
  staticTypes := #[]
  resolved := Array.replicate 22 none
  statics := none }

def pool10 : Array CpInfo := pool [(1, .methodref 2 3), (0, .class_ 4), (0, .nameAndType 5 6), (0, u "java/lang/Record"), (0, u "<init>"), (0, u "()V"), (0, .fieldref 8 9), (0, .class_ 10), (0, .nameAndType 11 12), (0, u "com/example/vouchgate/vouchgate/gate/Answer"), (0, u "outcome"), (0, u "Lcom/example/vouchgate/vouchgate/gate/Answer$Outcome;"), (0, .fieldref 8 14), (0, .nameAndType 15 16), (0, u "ticket"), (0, u "Ljava/lang/String;"), (0, .fieldref 18 19), (0, .class_ 20), (0, .nameAndType 21 12), (0, u "com/example/vouchgate/vouchgate/gate/Answer$Outcome"), (0, u "TICKET"), (0, .methodref 8 23), (0, .nameAndType 5 24), (0, u "(Lcom/example/vouchgate/vouchgate/gate/Answer$Outcome;Ljava/lang/String;)V"), (14, u "WRONG"), (2, u "Lcom/example/vouchgate/vouchgate/gate/Answer;"), (2, u "UNKNOWN_CHALLENGE"), (5, u "(Ljava/lang/String;)Lcom/example/vouchgate/vouchgate/gate/Answer;"), (0, u "()Ljava/lang/String;"), (2, u "()Lcom/example/vouchgate/vouchgate/gate/Answer$Outcome;")] 24

def k10c0 : Code := { maxStack := 2, maxLocals := 3, code := prog_14_method_1_code, exceptionTable := #[], attributes := #[] }
def k10m0 : Method := { name := "<init>", desc := "(Lcom/example/vouchgate/vouchgate/gate/Answer$Outcome;Ljava/lang/String;)V", sig := { parameters := [(.object "com/example/vouchgate/vouchgate/gate/Answer$Outcome"), (.object "java/lang/String")], returnType := none }, accessFlags := 1, code := some k10c0 }
def k10c1 : Code := { maxStack := 4, maxLocals := 1, code := prog_14_method_2_code, exceptionTable := #[], attributes := #[] }
def k10m1 : Method := { name := "ticket", desc := "(Ljava/lang/String;)Lcom/example/vouchgate/vouchgate/gate/Answer;", sig := { parameters := [(.object "java/lang/String")], returnType := some (.object "com/example/vouchgate/vouchgate/gate/Answer") }, accessFlags := 8, code := some k10c1 }
def k10c2 : Code := { maxStack := 1, maxLocals := 1, code := prog_14_method_6_code, exceptionTable := #[], attributes := #[] }
def k10m2 : Method := { name := "outcome", desc := "()Lcom/example/vouchgate/vouchgate/gate/Answer$Outcome;", sig := { parameters := [], returnType := some (.object "com/example/vouchgate/vouchgate/gate/Answer$Outcome") }, accessFlags := 1, code := some k10c2 }
def k10c3 : Code := { maxStack := 1, maxLocals := 1, code := prog_14_method_7_code, exceptionTable := #[], attributes := #[] }
def k10m3 : Method := { name := "ticket", desc := "()Ljava/lang/String;", sig := { parameters := [], returnType := some (.object "java/lang/String") }, accessFlags := 1, code := some k10c3 }
/-- com/example/vouchgate/vouchgate/gate/Answer -/
def k10 : Class := { plain "com/example/vouchgate/vouchgate/gate/Answer" (some 9) with
  accessFlags := 49
  interfaces := #[]
  cf := some (fileOf pool10 8 #[.nestMembers #[18]] #[{ accessFlags := 1, nameIndex := 5, descriptorIndex := 24, attributes := #[] }, { accessFlags := 8, nameIndex := 15, descriptorIndex := 51, attributes := #[] }, { accessFlags := 1, nameIndex := 11, descriptorIndex := 55, attributes := #[] }, { accessFlags := 1, nameIndex := 15, descriptorIndex := 52, attributes := #[] }] 49 2 #[] #[{ accessFlags := 18, nameIndex := 11, descriptorIndex := 12, attributes := #[] }, { accessFlags := 18, nameIndex := 15, descriptorIndex := 16, attributes := #[] }, { accessFlags := 24, nameIndex := 39, descriptorIndex := 42, attributes := #[] }, { accessFlags := 24, nameIndex := 45, descriptorIndex := 42, attributes := #[] }])
  fields := #[{ name := "outcome", type := (.object "com/example/vouchgate/vouchgate/gate/Answer$Outcome"), accessFlags := 18, slot := 0, constantValue := 0 }, { name := "ticket", type := (.object "java/lang/String"), accessFlags := 18, slot := 1, constantValue := 0 }, { name := "WRONG", type := (.object "com/example/vouchgate/vouchgate/gate/Answer"), accessFlags := 24, slot := 0, constantValue := 0 }, { name := "UNKNOWN_CHALLENGE", type := (.object "com/example/vouchgate/vouchgate/gate/Answer"), accessFlags := 24, slot := 1, constantValue := 0 }]
  methods := #[k10m0, k10m1, k10m2, k10m3]
  instanceTypes := #[(.object "com/example/vouchgate/vouchgate/gate/Answer$Outcome"), (.object "java/lang/String")]
  staticTypes := #[(.object "com/example/vouchgate/vouchgate/gate/Answer"), (.object "com/example/vouchgate/vouchgate/gate/Answer")]
  resolved := Array.replicate 80 none
  statics := none }

def pool11 : Array CpInfo := pool [(2, .class_ 4), (1, u "java/lang/Enum"), (0, u "name"), (0, u "Ljava/lang/String;"), (2, u "ordinal"), (0, u "I"), (1, .class_ 14), (1, u "java/lang/Object"), (4, u "hash"), (86, .class_ 108), (1, u "java/lang/Enum$EnumDesc"), (2, .class_ 112), (0, u "java/lang/constant/Constable"), (0, .class_ 114), (0, u "java/lang/Comparable"), (0, .class_ 116), (0, u "java/io/Serializable")] 87

/-- java/lang/Enum -/
def k11 : Class := { plain "java/lang/Enum" (some 0) with
  accessFlags := 1057
  interfaces := #[5, 3, 2]
  cf := some (fileOf pool11 2 #[.nestMembers #[106]] #[] 1057 12 #[111, 113, 115] #[{ accessFlags := 18, nameIndex := 5, descriptorIndex := 6, attributes := #[] }, { accessFlags := 18, nameIndex := 9, descriptorIndex := 10, attributes := #[] }, { accessFlags := 2, nameIndex := 19, descriptorIndex := 10, attributes := #[] }])
  fields := #[{ name := "name", type := (.object "java/lang/String"), accessFlags := 18, slot := 0, constantValue := 0 }, { name := "ordinal", type := .int, accessFlags := 18, slot := 1, constantValue := 0 }, { name := "hash", type := .int, accessFlags := 2, slot := 2, constantValue := 0 }]
  methods := #[]
  instanceTypes := #[(.object "java/lang/String"), .int, .int]
  staticTypes := #[]
  resolved := Array.replicate 204 none
  statics := none }

def pool12 : Array CpInfo := pool [(1, .class_ 2), (0, u "com/example/vouchgate/vouchgate/gate/Answer$Outcome"), (2, u "TICKET"), (0, u "Lcom/example/vouchgate/vouchgate/gate/Answer$Outcome;"), (2, u "WRONG"), (2, u "UNKNOWN_CHALLENGE"), (2, u "$VALUES"), (0, u "[Lcom/example/vouchgate/vouchgate/gate/Answer$Outcome;"), (6, .class_ 25), (1, u "java/lang/Enum"), (26, .class_ 53), (0, u "com/example/vouchgate/vouchgate/gate/Answer")] 2

/-- com/example/vouchgate/vouchgate/gate/Answer$Outcome -/
def k12 : Class := { plain "com/example/vouchgate/vouchgate/gate/Answer$Outcome" (some 11) with
  accessFlags := 16433
  interfaces := #[]
  cf := some (fileOf pool12 1 #[.nestHost 52] #[] 16433 23 #[] #[{ accessFlags := 16409, nameIndex := 5, descriptorIndex := 6, attributes := #[] }, { accessFlags := 16409, nameIndex := 9, descriptorIndex := 6, attributes := #[] }, { accessFlags := 16409, nameIndex := 12, descriptorIndex := 6, attributes := #[] }, { accessFlags := 4122, nameIndex := 15, descriptorIndex := 16, attributes := #[] }])
  fields := #[{ name := "TICKET", type := (.object "com/example/vouchgate/vouchgate/gate/Answer$Outcome"), accessFlags := 16409, slot := 0, constantValue := 0 }, { name := "WRONG", type := (.object "com/example/vouchgate/vouchgate/gate/Answer$Outcome"), accessFlags := 16409, slot := 1, constantValue := 0 }, { name := "UNKNOWN_CHALLENGE", type := (.object "com/example/vouchgate/vouchgate/gate/Answer$Outcome"), accessFlags := 16409, slot := 2, constantValue := 0 }, { name := "$VALUES", type := (.array (.object "com/example/vouchgate/vouchgate/gate/Answer$Outcome")), accessFlags := 4122, slot := 3, constantValue := 0 }]
  methods := #[]
  instanceTypes := #[(.object "java/lang/String"), .int, .int]
  staticTypes := #[(.object "com/example/vouchgate/vouchgate/gate/Answer$Outcome"), (.object "com/example/vouchgate/vouchgate/gate/Answer$Outcome"), (.object "com/example/vouchgate/vouchgate/gate/Answer$Outcome"), (.array (.object "com/example/vouchgate/vouchgate/gate/Answer$Outcome"))]
  resolved := Array.replicate 56 none
  statics := some 1 }

def pool13 : Array CpInfo := pool [(6, .class_ 8), (1, u "java/lang/Object"), (0, u "<init>"), (0, u "()V"), (1, .class_ 14), (1, u "java/lang/StringUTF16"), (31, u "$assertionsDisabled"), (0, u "Z"), (13, u "HI_BYTE_SHIFT"), (0, u "I"), (2, u "LO_BYTE_SHIFT"), (49, .methodref 12 116), (0, .nameAndType 117 118), (0, u "compress"), (0, u "([CI[BII)I"), (3, u "([CII)[B"), (138, u "coderFromArrayLen"), (0, u "([BI)B"), (106, .class_ 371), (1, u "java/lang/StringUTF16$LinesSpliterator"), (58, u "MAX_LENGTH"), (196, .class_ 628), (0, u "java/lang/StringUTF16$CodePointsSpliterator"), (0, .class_ 630), (0, u "java/lang/StringUTF16$CharsSpliterator")] 4

def k13m0 : Method := { name := "<init>", desc := "()V", sig := { parameters := [], returnType := none }, accessFlags := 0, code := none }
def k13c1 : Code := { maxStack := 2, maxLocals := 2, code := jdk_52_method_15_code, exceptionTable := #[], attributes := #[] }
def k13m1 : Method := { name := "coderFromArrayLen", desc := "([BI)B", sig := { parameters := [(.array .byte), .int], returnType := some .byte }, accessFlags := 8, code := some k13c1 }
def k13c2 : Code := { maxStack := 5, maxLocals := 6, code := jdk_52_method_16_code, exceptionTable := #[], attributes := #[] }
def k13m2 : Method := { name := "compress", desc := "([CII)[B", sig := { parameters := [(.array .char), .int, .int], returnType := some (.array .byte) }, accessFlags := 9, code := some k13c2 }
def k13c3 : Code := { maxStack := 3, maxLocals := 7, code := jdk_52_method_21_code, exceptionTable := #[], attributes := #[] }
def k13m3 : Method := { name := "compress", desc := "([CI[BII)I", sig := { parameters := [(.array .char), .int, (.array .byte), .int, .int], returnType := some .int }, accessFlags := 9, code := some k13c3 }
/-- java/lang/StringUTF16 -/
def k13 : Class := { plain "java/lang/StringUTF16" (some 0) with
  accessFlags := 48
  interfaces := #[]
  cf := some (fileOf pool13 12 #[.nestMembers #[627, 629, 369]] #[{ accessFlags := 0, nameIndex := 9, descriptorIndex := 10, attributes := #[] }, { accessFlags := 8, nameIndex := 261, descriptorIndex := 262, attributes := #[] }, { accessFlags := 9, nameIndex := 117, descriptorIndex := 122, attributes := #[] }, { accessFlags := 9, nameIndex := 117, descriptorIndex := 118, attributes := #[] }] 48 6 #[] #[{ accessFlags := 26, nameIndex := 61, descriptorIndex := 62, attributes := #[] }, { accessFlags := 26, nameIndex := 65, descriptorIndex := 62, attributes := #[] }, { accessFlags := 24, nameIndex := 430, descriptorIndex := 62, attributes := #[] }, { accessFlags := 4120, nameIndex := 46, descriptorIndex := 47, attributes := #[] }])
  fields := #[{ name := "HI_BYTE_SHIFT", type := .int, accessFlags := 26, slot := 0, constantValue := 0 }, { name := "LO_BYTE_SHIFT", type := .int, accessFlags := 26, slot := 1, constantValue := 0 }, { name := "MAX_LENGTH", type := .int, accessFlags := 24, slot := 2, constantValue := 0 }, { name := "$assertionsDisabled", type := .boolean, accessFlags := 4120, slot := 3, constantValue := 0 }]
  methods := #[k13m0, k13m1, k13m2, k13m3]
  instanceTypes := #[]
  staticTypes := #[.int, .int, .int, .boolean]
  resolved := Array.replicate 635 none
  statics := none }

def pool14 : Array CpInfo := pool [(2, .class_ 4), (1, u "java/lang/Object"), (0, u "<init>"), (0, u "()V"), (17, .class_ 26), (1, u "jdk/internal/util/Preconditions"), (28, .class_ 56), (0, u "jdk/internal/util/Preconditions$4"), (57, .class_ 115), (0, u "jdk/internal/util/Preconditions$1"), (7, u "SIOOBE_FORMATTER"), (0, u "Ljava/util/function/BiFunction;"), (0, .class_ 126), (0, u "jdk/internal/util/Preconditions$2"), (3, u "AIOOBE_FORMATTER"), (0, .class_ 132), (0, u "jdk/internal/util/Preconditions$3"), (3, u "IOOBE_FORMATTER")] 57

def k14m0 : Method := { name := "<init>", desc := "()V", sig := { parameters := [], returnType := none }, accessFlags := 1, code := none }
/-- jdk/internal/util/Preconditions -/
def k14 : Class := { plain "jdk/internal/util/Preconditions" (some 0) with
  accessFlags := 33
  interfaces := #[]
  cf := some (fileOf pool14 24 #[.nestMembers #[55, 131, 125, 114]] #[{ accessFlags := 1, nameIndex := 5, descriptorIndex := 6, attributes := #[] }] 33 2 #[] #[{ accessFlags := 25, nameIndex := 123, descriptorIndex := 124, attributes := #[] }, { accessFlags := 25, nameIndex := 130, descriptorIndex := 124, attributes := #[] }, { accessFlags := 25, nameIndex := 136, descriptorIndex := 124, attributes := #[] }])
  fields := #[{ name := "SIOOBE_FORMATTER", type := (.object "java/util/function/BiFunction"), accessFlags := 25, slot := 0, constantValue := 0 }, { name := "AIOOBE_FORMATTER", type := (.object "java/util/function/BiFunction"), accessFlags := 25, slot := 1, constantValue := 0 }, { name := "IOOBE_FORMATTER", type := (.object "java/util/function/BiFunction"), accessFlags := 25, slot := 2, constantValue := 0 }]
  methods := #[k14m0]
  instanceTypes := #[]
  staticTypes := #[(.object "java/util/function/BiFunction"), (.object "java/util/function/BiFunction"), (.object "java/util/function/BiFunction")]
  resolved := Array.replicate 194 none
  statics := some 2 }

def pool15 : Array CpInfo := pool [(9, u "<init>"), (6, .class_ 18), (1, u "java/lang/Object"), (0, u "()V"), (1, .class_ 23), (1, u "jdk/internal/util/ArraysSupport"), (0, u "LOG2_ARRAY_LONG_INDEX_SCALE"), (0, u "I"), (2, u "U"), (0, u "Ljdk/internal/misc/Unsafe;"), (8, u "BIG_ENDIAN"), (0, u "Z"), (8, u "LOG2_BYTE_BIT_SIZE"), (4, u "LOG2_ARRAY_INT_INDEX_SCALE"), (54, u "JLA"), (0, u "Ljdk/internal/access/JavaLangAccess;"), (11, u "LOG2_ARRAY_BOOLEAN_INDEX_SCALE"), (9, u "LOG2_ARRAY_BYTE_INDEX_SCALE"), (5, u "LOG2_ARRAY_CHAR_INDEX_SCALE"), (5, u "LOG2_ARRAY_SHORT_INDEX_SCALE"), (18, u "LOG2_ARRAY_FLOAT_INDEX_SCALE"), (24, u "LOG2_ARRAY_DOUBLE_INDEX_SCALE"), (89, u "T_BOOLEAN"), (2, u "T_CHAR"), (1, u "T_FLOAT"), (1, u "T_DOUBLE"), (1, u "T_BYTE"), (1, u "T_SHORT"), (1, u "T_INT"), (1, u "T_LONG"), (1, u "SOFT_MAX_ARRAY_LENGTH")] 83

def k15m0 : Method := { name := "<init>", desc := "()V", sig := { parameters := [], returnType := none }, accessFlags := 2, code := none }
/-- jdk/internal/util/ArraysSupport -/
def k15 : Class := { plain "jdk/internal/util/ArraysSupport" (some 0) with
  accessFlags := 33
  interfaces := #[]
  cf := some (fileOf pool15 21 #[] #[{ accessFlags := 2, nameIndex := 9, descriptorIndex := 19, attributes := #[] }] 33 16 #[] #[{ accessFlags := 24, nameIndex := 28, descriptorIndex := 29, attributes := #[] }, { accessFlags := 26, nameIndex := 38, descriptorIndex := 39, attributes := #[] }, { accessFlags := 25, nameIndex := 121, descriptorIndex := 25, attributes := #[] }, { accessFlags := 25, nameIndex := 131, descriptorIndex := 25, attributes := #[] }, { accessFlags := 25, nameIndex := 137, descriptorIndex := 25, attributes := #[] }, { accessFlags := 25, nameIndex := 143, descriptorIndex := 25, attributes := #[] }, { accessFlags := 25, nameIndex := 53, descriptorIndex := 25, attributes := #[] }, { accessFlags := 25, nameIndex := 24, descriptorIndex := 25, attributes := #[] }, { accessFlags := 25, nameIndex := 162, descriptorIndex := 25, attributes := #[] }, { accessFlags := 25, nameIndex := 187, descriptorIndex := 25, attributes := #[] }, { accessFlags := 26, nameIndex := 48, descriptorIndex := 25, attributes := #[] }, { accessFlags := 25, nameIndex := 277, descriptorIndex := 25, attributes := #[] }, { accessFlags := 25, nameIndex := 280, descriptorIndex := 25, attributes := #[] }, { accessFlags := 25, nameIndex := 282, descriptorIndex := 25, attributes := #[] }, { accessFlags := 25, nameIndex := 284, descriptorIndex := 25, attributes := #[] }, { accessFlags := 25, nameIndex := 286, descriptorIndex := 25, attributes := #[] }, { accessFlags := 25, nameIndex := 288, descriptorIndex := 25, attributes := #[] }, { accessFlags := 25, nameIndex := 290, descriptorIndex := 25, attributes := #[] }, { accessFlags := 25, nameIndex := 292, descriptorIndex := 25, attributes := #[] }, { accessFlags := 26, nameIndex := 108, descriptorIndex := 109, attributes := #[] }, { accessFlags := 25, nameIndex := 294, descriptorIndex := 25, attributes := #[] }])
  fields := #[{ name := "U", type := (.object "jdk/internal/misc/Unsafe"), accessFlags := 24, slot := 0, constantValue := 0 }, { name := "BIG_ENDIAN", type := .boolean, accessFlags := 26, slot := 1, constantValue := 0 }, { name := "LOG2_ARRAY_BOOLEAN_INDEX_SCALE", type := .int, accessFlags := 25, slot := 2, constantValue := 0 }, { name := "LOG2_ARRAY_BYTE_INDEX_SCALE", type := .int, accessFlags := 25, slot := 3, constantValue := 0 }, { name := "LOG2_ARRAY_CHAR_INDEX_SCALE", type := .int, accessFlags := 25, slot := 4, constantValue := 0 }, { name := "LOG2_ARRAY_SHORT_INDEX_SCALE", type := .int, accessFlags := 25, slot := 5, constantValue := 0 }, { name := "LOG2_ARRAY_INT_INDEX_SCALE", type := .int, accessFlags := 25, slot := 6, constantValue := 0 }, { name := "LOG2_ARRAY_LONG_INDEX_SCALE", type := .int, accessFlags := 25, slot := 7, constantValue := 0 }, { name := "LOG2_ARRAY_FLOAT_INDEX_SCALE", type := .int, accessFlags := 25, slot := 8, constantValue := 0 }, { name := "LOG2_ARRAY_DOUBLE_INDEX_SCALE", type := .int, accessFlags := 25, slot := 9, constantValue := 0 }, { name := "LOG2_BYTE_BIT_SIZE", type := .int, accessFlags := 26, slot := 10, constantValue := 0 }, { name := "T_BOOLEAN", type := .int, accessFlags := 25, slot := 11, constantValue := 0 }, { name := "T_CHAR", type := .int, accessFlags := 25, slot := 12, constantValue := 0 }, { name := "T_FLOAT", type := .int, accessFlags := 25, slot := 13, constantValue := 0 }, { name := "T_DOUBLE", type := .int, accessFlags := 25, slot := 14, constantValue := 0 }, { name := "T_BYTE", type := .int, accessFlags := 25, slot := 15, constantValue := 0 }, { name := "T_SHORT", type := .int, accessFlags := 25, slot := 16, constantValue := 0 }, { name := "T_INT", type := .int, accessFlags := 25, slot := 17, constantValue := 0 }, { name := "T_LONG", type := .int, accessFlags := 25, slot := 18, constantValue := 0 }, { name := "JLA", type := (.object "jdk/internal/access/JavaLangAccess"), accessFlags := 26, slot := 19, constantValue := 0 }, { name := "SOFT_MAX_ARRAY_LENGTH", type := .int, accessFlags := 25, slot := 20, constantValue := 0 }]
  methods := #[k15m0]
  instanceTypes := #[]
  staticTypes := #[(.object "jdk/internal/misc/Unsafe"), .boolean, .int, .int, .int, .int, .int, .int, .int, .int, .int, .int, .int, .int, .int, .int, .int, .int, .int, (.object "jdk/internal/access/JavaLangAccess"), .int]
  resolved := Array.replicate 378 none
  statics := none }

def pool16 : Array CpInfo := pool [(1, u "java/lang/Cloneable"), (0, .class_ 1), (0, u "java/lang/Object"), (0, .class_ 3)] 3

/-- java/lang/Cloneable -/
def k16 : Class := { plain "java/lang/Cloneable" (some 0) with
  accessFlags := 1537
  interfaces := #[]
  cf := some (fileOf pool16 2 #[] #[] 1537 4 #[] #[])
  fields := #[]
  methods := #[]
  instanceTypes := #[]
  staticTypes := #[]
  resolved := Array.replicate 8 none
  statics := none }

/-- the primitive byte -/
def k17 : Class := { plain "byte" none with kind := .primitive 'B', accessFlags := 0x411 }
/-- [B -/
def k18 : Class := { plain "[B" (some 0) with kind := .array 17 .byte, interfaces := #[16, 2], accessFlags := 1041 }

/-- the primitive char -/
def k19 : Class := { plain "char" none with kind := .primitive 'C', accessFlags := 0x411 }
/-- [C -/
def k20 : Class := { plain "[C" (some 0) with kind := .array 19 .char, interfaces := #[16, 2], accessFlags := 1041 }

/-- the primitive int -/
def k21 : Class := { plain "int" none with kind := .primitive 'I', accessFlags := 0x411 }
/-- [I -/
def k22 : Class := { plain "[I" (some 0) with kind := .array 21 .int, interfaces := #[16, 2], accessFlags := 1041 }

def heap : Heap := #[{ cls := 7, slots := #[.long 0, .int 1, .null, .int 0, .null, .int 0, .int 0], vm := .statics 7 },
  { cls := 12, slots := #[.ref 3, .null, .null, .null], vm := .statics 12 },
  { cls := 14, slots := #[.null, .null, .null], vm := .statics 14 },
  { cls := 12, slots := #[.null, .int 3, .int 0], vm := .none }]
def classes : Array Class := #[k0, k1, k2, k3, k4, k5, k6, k7, k8, k9, k10, k11, k12, k13, k14, k15, k16, k17, k18, k19, k20, k21, k22]
def interned : List (Array UInt16 × Addr) := []
def slotsUsed : Nat := 17
def theMethod : MethodId := ⟨1, 1⟩
def args0 : Array Value := #[.int 5, .int 7, .int 8, .int 2]
def aboutOver (below : List Frame) : State where
  vm := { classes := classes, interned := interned.toArray }
  heap := heap
  slotsUsed := slotsUsed
  threads := #[{ frames := .invoking theMethod args0 :: below }]
def below0 : List Frame := [.native { method := ⟨0, 0⟩, args := #[] }]
def about1 : State := aboutOver below0
def p0 : Program := .bare "" "" ""
def e0 : Env := launch0.env 0 0 0
theorem w_frames : about1.frames = Frame.invoking theMethod args0 :: below0 := rfl
set_option maxRecDepth 65536 in
theorem w_args : argsFit about1.vm theMethod args0 = true := by decide +kernel
set_option maxRecDepth 65536 in
theorem w_heap : heapFits about1 = true := by decide +kernel
set_option maxRecDepth 65536 in
theorem w_runnable : about1.curStatus? = some .runnable := by decide +kernel
set_option maxRecDepth 65536 in
theorem w_alone : about1.alone = true := by decide +kernel
set_option maxRecDepth 65536 in
theorem w_named : about1.methodNamed? x = some theMethod := by decide +kernel
set_option maxRecDepth 65536 in
theorem w_hears : about1.hears theMethod below0 = true := by decide +kernel
set_option maxRecDepth 65536 in
theorem w_ripe : about1.ripe theMethod args0 below0 = true := by decide +kernel
theorem w_running : about1.status = .running := rfl
set_option maxRecDepth 65536 in
theorem w_room : about1.hasRoom e0.platform room_1 = true :=
  launch0.hasRoom_least _ room_1 (by decide +kernel) (by decide +kernel) (by decide +kernel) (by decide +kernel) (by decide +kernel) (by decide +kernel)
theorem allAtoms_all (ts : List Jvm.Cond) (a : Array Jvm.Value) (st : Jvm.State) : (allAtoms ts).before a st = ts.all (fun c => c.before a st) := by
  induction ts with
  | nil => rfl
  | cons c t ih =>
    show (Jvm.Cond.and c (allAtoms t)).before a st = _
    rw [Jvm.Cond.before_and, ih, List.all_cons]
def words1 : List Jvm.Cond := Jvm.Cond.code x code maxLocals ret :: tables_1
/-- a 'code' word, met by the world's own term for the bytes: nothing is compared byte by byte -/
theorem code_word {y : MethodName} {bytes : ByteArray} {mx : Nat} {rt : Option FieldType} {a : Array Value} {s : State} {m : MethodId} {meth : Method} {c : Code} (h1 : s.methodNamed? y = some m) (h2 : s.vm.method? m = some meth) (h3 : meth.code = some c) (h4 : c.code = bytes)
    (h5 : (c.maxLocals == mx && c.exceptionTable.isEmpty && decide (c.maxStack ≤ mostOperands) && decide (meth.sig.returnType = rt) && !meth.locks && decide (parseMethodDescriptor y.desc = some meth.sig)) = true) : (Jvm.Cond.code y bytes mx rt).before a s = true := by
  simp only [Bool.and_eq_true, beq_iff_eq, Bool.not_eq_true', decide_eq_true_eq] at h5
  obtain ⟨⟨⟨⟨⟨g1, g2⟩, g3⟩, g4⟩, g5⟩, g6⟩ := h5
  simp [Cond.before, Cond.holds, Cond.value, h1, h2, h3, h4, g1, g2, g3, g4, g5, g6]
def isCode : Jvm.Cond → Bool
  | .code _ _ _ _ => true
  | _ => false
theorem all_split {L : List Jvm.Cond} {P : Jvm.Cond → Bool} (h1 : L.all (fun c => isCode c || P c) = true) (h2 : ∀ c ∈ L.filter isCode, P c = true) : L.all P = true := by
  refine List.all_eq_true.mpr fun c hc => ?_
  have h := List.all_eq_true.mp h1 c hc
  rcases Bool.eq_false_or_eq_true (isCode c) with hi | hi
  · exact h2 c (List.mem_filter.mpr ⟨hc, hi⟩)
  · simpa [hi] using h
set_option maxRecDepth 65536 in
theorem w_c0 : (Jvm.Cond.code x code maxLocals ret).before args0 about1 = true := code_word (m := ⟨1, 1⟩) (meth := k1m1) (c := k1c1) (by decide +kernel) rfl rfl rfl (by decide +kernel)
set_option maxRecDepth 65536 in
theorem w_c1 : (Jvm.Cond.code ({ cls := "java/lang/String", name := "valueOf", desc := "(C)Ljava/lang/String;" } : Jvm.MethodName) jdk_42_method_139_code (1 : Nat) (Option.some (Jvm.ClassFile.FieldType.object "java/lang/String"))).before args0 about1 = true := code_word (m := ⟨7, 3⟩) (meth := k7m3) (c := k7c3) (by decide +kernel) rfl rfl rfl (by decide +kernel)
set_option maxRecDepth 65536 in
theorem w_c2 : (Jvm.Cond.code ({ cls := "java/lang/StringLatin1", name := "canEncode", desc := "(C)Z" } : Jvm.MethodName) jdk_43_method_3_code (1 : Nat) (Option.some Jvm.ClassFile.FieldType.boolean)).before args0 about1 = true := code_word (m := ⟨8, 1⟩) (meth := k8m1) (c := k8c1) (by decide +kernel) rfl rfl rfl (by decide +kernel)
set_option maxRecDepth 65536 in
theorem w_c3 : (Jvm.Cond.code ({ cls := "java/lang/StringLatin1", name := "toBytes", desc := "(C)[B" } : Jvm.MethodName) jdk_43_method_46_code (1 : Nat) (Option.some (Jvm.ClassFile.FieldType.array Jvm.ClassFile.FieldType.byte))).before args0 about1 = true := code_word (m := ⟨8, 2⟩) (meth := k8m2) (c := k8c2) (by decide +kernel) rfl rfl rfl (by decide +kernel)
set_option maxRecDepth 65536 in
theorem w_c4 : (Jvm.Cond.code ({ cls := "java/lang/String", name := "<init>", desc := "([BB)V" } : Jvm.MethodName) jdk_42_method_151_code (3 : Nat) (Option.none : Option Jvm.ClassFile.FieldType)).before args0 about1 = true := code_word (m := ⟨7, 5⟩) (meth := k7m5) (c := k7c5) (by decide +kernel) rfl rfl rfl (by decide +kernel)
set_option maxRecDepth 65536 in
theorem w_c5 : (Jvm.Cond.code ({ cls := "java/lang/Object", name := "<init>", desc := "()V" } : Jvm.MethodName) object_method_1_code (1 : Nat) (Option.none : Option Jvm.ClassFile.FieldType)).before args0 about1 = true := code_word (m := ⟨0, 0⟩) (meth := k0m0) (c := k0c0) (by decide +kernel) rfl rfl rfl (by decide +kernel)
set_option maxRecDepth 65536 in
theorem w_c6 : (Jvm.Cond.code ({ cls := "com/example/vouchgate/vouchgate/gate/Answer", name := "ticket", desc := "(Ljava/lang/String;)Lcom/example/vouchgate/vouchgate/gate/Answer;" } : Jvm.MethodName) prog_14_method_2_code (1 : Nat) (Option.some (Jvm.ClassFile.FieldType.object "com/example/vouchgate/vouchgate/gate/Answer"))).before args0 about1 = true := code_word (m := ⟨10, 1⟩) (meth := k10m1) (c := k10c1) (by decide +kernel) rfl rfl rfl (by decide +kernel)
set_option maxRecDepth 65536 in
theorem w_c7 : (Jvm.Cond.code ({ cls := "com/example/vouchgate/vouchgate/gate/Answer", name := "<init>", desc := "(Lcom/example/vouchgate/vouchgate/gate/Answer$Outcome;Ljava/lang/String;)V" } : Jvm.MethodName) prog_14_method_1_code (3 : Nat) (Option.none : Option Jvm.ClassFile.FieldType)).before args0 about1 = true := code_word (m := ⟨10, 0⟩) (meth := k10m0) (c := k10c0) (by decide +kernel) rfl rfl rfl (by decide +kernel)
set_option maxRecDepth 65536 in
theorem w_c8 : (Jvm.Cond.code ({ cls := "java/lang/Record", name := "<init>", desc := "()V" } : Jvm.MethodName) jdk_30_method_1_code (1 : Nat) (Option.none : Option Jvm.ClassFile.FieldType)).before args0 about1 = true := code_word (m := ⟨9, 0⟩) (meth := k9m0) (c := k9c0) (by decide +kernel) rfl rfl rfl (by decide +kernel)
set_option maxRecDepth 65536 in
theorem w_c9 : (Jvm.Cond.code ({ cls := "com/example/vouchgate/vouchgate/gate/Answer", name := "outcome", desc := "()Lcom/example/vouchgate/vouchgate/gate/Answer$Outcome;" } : Jvm.MethodName) prog_14_method_6_code (1 : Nat) (Option.some (Jvm.ClassFile.FieldType.object "com/example/vouchgate/vouchgate/gate/Answer$Outcome"))).before args0 about1 = true := code_word (m := ⟨10, 2⟩) (meth := k10m2) (c := k10c2) (by decide +kernel) rfl rfl rfl (by decide +kernel)
set_option maxRecDepth 65536 in
theorem w_c10 : (Jvm.Cond.code ({ cls := "com/example/vouchgate/vouchgate/gate/Answer", name := "ticket", desc := "()Ljava/lang/String;" } : Jvm.MethodName) prog_14_method_7_code (1 : Nat) (Option.some (Jvm.ClassFile.FieldType.object "java/lang/String"))).before args0 about1 = true := code_word (m := ⟨10, 3⟩) (meth := k10m3) (c := k10c3) (by decide +kernel) rfl rfl rfl (by decide +kernel)
set_option maxRecDepth 65536 in
theorem w_c11 : (Jvm.Cond.code ({ cls := "java/lang/String", name := "equals", desc := "(Ljava/lang/Object;)Z" } : Jvm.MethodName) jdk_42_method_66_code (3 : Nat) (Option.some Jvm.ClassFile.FieldType.boolean)).before args0 about1 = true := code_word (m := ⟨7, 2⟩) (meth := k7m2) (c := k7c2) (by decide +kernel) rfl rfl rfl (by decide +kernel)
set_option maxRecDepth 65536 in
theorem w_c12 : (Jvm.Cond.code ({ cls := "java/lang/String", name := "<init>", desc := "([C)V" } : Jvm.MethodName) jdk_42_method_3_code (2 : Nat) (Option.none : Option Jvm.ClassFile.FieldType)).before args0 about1 = true := code_word (m := ⟨7, 1⟩) (meth := k7m1) (c := k7c1) (by decide +kernel) rfl rfl rfl (by decide +kernel)
set_option maxRecDepth 65536 in
theorem w_c13 : (Jvm.Cond.code ({ cls := "java/lang/String", name := "<init>", desc := "([CIILjava/lang/Void;)V" } : Jvm.MethodName) jdk_42_method_149_code (6 : Nat) (Option.none : Option Jvm.ClassFile.FieldType)).before args0 about1 = true := code_word (m := ⟨7, 4⟩) (meth := k7m4) (c := k7c4) (by decide +kernel) rfl rfl rfl (by decide +kernel)
set_option maxRecDepth 65536 in
theorem w_c14 : (Jvm.Cond.code ({ cls := "java/lang/StringUTF16", name := "compress", desc := "([CII)[B" } : Jvm.MethodName) jdk_52_method_16_code (6 : Nat) (Option.some (Jvm.ClassFile.FieldType.array Jvm.ClassFile.FieldType.byte))).before args0 about1 = true := code_word (m := ⟨13, 2⟩) (meth := k13m2) (c := k13c2) (by decide +kernel) rfl rfl rfl (by decide +kernel)
set_option maxRecDepth 65536 in
theorem w_c15 : (Jvm.Cond.code ({ cls := "java/lang/StringUTF16", name := "compress", desc := "([CI[BII)I" } : Jvm.MethodName) jdk_52_method_21_code (7 : Nat) (Option.some Jvm.ClassFile.FieldType.int)).before args0 about1 = true := code_word (m := ⟨13, 3⟩) (meth := k13m3) (c := k13c3) (by decide +kernel) rfl rfl rfl (by decide +kernel)
set_option maxRecDepth 65536 in
theorem w_c16 : (Jvm.Cond.code ({ cls := "java/lang/StringUTF16", name := "coderFromArrayLen", desc := "([BI)B" } : Jvm.MethodName) jdk_52_method_15_code (2 : Nat) (Option.some Jvm.ClassFile.FieldType.byte)).before args0 about1 = true := code_word (m := ⟨13, 1⟩) (meth := k13m1) (c := k13c1) (by decide +kernel) rfl rfl rfl (by decide +kernel)
def codes1 : List Jvm.Cond := [Jvm.Cond.code x code maxLocals ret, Jvm.Cond.code ({ cls := "java/lang/String", name := "valueOf", desc := "(C)Ljava/lang/String;" } : Jvm.MethodName) jdk_42_method_139_code (1 : Nat) (Option.some (Jvm.ClassFile.FieldType.object "java/lang/String")), Jvm.Cond.code ({ cls := "java/lang/StringLatin1", name := "canEncode", desc := "(C)Z" } : Jvm.MethodName) jdk_43_method_3_code (1 : Nat) (Option.some Jvm.ClassFile.FieldType.boolean), Jvm.Cond.code ({ cls := "java/lang/StringLatin1", name := "toBytes", desc := "(C)[B" } : Jvm.MethodName) jdk_43_method_46_code (1 : Nat) (Option.some (Jvm.ClassFile.FieldType.array Jvm.ClassFile.FieldType.byte)), Jvm.Cond.code ({ cls := "java/lang/String", name := "<init>", desc := "([BB)V" } : Jvm.MethodName) jdk_42_method_151_code (3 : Nat) (Option.none : Option Jvm.ClassFile.FieldType), Jvm.Cond.code ({ cls := "java/lang/Object", name := "<init>", desc := "()V" } : Jvm.MethodName) object_method_1_code (1 : Nat) (Option.none : Option Jvm.ClassFile.FieldType), Jvm.Cond.code ({ cls := "com/example/vouchgate/vouchgate/gate/Answer", name := "ticket", desc := "(Ljava/lang/String;)Lcom/example/vouchgate/vouchgate/gate/Answer;" } : Jvm.MethodName) prog_14_method_2_code (1 : Nat) (Option.some (Jvm.ClassFile.FieldType.object "com/example/vouchgate/vouchgate/gate/Answer")), Jvm.Cond.code ({ cls := "com/example/vouchgate/vouchgate/gate/Answer", name := "<init>", desc := "(Lcom/example/vouchgate/vouchgate/gate/Answer$Outcome;Ljava/lang/String;)V" } : Jvm.MethodName) prog_14_method_1_code (3 : Nat) (Option.none : Option Jvm.ClassFile.FieldType), Jvm.Cond.code ({ cls := "java/lang/Record", name := "<init>", desc := "()V" } : Jvm.MethodName) jdk_30_method_1_code (1 : Nat) (Option.none : Option Jvm.ClassFile.FieldType), Jvm.Cond.code ({ cls := "com/example/vouchgate/vouchgate/gate/Answer", name := "outcome", desc := "()Lcom/example/vouchgate/vouchgate/gate/Answer$Outcome;" } : Jvm.MethodName) prog_14_method_6_code (1 : Nat) (Option.some (Jvm.ClassFile.FieldType.object "com/example/vouchgate/vouchgate/gate/Answer$Outcome")), Jvm.Cond.code ({ cls := "com/example/vouchgate/vouchgate/gate/Answer", name := "ticket", desc := "()Ljava/lang/String;" } : Jvm.MethodName) prog_14_method_7_code (1 : Nat) (Option.some (Jvm.ClassFile.FieldType.object "java/lang/String")), Jvm.Cond.code ({ cls := "java/lang/String", name := "equals", desc := "(Ljava/lang/Object;)Z" } : Jvm.MethodName) jdk_42_method_66_code (3 : Nat) (Option.some Jvm.ClassFile.FieldType.boolean), Jvm.Cond.code ({ cls := "java/lang/String", name := "<init>", desc := "([C)V" } : Jvm.MethodName) jdk_42_method_3_code (2 : Nat) (Option.none : Option Jvm.ClassFile.FieldType), Jvm.Cond.code ({ cls := "java/lang/String", name := "<init>", desc := "([CIILjava/lang/Void;)V" } : Jvm.MethodName) jdk_42_method_149_code (6 : Nat) (Option.none : Option Jvm.ClassFile.FieldType), Jvm.Cond.code ({ cls := "java/lang/StringUTF16", name := "compress", desc := "([CII)[B" } : Jvm.MethodName) jdk_52_method_16_code (6 : Nat) (Option.some (Jvm.ClassFile.FieldType.array Jvm.ClassFile.FieldType.byte)), Jvm.Cond.code ({ cls := "java/lang/StringUTF16", name := "compress", desc := "([CI[BII)I" } : Jvm.MethodName) jdk_52_method_21_code (7 : Nat) (Option.some Jvm.ClassFile.FieldType.int), Jvm.Cond.code ({ cls := "java/lang/StringUTF16", name := "coderFromArrayLen", desc := "([BI)B" } : Jvm.MethodName) jdk_52_method_15_code (2 : Nat) (Option.some Jvm.ClassFile.FieldType.byte)]
set_option maxRecDepth 65536 in
theorem codes_eq : words1.filter isCode = codes1 := rfl
theorem w_codes : ∀ c ∈ words1.filter isCode, c.before args0 about1 = true := by
  rw [codes_eq]
  intro c hc
  simp only [codes1, List.mem_cons, List.not_mem_nil, or_false] at hc
  rcases hc with rfl | rfl | rfl | rfl | rfl | rfl | rfl | rfl | rfl | rfl | rfl | rfl | rfl | rfl | rfl | rfl | rfl
  · exact w_c0
  · exact w_c1
  · exact w_c2
  · exact w_c3
  · exact w_c4
  · exact w_c5
  · exact w_c6
  · exact w_c7
  · exact w_c8
  · exact w_c9
  · exact w_c10
  · exact w_c11
  · exact w_c12
  · exact w_c13
  · exact w_c14
  · exact w_c15
  · exact w_c16
set_option maxRecDepth 65536 in
theorem w_t1 : (words1.take 24).all (fun c => isCode c || c.before args0 about1) = true := by decide +kernel
set_option maxRecDepth 65536 in
theorem w_t2 : ((words1.drop 24).take 24).all (fun c => isCode c || c.before args0 about1) = true := by decide +kernel
set_option maxRecDepth 65536 in
theorem w_t3 : (((words1.drop 24).drop 24).take 24).all (fun c => isCode c || c.before args0 about1) = true := by decide +kernel
set_option maxRecDepth 65536 in
theorem w_t4 : (((words1.drop 24).drop 24).drop 24).all (fun c => isCode c || c.before args0 about1) = true := by decide +kernel
theorem w_tables : (allAtoms (Jvm.Cond.code x code maxLocals ret :: tables_1)).before args0 about1 = true := by
  rw [allAtoms_all]
  show words1.all (fun c => c.before args0 about1) = true
  refine all_split ?_ w_codes
  rw [← List.take_append_drop 24 words1, List.all_append, w_t1, ← List.take_append_drop 24 (words1.drop 24), List.all_append, w_t2, ← List.take_append_drop 24 ((words1.drop 24).drop 24), List.all_append, w_t3, w_t4]
  rfl
set_option maxRecDepth 65536 in
theorem w_rest : rest_1_c.before args0 about1 = true := by decide +kernel
set_option maxRecDepth 65536 in
theorem w_case : (Jvm.Cond.and given_1 narrow_1).before args0 about1 = true := by decide +kernel
set_option maxRecDepth 65536 in
theorem w_consts : constsHeld consts_1 about1 := Jvm.Lit.constsHeldB_iff.mp (by decide +kernel)
theorem w_applies : (headSpec (Jvm.Cond.code x code maxLocals ret :: tables_1) room_1).applies x e0.platform about1 = true :=
  (Spec.applies_iff w_frames).mpr ⟨w_running, w_runnable, w_alone, w_named, w_hears, w_ripe, w_room, w_tables⟩
theorem atStart : AtStart classFile x code maxLocals ret World_1 tables_1 room_1 Calls_1 rest_1 Pre_1 launch0 p0 e0 about1 theMethod args0 below0 :=
  ⟨lists_1, trivial, launch0.admits_env _ _ _, launch0.least_env, fairChoices_fair.cas, fairChoices_fair.clock, w_frames, w_args, w_heap, w_applies, ⟨w_consts, trivial⟩, w_rest, w_case⟩
end start1
theorem witness_1 : WitnessClaimed_1 := ⟨start1.p0, start1.e0, start1.about1, start1.theMethod, start1.args0, start1.below0, start1.atStart⟩
end Jvm.Pilot.@@N@@
