import JvmDerived
import JvmDerived.Pilot.@@N@@Statement
import JvmDerived.Pilot.@@N@@Code
set_option linter.unusedVariables false
set_option linter.unusedSimpArgs false
namespace Jvm.OwnGo
open Sem ClassFile Op Lib Jvm.Stand Jvm.Free Jvm.LawKit Jvm.RoadKit Bundle
section OwnFacts
variable {Z : State} {h h' : Heap} {a b t : Addr} {C n d : String} {v w : Value} {ws : List Addr} {bo : Bool} {ka kb : ClassId} {ty : FieldType} {z : Int32} {vs : List Value} {dv : Value} {cs : List Int32} {sl : Nat}
theorem Sta_keep (F : Sta Z h C n d v) (K : Keep h h' []) : Sta Z h' C n d v := by
  obtain ⟨cf, i, k, f, st, cell, h1, h2, h3, h4, h5, h6, h7⟩ := F
  exact ⟨cf, i, k, f, st, cell, h1, h2, h3, h4, K.2.1 _ _ h5 nin0, h6, h7⟩
theorem Ins_keep (F : Ins Z h a C bo) (K : Keep h h' ws) : Ins Z h' a C bo := by
  obtain ⟨cell, cT, h1, h2, h3⟩ := F
  obtain ⟨c', q, r1, r2, r3⟩ := K.2.2 a cell h1
  exact ⟨c', cT, q, h2, by rw [r1, r2]; exact h3⟩
theorem own_sto {y : Addr} (F : Arv Z h a ka ty z vs dv) (O : Ovr Z ka C) (I : Ins Z h y C true) : Sto Z h a (.ref y) := by
  obtain ⟨cl, A, q, -⟩ := F
  exact Sto.ofV A q O I
theorem Sta_keepE (F : Sta Z h C n d v) (K : Keep h h' ws) (q : ∀ x ∈ ws, ∃ Cx, Exa Z h x Cx) : Sta Z h' C n d v := by
  obtain ⟨cf, i, k, f, st, cell, h1, h2, h3, h4, h5, h6, h7⟩ := F
  refine ⟨cf, i, k, f, st, cell, h1, h2, h3, h4, K.2.1 _ _ h5 (fun hm => ?_), h6, h7⟩
  obtain ⟨Cx, c1, k1, e1, -, -, e4, -⟩ := q _ hm
  cases e1.symm.trans h5
  rw [e4] at h6; cases h6
theorem own_ne_arv {a0 : Array Value} {nk : Nat} (F : Exa Z h a C) (wi : (Cond.instantiable C nk).before a0 Z = true) (G : Arv Z h b ka ty z vs dv) : a ≠ b := by
  obtain ⟨cl, A, -⟩ := G
  exact ne_arr F wi A
/-- the String at a: one byte a char, its array at t -/
def Str (Z : State) (h : Heap) (a t : Addr) (kb : ClassId) (cs : List Int32) : Prop :=
  Exa Z h a "java/lang/String" ∧ Fld Z h a "java/lang/String" "coder" "B" (.int 0) ∧ Fld Z h a "java/lang/String" "value" "[B" (.ref t) ∧ Arv Z h t kb .byte (Int32.ofNat cs.length) ((cs.map fun c => c.toInt8.toInt32).map Value.int) (.int 0) ∧ cs.length ≤ 4000 ∧ ∀ c ∈ cs, ¬ c < 0 ∧ ¬ (255 : Int32) < c
theorem Str.keep (S : Str Z h a t kb cs) (K : Keep h h' ws) (q : a ∉ ws) (r : t ∉ ws) : Str Z h' a t kb cs := ⟨S.1.keep K, S.2.1.keep K q, S.2.2.1.keep K q, S.2.2.2.1.keep K r, S.2.2.2.2⟩
theorem Str.ext (S : Str Z h a t kb cs) (E : Ext h h') : Str Z h' a t kb cs := ⟨S.1.ext E, S.2.1.ext E, S.2.2.1.ext E, S.2.2.2.1.ext E, S.2.2.2.2⟩
theorem Str.other (S : Str Z h a t kb cs) (W : Wr h h' b sl v) (q : a ≠ b) (r : t ≠ b) : Str Z h' a t kb cs := ⟨S.1.wr W, S.2.1.other W (Or.inl q), S.2.2.1.other W (Or.inl q), S.2.2.2.1.other W r, S.2.2.2.2⟩
theorem Str.tlt (S : Str Z h a t kb cs) : t < h.size := S.2.2.2.1.lt
/-- C's chain of superclasses does not meet K, a class that can be made -/
theorem own_root {a0 : Array Value} {O K : String} {nk : Nat} (w : (Cond.noSuperclass O).before a0 Z = true) (wk : (Cond.instantiable K nk).before a0 Z = true) (hn : O ≠ K) : NS Z O K := by
  obtain ⟨c, k, h1, h2, h3, -, -⟩ := Cond.noSuperclass_spec w
  obtain ⟨t, kt, g1, -⟩ := Cond.instantiable_spec wk
  have ne := ids_ne h1 g1 hn
  refine ⟨c, t, h1, g1, fun fuel => ?_⟩
  cases fuel with
  | zero => rfl
  | succ f => simp [Vm.isSubclassAux, ne, h2, h3]
theorem own_no {a0 : Array Value} {C S K : String} {nk : Nat} (w : (Cond.superclass C S).before a0 Z = true) (wk : (Cond.instantiable K nk).before a0 Z = true) (n : NS Z C K) (hn : C ≠ K) : ∃ c t, Z.vm.findClass C = some c ∧ Z.vm.findClass K = some t ∧ Z.vm.assignable c t = false := by
  obtain ⟨c, t, h0, g0, n3⟩ := n
  obtain ⟨p, k, kp, h1, h2, h3, h4, h5, -, h7⟩ := Cond.superclass_spec h0 w
  obtain ⟨t', k', g1, g2, g3, g4, -⟩ := Cond.instantiable_spec wk
  cases g0.symm.trans g1
  have g5 : k'.isInterface = false := by
    cases hi : k'.isInterface <;> simp [hi] at g4 ⊢
  have ne := ids_ne h0 g0 hn
  refine ⟨c, t, h0, g0, ?_⟩
  show Z.vm.assignableAux (255 + 1) c t = false
  simp [Vm.assignableAux, ne, h2, g2, h5, g3, g5, Vm.isSubclass, n3]
/-- the boxes that stood before -/
def Box (Z : State) (h : Heap) (a : Addr) (K d : String) (z : Int32) (val : Int32 → Value) : Prop :=
  ∃ c : Cell, Arr Z h a c (.object K) ∧ c.slots.size = z.toNatClampNeg ∧ ¬ z < 0 ∧ ∀ j : Int32, ¬ (j < 0 ∨ c.slots.size ≤ j.toNatClampNeg) → ∃ b : Addr, c.slots[j.toNatClampNeg]? = some (.ref b) ∧ Exa Z h b K ∧ Fld Z h b K "value" d (val j)
theorem Box.start {K : String} {val : Int32 → Value} {c : Cell} (F : Bxs Z a c K d z val) : Box Z Z.heap a K d z val := ⟨c, F.1, F.2.1, F.2.2.1, F.2.2.2⟩
theorem Box.keep {K : String} {val : Int32 → Value} (F : Box Z h a K d z val) (Kp : Keep h h' []) : Box Z h' a K d z val := by
  obtain ⟨c, f1, f2, f3, f4⟩ := F
  refine ⟨c, ⟨Kp.2.1 _ _ f1.1 nin0, f1.2⟩, f2, f3, fun j hj => ?_⟩
  obtain ⟨b, q1, q2, q3⟩ := f4 j hj
  exact ⟨b, q1, q2.keep Kp, q3.keep Kp nin0⟩
end OwnFacts
end Jvm.OwnGo
namespace Jvm.OwnGo
open Sem ClassFile Op Lib Jvm.Stand Jvm.Free Jvm.LawKit Jvm.RoadKit Bundle
section OwnGo
variable {Z : State} {a0 : Array Value} {tb : List Jvm.Cond} {p : Program} {l : Launch} {e : Env} {R : Room} {s : State} {m : MethodId} {args : Array Value} {below : List Frame} {meth : Method} {c : Code} {own mname : String} {bytes : ByteArray} {maxL : Nat} {ret : Option FieldType} {n0 : Nat} {Q : Option Value → Heap → List Addr → Prop} {Q2 : Option Value → Heap → Prop} {fs : List Addr} {h : Heap} {k n : Nat} {pc : Nat} {Ls : Array Slot} {St : List Value}
/-- what is fixed in the walk of one body -/
def Cx (Z : State) (a0 : Array Value) (tb : List Jvm.Cond) (p : Program) (s : State) (m : MethodId) (meth : Method) (c : Code) (own mname : String) (bytes : ByteArray) (maxL : Nat) (ret : Option FieldType) (n0 : Nat) : Prop :=
  p.tables.exec = Jvm.exec ∧ Z.Warmed39 s.vm ∧ s.vm.findClass own = some m.cls ∧ c.code = bytes ∧ c.maxLocals = maxL ∧ meth.sig.returnType = ret ∧ meth.locks = false ∧ (∀ d ∈ tb, d.before a0 Z = true) ∧ meth.name = mname ∧ n0 ≤ s.heap.size
theorem Cx.hx (C : Cx Z a0 tb p s m meth c own mname bytes maxL ret n0) : p.tables.exec = Jvm.exec := C.1
theorem Cx.hZ (C : Cx Z a0 tb p s m meth c own mname bytes maxL ret n0) : Z.Warmed39 s.vm := C.2.1
theorem Cx.hown (C : Cx Z a0 tb p s m meth c own mname bytes maxL ret n0) : s.vm.findClass own = some m.cls := C.2.2.1
theorem Cx.hby (C : Cx Z a0 tb p s m meth c own mname bytes maxL ret n0) : c.code = bytes := C.2.2.2.1
theorem Cx.hml (C : Cx Z a0 tb p s m meth c own mname bytes maxL ret n0) : c.maxLocals = maxL := C.2.2.2.2.1
theorem Cx.hret (C : Cx Z a0 tb p s m meth c own mname bytes maxL ret n0) : meth.sig.returnType = ret := C.2.2.2.2.2.1
theorem Cx.hlk (C : Cx Z a0 tb p s m meth c own mname bytes maxL ret n0) : meth.locks = false := C.2.2.2.2.2.2.1
theorem Cx.hw (C : Cx Z a0 tb p s m meth c own mname bytes maxL ret n0) {d : Jvm.Cond} (hd : d ∈ tb) : d.before a0 Z = true := C.2.2.2.2.2.2.2.1 d hd
theorem Cx.hnm (C : Cx Z a0 tb p s m meth c own mname bytes maxL ret n0) : meth.name = mname := C.2.2.2.2.2.2.2.2.1
theorem Cx.hn0 (C : Cx Z a0 tb p s m meth c own mname bytes maxL ret n0) : n0 ≤ s.heap.size := C.2.2.2.2.2.2.2.2.2
/-- which new cells may be written -/
def Inv (n0 : Nat) (fs : List Addr) (h : Heap) : Prop := n0 ≤ h.size ∧ ∀ x ∈ fs, n0 ≤ x
theorem Inv.ext {h' : Heap} (I : Inv n0 fs h) (E : Ext h h') : Inv n0 fs h' := ⟨Nat.le_trans I.1 E.1, I.2⟩
theorem Inv.new {h' : Heap} (I : Inv n0 fs h) (E : Ext h h') (q : h.size < h'.size) : Inv n0 (h.size :: fs) h' := by
  refine ⟨Nat.le_trans I.1 E.1, fun x hx => ?_⟩
  rcases List.mem_cons.mp hx with rfl | hx
  · exact I.1
  · exact I.2 x hx
theorem Inv.wr {h' : Heap} {a : Addr} {sl : Nat} {v : Value} (I : Inv n0 fs h) (W : Wr h h' a sl v) (ha : a ∈ fs) : Inv n0 fs h' := ⟨by rw [W.size]; exact I.1, I.2⟩
theorem Inv.kept {h' : Heap} {a : Addr} (I : Inv n0 fs h) (K : Keep h h' [a]) (ha : a ∈ fs) : Inv n0 fs h' := ⟨Nat.le_trans I.1 K.1, I.2⟩
theorem Inv.ge {a : Addr} (I : Inv n0 fs h) (ha : a ∈ fs) : n0 ≤ a := I.2 a ha
theorem Inv.less {fs' : List Addr} (I : Inv n0 fs h) (q : ∀ x ∈ fs', x ∈ fs) : Inv n0 fs' h := ⟨I.1, fun x hx => I.2 x (q x hx)⟩
/-- a body that tells of no new cell that its caller may write -/
def nq (Q : Option Value → Heap → Prop) : Option Value → Heap → List Addr → Prop := fun v h ns => ns = [] ∧ Q v h
/-- from every state that stands at frame f over the heap h, the body ends well -/
def Go (p : Program) (l : Launch) (e : Env) (R : Room) (s : State) (m : MethodId) (args : Array Value) (below : List Frame) (meth : Method) (c : Code) (n0 : Nat) (Q : Option Value → Heap → List Addr → Prop) (fs : List Addr) (h : Heap) (k n : Nat) (f : JFrame) : Prop :=
  ∀ T locs, Stand p l e R s m args below meth c T locs k n → T.heap = h → Fr n0 locs → Inv n0 fs h →
    ∃ s₂ o, Steps p.tables e below (T.setTop f) s₂ ∧ s₂.status = .running ∧ Ended s₂ below o ∧ ∃ v L ns, o = .returned v ∧ (Q v s₂.heap ns ∧ Fr n0 L) ∧ (∀ x ∈ ns, n0 ≤ x) ∧ FrameEnd s o s₂ L R.cells R.slots
theorem Go.step {f f' : JFrame} (H : ∀ T : State, At T m c below → ∀ t, Steps p.tables e below (T.setTop f') t → Steps p.tables e below (T.setTop f) t) (K : Go p l e R s m args below meth c n0 Q fs h k n f') : Go p l e R s m args below meth c n0 Q fs h k n f := by
  intro T locs X eT N I
  obtain ⟨s2, o, st, r⟩ := K T locs X eT N I
  exact ⟨s2, o, H T X.here s2 st, r⟩
theorem Go.less {f : JFrame} {fs' : List Addr} (K : Go p l e R s m args below meth c n0 Q fs' h k n f) (q : ∀ x ∈ fs', x ∈ fs) : Go p l e R s m args below meth c n0 Q fs h k n f := by
  intro T locs X eT N I
  exact K T locs X eT N (I.less q)
theorem Go.size {f : JFrame} (K : n0 ≤ h.size → Go p l e R s m args below meth c n0 Q fs h k n f) : Go p l e R s m args below meth c n0 Q fs h k n f := by
  intro T locs X eT N I
  exact K I.1 T locs X eT N I
theorem Go.ge {f : JFrame} {a : Addr} (ha : a ∈ fs) (K : n0 ≤ a → Go p l e R s m args below meth c n0 Q fs h k n f) : Go p l e R s m args below meth c n0 Q fs h k n f := by
  intro T locs X eT N I
  exact K (I.ge ha) T locs X eT N I
theorem g_iload (C : Cx Z a0 tb p s m meth c own mname bytes maxL ret n0) {j : Nat} {z : Int32} (hd : decode bytes pc = .ok (.iload j, 2)) (hl : Ls[j]? = some (.val (.int z))) (K : Go p l e R s m args below meth c n0 Q fs h k n (mkF m (pc + 2) Ls (.int z :: St))) : Go p l e R s m args below meth c n0 Q fs h k n (mkF m pc Ls (St)) :=
  Go.step (fun T A t st => XS.iload A C.hx rfl (hb C.hby hd) hl st) K
theorem g_iloadN (C : Cx Z a0 tb p s m meth c own mname bytes maxL ret n0) {j : Fin 4} {z : Int32} (hd : decode bytes pc = .ok (.iload_n j, 1)) (hl : Ls[j.val]? = some (.val (.int z))) (K : Go p l e R s m args below meth c n0 Q fs h k n (mkF m (pc + 1) Ls (.int z :: St))) : Go p l e R s m args below meth c n0 Q fs h k n (mkF m pc Ls (St)) :=
  Go.step (fun T A t st => XS.iloadN A C.hx rfl (hb C.hby hd) hl st) K
theorem g_aload (C : Cx Z a0 tb p s m meth c own mname bytes maxL ret n0) {j : Nat} {v : Value} (hd : decode bytes pc = .ok (.aload j, 2)) (hl : Ls[j]? = some (.val v)) (hv : v.isRef = true) (K : Go p l e R s m args below meth c n0 Q fs h k n (mkF m (pc + 2) Ls (v :: St))) : Go p l e R s m args below meth c n0 Q fs h k n (mkF m pc Ls (St)) :=
  Go.step (fun T A t st => XS.aload A C.hx rfl (hb C.hby hd) hl hv st) K
theorem g_aloadN (C : Cx Z a0 tb p s m meth c own mname bytes maxL ret n0) {j : Fin 4} {v : Value} (hd : decode bytes pc = .ok (.aload_n j, 1)) (hl : Ls[j.val]? = some (.val v)) (hv : v.isRef = true) (K : Go p l e R s m args below meth c n0 Q fs h k n (mkF m (pc + 1) Ls (v :: St))) : Go p l e R s m args below meth c n0 Q fs h k n (mkF m pc Ls (St)) :=
  Go.step (fun T A t st => XS.aloadN A C.hx rfl (hb C.hby hd) hl hv st) K
theorem g_istore (C : Cx Z a0 tb p s m meth c own mname bytes maxL ret n0) {j : Nat} {z : Int32} (l' : Array Slot) (hd : decode bytes pc = .ok (.istore j, 2)) (hl : storeLocals Ls j (.int z) = some l') (K : Go p l e R s m args below meth c n0 Q fs h k n (mkF m (pc + 2) l' St)) : Go p l e R s m args below meth c n0 Q fs h k n (mkF m pc Ls (.int z :: St)) :=
  Go.step (fun T A t st => XS.istore A C.hx rfl (hb C.hby hd) rfl hl st) K
theorem g_astore (C : Cx Z a0 tb p s m meth c own mname bytes maxL ret n0) {j : Nat} {v : Value} (l' : Array Slot) (hd : decode bytes pc = .ok (.astore j, 2)) (hv : v.isRef = true) (hl : storeLocals Ls j v = some l') (K : Go p l e R s m args below meth c n0 Q fs h k n (mkF m (pc + 2) l' St)) : Go p l e R s m args below meth c n0 Q fs h k n (mkF m pc Ls (v :: St)) :=
  Go.step (fun T A t st => XS.astore A C.hx rfl (hb C.hby hd) rfl hv hl st) K
theorem g_iconst (C : Cx Z a0 tb p s m meth c own mname bytes maxL ret n0) {i : Int} (z : Int32) (hd : decode bytes pc = .ok (.iconst i, 1)) (hz : Int32.ofInt i = z) (K : Go p l e R s m args below meth c n0 Q fs h k n (mkF m (pc + 1) Ls (.int z :: St))) : Go p l e R s m args below meth c n0 Q fs h k n (mkF m pc Ls (St)) :=
  Go.step (fun T A t st => XS.iconst A C.hx rfl (hb C.hby hd) (hz ▸ st)) K
theorem g_iadd (C : Cx Z a0 tb p s m meth c own mname bytes maxL ret n0) {x y : Int32} (hd : decode bytes pc = .ok (.iadd, 1))  (K : Go p l e R s m args below meth c n0 Q fs h k n (mkF m (pc + 1) Ls (.int (x + y) :: St))) : Go p l e R s m args below meth c n0 Q fs h k n (mkF m pc Ls (.int y :: .int x :: St)) :=
  Go.step (fun T A t st => XS.iadd A C.hx rfl (hb C.hby hd) rfl st) K
theorem g_isub (C : Cx Z a0 tb p s m meth c own mname bytes maxL ret n0) {x y : Int32} (hd : decode bytes pc = .ok (.isub, 1))  (K : Go p l e R s m args below meth c n0 Q fs h k n (mkF m (pc + 1) Ls (.int (x - y) :: St))) : Go p l e R s m args below meth c n0 Q fs h k n (mkF m pc Ls (.int y :: .int x :: St)) :=
  Go.step (fun T A t st => XS.isub A C.hx rfl (hb C.hby hd) rfl st) K
theorem g_iand (C : Cx Z a0 tb p s m meth c own mname bytes maxL ret n0) {x y : Int32} (hd : decode bytes pc = .ok (.iand, 1))  (K : Go p l e R s m args below meth c n0 Q fs h k n (mkF m (pc + 1) Ls (.int (x &&& y) :: St))) : Go p l e R s m args below meth c n0 Q fs h k n (mkF m pc Ls (.int y :: .int x :: St)) :=
  Go.step (fun T A t st => XS.iand A C.hx rfl (hb C.hby hd) rfl st) K
theorem g_iushr (C : Cx Z a0 tb p s m meth c own mname bytes maxL ret n0) {x y : Int32} (hd : decode bytes pc = .ok (.iushr, 1))  (K : Go p l e R s m args below meth c n0 Q fs h k n (mkF m (pc + 1) Ls (.int ((x.toUInt32 >>> (y &&& 31).toUInt32).toInt32) :: St))) : Go p l e R s m args below meth c n0 Q fs h k n (mkF m pc Ls (.int y :: .int x :: St)) :=
  Go.step (fun T A t st => XS.iushr A C.hx rfl (hb C.hby hd) rfl st) K
theorem g_idiv (C : Cx Z a0 tb p s m meth c own mname bytes maxL ret n0) {x y : Int32} (hd : decode bytes pc = .ok (.idiv, 1)) (hy : y ≠ 0) (K : Go p l e R s m args below meth c n0 Q fs h k n (mkF m (pc + 1) Ls (.int (x / y) :: St))) : Go p l e R s m args below meth c n0 Q fs h k n (mkF m pc Ls (.int y :: .int x :: St)) :=
  Go.step (fun T A t st => XS.idiv A C.hx rfl (hb C.hby hd) rfl hy st) K
theorem g_irem (C : Cx Z a0 tb p s m meth c own mname bytes maxL ret n0) {x y : Int32} (hd : decode bytes pc = .ok (.irem, 1)) (hy : y ≠ 0) (K : Go p l e R s m args below meth c n0 Q fs h k n (mkF m (pc + 1) Ls (.int (x % y) :: St))) : Go p l e R s m args below meth c n0 Q fs h k n (mkF m pc Ls (.int y :: .int x :: St)) :=
  Go.step (fun T A t st => XS.irem A C.hx rfl (hb C.hby hd) rfl hy (by rw [irem_eq_mod]; exact st)) K
theorem g_dup (C : Cx Z a0 tb p s m meth c own mname bytes maxL ret n0) {v : Value} (hd : decode bytes pc = .ok (.dup, 1)) (hc : v.category = 1) (K : Go p l e R s m args below meth c n0 Q fs h k n (mkF m (pc + 1) Ls (v :: v :: St))) : Go p l e R s m args below meth c n0 Q fs h k n (mkF m pc Ls (v :: St)) :=
  Go.step (fun T A t st => XS.dup A C.hx rfl (hb C.hby hd) rfl hc st) K
theorem g_dconst0 (C : Cx Z a0 tb p s m meth c own mname bytes maxL ret n0)  (hd : decode bytes pc = .ok (.dconst 0, 1))  (K : Go p l e R s m args below meth c n0 Q fs h k n (mkF m (pc + 1) Ls (.double FP.dconst0 :: St))) : Go p l e R s m args below meth c n0 Q fs h k n (mkF m pc Ls (St)) :=
  Go.step (fun T A t st => XS.dconst0 A C.hx rfl (hb C.hby hd) rfl st) K
theorem g_dconst1 (C : Cx Z a0 tb p s m meth c own mname bytes maxL ret n0)  (hd : decode bytes pc = .ok (.dconst 1, 1))  (K : Go p l e R s m args below meth c n0 Q fs h k n (mkF m (pc + 1) Ls (.double FP.dconst1 :: St))) : Go p l e R s m args below meth c n0 Q fs h k n (mkF m pc Ls (St)) :=
  Go.step (fun T A t st => XS.dconst1 A C.hx rfl (hb C.hby hd) rfl st) K
theorem g_i2d (C : Cx Z a0 tb p s m meth c own mname bytes maxL ret n0) {x : Int32} (hd : decode bytes pc = .ok (.i2d, 1))  (K : Go p l e R s m args below meth c n0 Q fs h k n (mkF m (pc + 1) Ls (.double (FP.i2d x) :: St))) : Go p l e R s m args below meth c n0 Q fs h k n (mkF m pc Ls (.int x :: St)) :=
  Go.step (fun T A t st => XS.i2dS A C.hx rfl (hb C.hby hd) rfl rfl st) K
theorem g_dcmp (C : Cx Z a0 tb p s m meth c own mname bytes maxL ret n0) {o : CmpOp} {x y : UInt64} (hd : decode bytes pc = .ok (.dcmp o, 1))  (K : Go p l e R s m args below meth c n0 Q fs h k n (mkF m (pc + 1) Ls (.int (cmpValue (FP.dcmp x y) o) :: St))) : Go p l e R s m args below meth c n0 Q fs h k n (mkF m pc Ls (.double y :: .double x :: St)) :=
  Go.step (fun T A t st => XS.dcmpS A C.hx rfl (hb C.hby hd) rfl rfl st) K
theorem g_goto (C : Cx Z a0 tb p s m meth c own mname bytes maxL ret n0)  {o : Int} (pc' : Nat) (hd : decode bytes pc = .ok (.goto o, 3))  (ho : 0 ≤ (pc : Int) + o) (hp : ((pc : Int) + o).toNat = pc') (K : Go p l e R s m args below meth c n0 Q fs h k n (mkF m pc' Ls St)) : Go p l e R s m args below meth c n0 Q fs h k n (mkF m pc Ls (St)) :=
  Go.step (fun T A t st => XS.goto A C.hx rfl rfl (hb C.hby hd) ho hp st) K
theorem g_if_t (C : Cx Z a0 tb p s m meth c own mname bytes maxL ret n0) {cd : ClassFile.Cond} {x : Int32} {o : Int} (pc' : Nat) (hd : decode bytes pc = .ok (.ifCond cd o, 3)) (hc : ifCond.holds cd x = true) (ho : 0 ≤ (pc : Int) + o) (hp : ((pc : Int) + o).toNat = pc') (K : Go p l e R s m args below meth c n0 Q fs h k n (mkF m pc' Ls St)) : Go p l e R s m args below meth c n0 Q fs h k n (mkF m pc Ls (.int x :: St)) :=
  Go.step (fun T A t st => XS.ifYes A C.hx rfl rfl (hb C.hby hd) rfl hc ho hp st) K
theorem g_icmp_t (C : Cx Z a0 tb p s m meth c own mname bytes maxL ret n0) {cd : ClassFile.Cond} {x y : Int32} {o : Int} (pc' : Nat) (hd : decode bytes pc = .ok (.if_icmp cd o, 3)) (hc : if_icmp.holds cd x y = true) (ho : 0 ≤ (pc : Int) + o) (hp : ((pc : Int) + o).toNat = pc') (K : Go p l e R s m args below meth c n0 Q fs h k n (mkF m pc' Ls St)) : Go p l e R s m args below meth c n0 Q fs h k n (mkF m pc Ls (.int y :: .int x :: St)) :=
  Go.step (fun T A t st => XS.icmpYes A C.hx rfl rfl (hb C.hby hd) rfl hc ho hp st) K
theorem g_if_f (C : Cx Z a0 tb p s m meth c own mname bytes maxL ret n0) {cd : ClassFile.Cond} {x : Int32} {o : Int} (hd : decode bytes pc = .ok (.ifCond cd o, 3)) (hc : ifCond.holds cd x = false) (K : Go p l e R s m args below meth c n0 Q fs h k n (mkF m (pc + 3) Ls St)) : Go p l e R s m args below meth c n0 Q fs h k n (mkF m pc Ls (.int x :: St)) :=
  Go.step (fun T A t st => XS.ifNo A C.hx rfl (hb C.hby hd) rfl hc st) K
theorem g_icmp_f (C : Cx Z a0 tb p s m meth c own mname bytes maxL ret n0) {cd : ClassFile.Cond} {x y : Int32} {o : Int} (hd : decode bytes pc = .ok (.if_icmp cd o, 3)) (hc : if_icmp.holds cd x y = false) (K : Go p l e R s m args below meth c n0 Q fs h k n (mkF m (pc + 3) Ls St)) : Go p l e R s m args below meth c n0 Q fs h k n (mkF m pc Ls (.int y :: .int x :: St)) :=
  Go.step (fun T A t st => XS.icmpNo A C.hx rfl (hb C.hby hd) rfl hc st) K
theorem g_ldc2D (C : Cx Z a0 tb p s m meth c own mname bytes maxL ret n0) {index : Nat} {z : UInt64} (w : Jvm.Cond.constantDouble own index z ∈ tb) (hd : decode bytes pc = .ok (.ldc2_w index, 3)) (K : Go p l e R s m args below meth c n0 Q fs h k n (mkF m (pc + 3) Ls (.double z :: St))) : Go p l e R s m args below meth c n0 Q fs h k n (mkF m pc Ls St) := by
  intro T locs X eT N I
  have hZ := C.hZ
  have hown := C.hown
  obtain ⟨s2, o, st, r⟩ := K T locs X eT N I
  exact ⟨s2, o, X.ldc2DoubleC C.hx hown (mvT hZ (C.hw w)) (g := mkF m pc Ls St) rfl (hb C.hby hd) s2 st, r⟩
theorem g_new (C : Cx Z a0 tb p s m meth c own mname bytes maxL ret n0) {index ns : Nat} {Cn : String} (w : Jvm.Cond.classLink own index Cn ∈ tb) (wi : Jvm.Cond.instantiable Cn ns ∈ tb) (wz : Jvm.Cond.initialized Cn ∈ tb) (hd : decode bytes pc = .ok (.new index, 3)) (hc : k + 1 ≤ R.cells) (hl : n + ns ≤ R.slots)
    (K : ∀ a h', a = h.size → Ext h h' → Exa Z h' a Cn → (∀ {O nm d : String} {ty : FieldType}, Laid Z a0 Cn O nm d → parseFieldDescriptor d = some ty → Fld Z h' a O nm d (defaultValue ty)) → Go p l e R s m args below meth c n0 Q (a :: fs) h' (k + 1) (n + ns) (mkF m (pc + 3) Ls (.ref a :: St))) : Go p l e R s m args below meth c n0 Q fs h k n (mkF m pc Ls St) := by
  intro T locs X eT N I
  have hZ := C.hZ
  have hown := C.hown
  obtain ⟨T', h', X', e', E', A', D', -, st⟩ := newO X C.hx hZ hown (C.hw w) (C.hw wi) (C.hw wz) eT (g := mkF m pc Ls St) rfl (hb C.hby hd) hc hl
  obtain ⟨s2, o, st2, r⟩ := K h.size h' rfl E' A' D' T' locs X' e' N (I.new E' A'.lt)
  exact ⟨s2, o, st _ st2, r⟩
theorem g_newarray (C : Cx Z a0 tb p s m meth c own mname bytes maxL ret n0) {aty : ArrayType} {z : Int32} (w : Jvm.Cond.arrayClass (newarray.typeOf aty) ∈ tb) (hd : decode bytes pc = .ok (.newarray aty, 2)) (hz : ¬ z < 0) (cap : Nat) (hcap : z.toNatClampNeg ≤ cap) (hbig : cap * 8 ≤ 536870912) (hc : k + 1 ≤ R.cells) (hl : n + cap ≤ R.slots) (ad : String) (had : "[" ++ (newarray.typeOf aty).toString = ad)
    (K : ∀ a h' ka, a = h.size → Ext h h' → Arv Z h' a ka (newarray.typeOf aty) z [] (defaultValue (newarray.typeOf aty)) → Exa Z h' a ad → Go p l e R s m args below meth c n0 Q (a :: fs) h' (k + 1) (n + cap) (mkF m (pc + 2) Ls (.ref a :: St))) : Go p l e R s m args below meth c n0 Q fs h k n (mkF m pc Ls (.int z :: St)) := by
  intro T locs X eT N I
  have hZ := C.hZ
  have hown := C.hown
  obtain ⟨T', h', ka, X', e', E', A', Ex', st⟩ := newPE X C.hx hZ (C.hw w) eT (g := mkF m pc Ls (.int z :: St)) rfl (hb C.hby hd) rfl hz hcap hbig hc hl had
  obtain ⟨s2, o, st2, r⟩ := K h.size h' ka rfl E' (Arv.new A' hz) Ex' T' locs X' e' N (I.new E' A'.lt)
  exact ⟨s2, o, st _ st2, r⟩
theorem g_dastore (C : Cx Z a0 tb p s m meth c own mname bytes maxL ret n0) {a : Addr} {ka : ClassId} {z j : Int32} {x : UInt64} {vs : List Value} {dv : Value} (F : Arv Z h a ka .double z vs dv) (ha : a ∈ fs) (hd : decode bytes pc = .ok (.dastore, 1)) (hj : ¬ j < 0 ∧ j < z) (i : Nat) (hi : j.toNatClampNeg = i) (hl : i < vs.length)
    (K : ∀ h', Wr h h' a j.toNatClampNeg (.double x) → Arv Z h' a ka .double z (vs.set i (.double x)) dv → Go p l e R s m args below meth c n0 Q fs h' k n (mkF m (pc + 1) Ls St)) : Go p l e R s m args below meth c n0 Q fs h k n (mkF m pc Ls (.double x :: .int j :: .ref a :: St)) := by
  intro T locs X eT N I
  have hZ := C.hZ
  have hown := C.hown
  obtain ⟨cl, A, q, S, Nn, H, G⟩ := F
  obtain ⟨T', h', X', e', W', st⟩ := stD X C.hx hZ eT A (j := j) (inb_of S hj) (g := mkF m pc Ls (.double x :: .int j :: .ref a :: St)) rfl rfl (hb C.hby hd)
  obtain ⟨s2, o, st2, r⟩ := K h' W' (Arv.set A q S Nn H G rfl W' i hi hl) T' _ X' e' (Fr.snoc X' N (I.ge ha)) (I.wr W' ha)
  exact ⟨s2, o, st _ st2, r⟩
theorem g_daload (C : Cx Z a0 tb p s m meth c own mname bytes maxL ret n0) {a : Addr} {ka : ClassId} {z j : Int32} {vs : List Value} {dv v : Value} (F : Arv Z h a ka .double z vs dv) (hd : decode bytes pc = .ok (.daload, 1)) (hj : ¬ j < 0 ∧ j < z) (hv : vs.getD j.toNatClampNeg dv = v)
    (K : Go p l e R s m args below meth c n0 Q fs h k n (mkF m (pc + 1) Ls (v :: St))) : Go p l e R s m args below meth c n0 Q fs h k n (mkF m pc Ls (.int j :: .ref a :: St)) := by
  intro T locs X eT N I
  have hZ := C.hZ
  have hown := C.hown
  obtain ⟨cl, A, q, S, Nn, H, G⟩ := F
  obtain ⟨s2, o, st2, r⟩ := K T locs X eT N I
  exact ⟨s2, o, X.daload C.hx (j := j) (v := v) (by rw [eT]; exact A.1) (State.isArrayOf_alike hZ.alike A.2.1) A.2.2 (inb_of S hj) (H.at (inb_of S hj) hv) (g := mkF m pc Ls (.int j :: .ref a :: St)) rfl rfl (hb C.hby hd) _ st2, r⟩
theorem g_arraylength (C : Cx Z a0 tb p s m meth c own mname bytes maxL ret n0) {a : Addr} {ka : ClassId} {ty : FieldType} {z : Int32} {vs : List Value} {dv : Value} (F : Arv Z h a ka ty z vs dv) (hd : decode bytes pc = .ok (.arraylength, 1))
    (K : Go p l e R s m args below meth c n0 Q fs h k n (mkF m (pc + 1) Ls (.int z :: St))) : Go p l e R s m args below meth c n0 Q fs h k n (mkF m pc Ls (.ref a :: St)) := by
  intro T locs X eT N I
  have hZ := C.hZ
  have hown := C.hown
  obtain ⟨cl, A, q, S, Nn, H, G⟩ := F
  obtain ⟨s2, o, st2, r⟩ := K T locs X eT N I
  refine ⟨s2, o, X.arraylength C.hx (by rw [eT]; exact A.1) (State.isArrayOf_alike hZ.alike A.2.1) (g := mkF m pc Ls (.ref a :: St)) rfl rfl (hb C.hby hd) _ ?_, r⟩
  rw [len_of S Nn]; exact st2
theorem g_clone (C : Cx Z a0 tb p s m meth c own mname bytes maxL ret n0) {index : Nat} {ad : String} {a : Addr} {ka : ClassId} {ty : FieldType} {z : Int32} {vs : List Value} {dv : Value} (w1 : Jvm.Cond.methodLink own index ⟨ad, "clone", "()Ljava/lang/Object;"⟩ ∈ tb) (w2 : Jvm.Cond.sameMethod ad "java/lang/Object" "clone" "()Ljava/lang/Object;" ∈ tb) (w3 : Jvm.Cond.native ⟨"java/lang/Object", "clone", "()Ljava/lang/Object;"⟩ ∈ tb)
    (w4 : Jvm.Cond.instanceMethod ⟨"java/lang/Object", "clone", "()Ljava/lang/Object;"⟩ ∈ tb) (w5 : Jvm.Cond.selects ad ⟨ad, "clone", "()Ljava/lang/Object;"⟩ ⟨"java/lang/Object", "clone", "()Ljava/lang/Object;"⟩ ∈ tb) (w6 : Jvm.Cond.castable ad "java/lang/Cloneable" ∈ tb)
    (F : Arv Z h a ka ty z vs dv) (E : Exa Z h a ad) (hsz : Ls.size = maxL) (hd : decode bytes pc = .ok (.invokevirtual index, 3)) (hf : 1 ≤ R.frames) (W : Nat) (hW : (St.map fun v => v.category).sum ≤ W) (hlo : W + 14 ≤ R.locals) (cap : Nat) (hcap : z.toNatClampNeg ≤ cap) (hc : k + 1 ≤ R.cells) (hl : n + cap ≤ R.slots)
    (K : ∀ b h', b = h.size → Ext h h' → Arv Z h' b ka ty z vs dv → Exa Z h' b ad → Go p l e R s m args below meth c n0 Q (b :: fs) h' (k + 1) (n + cap) (mkF m (pc + 3) Ls (.ref b :: St))) : Go p l e R s m args below meth c n0 Q fs h k n (mkF m pc Ls (.ref a :: St)) := by
  intro T locs X eT N I
  have hZ := C.hZ
  have hown := C.hown
  obtain ⟨cl, A, q1, S, q3, H, G⟩ := F
  have FC : FitC Z cl := fitC_of A fun i hi v hv => by rw [H i hi] at hv; cases hv; exact G i hi
  obtain ⟨T', h', X', e', ex, A', E', st⟩ := cloneA X C.hx hZ hown (C.hw w1) (C.hw w2) (C.hw w3) (C.hw w4) (C.hw w5) (C.hw w6) eT A E FC (g := mkF m pc Ls (.ref a :: St)) rfl (hsz.trans C.hml.symm) rfl (hb C.hby hd) hf (W := W) (by show 2 * 0 + _ ≤ _; omega) hlo (by rw [S]; exact hcap) hc hl
  obtain ⟨s2, o, st2, r⟩ := K h.size h' rfl ex ⟨cloneOf cl, A', q1, S, q3, H, G⟩ E' T' locs X' e' N (I.new ex E'.lt)
  exact ⟨s2, o, st _ st2, r⟩
theorem g_getfield (C : Cx Z a0 tb p s m meth c own mname bytes maxL ret n0) {index : Nat} {R0 O nm d : String} {a : Addr} {v : Value} (w : Jvm.Cond.fieldLink own index R0 nm d ∈ tb) (via : Via Z R0 O nm d) (F : Fld Z h a O nm d v) (hd : decode bytes pc = .ok (.getfield index, 3))
    (K : Go p l e R s m args below meth c n0 Q fs h k n (mkF m (pc + 3) Ls (v :: St))) : Go p l e R s m args below meth c n0 Q fs h k n (mkF m pc Ls (.ref a :: St)) := by
  intro T locs X eT N I
  have hZ := C.hZ
  have hown := C.hown
  obtain ⟨T', X', e', st⟩ := getF X C.hx hZ hown (host := "") (Or.inl (C.hw w)) via eT F (g := mkF m pc Ls (.ref a :: St)) rfl rfl (hb C.hby hd)
  obtain ⟨s2, o, st2, r⟩ := K T' locs X' e' N I
  exact ⟨s2, o, st _ st2, r⟩
theorem g_putfield (C : Cx Z a0 tb p s m meth c own mname bytes maxL ret n0) {index kk : Nat} {R0 O nm d Cn : String} {a : Addr} {v old : Value} (ty : FieldType) (w : Jvm.Cond.fieldLink own index R0 nm d ∈ tb) (via : Via Z R0 O nm d) (F : Fld Z h a O nm d old) (E : Exa Z h a Cn) (hl : Jvm.Cond.lays Cn O nm d ∈ tb ∨ (Jvm.Cond.laysFinal Cn O nm d ∈ tb ∧ own = O ∧ mname = "<init>")) (wi : Jvm.Cond.instantiable Cn kk ∈ tb)
    (hty : parseFieldDescriptor d = some ty) (hn : narrow ty v = v) (hf : fits ty v = true) (ha : a ∈ fs) (hd : decode bytes pc = .ok (.putfield index, 3))
    (K : ∀ h', Wr h h' a (Jvm.RoadKit.slotOf Z O nm d) v → Fld Z h' a O nm d v → Go p l e R s m args below meth c n0 Q fs h' k n (mkF m (pc + 3) Ls St)) : Go p l e R s m args below meth c n0 Q fs h k n (mkF m pc Ls (v :: .ref a :: St)) := by
  intro T locs X eT N I
  have hZ := C.hZ
  have hown := C.hown
  obtain ⟨T', h', X', e', W', st⟩ := putF X C.hx hZ hown (host := "") (Or.inl (C.hw w)) via eT F E (hl.imp (fun q => C.hw q) (fun q => ⟨C.hw q.1, q.2.1, C.hnm.trans q.2.2⟩)) (C.hw wi) (ty := ty) hty hn hf (g := mkF m pc Ls (v :: .ref a :: St)) rfl rfl (hb C.hby hd)
  obtain ⟨s2, o, st2, r⟩ := K h' W' (F.same W') T' _ X' e' (Fr.snoc X' N (I.ge ha)) (I.wr W' ha)
  exact ⟨s2, o, st _ st2, r⟩
theorem g_checkcast (C : Cx Z a0 tb p s m meth c own mname bytes maxL ret n0) {index : Nat} {Kn : String} {a : Addr} (w : Jvm.Cond.classLink own index Kn ∈ tb) (F : Ins Z h a Kn true) (hd : decode bytes pc = .ok (.checkcast index, 3))
    (K : Go p l e R s m args below meth c n0 Q fs h k n (mkF m (pc + 3) Ls (.ref a :: St))) : Go p l e R s m args below meth c n0 Q fs h k n (mkF m pc Ls (.ref a :: St)) := by
  intro T locs X eT N I
  have hZ := C.hZ
  have hown := C.hown
  obtain ⟨T', X', e', st⟩ := castY X C.hx hZ hown (C.hw w) eT F (g := mkF m pc Ls (.ref a :: St)) rfl rfl (hb C.hby hd)
  obtain ⟨s2, o, st2, r⟩ := K T' locs X' e' N I
  exact ⟨s2, o, st _ st2, r⟩
theorem g_initO (C : Cx Z a0 tb p s m meth c own mname bytes maxL ret n0) {index : Nat} {a : Addr} (w1 : Jvm.Cond.methodLink own index Lib.objectInit ∈ tb) (w2 : Jvm.Cond.instanceMethod Lib.objectInit ∈ tb) (w3 : Jvm.Cond.code Lib.objectInit ⟨#[0xb1]⟩ 1 none ∈ tb) (hsz : Ls.size = maxL) (hd : decode bytes pc = .ok (.invokespecial index, 3)) (hf : 1 ≤ R.frames) (W : Nat) (hW : (St.map fun v => v.category).sum ≤ W) (hl : W + 12 ≤ R.locals)
    (K : Go p l e R s m args below meth c n0 Q fs h k n (mkF m (pc + 3) Ls St)) : Go p l e R s m args below meth c n0 Q fs h k n (mkF m pc Ls (.ref a :: St)) := by
  intro T locs X eT N I
  have hZ := C.hZ
  have hown := C.hown
  obtain ⟨T', X', e', st⟩ := initO X C.hx hZ hown (C.hw w1) (C.hw w2) (C.hw w3) eT (g := mkF m pc Ls (.ref a :: St)) rfl (hsz.trans C.hml.symm) rfl (hb C.hby hd) hf (W := W) (by show 2 * 0 + _ ≤ _; omega) hl
  obtain ⟨s2, o, st2, r⟩ := K T' locs X' e' N I
  exact ⟨s2, o, st _ st2, r⟩
theorem own_narref {t : FieldType} {v : Value} (ht : t.isReference = true) (hv : v.isRef = true) : narrow t v = v := by
  rcases ref_cases hv with rfl | ⟨b, rfl⟩ <;> cases t <;> first | rfl | (cases ht)
theorem g_returnX (C : Cx Z a0 tb p s m meth c own mname bytes maxL ret n0)  (ns : List Addr) (hns : ∀ x ∈ ns, x ∈ fs) (hret : ret = none) (hd : decode bytes pc = .ok (.return_, 1)) (hk : k ≤ R.cells) (hn : n ≤ R.slots) (hQ : Q (none) h ns) : Go p l e R s m args below meth c n0 Q fs h k n (mkF m pc Ls ([])) := by
  intro T locs X eT N I
  have hZ := C.hZ
  have hown := C.hown
  obtain ⟨ff, hr, hrun, hended, hW, hsame⟩ := X.leave (v := none) (fun _ => rfl) C.hlk
  exact ⟨_, _, X.returnOut C.hx (C.hret.trans hret) (hb C.hby hd) hr, hrun, hended, _, _, ns, rfl, ⟨by rw [show (T.setFrames ff).heap = T.heap from rfl, eT]; exact hQ, N⟩, fun y hy => I.ge (hns y hy), ⟨_, rfl⟩, hW, hsame.mono hk hn⟩
theorem g_return (C : Cx Z a0 tb p s m meth c own mname bytes maxL ret n0)  (hret : ret = none) (hd : decode bytes pc = .ok (.return_, 1)) (hk : k ≤ R.cells) (hn : n ≤ R.slots) (hQ : Q2 (none) h) : Go p l e R s m args below meth c n0 (nq Q2) fs h k n (mkF m pc Ls ([])) :=
  g_returnX C [] all0 hret hd hk hn ⟨rfl, hQ⟩
theorem g_ireturnIX (C : Cx Z a0 tb p s m meth c own mname bytes maxL ret n0) {z : Int32} (ns : List Addr) (hns : ∀ x ∈ ns, x ∈ fs) (hret : ret = some .int) (hd : decode bytes pc = .ok (.ireturn, 1)) (hk : k ≤ R.cells) (hn : n ≤ R.slots) (hQ : Q (some (.int z)) h ns) : Go p l e R s m args below meth c n0 Q fs h k n (mkF m pc Ls (.int z :: St)) := by
  intro T locs X eT N I
  have hZ := C.hZ
  have hown := C.hown
  obtain ⟨ff, hr, hrun, hended, hW, hsame⟩ := X.leave (v := some (.int z)) (fun q => by rw [C.hret, hret] at q; cases q) C.hlk
  exact ⟨_, _, retOut X C.hx (t := .int) (C.hret.trans hret) rfl (Or.inl ⟨rfl, Or.inl rfl, z, rfl⟩) (hb C.hby hd) hr, hrun, hended, _, _, ns, rfl, ⟨by rw [show (T.setFrames ff).heap = T.heap from rfl, eT]; exact hQ, N⟩, fun y hy => I.ge (hns y hy), ⟨_, rfl⟩, hW, hsame.mono hk hn⟩
theorem g_ireturnI (C : Cx Z a0 tb p s m meth c own mname bytes maxL ret n0) {z : Int32} (hret : ret = some .int) (hd : decode bytes pc = .ok (.ireturn, 1)) (hk : k ≤ R.cells) (hn : n ≤ R.slots) (hQ : Q2 (some (.int z)) h) : Go p l e R s m args below meth c n0 (nq Q2) fs h k n (mkF m pc Ls (.int z :: St)) :=
  g_ireturnIX C [] all0 hret hd hk hn ⟨rfl, hQ⟩
theorem g_ireturnNX (C : Cx Z a0 tb p s m meth c own mname bytes maxL ret n0) {z : Int32} {t : FieldType} (ns : List Addr) (hns : ∀ x ∈ ns, x ∈ fs) (hret : ret = some t) (ht : t = .boolean ∨ t = .byte ∨ t = .char ∨ t = .short) (hd : decode bytes pc = .ok (.ireturn, 1)) (hk : k ≤ R.cells) (hn : n ≤ R.slots) (hQ : Q (some (.int (nar t z))) h ns) : Go p l e R s m args below meth c n0 Q fs h k n (mkF m pc Ls (.int z :: St)) := by
  intro T locs X eT N I
  have hZ := C.hZ
  have hown := C.hown
  obtain ⟨ff, hr, hrun, hended, hW, hsame⟩ := X.leave (v := some (.int (nar t z))) (fun q => by rw [C.hret, hret] at q; cases q) C.hlk
  exact ⟨_, _, retN X C.hx (C.hret.trans hret) ht (hb C.hby hd) hr, hrun, hended, _, _, ns, rfl, ⟨by rw [show (T.setFrames ff).heap = T.heap from rfl, eT]; exact hQ, N⟩, fun y hy => I.ge (hns y hy), ⟨_, rfl⟩, hW, hsame.mono hk hn⟩
theorem g_ireturnN (C : Cx Z a0 tb p s m meth c own mname bytes maxL ret n0) {z : Int32} {t : FieldType} (hret : ret = some t) (ht : t = .boolean ∨ t = .byte ∨ t = .char ∨ t = .short) (hd : decode bytes pc = .ok (.ireturn, 1)) (hk : k ≤ R.cells) (hn : n ≤ R.slots) (hQ : Q2 (some (.int (nar t z))) h) : Go p l e R s m args below meth c n0 (nq Q2) fs h k n (mkF m pc Ls (.int z :: St)) :=
  g_ireturnNX C [] all0 hret ht hd hk hn ⟨rfl, hQ⟩
/-- a body's contract: called so, over this heap, it returns with Q -/
def Met (l : Launch) (Z : State) (y : MethodName) (bytes : ByteArray) (maxL : Nat) (ret : Option FieldType) (ws : List Jvm.Cond) (rm : Room) (fs : List Addr) (as' : Array Value) (h : Heap) (n0 : Nat) (Q : Option Value → Heap → List Addr → Prop) : Prop :=
  Inv n0 fs h → MetFree l y (head1 (Jvm.Cond.code y bytes maxL ret :: ws) rm) (fun a U => a = as' ∧ Z.Warmed39 U.vm ∧ U.heap = h) (fun _ _ _ _ _ => True) (fun _ U o U' => ∃ v L ns, o = .returned v ∧ (Q v U'.heap ns ∧ Fr n0 L) ∧ (∀ x ∈ ns, n0 ≤ x) ∧ FrameEnd U o U' L rm.cells rm.slots)
theorem met_of {y : MethodName} {ws : List Jvm.Cond} {as' : Array Value} (hpl : plainFor y = true) (hw : ∀ d ∈ tb, d.before a0 Z = true) (Ls : Array Slot) (hef : ∀ m : MethodId, entryFrame m as' maxL = mkF m 0 Ls [])
    (H : ∀ p e s m below meth c, Cx Z a0 tb p s m meth c y.cls y.name bytes maxL ret n0 → Go p l e R s m as' below meth c n0 Q fs h 0 0 (mkF m 0 Ls [])) : Met l Z y bytes maxL ret ws R fs as' h n0 Q := by
  intro I
  refine MetFree.of_bodySF hpl hisR ?_
  intro p e s m args below meth c s₁ Bd hml0 hP hK
  obtain ⟨rfl, hZ, hh⟩ := hP
  have X0 : Stand p l e R s m args below meth c s₁ [] 0 0 := Stand.of_body Bd
  have e0 : s₁.heap = h := by rw [← hh, Bd.state]; rfl
  have C : Cx Z a0 tb p s m meth c y.cls y.name bytes maxL ret n0 := ⟨Bd.exec, hZ, findClass_of_methodNamed Bd.named, Bd.bytes, hml0, Bd.returns, Bd.notSynchronized, hw, (name_of_methodNamed Bd.named Bd.method).1, by rw [hh]; exact I.1⟩
  obtain ⟨s2, o, st, r⟩ := H p e s m below meth c C s₁ [] X0 e0 (Fr.nil n0) I
  exact ⟨s2, o, castTop (hef m) st, r⟩
/-- the same as the caller needs it -/
def Ct (l : Launch) (Z : State) (y : MethodName) (maxL : Nat) (rm : Room) (fs : List Addr) (as' : Array Value) (h : Heap) (n0 : Nat) (Q : Option Value → Heap → List Addr → Prop) : Prop :=
  ∀ ⦃R : Room⦄ ⦃p : Program⦄ ⦃e : Env⦄ ⦃below : List Frame⦄ ⦃s : State⦄ ⦃args : Array Value⦄ ⦃len W : Nat⦄, Z.Warmed39 s.vm → Inv n0 fs h → rm.frames + 1 ≤ R.frames → W + (maxL + 11) + rm.locals ≤ R.locals →
    Back l R p e below s args y len W (fun A a => a = as' ∧ A.U.heap = h ∧ A.cells + rm.cells ≤ R.cells ∧ A.slots + rm.slots ≤ R.slots) (fun A _ v B => ∃ L, (∃ ns, Q v B.U.heap ns ∧ Fr n0 L ∧ ∀ x ∈ ns, n0 ≤ x) ∧ B.locs = A.locs ++ L ∧ B.cells = A.cells + rm.cells ∧ B.slots = A.slots + rm.slots)
theorem ct_of {y : MethodName} {rm : Room} {as' : Array Value} (hw : ∀ d ∈ tb, d.before a0 Z = true) (wc : Jvm.Cond.code y bytes maxL ret ∈ tb) (wz : Jvm.Cond.initialized y.cls ∈ tb) (M : Met l Z y bytes maxL ret [] rm fs as' h n0 Q) : Ct l Z y maxL rm fs as' h n0 Q :=
  fun _ _ _ _ _ _ _ _ hZ I hf hl => backOf (Q := fun v h' L => ∃ ns, Q v h' ns ∧ Fr n0 L ∧ ∀ x ∈ ns, n0 ≤ x) (fun p e ha hc hk s m args below hf' happ hP hK => by
    obtain ⟨nn, o, h1, h2, h3, v, L, ns, h4, ⟨h5, h6⟩, h7, h8⟩ := M I p e ha hc hk s m args below hf' happ hP hK
    exact ⟨nn, o, h1, h2, h3, v, L, h4, ⟨ns, h5, h6, h7⟩, h8⟩) hZ (hw _ wc) (hw _ wz) hf hl
/-- a callee by a Back -/
theorem ct_back {y : MethodName} {rm : Room} {as' : Array Value}
    (B0 : ∀ {R : Room} {p : Program} {e : Env} {below : List Frame} {s : State} {args : Array Value} {len W : Nat}, Z.Warmed39 s.vm → n0 ≤ h.size → (∀ x ∈ fs, n0 ≤ x) → rm.frames + 1 ≤ R.frames → W + (maxL + 11) + rm.locals ≤ R.locals →
      Back l R p e below s args y len W (fun A a => a = as' ∧ A.U.heap = h ∧ A.cells + rm.cells ≤ R.cells ∧ A.slots + rm.slots ≤ R.slots) (fun A _ v B => ∃ L, (Q2 v B.U.heap ∧ Fr n0 L) ∧ B.locs = A.locs ++ L ∧ B.cells = A.cells + rm.cells ∧ B.slots = A.slots + rm.slots)) : Ct l Z y maxL rm fs as' h n0 (nq Q2) := by
  intro R p e below s args len W hZ I hf hl
  refine Back.mono (B0 hZ I.1 I.2 hf hl) (fun P a q => q) (fun P a v B hp hq => ?_)
  obtain ⟨L, ⟨q1, q2⟩, q3⟩ := hq
  exact ⟨L, ⟨[], ⟨rfl, q1⟩, q2, all0⟩, q3⟩
theorem g_staticX (C : Cx Z a0 tb p s m meth c own mname bytes maxL ret n0) {index : Nat} {y : MethodName} {yb : ByteArray} {yr : Option FieldType} {yl' : Nat} (w1 : Jvm.Cond.methodLink own index y ∈ tb) (w2 : Jvm.Cond.static y ∈ tb) (w3 : Jvm.Cond.initialized y.cls ∈ tb) (w4 : Jvm.Cond.code y yb yl' yr ∈ tb) (hy : y.cls ≠ "java/lang/invoke/MethodHandle" ∧ y.cls ≠ "java/lang/invoke/VarHandle") {rm : Room} {fs0 : List Addr} (argsL : List Value) {Qy : Option Value → Heap → List Addr → Prop} {yl : Nat} (K0 : Ct l Z y yl rm fs0 argsL.toArray h n0 Qy) (hfs : ∀ x ∈ fs0, x ∈ fs) (hf : rm.frames + 1 ≤ R.frames) (W : Nat) (hlo : W + (yl + 11) + rm.locals ≤ R.locals) (hsz : Ls.size = maxL) {sig : MethodDescriptor} (hdesc : parseMethodDescriptor y.desc = some sig) (hlen : argsL.length = sig.parameters.length) (rest : List Value) (hs : St = argsL.reverse ++ rest) (hW : (rest.map fun v => v.category).sum ≤ W) (hd : decode bytes pc = .ok (.invokestatic index, 3)) (hc : k + rm.cells ≤ R.cells) (hn : n + rm.slots ≤ R.slots)
    (K : ∀ v h' ns, Qy v h' ns → Go p l e R s m args below meth c n0 Q (ns ++ fs) h' (k + rm.cells) (n + rm.slots) (mkF m (pc + 3) Ls (v.toList ++ rest))) : Go p l e R s m args below meth c n0 Q fs h k n (mkF m pc Ls St) := by
  intro T locs X eT N I
  have hZ := C.hZ
  have hown := C.hown
  obtain ⟨v, _, ⟨T', L', k', n'⟩, -, X', ⟨Lc, ⟨ns, hQ, hN, hns⟩, hl', hk', hn'⟩, st⟩ := Jvm.LawKit.callS X C.hx hown (mvT hZ (C.hw w1)) (mvT hZ (C.hw w2)) (mvT hZ (C.hw w3)) (mvT hZ (C.hw w4)) hy (K0 (W := W) hZ (I.less hfs) hf hlo) (g := mkF m pc Ls St) rfl (hsz.trans C.hml.symm) (argsL := argsL) (rest := rest) (fun sg q => by cases hdesc.symm.trans q; exact hlen) hs (by show 2 * 0 + _ ≤ _; omega) (hb C.hby hd) (fun _ _ => ⟨rfl, eT, hc, hn⟩)
  dsimp only [Pt.U, Pt.locs, Pt.cells, Pt.slots] at X' hl' hk' hn' st hQ
  subst hl' hk' hn'
  have hsize : n0 ≤ T'.heap.size := Nat.le_trans C.hn0 X'.same.2.1
  obtain ⟨s2, o, st2, r⟩ := K v T'.heap ns hQ T' _ X' rfl (N.app hN) ⟨hsize, fun x hx => (List.mem_append.mp hx).elim (hns x) (I.2 x)⟩
  exact ⟨s2, o, st _ st2, r⟩
theorem g_static (C : Cx Z a0 tb p s m meth c own mname bytes maxL ret n0) {index : Nat} {y : MethodName} {yb : ByteArray} {yr : Option FieldType} {yl' : Nat} (w1 : Jvm.Cond.methodLink own index y ∈ tb) (w2 : Jvm.Cond.static y ∈ tb) (w3 : Jvm.Cond.initialized y.cls ∈ tb) (w4 : Jvm.Cond.code y yb yl' yr ∈ tb) (hy : y.cls ≠ "java/lang/invoke/MethodHandle" ∧ y.cls ≠ "java/lang/invoke/VarHandle") {rm : Room} {fs0 : List Addr} (argsL : List Value) {Qy : Option Value → Heap → Prop} {yl : Nat} (K0 : Ct l Z y yl rm fs0 argsL.toArray h n0 (nq Qy)) (hfs : ∀ x ∈ fs0, x ∈ fs) (hf : rm.frames + 1 ≤ R.frames) (W : Nat) (hlo : W + (yl + 11) + rm.locals ≤ R.locals) (hsz : Ls.size = maxL) {sig : MethodDescriptor} (hdesc : parseMethodDescriptor y.desc = some sig) (hlen : argsL.length = sig.parameters.length) (rest : List Value) (hs : St = argsL.reverse ++ rest) (hW : (rest.map fun v => v.category).sum ≤ W) (hd : decode bytes pc = .ok (.invokestatic index, 3)) (hc : k + rm.cells ≤ R.cells) (hn : n + rm.slots ≤ R.slots)
    (K : ∀ v h', Qy v h' → Go p l e R s m args below meth c n0 Q fs h' (k + rm.cells) (n + rm.slots) (mkF m (pc + 3) Ls (v.toList ++ rest))) : Go p l e R s m args below meth c n0 Q fs h k n (mkF m pc Ls St) :=
  g_staticX C w1 w2 w3 w4 hy argsL K0 hfs hf W hlo hsz hdesc hlen rest hs hW hd hc hn (fun v h' ns q => by obtain ⟨rfl, q⟩ := q; exact K v h' q)
theorem g_specialX (C : Cx Z a0 tb p s m meth c own mname bytes maxL ret n0) {index : Nat} {y : MethodName} {a : Addr} {yb : ByteArray} {yl' : Nat} (w1 : Jvm.Cond.methodLink own index y ∈ tb) (w2 : Jvm.Cond.instanceMethod y ∈ tb) (w4 : Jvm.Cond.code y yb yl' none ∈ tb) (hy1 : y.name = "<init>") (hy : y.cls ≠ "java/lang/invoke/MethodHandle" ∧ y.cls ≠ "java/lang/invoke/VarHandle") {rm : Room} {fs0 : List Addr} (argsL : List Value) {Qy : Option Value → Heap → List Addr → Prop} {yl : Nat} (K0 : Ct l Z y yl rm fs0 (.ref a :: argsL).toArray h n0 Qy) (hfs : ∀ x ∈ fs0, x ∈ fs) (hf : rm.frames + 1 ≤ R.frames) (W : Nat) (hlo : W + (yl + 11) + rm.locals ≤ R.locals) (hsz : Ls.size = maxL) {sig : MethodDescriptor} (hdesc : parseMethodDescriptor y.desc = some sig) (hlen : argsL.length = sig.parameters.length) (rest : List Value) (hs : St = argsL.reverse ++ .ref a :: rest) (hW : (rest.map fun v => v.category).sum ≤ W) (hd : decode bytes pc = .ok (.invokespecial index, 3)) (hc : k + rm.cells ≤ R.cells) (hn : n + rm.slots ≤ R.slots)
    (K : ∀ v h' ns, Qy v h' ns → Go p l e R s m args below meth c n0 Q (ns ++ fs) h' (k + rm.cells) (n + rm.slots) (mkF m (pc + 3) Ls (v.toList ++ rest))) : Go p l e R s m args below meth c n0 Q fs h k n (mkF m pc Ls St) := by
  intro T locs X eT N I
  have hZ := C.hZ
  have hown := C.hown
  obtain ⟨v, _, ⟨T', L', k', n'⟩, -, X', ⟨Lc, ⟨ns, hQ, hN, hns⟩, hl', hk', hn'⟩, st⟩ := X.specialBack C.hx hy1 hown (mvT hZ (C.hw w1)) (mvT hZ (C.hw w2)) (mvT hZ (C.hw w4)) hy (K0 (W := W) hZ (I.less hfs) hf hlo) (g := mkF m pc Ls St) rfl (hsz.trans C.hml.symm) (Steps.refl _) (a := a) (argsL := argsL) (rest := rest) (fun sg q => by cases hdesc.symm.trans q; exact hlen) hs (by show 2 * 0 + _ ≤ _; omega) (hb C.hby hd) (fun _ _ => ⟨rfl, eT, hc, hn⟩)
  dsimp only [Pt.U, Pt.locs, Pt.cells, Pt.slots] at X' hl' hk' hn' st hQ
  subst hl' hk' hn'
  have hsize : n0 ≤ T'.heap.size := Nat.le_trans C.hn0 X'.same.2.1
  obtain ⟨s2, o, st2, r⟩ := K v T'.heap ns hQ T' _ X' rfl (N.app hN) ⟨hsize, fun x hx => (List.mem_append.mp hx).elim (hns x) (I.2 x)⟩
  exact ⟨s2, o, st.trans st2, r⟩
theorem g_special (C : Cx Z a0 tb p s m meth c own mname bytes maxL ret n0) {index : Nat} {y : MethodName} {a : Addr} {yb : ByteArray} {yl' : Nat} (w1 : Jvm.Cond.methodLink own index y ∈ tb) (w2 : Jvm.Cond.instanceMethod y ∈ tb) (w4 : Jvm.Cond.code y yb yl' none ∈ tb) (hy1 : y.name = "<init>") (hy : y.cls ≠ "java/lang/invoke/MethodHandle" ∧ y.cls ≠ "java/lang/invoke/VarHandle") {rm : Room} {fs0 : List Addr} (argsL : List Value) {Qy : Option Value → Heap → Prop} {yl : Nat} (K0 : Ct l Z y yl rm fs0 (.ref a :: argsL).toArray h n0 (nq Qy)) (hfs : ∀ x ∈ fs0, x ∈ fs) (hf : rm.frames + 1 ≤ R.frames) (W : Nat) (hlo : W + (yl + 11) + rm.locals ≤ R.locals) (hsz : Ls.size = maxL) {sig : MethodDescriptor} (hdesc : parseMethodDescriptor y.desc = some sig) (hlen : argsL.length = sig.parameters.length) (rest : List Value) (hs : St = argsL.reverse ++ .ref a :: rest) (hW : (rest.map fun v => v.category).sum ≤ W) (hd : decode bytes pc = .ok (.invokespecial index, 3)) (hc : k + rm.cells ≤ R.cells) (hn : n + rm.slots ≤ R.slots)
    (K : ∀ v h', Qy v h' → Go p l e R s m args below meth c n0 Q fs h' (k + rm.cells) (n + rm.slots) (mkF m (pc + 3) Ls (v.toList ++ rest))) : Go p l e R s m args below meth c n0 Q fs h k n (mkF m pc Ls St) :=
  g_specialX C w1 w2 w4 hy1 hy argsL K0 hfs hf W hlo hsz hdesc hlen rest hs hW hd hc hn (fun v h' ns q => by obtain ⟨rfl, q⟩ := q; exact K v h' q)
theorem g_virtualX (C : Cx Z a0 tb p s m meth c own mname bytes maxL ret n0) {index : Nat} {y z : MethodName} {Cn : String} {a : Addr} (E : Exa Z h a Cn) (w1 : Jvm.Cond.methodLink own index y ∈ tb) (w2 : Jvm.Cond.declares y ∈ tb) (hnf : ∀ {s' : State}, Z.Warmed39 s'.vm → NotFace s' y) (w3 : Jvm.Cond.selects Cn y z ∈ tb) (w4 : Jvm.Cond.instanceMethod z ∈ tb) (hy : y.cls ≠ "java/lang/invoke/MethodHandle" ∧ y.cls ≠ "java/lang/invoke/VarHandle") {rm : Room} {fs0 : List Addr} (argsL : List Value) {Qy : Option Value → Heap → List Addr → Prop} {yl : Nat} (K0 : Ct l Z z yl rm fs0 (.ref a :: argsL).toArray h n0 Qy) (hfs : ∀ x ∈ fs0, x ∈ fs) (hf : rm.frames + 1 ≤ R.frames) (W : Nat) (hlo : W + (yl + 11) + rm.locals ≤ R.locals) (hsz : Ls.size = maxL) {sig : MethodDescriptor} (hdesc : parseMethodDescriptor y.desc = some sig) (hlen : argsL.length = sig.parameters.length) (rest : List Value) (hs : St = argsL.reverse ++ .ref a :: rest) (hW : (rest.map fun v => v.category).sum ≤ W) (hd : decode bytes pc = .ok (.invokevirtual index, 3)) (hc : k + rm.cells ≤ R.cells) (hn : n + rm.slots ≤ R.slots)
    (K : ∀ v h' ns, Qy v h' ns → Go p l e R s m args below meth c n0 Q (ns ++ fs) h' (k + rm.cells) (n + rm.slots) (mkF m (pc + 3) Ls (v.toList ++ rest))) : Go p l e R s m args below meth c n0 Q fs h k n (mkF m pc Ls St) := by
  intro T locs X eT N I
  have hZ := C.hZ
  have hown := C.hown
  obtain ⟨cq, kq, qa, qb, qc⟩ := isOf hZ eT E
  obtain ⟨v, _, ⟨T', L', k', n'⟩, -, X', ⟨Lc, ⟨ns, hQ, hN, hns⟩, hl', hk', hn'⟩, st⟩ := X.virtualBack C.hx hown (mvT hZ (C.hw w1)) (mvT hZ (C.hw w2)) (hnf hZ) (mvT hZ (C.hw w3)) (mvT hZ (C.hw w4)) hy (K0 (W := W) hZ (I.less hfs) hf hlo) qa qc (g := mkF m pc Ls St) rfl (hsz.trans C.hml.symm) (Steps.refl _) (argsL := argsL) (rest := rest) (fun sg q => by cases hdesc.symm.trans q; exact hlen) hs (by show 2 * 0 + _ ≤ _; omega) (hb C.hby hd) (fun _ _ => ⟨rfl, eT, hc, hn⟩)
  dsimp only [Pt.U, Pt.locs, Pt.cells, Pt.slots] at X' hl' hk' hn' st hQ
  subst hl' hk' hn'
  have hsize : n0 ≤ T'.heap.size := Nat.le_trans C.hn0 X'.same.2.1
  obtain ⟨s2, o, st2, r⟩ := K v T'.heap ns hQ T' _ X' rfl (N.app hN) ⟨hsize, fun x hx => (List.mem_append.mp hx).elim (hns x) (I.2 x)⟩
  exact ⟨s2, o, st.trans st2, r⟩
theorem g_virtual (C : Cx Z a0 tb p s m meth c own mname bytes maxL ret n0) {index : Nat} {y z : MethodName} {Cn : String} {a : Addr} (E : Exa Z h a Cn) (w1 : Jvm.Cond.methodLink own index y ∈ tb) (w2 : Jvm.Cond.declares y ∈ tb) (hnf : ∀ {s' : State}, Z.Warmed39 s'.vm → NotFace s' y) (w3 : Jvm.Cond.selects Cn y z ∈ tb) (w4 : Jvm.Cond.instanceMethod z ∈ tb) (hy : y.cls ≠ "java/lang/invoke/MethodHandle" ∧ y.cls ≠ "java/lang/invoke/VarHandle") {rm : Room} {fs0 : List Addr} (argsL : List Value) {Qy : Option Value → Heap → Prop} {yl : Nat} (K0 : Ct l Z z yl rm fs0 (.ref a :: argsL).toArray h n0 (nq Qy)) (hfs : ∀ x ∈ fs0, x ∈ fs) (hf : rm.frames + 1 ≤ R.frames) (W : Nat) (hlo : W + (yl + 11) + rm.locals ≤ R.locals) (hsz : Ls.size = maxL) {sig : MethodDescriptor} (hdesc : parseMethodDescriptor y.desc = some sig) (hlen : argsL.length = sig.parameters.length) (rest : List Value) (hs : St = argsL.reverse ++ .ref a :: rest) (hW : (rest.map fun v => v.category).sum ≤ W) (hd : decode bytes pc = .ok (.invokevirtual index, 3)) (hc : k + rm.cells ≤ R.cells) (hn : n + rm.slots ≤ R.slots)
    (K : ∀ v h', Qy v h' → Go p l e R s m args below meth c n0 Q fs h' (k + rm.cells) (n + rm.slots) (mkF m (pc + 3) Ls (v.toList ++ rest))) : Go p l e R s m args below meth c n0 Q fs h k n (mkF m pc Ls St) :=
  g_virtualX C E w1 w2 hnf w3 w4 hy argsL K0 hfs hf W hlo hsz hdesc hlen rest hs hW hd hc hn (fun v h' ns q => by obtain ⟨rfl, q⟩ := q; exact K v h' q)
theorem nf_sel {y : MethodName} {Cn : String} (hw : ∀ d ∈ tb, d.before a0 Z = true) (w : Jvm.Cond.selects Cn y y ∈ tb) {s' : State} (hZ : Z.Warmed39 s'.vm) : NotFace s' y := notFace_of_selects (args := #[]) (mvT hZ (hw _ w))
end OwnGo
end Jvm.OwnGo
namespace Jvm.OwnGo
open Sem ClassFile Op Lib Jvm.Stand Jvm.Free Jvm.LawKit Jvm.RoadKit Bundle
section OwnBox
variable {Z : State} {a0 : Array Value} {tb : List Jvm.Cond} {p : Program} {l : Launch} {e : Env} {R : Room} {s : State} {m : MethodId} {args : Array Value} {below : List Frame} {meth : Method} {c : Code} {own mname : String} {bytes : ByteArray} {maxL : Nat} {ret : Option FieldType} {n0 : Nat} {Q : Option Value → Heap → List Addr → Prop} {Q2 : Option Value → Heap → Prop} {fs : List Addr} {h : Heap} {k n : Nat} {pc : Nat} {Ls : Array Slot} {St : List Value}
end OwnBox
end Jvm.OwnGo
namespace Jvm.Pilot.@@N@@
open Jvm Jvm.ClassFile Sem Op Lib Jvm.Free Jvm.Stand Jvm.LawKit Jvm.RoadKit Bundle Jvm.OwnGo Jvm.Pilot.@@N@@.Jvm.D
theorem w_0 : (Jvm.Cond.methodLink "com/example/xml_retrieval_scoring/xmlretrievalscoring/CumulatedGainHasIdealGainPinLaw" (7 : Nat) ({ cls := "java/lang/Math", name := "max", desc := "(II)I" } : Jvm.MethodName)) ∈ tables_1 := List.mem_of_getElem? (i := 0) rfl
theorem w_1 : (Jvm.Cond.static ({ cls := "java/lang/Math", name := "max", desc := "(II)I" } : Jvm.MethodName)) ∈ tables_1 := List.mem_of_getElem? (i := 1) rfl
theorem w_2 : (Jvm.Cond.initialized "java/lang/Math") ∈ tables_1 := List.mem_of_getElem? (i := 2) rfl
theorem w_3 : (Jvm.Cond.code ({ cls := "java/lang/Math", name := "max", desc := "(II)I" } : Jvm.MethodName) jdk_29_method_65_code (2 : Nat) (Option.some Jvm.ClassFile.FieldType.int)) ∈ tables_1 := List.mem_of_getElem? (i := 3) rfl
theorem w_4 : (Jvm.Cond.methodLink "com/example/xml_retrieval_scoring/xmlretrievalscoring/CumulatedGainHasIdealGainPinLaw" (13 : Nat) ({ cls := "java/lang/Math", name := "min", desc := "(II)I" } : Jvm.MethodName)) ∈ tables_1 := List.mem_of_getElem? (i := 4) rfl
theorem w_5 : (Jvm.Cond.static ({ cls := "java/lang/Math", name := "min", desc := "(II)I" } : Jvm.MethodName)) ∈ tables_1 := List.mem_of_getElem? (i := 5) rfl
theorem w_6 : (Jvm.Cond.code ({ cls := "java/lang/Math", name := "min", desc := "(II)I" } : Jvm.MethodName) jdk_29_method_69_code (2 : Nat) (Option.some Jvm.ClassFile.FieldType.int)) ∈ tables_1 := List.mem_of_getElem? (i := 6) rfl
theorem w_7 : (Jvm.Cond.arrayClass Jvm.ClassFile.FieldType.double) ∈ tables_1 := List.mem_of_getElem? (i := 7) rfl
theorem w_8 : (Jvm.Cond.classLink "com/example/xml_retrieval_scoring/xmlretrievalscoring/CumulatedGainHasIdealGainPinLaw" (16 : Nat) "com/example/xml_retrieval_scoring/xmlretrievalscoring/CumulatedGain") ∈ tables_1 := List.mem_of_getElem? (i := 8) rfl
theorem w_9 : (Jvm.Cond.instantiable "com/example/xml_retrieval_scoring/xmlretrievalscoring/CumulatedGain" (2 : Nat)) ∈ tables_1 := List.mem_of_getElem? (i := 9) rfl
theorem w_10 : (Jvm.Cond.initialized "com/example/xml_retrieval_scoring/xmlretrievalscoring/CumulatedGain") ∈ tables_1 := List.mem_of_getElem? (i := 10) rfl
theorem w_11 : (Jvm.Cond.methodLink "com/example/xml_retrieval_scoring/xmlretrievalscoring/CumulatedGainHasIdealGainPinLaw" (18 : Nat) ({ cls := "com/example/xml_retrieval_scoring/xmlretrievalscoring/CumulatedGain", name := "<init>", desc := "([D[D)V" } : Jvm.MethodName)) ∈ tables_1 := List.mem_of_getElem? (i := 11) rfl
theorem w_12 : (Jvm.Cond.instanceMethod ({ cls := "com/example/xml_retrieval_scoring/xmlretrievalscoring/CumulatedGain", name := "<init>", desc := "([D[D)V" } : Jvm.MethodName)) ∈ tables_1 := List.mem_of_getElem? (i := 12) rfl
theorem w_13 : (Jvm.Cond.code ({ cls := "com/example/xml_retrieval_scoring/xmlretrievalscoring/CumulatedGain", name := "<init>", desc := "([D[D)V" } : Jvm.MethodName) prog_19_method_1_code (3 : Nat) (Option.none : Option Jvm.ClassFile.FieldType)) ∈ tables_1 := List.mem_of_getElem? (i := 13) rfl
theorem w_14 : (Jvm.Cond.methodLink "com/example/xml_retrieval_scoring/xmlretrievalscoring/CumulatedGain" (1 : Nat) ({ cls := "java/lang/Object", name := "<init>", desc := "()V" } : Jvm.MethodName)) ∈ tables_1 := List.mem_of_getElem? (i := 14) rfl
theorem w_15 : (Jvm.Cond.instanceMethod ({ cls := "java/lang/Object", name := "<init>", desc := "()V" } : Jvm.MethodName)) ∈ tables_1 := List.mem_of_getElem? (i := 15) rfl
theorem w_16 : (Jvm.Cond.code ({ cls := "java/lang/Object", name := "<init>", desc := "()V" } : Jvm.MethodName) object_method_1_code (1 : Nat) (Option.none : Option Jvm.ClassFile.FieldType)) ∈ tables_1 := List.mem_of_getElem? (i := 16) rfl
theorem w_17 : (Jvm.Cond.methodLink "com/example/xml_retrieval_scoring/xmlretrievalscoring/CumulatedGain" (7 : Nat) ({ cls := "[D", name := "clone", desc := "()Ljava/lang/Object;" } : Jvm.MethodName)) ∈ tables_1 := List.mem_of_getElem? (i := 17) rfl
theorem w_18 : (Jvm.Cond.sameMethod "[D" "java/lang/Object" "clone" "()Ljava/lang/Object;") ∈ tables_1 := List.mem_of_getElem? (i := 18) rfl
theorem w_20 : (Jvm.Cond.instanceMethod ({ cls := "java/lang/Object", name := "clone", desc := "()Ljava/lang/Object;" } : Jvm.MethodName)) ∈ tables_1 := List.mem_of_getElem? (i := 20) rfl
theorem w_21 : (Jvm.Cond.selects "[D" ({ cls := "[D", name := "clone", desc := "()Ljava/lang/Object;" } : Jvm.MethodName) ({ cls := "java/lang/Object", name := "clone", desc := "()Ljava/lang/Object;" } : Jvm.MethodName)) ∈ tables_1 := List.mem_of_getElem? (i := 21) rfl
theorem w_22 : (Jvm.Cond.native ({ cls := "java/lang/Object", name := "clone", desc := "()Ljava/lang/Object;" } : Jvm.MethodName)) ∈ tables_1 := List.mem_of_getElem? (i := 22) rfl
theorem w_23 : (Jvm.Cond.castable "[D" "java/lang/Cloneable") ∈ tables_1 := List.mem_of_getElem? (i := 23) rfl
theorem w_24 : (Jvm.Cond.classLink "com/example/xml_retrieval_scoring/xmlretrievalscoring/CumulatedGain" (8 : Nat) "[D") ∈ tables_1 := List.mem_of_getElem? (i := 24) rfl
theorem w_26 : (Jvm.Cond.fieldLink "com/example/xml_retrieval_scoring/xmlretrievalscoring/CumulatedGain" (13 : Nat) "com/example/xml_retrieval_scoring/xmlretrievalscoring/CumulatedGain" "gains" "[D") ∈ tables_1 := List.mem_of_getElem? (i := 26) rfl
theorem w_27 : (Jvm.Cond.laysFinal "com/example/xml_retrieval_scoring/xmlretrievalscoring/CumulatedGain" "com/example/xml_retrieval_scoring/xmlretrievalscoring/CumulatedGain" "gains" "[D") ∈ tables_1 := List.mem_of_getElem? (i := 27) rfl
theorem w_28 : (Jvm.Cond.fieldLink "com/example/xml_retrieval_scoring/xmlretrievalscoring/CumulatedGain" (18 : Nat) "com/example/xml_retrieval_scoring/xmlretrievalscoring/CumulatedGain" "ideal" "[D") ∈ tables_1 := List.mem_of_getElem? (i := 28) rfl
theorem w_29 : (Jvm.Cond.laysFinal "com/example/xml_retrieval_scoring/xmlretrievalscoring/CumulatedGain" "com/example/xml_retrieval_scoring/xmlretrievalscoring/CumulatedGain" "ideal" "[D") ∈ tables_1 := List.mem_of_getElem? (i := 29) rfl
theorem w_30 : (Jvm.Cond.methodLink "com/example/xml_retrieval_scoring/xmlretrievalscoring/CumulatedGainHasIdealGainPinLaw" (21 : Nat) ({ cls := "com/example/xml_retrieval_scoring/xmlretrievalscoring/CumulatedGain", name := "hasIdealGain", desc := "()Z" } : Jvm.MethodName)) ∈ tables_1 := List.mem_of_getElem? (i := 30) rfl
theorem w_31 : (Jvm.Cond.declares ({ cls := "com/example/xml_retrieval_scoring/xmlretrievalscoring/CumulatedGain", name := "hasIdealGain", desc := "()Z" } : Jvm.MethodName)) ∈ tables_1 := List.mem_of_getElem? (i := 31) rfl
theorem w_32 : (Jvm.Cond.instanceMethod ({ cls := "com/example/xml_retrieval_scoring/xmlretrievalscoring/CumulatedGain", name := "hasIdealGain", desc := "()Z" } : Jvm.MethodName)) ∈ tables_1 := List.mem_of_getElem? (i := 32) rfl
theorem w_33 : (Jvm.Cond.selects "com/example/xml_retrieval_scoring/xmlretrievalscoring/CumulatedGain" ({ cls := "com/example/xml_retrieval_scoring/xmlretrievalscoring/CumulatedGain", name := "hasIdealGain", desc := "()Z" } : Jvm.MethodName) ({ cls := "com/example/xml_retrieval_scoring/xmlretrievalscoring/CumulatedGain", name := "hasIdealGain", desc := "()Z" } : Jvm.MethodName)) ∈ tables_1 := List.mem_of_getElem? (i := 33) rfl
theorem w_34 : (Jvm.Cond.code ({ cls := "com/example/xml_retrieval_scoring/xmlretrievalscoring/CumulatedGain", name := "hasIdealGain", desc := "()Z" } : Jvm.MethodName) prog_19_method_2_code (1 : Nat) (Option.some Jvm.ClassFile.FieldType.boolean)) ∈ tables_1 := List.mem_of_getElem? (i := 34) rfl
theorem w_35 : (Jvm.Cond.constantDouble "com/example/xml_retrieval_scoring/xmlretrievalscoring/CumulatedGainHasIdealGainPinLaw" (25 : Nat) (13830554455654793216 : UInt64)) ∈ tables_1 := List.mem_of_getElem? (i := 35) rfl
theorem d_jdk_29_method_65_code_0 : decode jdk_29_method_65_code 0 = .ok (.iload_n 0, 1) := by decide +kernel
theorem d_jdk_29_method_65_code_1 : decode jdk_29_method_65_code 1 = .ok (.iload_n 1, 1) := by decide +kernel
theorem d_jdk_29_method_65_code_2 : decode jdk_29_method_65_code 2 = .ok (.if_icmp .lt 7, 3) := by decide +kernel
theorem d_jdk_29_method_65_code_5 : decode jdk_29_method_65_code 5 = .ok (.iload_n 0, 1) := by decide +kernel
theorem d_jdk_29_method_65_code_6 : decode jdk_29_method_65_code 6 = .ok (.goto 4, 3) := by decide +kernel
theorem d_jdk_29_method_65_code_9 : decode jdk_29_method_65_code 9 = .ok (.iload_n 1, 1) := by decide +kernel
theorem d_jdk_29_method_65_code_10 : decode jdk_29_method_65_code 10 = .ok (.ireturn, 1) := by decide +kernel
set_option maxRecDepth 65536 in
set_option maxHeartbeats 40000000 in
theorem rm_max (l : Launch) (Z : State) (a0 : Array Value) (hw : ∀ d ∈ tables_1, d.before a0 Z = true) {ws : List Jvm.Cond} (p1 p2 : Int32) (h0 : Heap) (n0 : Nat) :
    Met l Z (⟨"java/lang/Math", "max", "(II)I"⟩ : MethodName) jdk_29_method_65_code 2 (some .int) ws ({ frames := 0, cells := 0, slots := 0, locals := 0 } : Room) [] #[(.int p1), (.int p2)] h0 n0 (nq (fun v h => v = some (.int (if p1 < p2 then p2 else p1)) ∧ h = h0)) := by
  refine met_of (Jvm.Free.JP.mathPlain rfl (by decide +kernel)) hw #[.val (.int p1), .val (.int p2)] (fun m => by first | rfl | (simp [entryFrame, mkF, argsToLocals, Value.category]; done)) ?_
  intro p e s m below meth c C0
  have C : Cx Z a0 tables_1 p s m meth c "java/lang/Math" "max" jdk_29_method_65_code 2 (some .int) n0 := C0
  refine g_iloadN C d_jdk_29_method_65_code_0 rfl ?_
  refine g_iloadN C d_jdk_29_method_65_code_1 rfl ?_
  by_cases hc101 : p1 < p2
  · refine g_icmp_t C 9 d_jdk_29_method_65_code_2 (XT.ii_lt_t hc101) (by decide) (by decide) ?_
    refine g_iloadN C d_jdk_29_method_65_code_9 rfl ?_
    refine g_ireturnI C rfl d_jdk_29_method_65_code_10 (by decide) (by decide) ?_
    exact ⟨by simp [hc101], rfl⟩
  · refine g_icmp_f C d_jdk_29_method_65_code_2 (XT.ii_lt_f hc101) ?_
    refine g_iloadN C d_jdk_29_method_65_code_5 rfl ?_
    refine g_goto C 10 d_jdk_29_method_65_code_6 (by decide) (by decide) ?_
    refine g_ireturnI C rfl d_jdk_29_method_65_code_10 (by decide) (by decide) ?_
    exact ⟨by simp [hc101], rfl⟩
theorem d_jdk_29_method_69_code_0 : decode jdk_29_method_69_code 0 = .ok (.iload_n 0, 1) := by decide +kernel
theorem d_jdk_29_method_69_code_1 : decode jdk_29_method_69_code 1 = .ok (.iload_n 1, 1) := by decide +kernel
theorem d_jdk_29_method_69_code_2 : decode jdk_29_method_69_code 2 = .ok (.if_icmp .gt 7, 3) := by decide +kernel
theorem d_jdk_29_method_69_code_5 : decode jdk_29_method_69_code 5 = .ok (.iload_n 0, 1) := by decide +kernel
theorem d_jdk_29_method_69_code_6 : decode jdk_29_method_69_code 6 = .ok (.goto 4, 3) := by decide +kernel
theorem d_jdk_29_method_69_code_9 : decode jdk_29_method_69_code 9 = .ok (.iload_n 1, 1) := by decide +kernel
theorem d_jdk_29_method_69_code_10 : decode jdk_29_method_69_code 10 = .ok (.ireturn, 1) := by decide +kernel
set_option maxRecDepth 65536 in
set_option maxHeartbeats 40000000 in
theorem rm_min (l : Launch) (Z : State) (a0 : Array Value) (hw : ∀ d ∈ tables_1, d.before a0 Z = true) {ws : List Jvm.Cond} (p1 p2 : Int32) (h0 : Heap) (n0 : Nat) :
    Met l Z (⟨"java/lang/Math", "min", "(II)I"⟩ : MethodName) jdk_29_method_69_code 2 (some .int) ws ({ frames := 0, cells := 0, slots := 0, locals := 0 } : Room) [] #[(.int p1), (.int p2)] h0 n0 (nq (fun v h => v = some (.int (if p2 < p1 then p2 else p1)) ∧ h = h0)) := by
  refine met_of (Jvm.Free.JP.mathPlain rfl (by decide +kernel)) hw #[.val (.int p1), .val (.int p2)] (fun m => by first | rfl | (simp [entryFrame, mkF, argsToLocals, Value.category]; done)) ?_
  intro p e s m below meth c C0
  have C : Cx Z a0 tables_1 p s m meth c "java/lang/Math" "min" jdk_29_method_69_code 2 (some .int) n0 := C0
  refine g_iloadN C d_jdk_29_method_69_code_0 rfl ?_
  refine g_iloadN C d_jdk_29_method_69_code_1 rfl ?_
  by_cases hc102 : p2 < p1
  · refine g_icmp_t C 9 d_jdk_29_method_69_code_2 (XT.ii_gt_t hc102) (by decide) (by decide) ?_
    refine g_iloadN C d_jdk_29_method_69_code_9 rfl ?_
    refine g_ireturnI C rfl d_jdk_29_method_69_code_10 (by decide) (by decide) ?_
    exact ⟨by simp [hc102], rfl⟩
  · refine g_icmp_f C d_jdk_29_method_69_code_2 (XT.ii_gt_f hc102) ?_
    refine g_iloadN C d_jdk_29_method_69_code_5 rfl ?_
    refine g_goto C 10 d_jdk_29_method_69_code_6 (by decide) (by decide) ?_
    refine g_ireturnI C rfl d_jdk_29_method_69_code_10 (by decide) (by decide) ?_
    exact ⟨by simp [hc102], rfl⟩
theorem d_prog_19_method_1_code_0 : decode prog_19_method_1_code 0 = .ok (.aload_n 0, 1) := by decide +kernel
theorem d_prog_19_method_1_code_1 : decode prog_19_method_1_code 1 = .ok (.invokespecial 1, 3) := by decide +kernel
theorem d_prog_19_method_1_code_4 : decode prog_19_method_1_code 4 = .ok (.aload_n 0, 1) := by decide +kernel
theorem d_prog_19_method_1_code_5 : decode prog_19_method_1_code 5 = .ok (.aload_n 1, 1) := by decide +kernel
theorem d_prog_19_method_1_code_6 : decode prog_19_method_1_code 6 = .ok (.invokevirtual 7, 3) := by decide +kernel
theorem d_prog_19_method_1_code_9 : decode prog_19_method_1_code 9 = .ok (.checkcast 8, 3) := by decide +kernel
theorem d_prog_19_method_1_code_12 : decode prog_19_method_1_code 12 = .ok (.putfield 13, 3) := by decide +kernel
theorem d_prog_19_method_1_code_15 : decode prog_19_method_1_code 15 = .ok (.aload_n 0, 1) := by decide +kernel
theorem d_prog_19_method_1_code_16 : decode prog_19_method_1_code 16 = .ok (.aload_n 2, 1) := by decide +kernel
theorem d_prog_19_method_1_code_17 : decode prog_19_method_1_code 17 = .ok (.invokevirtual 7, 3) := by decide +kernel
theorem d_prog_19_method_1_code_20 : decode prog_19_method_1_code 20 = .ok (.checkcast 8, 3) := by decide +kernel
theorem d_prog_19_method_1_code_23 : decode prog_19_method_1_code 23 = .ok (.putfield 18, 3) := by decide +kernel
theorem d_prog_19_method_1_code_26 : decode prog_19_method_1_code 26 = .ok (.return_, 1) := by decide +kernel
theorem pn_com_example_xml_retrieval_scoring_xmlretrievalscoring_CumulatedGain : plainName "com/example/xml_retrieval_scoring/xmlretrievalscoring/CumulatedGain" = true := by first | (simp [plainName, overriddenIn]; done) | decide +kernel
set_option maxRecDepth 65536 in
set_option maxHeartbeats 40000000 in
theorem rm_init (l : Launch) (Z : State) (a0 : Array Value) (hw : ∀ d ∈ tables_1, d.before a0 Z = true) {ws : List Jvm.Cond} (a1 a2 a3 : Addr) (z2 z3 : Int32) (k2 k3 : ClassId) (us vs : List Value) (h0 : Heap) (n0 : Nat) (E1 : Exa Z h0 a1 "com/example/xml_retrieval_scoring/xmlretrievalscoring/CumulatedGain") (F1 : Fld Z h0 a1 "com/example/xml_retrieval_scoring/xmlretrievalscoring/CumulatedGain" "gains" "[D" .null) (F2 : Fld Z h0 a1 "com/example/xml_retrieval_scoring/xmlretrievalscoring/CumulatedGain" "ideal" "[D" .null) (V2 : Arv Z h0 a2 k2 .double z2 us (.double 0)) (V3 : Arv Z h0 a3 k3 .double z3 vs (.double 0)) (E2 : Exa Z h0 a2 "[D") (E3 : Exa Z h0 a3 "[D") (hz2 : z2.toNatClampNeg ≤ 3) (hz3 : z3.toNatClampNeg ≤ 3) :
    Met l Z (⟨"com/example/xml_retrieval_scoring/xmlretrievalscoring/CumulatedGain", "<init>", "([D[D)V"⟩ : MethodName) prog_19_method_1_code 3 none ws ({ frames := 1, cells := 2, slots := 6, locals := 20 } : Room) [a1] #[(.ref a1), (.ref a2), (.ref a3)] h0 n0 (nq (fun v h => v = none ∧ Keep h0 h [a1] ∧ Exa Z h a1 "com/example/xml_retrieval_scoring/xmlretrievalscoring/CumulatedGain" ∧ ∃ b, h0.size ≤ b ∧ Fld Z h a1 "com/example/xml_retrieval_scoring/xmlretrievalscoring/CumulatedGain" "ideal" "[D" (.ref b) ∧ Arv Z h b k3 .double z3 vs (.double 0))) := by
  refine met_of (plainFor_of_name pn_com_example_xml_retrieval_scoring_xmlretrievalscoring_CumulatedGain) hw #[.val (.ref a1), .val (.ref a2), .val (.ref a3)] (fun m => by first | rfl | (simp [entryFrame, mkF, argsToLocals, Value.category]; done)) ?_
  intro p e s m below meth c C0
  have C : Cx Z a0 tables_1 p s m meth c "com/example/xml_retrieval_scoring/xmlretrievalscoring/CumulatedGain" "<init>" prog_19_method_1_code 3 none n0 := C0
  refine g_aloadN C d_prog_19_method_1_code_0 rfl rfl ?_
  refine g_initO C w_14 w_15 w_16 rfl d_prog_19_method_1_code_1 (by decide) 0 (Nat.le_of_eq rfl) (by decide) ?_
  refine g_aloadN C d_prog_19_method_1_code_4 rfl rfl ?_
  refine g_aloadN C d_prog_19_method_1_code_5 rfl rfl ?_
  refine g_clone C w_17 w_18 w_22 w_20 w_21 w_23 V2 E2 rfl d_prog_19_method_1_code_6 (by decide) 1 (Nat.le_of_eq rfl) (by decide) 3 hz2 (by decide) (by decide) ?_
  intro b103 h103 g103 E103 V103 A103
  refine g_checkcast C w_24 (Ins.self A103) d_prog_19_method_1_code_9 ?_
  have K104 : Keep h0 h103 [] := (Keep.refl h0 []).ext E103
  have F105 := (F1.keep K104 nin0)
  have E106 := (E1.keep K104)
  refine g_putfield C (.array .double) w_26 Via.refl F105 E106 (Or.inr ⟨w_27, rfl, rfl⟩) w_9 (by decide) rfl rfl (List.mem_of_getElem? (i := 1) rfl) d_prog_19_method_1_code_12 ?_
  intro h107 W107 F107
  refine g_aloadN C d_prog_19_method_1_code_15 rfl rfl ?_
  refine g_aloadN C d_prog_19_method_1_code_16 rfl rfl ?_
  have V108 := ((V3.ext E103).other W107 (Ne.symm (own_ne_arv E1 (C.hw w_9) V3)))
  have E110 := ((E3.ext E103).wr W107)
  refine g_clone C w_17 w_18 w_22 w_20 w_21 w_23 V108 E110 rfl d_prog_19_method_1_code_17 (by decide) 1 (Nat.le_of_eq rfl) (by decide) 3 hz3 (by decide) (by decide) ?_
  intro b109 h109 g109 E109 V109 A109
  refine g_checkcast C w_24 (Ins.self A109) d_prog_19_method_1_code_20 ?_
  have F111 := (((F2.ext E103).other W107 (Or.inr (slot_ne (Or.inr (C.hw w_29)) (Or.inr (C.hw w_27)) (by decide) (t := (.array .double)) (t' := (.array .double)) (by decide) (by decide)))).ext E109)
  have E112 := ((E106.wr W107).ext E109)
  refine g_putfield C (.array .double) w_28 Via.refl F111 E112 (Or.inr ⟨w_29, rfl, rfl⟩) w_9 (by decide) rfl rfl (List.mem_of_getElem? (i := 2) rfl) d_prog_19_method_1_code_23 ?_
  intro h113 W113 F113
  refine g_return C rfl d_prog_19_method_1_code_26 (by decide) (by decide) ?_
  have E114 := (E112.wr W113)
  have E115 := (E106.wr W107)
  have V116 := (V109.other W113 (Ne.symm (Nat.ne_of_lt (Nat.lt_of_lt_of_le E115.lt (Nat.le_of_eq g109.symm)))))
  exact ⟨rfl, (((((Keep.refl _ _).ext E103).wr W107 (Or.inl (List.mem_cons_self ..))).ext E109).wr W113 (Or.inl (List.mem_cons_self ..))), E114, b109, (Nat.le_trans (Nat.le_trans (Nat.le_trans (Nat.le_refl _) E103.1) (Nat.le_of_eq W107.size.symm)) (Nat.le_of_eq g109.symm)), F113, V116⟩
theorem d_prog_19_method_2_code_0 : decode prog_19_method_2_code 0 = .ok (.aload_n 0, 1) := by decide +kernel
theorem d_prog_19_method_2_code_1 : decode prog_19_method_2_code 1 = .ok (.getfield 18, 3) := by decide +kernel
theorem d_prog_19_method_2_code_4 : decode prog_19_method_2_code 4 = .ok (.arraylength, 1) := by decide +kernel
theorem d_prog_19_method_2_code_5 : decode prog_19_method_2_code 5 = .ok (.ifCond .le 18, 3) := by decide +kernel
theorem d_prog_19_method_2_code_23 : decode prog_19_method_2_code 23 = .ok (.iconst 0, 1) := by decide +kernel
theorem d_prog_19_method_2_code_24 : decode prog_19_method_2_code 24 = .ok (.ireturn, 1) := by decide +kernel
set_option maxRecDepth 65536 in
set_option maxHeartbeats 40000000 in
theorem rm_h0 (l : Launch) (Z : State) (a0 : Array Value) (hw : ∀ d ∈ tables_1, d.before a0 Z = true) {ws : List Jvm.Cond} (a1 b : Addr) (k3 : ClassId) (vs : List Value) (h0 : Heap) (n0 : Nat) (F2 : Fld Z h0 a1 "com/example/xml_retrieval_scoring/xmlretrievalscoring/CumulatedGain" "ideal" "[D" (.ref b)) (V3 : Arv Z h0 b k3 .double (0 : Int32) vs (.double 0)) :
    Met l Z (⟨"com/example/xml_retrieval_scoring/xmlretrievalscoring/CumulatedGain", "hasIdealGain", "()Z"⟩ : MethodName) prog_19_method_2_code 1 (some .boolean) ws ({ frames := 0, cells := 0, slots := 0, locals := 0 } : Room) [] #[(.ref a1)] h0 n0 (nq (fun v h => v = some (.int 0) ∧ h = h0)) := by
  refine met_of (plainFor_of_name pn_com_example_xml_retrieval_scoring_xmlretrievalscoring_CumulatedGain) hw #[.val (.ref a1)] (fun m => by first | rfl | (simp [entryFrame, mkF, argsToLocals, Value.category]; done)) ?_
  intro p e s m below meth c C0
  have C : Cx Z a0 tables_1 p s m meth c "com/example/xml_retrieval_scoring/xmlretrievalscoring/CumulatedGain" "hasIdealGain" prog_19_method_2_code 1 (some .boolean) n0 := C0
  refine g_aloadN C d_prog_19_method_2_code_0 rfl rfl ?_
  refine g_getfield C w_28 Via.refl F2 d_prog_19_method_2_code_1 ?_
  refine g_arraylength C V3 d_prog_19_method_2_code_4 ?_
  refine g_if_t C 23 d_prog_19_method_2_code_5 (XT.i0_le_t (by decide)) (by decide) (by decide) ?_
  refine g_iconst C 0 d_prog_19_method_2_code_23 rfl ?_
  refine g_ireturnN C (t := .boolean) rfl (by simp) d_prog_19_method_2_code_24 (by decide) (by decide) ?_
  exact ⟨rfl, rfl⟩
theorem own_b53 (x : Int32) : B53 x.toInt64 := by
  have h1 := x.le_toInt
  have h2 := x.toInt_lt
  have e : x.toInt64.toInt = x.toInt := Int32.toInt_toInt64 x
  refine ⟨?_, ?_⟩ <;> rw [e] <;> omega
theorem own_dc (x : Int32) : 0 < cmpValue (FP.dcmp (FP.i2d x) FP.dconst0) .l ↔ 0 < x := by
  have e0 : FP.dconst0 = FP.l2d 0 := by decide +kernel
  rw [e0, i2d_w, dcmpV_w (own_b53 x) (by constructor <;> decide), lcW, lc_gt]
  rw [Int64.lt_iff_toInt_lt, Int32.lt_iff_toInt_lt, Int32.toInt_toInt64, show (0 : Int64).toInt = 0 from by decide, show (0 : Int32).toInt = 0 from by decide]

theorem d_prog_19_method_2_code_8 : decode prog_19_method_2_code 8 = .ok (.aload_n 0, 1) := by decide +kernel
theorem d_prog_19_method_2_code_9 : decode prog_19_method_2_code 9 = .ok (.getfield 18, 3) := by decide +kernel
theorem d_prog_19_method_2_code_12 : decode prog_19_method_2_code 12 = .ok (.iconst 0, 1) := by decide +kernel
theorem d_prog_19_method_2_code_13 : decode prog_19_method_2_code 13 = .ok (.daload, 1) := by decide +kernel
theorem d_prog_19_method_2_code_14 : decode prog_19_method_2_code 14 = .ok (.dconst 0, 1) := by decide +kernel
theorem d_prog_19_method_2_code_15 : decode prog_19_method_2_code 15 = .ok (.dcmp .l, 1) := by decide +kernel
theorem d_prog_19_method_2_code_16 : decode prog_19_method_2_code 16 = .ok (.ifCond .le 7, 3) := by decide +kernel
theorem d_prog_19_method_2_code_19 : decode prog_19_method_2_code 19 = .ok (.iconst 1, 1) := by decide +kernel
theorem d_prog_19_method_2_code_20 : decode prog_19_method_2_code 20 = .ok (.goto 4, 3) := by decide +kernel
set_option maxRecDepth 65536 in
set_option maxHeartbeats 40000000 in
theorem rm_h1 (l : Launch) (Z : State) (a0 : Array Value) (hw : ∀ d ∈ tables_1, d.before a0 Z = true) {ws : List Jvm.Cond} (a1 b : Addr) (k3 : ClassId) (z3 hi : Int32) (vs : List Value) (h0 : Heap) (n0 : Nat) (F2 : Fld Z h0 a1 "com/example/xml_retrieval_scoring/xmlretrievalscoring/CumulatedGain" "ideal" "[D" (.ref b)) (V3 : Arv Z h0 b k3 .double z3 vs (.double 0)) (hz : 0 < z3) (hv : vs.getD (0 : Int32).toNatClampNeg (.double 0) = .double (FP.i2d hi)) :
    Met l Z (⟨"com/example/xml_retrieval_scoring/xmlretrievalscoring/CumulatedGain", "hasIdealGain", "()Z"⟩ : MethodName) prog_19_method_2_code 1 (some .boolean) ws ({ frames := 0, cells := 0, slots := 0, locals := 0 } : Room) [] #[(.ref a1)] h0 n0 (nq (fun v h => v = some (.int (if 0 < hi then 1 else 0)) ∧ h = h0)) := by
  refine met_of (plainFor_of_name pn_com_example_xml_retrieval_scoring_xmlretrievalscoring_CumulatedGain) hw #[.val (.ref a1)] (fun m => by first | rfl | (simp [entryFrame, mkF, argsToLocals, Value.category]; done)) ?_
  intro p e s m below meth c C0
  have C : Cx Z a0 tables_1 p s m meth c "com/example/xml_retrieval_scoring/xmlretrievalscoring/CumulatedGain" "hasIdealGain" prog_19_method_2_code 1 (some .boolean) n0 := C0
  refine g_aloadN C d_prog_19_method_2_code_0 rfl rfl ?_
  refine g_getfield C w_28 Via.refl F2 d_prog_19_method_2_code_1 ?_
  refine g_arraylength C V3 d_prog_19_method_2_code_4 ?_
  refine g_if_f C d_prog_19_method_2_code_5 (XT.i0_le_f hz) ?_
  refine g_aloadN C d_prog_19_method_2_code_8 rfl rfl ?_
  refine g_getfield C w_28 Via.refl F2 d_prog_19_method_2_code_9 ?_
  refine g_iconst C 0 d_prog_19_method_2_code_12 rfl ?_
  refine g_daload C V3 d_prog_19_method_2_code_13 ⟨by decide, hz⟩ hv ?_
  refine g_dconst0 C d_prog_19_method_2_code_14 ?_
  refine g_dcmp C d_prog_19_method_2_code_15 ?_
  by_cases hc117 : 0 < hi
  · refine g_if_f C d_prog_19_method_2_code_16 (XT.i0_le_f ((own_dc hi).mpr hc117)) ?_
    refine g_iconst C 1 d_prog_19_method_2_code_19 rfl ?_
    refine g_goto C 24 d_prog_19_method_2_code_20 (by decide) (by decide) ?_
    refine g_ireturnN C (t := .boolean) rfl (by simp) d_prog_19_method_2_code_24 (by decide) (by decide) ?_
    exact ⟨by simp [nar, hc117] <;> decide, rfl⟩
  · refine g_if_t C 23 d_prog_19_method_2_code_16 (XT.i0_le_t (fun q => hc117 ((own_dc hi).mp q))) (by decide) (by decide) ?_
    refine g_iconst C 0 d_prog_19_method_2_code_23 rfl ?_
    refine g_ireturnN C (t := .boolean) rfl (by simp) d_prog_19_method_2_code_24 (by decide) (by decide) ?_
    exact ⟨by simp [nar, hc117] <;> decide, rfl⟩
theorem own_and3 (x : Int32) : x &&& 3 = 0 ∨ x &&& 3 = 1 ∨ x &&& 3 = 2 ∨ x &&& 3 = 3 := by
  have h : (x &&& 3).toBitVec.toNat < 4 := by
    simp only [Int32.toBitVec_and, BitVec.toNat_and]
    exact Nat.lt_succ_of_le Nat.and_le_right
  have e : (x &&& 3) = Int32.ofNat (x &&& 3).toBitVec.toNat := by
    apply Int32.toBitVec_inj.mp
    show _ = BitVec.ofNat 32 _
    rw [BitVec.ofNat_toNat]; simp
  rw [e]
  exact (by decide +kernel : ∀ k : Fin 4, Int32.ofNat k.val = 0 ∨ Int32.ofNat k.val = 1 ∨ Int32.ofNat k.val = 2 ∨ Int32.ofNat k.val = 3) ⟨_, h⟩
theorem own_rem5 (x : Int32) : -5 < (x % 5).toInt ∧ (x % 5).toInt < 5 := by
  rw [Int32.toInt_mod, show (5 : Int32).toInt = 5 from rfl]
  exact ⟨Int.lt_tmod_of_pos _ (by decide), Int.tmod_lt_of_pos _ (by decide)⟩
theorem own_med (a b c : Int32) (ha : -5 < a.toInt ∧ a.toInt < 5) (hb : -5 < b.toInt ∧ b.toInt < 5) (hc : -5 < c.toInt ∧ c.toInt < 5) (hi lo mid : Int32)
    (h1 : (if a < (if b < c then c else b) then (if b < c then c else b) else a) = hi) (h2 : (if (if c < b then c else b) < a then (if c < b then c else b) else a) = lo) (h3 : a + b + c - hi - lo = mid) (hn : ¬ 0 < hi) : ¬ 0 < mid ∧ ¬ 0 < lo := by
  have e : ∀ x y : Int32, -20 < x.toInt → x.toInt < 20 → -20 < y.toInt → y.toInt < 20 → (x + y).toInt = x.toInt + y.toInt ∧ (x - y).toInt = x.toInt - y.toInt := fun x y q1 q2 q3 q4 => ⟨XT.add32 (by unfold XT.fits32; omega), XT.sub32 (by unfold XT.fits32; omega)⟩
  have z : (0 : Int32).toInt = 0 := rfl
  rw [Int32.lt_iff_toInt_lt, z] at hn ⊢
  rw [Int32.lt_iff_toInt_lt, z]
  have h1' : hi.toInt = max a.toInt (max b.toInt c.toInt) := by
    rw [← h1]; simp only [Int32.lt_iff_toInt_lt]; split <;> split <;> omega
  have h2' : lo.toInt = min a.toInt (min b.toInt c.toInt) := by
    rw [← h2]; simp only [Int32.lt_iff_toInt_lt]; split <;> split <;> omega
  have s1 := (e a b (by omega) (by omega) (by omega) (by omega)).1
  have s2 := (e (a + b) c (by omega) (by omega) (by omega) (by omega)).1
  have s3 := (e (a + b + c) hi (by omega) (by omega) (by omega) (by omega)).2
  have s4 := (e (a + b + c - hi) lo (by omega) (by omega) (by omega) (by omega)).2
  rw [← h3, s4]
  omega

theorem pn_com_example_xml_retrieval_scoring_xmlretrievalscoring_CumulatedGainHasIdealGainPinLaw : plainName "com/example/xml_retrieval_scoring/xmlretrievalscoring/CumulatedGainHasIdealGainPinLaw" = true := by first | (simp [plainName, overriddenIn]; done) | decide +kernel
theorem pd___Z : parseMethodDescriptor "()Z" = some ⟨[], some .boolean⟩ := by decide +kernel
theorem pd__II_I : parseMethodDescriptor "(II)I" = some ⟨[.int, .int], some .int⟩ := by decide +kernel
theorem pd___D_D_V : parseMethodDescriptor "([D[D)V" = some ⟨[(.array .double), (.array .double)], none⟩ := by decide +kernel
set_option maxRecDepth 65536 in
set_option maxHeartbeats 40000000 in
theorem rm_law (l : Launch) (Z : State) (a0 : Array Value) (hw : ∀ d ∈ tables_1, d.before a0 Z = true) {ws : List Jvm.Cond} (i1 i2 i3 i4 i5 i6 : Int32) (h0 : Heap) (n0 : Nat) :
    Met l Z x code maxLocals ret ws room_1 [] #[(.int i1), (.int i2), (.int i3), (.int i4), (.int i5), (.int i6)] h0 n0 (nq (fun v _ => v = some (.int 1))) := by
  refine met_of (plainFor_of_name pn_com_example_xml_retrieval_scoring_xmlretrievalscoring_CumulatedGainHasIdealGainPinLaw) hw #[.val (.int i1), .val (.int i2), .val (.int i3), .val (.int i4), .val (.int i5), .val (.int i6), .unset, .unset, .unset, .unset, .unset, .unset, .unset, .unset, .unset, .unset, .unset, .unset, .unset, .unset] (fun m => by first | (simp [entryFrame, mkF, argsToLocals, Value.category, maxLocals]; done) | rfl) ?_
  intro p e s m below meth c C0
  have C : Cx Z a0 tables_1 p s m meth c "com/example/xml_retrieval_scoring/xmlretrievalscoring/CumulatedGainHasIdealGainPinLaw" "law" code maxLocals ret n0 := C0
  refine g_iloadN C at_0 rfl ?_
  refine g_iconst C 5 at_1 rfl ?_
  refine g_irem C at_2 (by decide) ?_
  refine g_istore C #[.val (.int i1), .val (.int i2), .val (.int i3), .val (.int i4), .val (.int i5), .val (.int i6), .val (.int (i1 % (5 : Int32))), .unset, .unset, .unset, .unset, .unset, .unset, .unset, .unset, .unset, .unset, .unset, .unset, .unset] at_3 rfl ?_
  obtain ⟨aa, e_aa⟩ : ∃ z : Int32, (i1 % (5 : Int32)) = z := ⟨_, rfl⟩
  rw [e_aa]
  refine g_iloadN C at_5 rfl ?_
  refine g_iconst C 5 at_6 rfl ?_
  refine g_irem C at_7 (by decide) ?_
  refine g_istore C #[.val (.int i1), .val (.int i2), .val (.int i3), .val (.int i4), .val (.int i5), .val (.int i6), .val (.int aa), .val (.int (i2 % (5 : Int32))), .unset, .unset, .unset, .unset, .unset, .unset, .unset, .unset, .unset, .unset, .unset, .unset] at_8 rfl ?_
  obtain ⟨bb, e_bb⟩ : ∃ z : Int32, (i2 % (5 : Int32)) = z := ⟨_, rfl⟩
  rw [e_bb]
  refine g_iloadN C at_10 rfl ?_
  refine g_iconst C 5 at_11 rfl ?_
  refine g_irem C at_12 (by decide) ?_
  refine g_istore C #[.val (.int i1), .val (.int i2), .val (.int i3), .val (.int i4), .val (.int i5), .val (.int i6), .val (.int aa), .val (.int bb), .val (.int (i3 % (5 : Int32))), .unset, .unset, .unset, .unset, .unset, .unset, .unset, .unset, .unset, .unset, .unset] at_13 rfl ?_
  obtain ⟨cc, e_cc⟩ : ∃ z : Int32, (i3 % (5 : Int32)) = z := ⟨_, rfl⟩
  rw [e_cc]
  refine g_iload C at_15 rfl ?_
  refine g_iload C at_17 rfl ?_
  refine g_iload C at_19 rfl ?_
  refine g_static C w_0 w_1 w_2 w_3 (by decide) [(.int bb), (.int cc)] (ct_of hw w_3 w_2 (rm_max l Z a0 hw bb cc h0 n0 )) all0 (by decide) 1 (by decide) rfl pd__II_I rfl [(.int aa)] rfl (Nat.le_of_eq rfl) at_21 (by decide) (by decide) ?_
  intro v118 h118 Q118
  obtain ⟨rfl, e118⟩ := Q118
  replace e118 := e118.symm
  subst e118
  refine g_static C w_0 w_1 w_2 w_3 (by decide) [(.int aa), (.int (if bb < cc then cc else bb))] (ct_of hw w_3 w_2 (rm_max l Z a0 hw aa (if bb < cc then cc else bb) h0 n0 )) all0 (by decide) 0 (by decide) rfl pd__II_I rfl [] rfl (Nat.le_of_eq rfl) at_24 (by decide) (by decide) ?_
  intro v119 h119 Q119
  obtain ⟨rfl, e119⟩ := Q119
  replace e119 := e119.symm
  subst e119
  refine g_istore C #[.val (.int i1), .val (.int i2), .val (.int i3), .val (.int i4), .val (.int i5), .val (.int i6), .val (.int aa), .val (.int bb), .val (.int cc), .val (.int (if aa < (if bb < cc then cc else bb) then (if bb < cc then cc else bb) else aa)), .unset, .unset, .unset, .unset, .unset, .unset, .unset, .unset, .unset, .unset] at_27 rfl ?_
  obtain ⟨hi, e_hi⟩ : ∃ z : Int32, (if aa < (if bb < cc then cc else bb) then (if bb < cc then cc else bb) else aa) = z := ⟨_, rfl⟩
  rw [e_hi]
  refine g_iload C at_29 rfl ?_
  refine g_iload C at_31 rfl ?_
  refine g_iload C at_33 rfl ?_
  refine g_static C w_4 w_5 w_2 w_6 (by decide) [(.int bb), (.int cc)] (ct_of hw w_6 w_2 (rm_min l Z a0 hw bb cc h0 n0 )) all0 (by decide) 1 (by decide) rfl pd__II_I rfl [(.int aa)] rfl (Nat.le_of_eq rfl) at_35 (by decide) (by decide) ?_
  intro v120 h120 Q120
  obtain ⟨rfl, e120⟩ := Q120
  replace e120 := e120.symm
  subst e120
  refine g_static C w_4 w_5 w_2 w_6 (by decide) [(.int aa), (.int (if cc < bb then cc else bb))] (ct_of hw w_6 w_2 (rm_min l Z a0 hw aa (if cc < bb then cc else bb) h0 n0 )) all0 (by decide) 0 (by decide) rfl pd__II_I rfl [] rfl (Nat.le_of_eq rfl) at_38 (by decide) (by decide) ?_
  intro v121 h121 Q121
  obtain ⟨rfl, e121⟩ := Q121
  replace e121 := e121.symm
  subst e121
  refine g_istore C #[.val (.int i1), .val (.int i2), .val (.int i3), .val (.int i4), .val (.int i5), .val (.int i6), .val (.int aa), .val (.int bb), .val (.int cc), .val (.int hi), .val (.int (if (if cc < bb then cc else bb) < aa then (if cc < bb then cc else bb) else aa)), .unset, .unset, .unset, .unset, .unset, .unset, .unset, .unset, .unset] at_41 rfl ?_
  obtain ⟨lo, e_lo⟩ : ∃ z : Int32, (if (if cc < bb then cc else bb) < aa then (if cc < bb then cc else bb) else aa) = z := ⟨_, rfl⟩
  rw [e_lo]
  refine g_iload C at_43 rfl ?_
  refine g_iload C at_45 rfl ?_
  refine g_iadd C at_47 ?_
  refine g_iload C at_48 rfl ?_
  refine g_iadd C at_50 ?_
  refine g_iload C at_51 rfl ?_
  refine g_isub C at_53 ?_
  refine g_iload C at_54 rfl ?_
  refine g_isub C at_56 ?_
  refine g_istore C #[.val (.int i1), .val (.int i2), .val (.int i3), .val (.int i4), .val (.int i5), .val (.int i6), .val (.int aa), .val (.int bb), .val (.int cc), .val (.int hi), .val (.int lo), .val (.int ((((aa + bb) + cc) - hi) - lo)), .unset, .unset, .unset, .unset, .unset, .unset, .unset, .unset] at_57 rfl ?_
  obtain ⟨mid, e_mid⟩ : ∃ z : Int32, ((((aa + bb) + cc) - hi) - lo) = z := ⟨_, rfl⟩
  rw [e_mid]
  have hmed := own_med aa bb cc (e_aa ▸ own_rem5 _) (e_bb ▸ own_rem5 _) (e_cc ▸ own_rem5 _) hi lo mid e_hi e_lo e_mid
  refine g_iloadN C at_59 rfl ?_
  refine g_iconst C 3 at_60 rfl ?_
  refine g_iand C at_61 ?_
  refine g_istore C #[.val (.int i1), .val (.int i2), .val (.int i3), .val (.int i4), .val (.int i5), .val (.int i6), .val (.int aa), .val (.int bb), .val (.int cc), .val (.int hi), .val (.int lo), .val (.int mid), .val (.int (i4 &&& (3 : Int32))), .unset, .unset, .unset, .unset, .unset, .unset, .unset] at_62 rfl ?_
  refine g_iloadN C at_64 rfl ?_
  refine g_iconst C 2 at_65 rfl ?_
  refine g_iushr C at_66 ?_
  refine g_iconst C 3 at_67 rfl ?_
  refine g_iand C at_68 ?_
  refine g_istore C #[.val (.int i1), .val (.int i2), .val (.int i3), .val (.int i4), .val (.int i5), .val (.int i6), .val (.int aa), .val (.int bb), .val (.int cc), .val (.int hi), .val (.int lo), .val (.int mid), .val (.int (i4 &&& (3 : Int32))), .val (.int (((i4.toUInt32 >>> ((2 : Int32) &&& 31).toUInt32).toInt32) &&& (3 : Int32))), .unset, .unset, .unset, .unset, .unset, .unset] at_69 rfl ?_
  obtain ⟨n12, e_n12, h_n12⟩ : ∃ z : Int32, (i4 &&& (3 : Int32)) = z ∧ (z = 0 ∨ z = 1 ∨ z = 2 ∨ z = 3) := ⟨_, rfl, own_and3 _⟩
  rw [e_n12]
  rcases h_n12 with rfl | rfl | rfl | rfl
  · refine g_iload C at_71 rfl ?_
    refine g_newarray C (aty := .double) w_7 at_73 (by decide) 0 (by decide) (by decide) (by decide) (by decide) "[D" rfl ?_
    intro b122 h122 ka122 g122 E122 V122 A122
    replace V122 : Arv Z h122 b122 ka122 .double (0 : Int32) [] (.double 0) := V122.pad (pad_rep [] _ 0)
    refine g_astore C #[.val (.int i1), .val (.int i2), .val (.int i3), .val (.int i4), .val (.int i5), .val (.int i6), .val (.int aa), .val (.int bb), .val (.int cc), .val (.int hi), .val (.int lo), .val (.int mid), .val (.int (0 : Int32)), .val (.int (((i4.toUInt32 >>> ((2 : Int32) &&& 31).toUInt32).toInt32) &&& (3 : Int32))), .val (.ref b122), .unset, .unset, .unset, .unset, .unset] at_75 rfl rfl ?_
    refine g_iload C at_77 rfl ?_
    refine g_iconst C 1 at_79 rfl ?_
    refine g_icmp_t C 90 at_80 (XT.ii_lt_t (by decide)) (by decide) (by decide) ?_
    refine g_iload C at_90 rfl ?_
    refine g_iconst C 2 at_92 rfl ?_
    refine g_icmp_t C 103 at_93 (XT.ii_lt_t (by decide)) (by decide) (by decide) ?_
    refine g_iload C at_103 rfl ?_
    refine g_iconst C 3 at_105 rfl ?_
    refine g_icmp_t C 116 at_106 (XT.ii_lt_t (by decide)) (by decide) (by decide) ?_
    obtain ⟨n13, e_n13, h_n13⟩ : ∃ z : Int32, (((i4.toUInt32 >>> ((2 : Int32) &&& 31).toUInt32).toInt32) &&& (3 : Int32)) = z ∧ (z = 0 ∨ z = 1 ∨ z = 2 ∨ z = 3) := ⟨_, rfl, own_and3 _⟩
    rw [e_n13]
    rcases h_n13 with rfl | rfl | rfl | rfl
    · refine g_iload C at_116 rfl ?_
      refine g_newarray C (aty := .double) w_7 at_118 (by decide) 0 (by decide) (by decide) (by decide) (by decide) "[D" rfl ?_
      intro b123 h123 ka123 g123 E123 V123 A123
      replace V123 : Arv Z h123 b123 ka123 .double (0 : Int32) [] (.double 0) := V123.pad (pad_rep [] _ 0)
      refine g_astore C #[.val (.int i1), .val (.int i2), .val (.int i3), .val (.int i4), .val (.int i5), .val (.int i6), .val (.int aa), .val (.int bb), .val (.int cc), .val (.int hi), .val (.int lo), .val (.int mid), .val (.int (0 : Int32)), .val (.int (0 : Int32)), .val (.ref b122), .val (.ref b123), .unset, .unset, .unset, .unset] at_120 rfl rfl ?_
      refine g_iload C at_122 rfl ?_
      refine g_iconst C 1 at_124 rfl ?_
      refine g_icmp_t C 137 at_125 (XT.ii_lt_t (by decide)) (by decide) (by decide) ?_
      refine g_iload C at_137 rfl ?_
      refine g_iconst C 2 at_139 rfl ?_
      refine g_icmp_t C 152 at_140 (XT.ii_lt_t (by decide)) (by decide) (by decide) ?_
      refine g_iload C at_152 rfl ?_
      refine g_iconst C 3 at_154 rfl ?_
      refine g_icmp_t C 169 at_155 (XT.ii_lt_t (by decide)) (by decide) (by decide) ?_
      refine g_new C w_8 w_9 w_10 at_169 (by decide) (by decide) ?_
      intro b124 h124 g124 E124 A124 D124
      refine g_dup C at_172 rfl ?_
      refine g_aload C at_173 rfl rfl ?_
      refine g_aload C at_175 rfl rfl ?_
      have K125 : Keep h123 h124 [] := (Keep.refl h123 []).ext E124
      have V126 := (V123.keep K125 nin0)
      have K127 : Keep h122 h123 [] := (Keep.refl h122 []).ext E123
      have K128 : Keep h122 h124 [] := K127.ext E124
      have V129 := (V122.keep K128 nin0)
      have E130 := (A123.keep K125)
      have E131 := (A122.keep K128)
      refine g_special C (a := b124) w_11 w_12 w_13 rfl (by decide) [(.ref b123), (.ref b122)] (ct_of hw w_13 w_10 (rm_init l Z a0 hw b124 b123 b122 (0 : Int32) (0 : Int32) _ _ _ _ h124 n0 A124 (D124 (Or.inr (C.hw w_27)) (ty := (.array .double)) (by decide)) (D124 (Or.inr (C.hw w_29)) (ty := (.array .double)) (by decide)) V126 V129 E130 E131 (by decide) (by decide))) (allS (List.mem_of_getElem? (i := 0) rfl) all0) (by decide) 1 (by decide) rfl pd___D_D_V rfl [(.ref b124)] rfl (Nat.le_of_eq rfl) at_177 (by decide) (by decide) ?_
      intro v132 h132 Q132
      obtain ⟨rfl, KC132, X132, b132, le132, G132, V132⟩ := Q132
      refine g_astore C #[.val (.int i1), .val (.int i2), .val (.int i3), .val (.int i4), .val (.int i5), .val (.int i6), .val (.int aa), .val (.int bb), .val (.int cc), .val (.int hi), .val (.int lo), .val (.int mid), .val (.int (0 : Int32)), .val (.int (0 : Int32)), .val (.ref b122), .val (.ref b123), .val (.ref b124), .unset, .unset, .unset] at_180 rfl rfl ?_
      refine g_iload C at_182 rfl ?_
      refine g_iconst C 1 at_184 rfl ?_
      refine g_icmp_t C 193 at_185 (XT.ii_lt_t (by decide)) (by decide) (by decide) ?_
      refine g_iload C at_193 rfl ?_
      refine g_iconst C 2 at_195 rfl ?_
      refine g_icmp_t C 204 at_196 (XT.ii_lt_t (by decide)) (by decide) (by decide) ?_
      refine g_iload C at_204 rfl ?_
      refine g_iconst C 3 at_206 rfl ?_
      refine g_icmp_t C 219 at_207 (XT.ii_lt_t (by decide)) (by decide) (by decide) ?_
      refine g_iconst C 0 at_219 rfl ?_
      refine g_istore C #[.val (.int i1), .val (.int i2), .val (.int i3), .val (.int i4), .val (.int i5), .val (.int i6), .val (.int aa), .val (.int bb), .val (.int cc), .val (.int hi), .val (.int lo), .val (.int mid), .val (.int (0 : Int32)), .val (.int (0 : Int32)), .val (.ref b122), .val (.ref b123), .val (.ref b124), .val (.int (0 : Int32)), .unset, .unset] at_220 rfl ?_
      refine g_aload C at_222 rfl rfl ?_
      refine g_virtual C X132 w_30 w_31 (fun hZ => nf_sel hw w_33 hZ) w_33 w_32 (by decide) [] (ct_of hw w_34 w_10 (rm_h0 l Z a0 hw b124 b132 _ _ h132 n0 G132 V132)) all0 (by decide) 0 (by decide) rfl pd___Z rfl [] rfl (Nat.le_of_eq rfl) at_224 (by decide) (by decide) ?_
      intro v133 h133 Q133
      obtain ⟨rfl, e133⟩ := Q133
      replace e133 := e133.symm
      subst e133
      refine g_istore C #[.val (.int i1), .val (.int i2), .val (.int i3), .val (.int i4), .val (.int i5), .val (.int i6), .val (.int aa), .val (.int bb), .val (.int cc), .val (.int hi), .val (.int lo), .val (.int mid), .val (.int (0 : Int32)), .val (.int (0 : Int32)), .val (.ref b122), .val (.ref b123), .val (.ref b124), .val (.int (0 : Int32)), .val (.int (0 : Int32)), .unset] at_227 rfl ?_
      refine g_iload C at_229 rfl ?_
      refine g_iconst C 1 at_231 rfl ?_
      refine g_icmp_t C 254 at_232 (XT.ii_lt_t (by decide)) (by decide) (by decide) ?_
      refine g_aload C at_254 rfl rfl ?_
      refine g_virtual C X132 w_30 w_31 (fun hZ => nf_sel hw w_33 hZ) w_33 w_32 (by decide) [] (ct_of hw w_34 w_10 (rm_h0 l Z a0 hw b124 b132 _ _ h132 n0 G132 V132)) all0 (by decide) 0 (by decide) rfl pd___Z rfl [] rfl (Nat.le_of_eq rfl) at_256 (by decide) (by decide) ?_
      intro v134 h134 Q134
      obtain ⟨rfl, e134⟩ := Q134
      replace e134 := e134.symm
      subst e134
      refine g_istore C #[.val (.int i1), .val (.int i2), .val (.int i3), .val (.int i4), .val (.int i5), .val (.int i6), .val (.int aa), .val (.int bb), .val (.int cc), .val (.int hi), .val (.int lo), .val (.int mid), .val (.int (0 : Int32)), .val (.int (0 : Int32)), .val (.ref b122), .val (.ref b123), .val (.ref b124), .val (.int (0 : Int32)), .val (.int (0 : Int32)), .val (.int (0 : Int32))] at_259 rfl ?_
      refine g_iload C at_261 rfl ?_
      refine g_iload C at_263 rfl ?_
      refine g_icmp_f C at_265 (XT.ii_ne_f (by decide)) ?_
      refine g_iload C at_268 rfl ?_
      refine g_iload C at_270 rfl ?_
      refine g_icmp_f C at_272 (XT.ii_ne_f (by decide)) ?_
      refine g_iconst C 1 at_275 rfl ?_
      refine g_goto C 280 at_276 (by decide) (by decide) ?_
      refine g_ireturnN C (t := .boolean) rfl (by simp) at_280 (by decide) (by decide) ?_
      exact rfl
    · refine g_iload C at_116 rfl ?_
      refine g_newarray C (aty := .double) w_7 at_118 (by decide) 1 (by decide) (by decide) (by decide) (by decide) "[D" rfl ?_
      intro b135 h135 ka135 g135 E135 V135 A135
      replace V135 : Arv Z h135 b135 ka135 .double (1 : Int32) [(.double 0)] (.double 0) := V135.pad (pad_rep [] _ 1)
      refine g_astore C #[.val (.int i1), .val (.int i2), .val (.int i3), .val (.int i4), .val (.int i5), .val (.int i6), .val (.int aa), .val (.int bb), .val (.int cc), .val (.int hi), .val (.int lo), .val (.int mid), .val (.int (0 : Int32)), .val (.int (1 : Int32)), .val (.ref b122), .val (.ref b135), .unset, .unset, .unset, .unset] at_120 rfl rfl ?_
      refine g_iload C at_122 rfl ?_
      refine g_iconst C 1 at_124 rfl ?_
      refine g_icmp_f C at_125 (XT.ii_lt_f (by decide)) ?_
      refine g_aload C at_128 rfl rfl ?_
      refine g_iconst C 0 at_130 rfl ?_
      refine g_iload C at_131 rfl ?_
      refine g_iconst C 5 at_133 rfl ?_
      refine g_irem C at_134 (by decide) ?_
      refine g_i2d C at_135 ?_
      refine g_dastore C V135 (List.mem_of_getElem? (i := 0) rfl) at_136 ⟨by decide, by decide⟩ 0 rfl (Nat.le_of_ble_eq_true rfl) ?_
      intro h136 W136 V136
      replace V136 : Arv Z h136 b135 ka135 .double (1 : Int32) [(.double (FP.i2d (i5 % (5 : Int32))))] (.double 0) := V136
      refine g_iload C at_137 rfl ?_
      refine g_iconst C 2 at_139 rfl ?_
      refine g_icmp_t C 152 at_140 (XT.ii_lt_t (by decide)) (by decide) (by decide) ?_
      refine g_iload C at_152 rfl ?_
      refine g_iconst C 3 at_154 rfl ?_
      refine g_icmp_t C 169 at_155 (XT.ii_lt_t (by decide)) (by decide) (by decide) ?_
      refine g_new C w_8 w_9 w_10 at_169 (by decide) (by decide) ?_
      intro b137 h137 g137 E137 A137 D137
      refine g_dup C at_172 rfl ?_
      refine g_aload C at_173 rfl rfl ?_
      refine g_aload C at_175 rfl rfl ?_
      have K138 : Keep h136 h137 [] := (Keep.refl h136 []).ext E137
      have V139 := (V136.keep K138 nin0)
      have K140 : Keep h122 h135 [] := (Keep.refl h122 []).ext E135
      have K141 : Keep h122 h136 [] := K140.wr W136 (Or.inr (Nat.le_of_eq g135.symm))
      have K142 : Keep h122 h137 [] := K141.ext E137
      have V143 := (V122.keep K142 nin0)
      have E144 := ((A135.wr W136).ext E137)
      have E145 := (A122.keep K142)
      refine g_special C (a := b137) w_11 w_12 w_13 rfl (by decide) [(.ref b135), (.ref b122)] (ct_of hw w_13 w_10 (rm_init l Z a0 hw b137 b135 b122 (1 : Int32) (0 : Int32) _ _ _ _ h137 n0 A137 (D137 (Or.inr (C.hw w_27)) (ty := (.array .double)) (by decide)) (D137 (Or.inr (C.hw w_29)) (ty := (.array .double)) (by decide)) V139 V143 E144 E145 (by decide) (by decide))) (allS (List.mem_of_getElem? (i := 0) rfl) all0) (by decide) 1 (by decide) rfl pd___D_D_V rfl [(.ref b137)] rfl (Nat.le_of_eq rfl) at_177 (by decide) (by decide) ?_
      intro v146 h146 Q146
      obtain ⟨rfl, KC146, X146, b146, le146, G146, V146⟩ := Q146
      refine g_astore C #[.val (.int i1), .val (.int i2), .val (.int i3), .val (.int i4), .val (.int i5), .val (.int i6), .val (.int aa), .val (.int bb), .val (.int cc), .val (.int hi), .val (.int lo), .val (.int mid), .val (.int (0 : Int32)), .val (.int (1 : Int32)), .val (.ref b122), .val (.ref b135), .val (.ref b137), .unset, .unset, .unset] at_180 rfl rfl ?_
      refine g_iload C at_182 rfl ?_
      refine g_iconst C 1 at_184 rfl ?_
      refine g_icmp_t C 193 at_185 (XT.ii_lt_t (by decide)) (by decide) (by decide) ?_
      refine g_iload C at_193 rfl ?_
      refine g_iconst C 2 at_195 rfl ?_
      refine g_icmp_t C 204 at_196 (XT.ii_lt_t (by decide)) (by decide) (by decide) ?_
      refine g_iload C at_204 rfl ?_
      refine g_iconst C 3 at_206 rfl ?_
      refine g_icmp_t C 219 at_207 (XT.ii_lt_t (by decide)) (by decide) (by decide) ?_
      refine g_iconst C 0 at_219 rfl ?_
      refine g_istore C #[.val (.int i1), .val (.int i2), .val (.int i3), .val (.int i4), .val (.int i5), .val (.int i6), .val (.int aa), .val (.int bb), .val (.int cc), .val (.int hi), .val (.int lo), .val (.int mid), .val (.int (0 : Int32)), .val (.int (1 : Int32)), .val (.ref b122), .val (.ref b135), .val (.ref b137), .val (.int (0 : Int32)), .unset, .unset] at_220 rfl ?_
      refine g_aload C at_222 rfl rfl ?_
      refine g_virtual C X146 w_30 w_31 (fun hZ => nf_sel hw w_33 hZ) w_33 w_32 (by decide) [] (ct_of hw w_34 w_10 (rm_h0 l Z a0 hw b137 b146 _ _ h146 n0 G146 V146)) all0 (by decide) 0 (by decide) rfl pd___Z rfl [] rfl (Nat.le_of_eq rfl) at_224 (by decide) (by decide) ?_
      intro v147 h147 Q147
      obtain ⟨rfl, e147⟩ := Q147
      replace e147 := e147.symm
      subst e147
      refine g_istore C #[.val (.int i1), .val (.int i2), .val (.int i3), .val (.int i4), .val (.int i5), .val (.int i6), .val (.int aa), .val (.int bb), .val (.int cc), .val (.int hi), .val (.int lo), .val (.int mid), .val (.int (0 : Int32)), .val (.int (1 : Int32)), .val (.ref b122), .val (.ref b135), .val (.ref b137), .val (.int (0 : Int32)), .val (.int (0 : Int32)), .unset] at_227 rfl ?_
      refine g_iload C at_229 rfl ?_
      refine g_iconst C 1 at_231 rfl ?_
      refine g_icmp_t C 254 at_232 (XT.ii_lt_t (by decide)) (by decide) (by decide) ?_
      refine g_aload C at_254 rfl rfl ?_
      refine g_virtual C X146 w_30 w_31 (fun hZ => nf_sel hw w_33 hZ) w_33 w_32 (by decide) [] (ct_of hw w_34 w_10 (rm_h0 l Z a0 hw b137 b146 _ _ h146 n0 G146 V146)) all0 (by decide) 0 (by decide) rfl pd___Z rfl [] rfl (Nat.le_of_eq rfl) at_256 (by decide) (by decide) ?_
      intro v148 h148 Q148
      obtain ⟨rfl, e148⟩ := Q148
      replace e148 := e148.symm
      subst e148
      refine g_istore C #[.val (.int i1), .val (.int i2), .val (.int i3), .val (.int i4), .val (.int i5), .val (.int i6), .val (.int aa), .val (.int bb), .val (.int cc), .val (.int hi), .val (.int lo), .val (.int mid), .val (.int (0 : Int32)), .val (.int (1 : Int32)), .val (.ref b122), .val (.ref b135), .val (.ref b137), .val (.int (0 : Int32)), .val (.int (0 : Int32)), .val (.int (0 : Int32))] at_259 rfl ?_
      refine g_iload C at_261 rfl ?_
      refine g_iload C at_263 rfl ?_
      refine g_icmp_f C at_265 (XT.ii_ne_f (by decide)) ?_
      refine g_iload C at_268 rfl ?_
      refine g_iload C at_270 rfl ?_
      refine g_icmp_f C at_272 (XT.ii_ne_f (by decide)) ?_
      refine g_iconst C 1 at_275 rfl ?_
      refine g_goto C 280 at_276 (by decide) (by decide) ?_
      refine g_ireturnN C (t := .boolean) rfl (by simp) at_280 (by decide) (by decide) ?_
      exact rfl
    · refine g_iload C at_116 rfl ?_
      refine g_newarray C (aty := .double) w_7 at_118 (by decide) 2 (by decide) (by decide) (by decide) (by decide) "[D" rfl ?_
      intro b149 h149 ka149 g149 E149 V149 A149
      replace V149 : Arv Z h149 b149 ka149 .double (2 : Int32) [(.double 0), (.double 0)] (.double 0) := V149.pad (pad_rep [] _ 2)
      refine g_astore C #[.val (.int i1), .val (.int i2), .val (.int i3), .val (.int i4), .val (.int i5), .val (.int i6), .val (.int aa), .val (.int bb), .val (.int cc), .val (.int hi), .val (.int lo), .val (.int mid), .val (.int (0 : Int32)), .val (.int (2 : Int32)), .val (.ref b122), .val (.ref b149), .unset, .unset, .unset, .unset] at_120 rfl rfl ?_
      refine g_iload C at_122 rfl ?_
      refine g_iconst C 1 at_124 rfl ?_
      refine g_icmp_f C at_125 (XT.ii_lt_f (by decide)) ?_
      refine g_aload C at_128 rfl rfl ?_
      refine g_iconst C 0 at_130 rfl ?_
      refine g_iload C at_131 rfl ?_
      refine g_iconst C 5 at_133 rfl ?_
      refine g_irem C at_134 (by decide) ?_
      refine g_i2d C at_135 ?_
      refine g_dastore C V149 (List.mem_of_getElem? (i := 0) rfl) at_136 ⟨by decide, by decide⟩ 0 rfl (Nat.le_of_ble_eq_true rfl) ?_
      intro h150 W150 V150
      replace V150 : Arv Z h150 b149 ka149 .double (2 : Int32) [(.double (FP.i2d (i5 % (5 : Int32)))), (.double 0)] (.double 0) := V150
      refine g_iload C at_137 rfl ?_
      refine g_iconst C 2 at_139 rfl ?_
      refine g_icmp_f C at_140 (XT.ii_lt_f (by decide)) ?_
      refine g_aload C at_143 rfl rfl ?_
      refine g_iconst C 1 at_145 rfl ?_
      refine g_iload C at_146 rfl ?_
      refine g_iconst C 5 at_148 rfl ?_
      refine g_irem C at_149 (by decide) ?_
      refine g_i2d C at_150 ?_
      refine g_dastore C V150 (List.mem_of_getElem? (i := 0) rfl) at_151 ⟨by decide, by decide⟩ 1 rfl (Nat.le_of_ble_eq_true rfl) ?_
      intro h151 W151 V151
      replace V151 : Arv Z h151 b149 ka149 .double (2 : Int32) [(.double (FP.i2d (i5 % (5 : Int32)))), (.double (FP.i2d (i6 % (5 : Int32))))] (.double 0) := V151
      refine g_iload C at_152 rfl ?_
      refine g_iconst C 3 at_154 rfl ?_
      refine g_icmp_t C 169 at_155 (XT.ii_lt_t (by decide)) (by decide) (by decide) ?_
      refine g_new C w_8 w_9 w_10 at_169 (by decide) (by decide) ?_
      intro b152 h152 g152 E152 A152 D152
      refine g_dup C at_172 rfl ?_
      refine g_aload C at_173 rfl rfl ?_
      refine g_aload C at_175 rfl rfl ?_
      have K153 : Keep h151 h152 [] := (Keep.refl h151 []).ext E152
      have V154 := (V151.keep K153 nin0)
      have K155 : Keep h122 h149 [] := (Keep.refl h122 []).ext E149
      have K156 : Keep h122 h150 [] := K155.wr W150 (Or.inr (Nat.le_of_eq g149.symm))
      have K157 : Keep h122 h151 [] := K156.wr W151 (Or.inr (Nat.le_of_eq g149.symm))
      have K158 : Keep h122 h152 [] := K157.ext E152
      have V159 := (V122.keep K158 nin0)
      have E160 := (((A149.wr W150).wr W151).ext E152)
      have E161 := (A122.keep K158)
      refine g_special C (a := b152) w_11 w_12 w_13 rfl (by decide) [(.ref b149), (.ref b122)] (ct_of hw w_13 w_10 (rm_init l Z a0 hw b152 b149 b122 (2 : Int32) (0 : Int32) _ _ _ _ h152 n0 A152 (D152 (Or.inr (C.hw w_27)) (ty := (.array .double)) (by decide)) (D152 (Or.inr (C.hw w_29)) (ty := (.array .double)) (by decide)) V154 V159 E160 E161 (by decide) (by decide))) (allS (List.mem_of_getElem? (i := 0) rfl) all0) (by decide) 1 (by decide) rfl pd___D_D_V rfl [(.ref b152)] rfl (Nat.le_of_eq rfl) at_177 (by decide) (by decide) ?_
      intro v162 h162 Q162
      obtain ⟨rfl, KC162, X162, b162, le162, G162, V162⟩ := Q162
      refine g_astore C #[.val (.int i1), .val (.int i2), .val (.int i3), .val (.int i4), .val (.int i5), .val (.int i6), .val (.int aa), .val (.int bb), .val (.int cc), .val (.int hi), .val (.int lo), .val (.int mid), .val (.int (0 : Int32)), .val (.int (2 : Int32)), .val (.ref b122), .val (.ref b149), .val (.ref b152), .unset, .unset, .unset] at_180 rfl rfl ?_
      refine g_iload C at_182 rfl ?_
      refine g_iconst C 1 at_184 rfl ?_
      refine g_icmp_t C 193 at_185 (XT.ii_lt_t (by decide)) (by decide) (by decide) ?_
      refine g_iload C at_193 rfl ?_
      refine g_iconst C 2 at_195 rfl ?_
      refine g_icmp_t C 204 at_196 (XT.ii_lt_t (by decide)) (by decide) (by decide) ?_
      refine g_iload C at_204 rfl ?_
      refine g_iconst C 3 at_206 rfl ?_
      refine g_icmp_t C 219 at_207 (XT.ii_lt_t (by decide)) (by decide) (by decide) ?_
      refine g_iconst C 0 at_219 rfl ?_
      refine g_istore C #[.val (.int i1), .val (.int i2), .val (.int i3), .val (.int i4), .val (.int i5), .val (.int i6), .val (.int aa), .val (.int bb), .val (.int cc), .val (.int hi), .val (.int lo), .val (.int mid), .val (.int (0 : Int32)), .val (.int (2 : Int32)), .val (.ref b122), .val (.ref b149), .val (.ref b152), .val (.int (0 : Int32)), .unset, .unset] at_220 rfl ?_
      refine g_aload C at_222 rfl rfl ?_
      refine g_virtual C X162 w_30 w_31 (fun hZ => nf_sel hw w_33 hZ) w_33 w_32 (by decide) [] (ct_of hw w_34 w_10 (rm_h0 l Z a0 hw b152 b162 _ _ h162 n0 G162 V162)) all0 (by decide) 0 (by decide) rfl pd___Z rfl [] rfl (Nat.le_of_eq rfl) at_224 (by decide) (by decide) ?_
      intro v163 h163 Q163
      obtain ⟨rfl, e163⟩ := Q163
      replace e163 := e163.symm
      subst e163
      refine g_istore C #[.val (.int i1), .val (.int i2), .val (.int i3), .val (.int i4), .val (.int i5), .val (.int i6), .val (.int aa), .val (.int bb), .val (.int cc), .val (.int hi), .val (.int lo), .val (.int mid), .val (.int (0 : Int32)), .val (.int (2 : Int32)), .val (.ref b122), .val (.ref b149), .val (.ref b152), .val (.int (0 : Int32)), .val (.int (0 : Int32)), .unset] at_227 rfl ?_
      refine g_iload C at_229 rfl ?_
      refine g_iconst C 1 at_231 rfl ?_
      refine g_icmp_t C 254 at_232 (XT.ii_lt_t (by decide)) (by decide) (by decide) ?_
      refine g_aload C at_254 rfl rfl ?_
      refine g_virtual C X162 w_30 w_31 (fun hZ => nf_sel hw w_33 hZ) w_33 w_32 (by decide) [] (ct_of hw w_34 w_10 (rm_h0 l Z a0 hw b152 b162 _ _ h162 n0 G162 V162)) all0 (by decide) 0 (by decide) rfl pd___Z rfl [] rfl (Nat.le_of_eq rfl) at_256 (by decide) (by decide) ?_
      intro v164 h164 Q164
      obtain ⟨rfl, e164⟩ := Q164
      replace e164 := e164.symm
      subst e164
      refine g_istore C #[.val (.int i1), .val (.int i2), .val (.int i3), .val (.int i4), .val (.int i5), .val (.int i6), .val (.int aa), .val (.int bb), .val (.int cc), .val (.int hi), .val (.int lo), .val (.int mid), .val (.int (0 : Int32)), .val (.int (2 : Int32)), .val (.ref b122), .val (.ref b149), .val (.ref b152), .val (.int (0 : Int32)), .val (.int (0 : Int32)), .val (.int (0 : Int32))] at_259 rfl ?_
      refine g_iload C at_261 rfl ?_
      refine g_iload C at_263 rfl ?_
      refine g_icmp_f C at_265 (XT.ii_ne_f (by decide)) ?_
      refine g_iload C at_268 rfl ?_
      refine g_iload C at_270 rfl ?_
      refine g_icmp_f C at_272 (XT.ii_ne_f (by decide)) ?_
      refine g_iconst C 1 at_275 rfl ?_
      refine g_goto C 280 at_276 (by decide) (by decide) ?_
      refine g_ireturnN C (t := .boolean) rfl (by simp) at_280 (by decide) (by decide) ?_
      exact rfl
    · refine g_iload C at_116 rfl ?_
      refine g_newarray C (aty := .double) w_7 at_118 (by decide) 3 (by decide) (by decide) (by decide) (by decide) "[D" rfl ?_
      intro b165 h165 ka165 g165 E165 V165 A165
      replace V165 : Arv Z h165 b165 ka165 .double (3 : Int32) [(.double 0), (.double 0), (.double 0)] (.double 0) := V165.pad (pad_rep [] _ 3)
      refine g_astore C #[.val (.int i1), .val (.int i2), .val (.int i3), .val (.int i4), .val (.int i5), .val (.int i6), .val (.int aa), .val (.int bb), .val (.int cc), .val (.int hi), .val (.int lo), .val (.int mid), .val (.int (0 : Int32)), .val (.int (3 : Int32)), .val (.ref b122), .val (.ref b165), .unset, .unset, .unset, .unset] at_120 rfl rfl ?_
      refine g_iload C at_122 rfl ?_
      refine g_iconst C 1 at_124 rfl ?_
      refine g_icmp_f C at_125 (XT.ii_lt_f (by decide)) ?_
      refine g_aload C at_128 rfl rfl ?_
      refine g_iconst C 0 at_130 rfl ?_
      refine g_iload C at_131 rfl ?_
      refine g_iconst C 5 at_133 rfl ?_
      refine g_irem C at_134 (by decide) ?_
      refine g_i2d C at_135 ?_
      refine g_dastore C V165 (List.mem_of_getElem? (i := 0) rfl) at_136 ⟨by decide, by decide⟩ 0 rfl (Nat.le_of_ble_eq_true rfl) ?_
      intro h166 W166 V166
      replace V166 : Arv Z h166 b165 ka165 .double (3 : Int32) [(.double (FP.i2d (i5 % (5 : Int32)))), (.double 0), (.double 0)] (.double 0) := V166
      refine g_iload C at_137 rfl ?_
      refine g_iconst C 2 at_139 rfl ?_
      refine g_icmp_f C at_140 (XT.ii_lt_f (by decide)) ?_
      refine g_aload C at_143 rfl rfl ?_
      refine g_iconst C 1 at_145 rfl ?_
      refine g_iload C at_146 rfl ?_
      refine g_iconst C 5 at_148 rfl ?_
      refine g_irem C at_149 (by decide) ?_
      refine g_i2d C at_150 ?_
      refine g_dastore C V166 (List.mem_of_getElem? (i := 0) rfl) at_151 ⟨by decide, by decide⟩ 1 rfl (Nat.le_of_ble_eq_true rfl) ?_
      intro h167 W167 V167
      replace V167 : Arv Z h167 b165 ka165 .double (3 : Int32) [(.double (FP.i2d (i5 % (5 : Int32)))), (.double (FP.i2d (i6 % (5 : Int32)))), (.double 0)] (.double 0) := V167
      refine g_iload C at_152 rfl ?_
      refine g_iconst C 3 at_154 rfl ?_
      refine g_icmp_f C at_155 (XT.ii_lt_f (by decide)) ?_
      refine g_aload C at_158 rfl rfl ?_
      refine g_iconst C 2 at_160 rfl ?_
      refine g_iload C at_161 rfl ?_
      refine g_iconst C 5 at_163 rfl ?_
      refine g_idiv C at_164 (by decide) ?_
      refine g_iconst C 5 at_165 rfl ?_
      refine g_irem C at_166 (by decide) ?_
      refine g_i2d C at_167 ?_
      refine g_dastore C V167 (List.mem_of_getElem? (i := 0) rfl) at_168 ⟨by decide, by decide⟩ 2 rfl (Nat.le_of_ble_eq_true rfl) ?_
      intro h168 W168 V168
      replace V168 : Arv Z h168 b165 ka165 .double (3 : Int32) [(.double (FP.i2d (i5 % (5 : Int32)))), (.double (FP.i2d (i6 % (5 : Int32)))), (.double (FP.i2d ((i5 / (5 : Int32)) % (5 : Int32))))] (.double 0) := V168
      refine g_new C w_8 w_9 w_10 at_169 (by decide) (by decide) ?_
      intro b169 h169 g169 E169 A169 D169
      refine g_dup C at_172 rfl ?_
      refine g_aload C at_173 rfl rfl ?_
      refine g_aload C at_175 rfl rfl ?_
      have K170 : Keep h168 h169 [] := (Keep.refl h168 []).ext E169
      have V171 := (V168.keep K170 nin0)
      have K172 : Keep h122 h165 [] := (Keep.refl h122 []).ext E165
      have K173 : Keep h122 h166 [] := K172.wr W166 (Or.inr (Nat.le_of_eq g165.symm))
      have K174 : Keep h122 h167 [] := K173.wr W167 (Or.inr (Nat.le_of_eq g165.symm))
      have K175 : Keep h122 h168 [] := K174.wr W168 (Or.inr (Nat.le_of_eq g165.symm))
      have K176 : Keep h122 h169 [] := K175.ext E169
      have V177 := (V122.keep K176 nin0)
      have E178 := ((((A165.wr W166).wr W167).wr W168).ext E169)
      have E179 := (A122.keep K176)
      refine g_special C (a := b169) w_11 w_12 w_13 rfl (by decide) [(.ref b165), (.ref b122)] (ct_of hw w_13 w_10 (rm_init l Z a0 hw b169 b165 b122 (3 : Int32) (0 : Int32) _ _ _ _ h169 n0 A169 (D169 (Or.inr (C.hw w_27)) (ty := (.array .double)) (by decide)) (D169 (Or.inr (C.hw w_29)) (ty := (.array .double)) (by decide)) V171 V177 E178 E179 (by decide) (by decide))) (allS (List.mem_of_getElem? (i := 0) rfl) all0) (by decide) 1 (by decide) rfl pd___D_D_V rfl [(.ref b169)] rfl (Nat.le_of_eq rfl) at_177 (by decide) (by decide) ?_
      intro v180 h180 Q180
      obtain ⟨rfl, KC180, X180, b180, le180, G180, V180⟩ := Q180
      refine g_astore C #[.val (.int i1), .val (.int i2), .val (.int i3), .val (.int i4), .val (.int i5), .val (.int i6), .val (.int aa), .val (.int bb), .val (.int cc), .val (.int hi), .val (.int lo), .val (.int mid), .val (.int (0 : Int32)), .val (.int (3 : Int32)), .val (.ref b122), .val (.ref b165), .val (.ref b169), .unset, .unset, .unset] at_180 rfl rfl ?_
      refine g_iload C at_182 rfl ?_
      refine g_iconst C 1 at_184 rfl ?_
      refine g_icmp_t C 193 at_185 (XT.ii_lt_t (by decide)) (by decide) (by decide) ?_
      refine g_iload C at_193 rfl ?_
      refine g_iconst C 2 at_195 rfl ?_
      refine g_icmp_t C 204 at_196 (XT.ii_lt_t (by decide)) (by decide) (by decide) ?_
      refine g_iload C at_204 rfl ?_
      refine g_iconst C 3 at_206 rfl ?_
      refine g_icmp_t C 219 at_207 (XT.ii_lt_t (by decide)) (by decide) (by decide) ?_
      refine g_iconst C 0 at_219 rfl ?_
      refine g_istore C #[.val (.int i1), .val (.int i2), .val (.int i3), .val (.int i4), .val (.int i5), .val (.int i6), .val (.int aa), .val (.int bb), .val (.int cc), .val (.int hi), .val (.int lo), .val (.int mid), .val (.int (0 : Int32)), .val (.int (3 : Int32)), .val (.ref b122), .val (.ref b165), .val (.ref b169), .val (.int (0 : Int32)), .unset, .unset] at_220 rfl ?_
      refine g_aload C at_222 rfl rfl ?_
      refine g_virtual C X180 w_30 w_31 (fun hZ => nf_sel hw w_33 hZ) w_33 w_32 (by decide) [] (ct_of hw w_34 w_10 (rm_h0 l Z a0 hw b169 b180 _ _ h180 n0 G180 V180)) all0 (by decide) 0 (by decide) rfl pd___Z rfl [] rfl (Nat.le_of_eq rfl) at_224 (by decide) (by decide) ?_
      intro v181 h181 Q181
      obtain ⟨rfl, e181⟩ := Q181
      replace e181 := e181.symm
      subst e181
      refine g_istore C #[.val (.int i1), .val (.int i2), .val (.int i3), .val (.int i4), .val (.int i5), .val (.int i6), .val (.int aa), .val (.int bb), .val (.int cc), .val (.int hi), .val (.int lo), .val (.int mid), .val (.int (0 : Int32)), .val (.int (3 : Int32)), .val (.ref b122), .val (.ref b165), .val (.ref b169), .val (.int (0 : Int32)), .val (.int (0 : Int32)), .unset] at_227 rfl ?_
      refine g_iload C at_229 rfl ?_
      refine g_iconst C 1 at_231 rfl ?_
      refine g_icmp_t C 254 at_232 (XT.ii_lt_t (by decide)) (by decide) (by decide) ?_
      refine g_aload C at_254 rfl rfl ?_
      refine g_virtual C X180 w_30 w_31 (fun hZ => nf_sel hw w_33 hZ) w_33 w_32 (by decide) [] (ct_of hw w_34 w_10 (rm_h0 l Z a0 hw b169 b180 _ _ h180 n0 G180 V180)) all0 (by decide) 0 (by decide) rfl pd___Z rfl [] rfl (Nat.le_of_eq rfl) at_256 (by decide) (by decide) ?_
      intro v182 h182 Q182
      obtain ⟨rfl, e182⟩ := Q182
      replace e182 := e182.symm
      subst e182
      refine g_istore C #[.val (.int i1), .val (.int i2), .val (.int i3), .val (.int i4), .val (.int i5), .val (.int i6), .val (.int aa), .val (.int bb), .val (.int cc), .val (.int hi), .val (.int lo), .val (.int mid), .val (.int (0 : Int32)), .val (.int (3 : Int32)), .val (.ref b122), .val (.ref b165), .val (.ref b169), .val (.int (0 : Int32)), .val (.int (0 : Int32)), .val (.int (0 : Int32))] at_259 rfl ?_
      refine g_iload C at_261 rfl ?_
      refine g_iload C at_263 rfl ?_
      refine g_icmp_f C at_265 (XT.ii_ne_f (by decide)) ?_
      refine g_iload C at_268 rfl ?_
      refine g_iload C at_270 rfl ?_
      refine g_icmp_f C at_272 (XT.ii_ne_f (by decide)) ?_
      refine g_iconst C 1 at_275 rfl ?_
      refine g_goto C 280 at_276 (by decide) (by decide) ?_
      refine g_ireturnN C (t := .boolean) rfl (by simp) at_280 (by decide) (by decide) ?_
      exact rfl
  · refine g_iload C at_71 rfl ?_
    refine g_newarray C (aty := .double) w_7 at_73 (by decide) 1 (by decide) (by decide) (by decide) (by decide) "[D" rfl ?_
    intro b183 h183 ka183 g183 E183 V183 A183
    replace V183 : Arv Z h183 b183 ka183 .double (1 : Int32) [(.double 0)] (.double 0) := V183.pad (pad_rep [] _ 1)
    refine g_astore C #[.val (.int i1), .val (.int i2), .val (.int i3), .val (.int i4), .val (.int i5), .val (.int i6), .val (.int aa), .val (.int bb), .val (.int cc), .val (.int hi), .val (.int lo), .val (.int mid), .val (.int (1 : Int32)), .val (.int (((i4.toUInt32 >>> ((2 : Int32) &&& 31).toUInt32).toInt32) &&& (3 : Int32))), .val (.ref b183), .unset, .unset, .unset, .unset, .unset] at_75 rfl rfl ?_
    refine g_iload C at_77 rfl ?_
    refine g_iconst C 1 at_79 rfl ?_
    refine g_icmp_f C at_80 (XT.ii_lt_f (by decide)) ?_
    refine g_aload C at_83 rfl rfl ?_
    refine g_iconst C 0 at_85 rfl ?_
    refine g_iload C at_86 rfl ?_
    refine g_i2d C at_88 ?_
    refine g_dastore C V183 (List.mem_of_getElem? (i := 0) rfl) at_89 ⟨by decide, by decide⟩ 0 rfl (Nat.le_of_ble_eq_true rfl) ?_
    intro h184 W184 V184
    replace V184 : Arv Z h184 b183 ka183 .double (1 : Int32) [(.double (FP.i2d hi))] (.double 0) := V184
    refine g_iload C at_90 rfl ?_
    refine g_iconst C 2 at_92 rfl ?_
    refine g_icmp_t C 103 at_93 (XT.ii_lt_t (by decide)) (by decide) (by decide) ?_
    refine g_iload C at_103 rfl ?_
    refine g_iconst C 3 at_105 rfl ?_
    refine g_icmp_t C 116 at_106 (XT.ii_lt_t (by decide)) (by decide) (by decide) ?_
    obtain ⟨n13, e_n13, h_n13⟩ : ∃ z : Int32, (((i4.toUInt32 >>> ((2 : Int32) &&& 31).toUInt32).toInt32) &&& (3 : Int32)) = z ∧ (z = 0 ∨ z = 1 ∨ z = 2 ∨ z = 3) := ⟨_, rfl, own_and3 _⟩
    rw [e_n13]
    rcases h_n13 with rfl | rfl | rfl | rfl
    · refine g_iload C at_116 rfl ?_
      refine g_newarray C (aty := .double) w_7 at_118 (by decide) 0 (by decide) (by decide) (by decide) (by decide) "[D" rfl ?_
      intro b185 h185 ka185 g185 E185 V185 A185
      replace V185 : Arv Z h185 b185 ka185 .double (0 : Int32) [] (.double 0) := V185.pad (pad_rep [] _ 0)
      refine g_astore C #[.val (.int i1), .val (.int i2), .val (.int i3), .val (.int i4), .val (.int i5), .val (.int i6), .val (.int aa), .val (.int bb), .val (.int cc), .val (.int hi), .val (.int lo), .val (.int mid), .val (.int (1 : Int32)), .val (.int (0 : Int32)), .val (.ref b183), .val (.ref b185), .unset, .unset, .unset, .unset] at_120 rfl rfl ?_
      refine g_iload C at_122 rfl ?_
      refine g_iconst C 1 at_124 rfl ?_
      refine g_icmp_t C 137 at_125 (XT.ii_lt_t (by decide)) (by decide) (by decide) ?_
      refine g_iload C at_137 rfl ?_
      refine g_iconst C 2 at_139 rfl ?_
      refine g_icmp_t C 152 at_140 (XT.ii_lt_t (by decide)) (by decide) (by decide) ?_
      refine g_iload C at_152 rfl ?_
      refine g_iconst C 3 at_154 rfl ?_
      refine g_icmp_t C 169 at_155 (XT.ii_lt_t (by decide)) (by decide) (by decide) ?_
      refine g_new C w_8 w_9 w_10 at_169 (by decide) (by decide) ?_
      intro b186 h186 g186 E186 A186 D186
      refine g_dup C at_172 rfl ?_
      refine g_aload C at_173 rfl rfl ?_
      refine g_aload C at_175 rfl rfl ?_
      have K187 : Keep h185 h186 [] := (Keep.refl h185 []).ext E186
      have V188 := (V185.keep K187 nin0)
      have K189 : Keep h184 h185 [] := (Keep.refl h184 []).ext E185
      have K190 : Keep h184 h186 [] := K189.ext E186
      have V191 := (V184.keep K190 nin0)
      have E192 := (A185.keep K187)
      have E193 := (((A183.wr W184).ext E185).ext E186)
      refine g_special C (a := b186) w_11 w_12 w_13 rfl (by decide) [(.ref b185), (.ref b183)] (ct_of hw w_13 w_10 (rm_init l Z a0 hw b186 b185 b183 (0 : Int32) (1 : Int32) _ _ _ _ h186 n0 A186 (D186 (Or.inr (C.hw w_27)) (ty := (.array .double)) (by decide)) (D186 (Or.inr (C.hw w_29)) (ty := (.array .double)) (by decide)) V188 V191 E192 E193 (by decide) (by decide))) (allS (List.mem_of_getElem? (i := 0) rfl) all0) (by decide) 1 (by decide) rfl pd___D_D_V rfl [(.ref b186)] rfl (Nat.le_of_eq rfl) at_177 (by decide) (by decide) ?_
      intro v194 h194 Q194
      obtain ⟨rfl, KC194, X194, b194, le194, G194, V194⟩ := Q194
      refine g_astore C #[.val (.int i1), .val (.int i2), .val (.int i3), .val (.int i4), .val (.int i5), .val (.int i6), .val (.int aa), .val (.int bb), .val (.int cc), .val (.int hi), .val (.int lo), .val (.int mid), .val (.int (1 : Int32)), .val (.int (0 : Int32)), .val (.ref b183), .val (.ref b185), .val (.ref b186), .unset, .unset, .unset] at_180 rfl rfl ?_
      refine g_iload C at_182 rfl ?_
      refine g_iconst C 1 at_184 rfl ?_
      refine g_icmp_f C at_185 (XT.ii_lt_f (by decide)) ?_
      refine g_iload C at_188 rfl ?_
      by_cases hc195 : 0 < hi
      · refine g_if_t C 215 at_190 (XT.i0_gt_t hc195) (by decide) (by decide) ?_
        refine g_iconst C 1 at_215 rfl ?_
        refine g_goto C 220 at_216 (by decide) (by decide) ?_
        refine g_istore C #[.val (.int i1), .val (.int i2), .val (.int i3), .val (.int i4), .val (.int i5), .val (.int i6), .val (.int aa), .val (.int bb), .val (.int cc), .val (.int hi), .val (.int lo), .val (.int mid), .val (.int (1 : Int32)), .val (.int (0 : Int32)), .val (.ref b183), .val (.ref b185), .val (.ref b186), .val (.int (1 : Int32)), .unset, .unset] at_220 rfl ?_
        refine g_aload C at_222 rfl rfl ?_
        refine g_virtual C X194 w_30 w_31 (fun hZ => nf_sel hw w_33 hZ) w_33 w_32 (by decide) [] (ct_of hw w_34 w_10 (rm_h1 l Z a0 hw b186 b194 _ (1 : Int32) hi _ h194 n0 G194 V194 (by decide) rfl)) all0 (by decide) 0 (by decide) rfl pd___Z rfl [] rfl (Nat.le_of_eq rfl) at_224 (by decide) (by decide) ?_
        intro v196 h196 Q196
        obtain ⟨rfl, e196⟩ := Q196
        replace e196 := e196.symm
        subst e196
        refine g_istore C #[.val (.int i1), .val (.int i2), .val (.int i3), .val (.int i4), .val (.int i5), .val (.int i6), .val (.int aa), .val (.int bb), .val (.int cc), .val (.int hi), .val (.int lo), .val (.int mid), .val (.int (1 : Int32)), .val (.int (0 : Int32)), .val (.ref b183), .val (.ref b185), .val (.ref b186), .val (.int (1 : Int32)), .val (.int (if 0 < hi then 1 else 0)), .unset] at_227 rfl ?_
        refine g_iload C at_229 rfl ?_
        refine g_iconst C 1 at_231 rfl ?_
        refine g_icmp_f C at_232 (XT.ii_lt_f (by decide)) ?_
        refine g_aload C at_235 rfl rfl ?_
        refine g_iconst C 0 at_237 rfl ?_
        refine g_iloadN C at_238 rfl ?_
        refine g_iconst C 4 at_239 rfl ?_
        refine g_iushr C at_240 ?_
        refine g_iconst C 1 at_241 rfl ?_
        refine g_iand C at_242 ?_
        by_cases hc197 : (((i4.toUInt32 >>> ((4 : Int32) &&& 31).toUInt32).toInt32) &&& (1 : Int32)) = 0
        · refine g_if_t C 250 at_243 (XT.i0_eq_t hc197) (by decide) (by decide) ?_
          refine g_ldc2D C w_35 at_250 ?_
          have V198 := (V184.keep K189 nin0)
          have V199 := (V191.keep KC194 (ninS (Nat.ne_of_lt (Nat.lt_of_lt_of_le V198.lt (Nat.le_of_eq g186.symm))) nin0))
          refine g_dastore C V199 (List.mem_of_getElem? (i := 2) rfl) at_253 ⟨by decide, by decide⟩ 0 rfl (Nat.le_of_ble_eq_true rfl) ?_
          intro h200 W200 V200
          replace V200 : Arv Z h200 b183 ka183 .double (1 : Int32) [(.double (13830554455654793216 : UInt64))] (.double 0) := V200
          refine g_aload C at_254 rfl rfl ?_
          have F201 := (G194.other W200 (Or.inl (Ne.symm (Nat.ne_of_lt (Nat.lt_of_lt_of_le V198.lt (Nat.le_of_eq g186.symm))))))
          have V202 := (V194.other W200 (Ne.symm (Nat.ne_of_lt (Nat.lt_of_lt_of_le V191.lt le194))))
          have E204 := (X194.wr W200)
          refine g_virtual C E204 w_30 w_31 (fun hZ => nf_sel hw w_33 hZ) w_33 w_32 (by decide) [] (ct_of hw w_34 w_10 (rm_h1 l Z a0 hw b186 b194 _ (1 : Int32) hi _ h200 n0 F201 V202 (by decide) rfl)) all0 (by decide) 0 (by decide) rfl pd___Z rfl [] rfl (Nat.le_of_eq rfl) at_256 (by decide) (by decide) ?_
          intro v203 h203 Q203
          obtain ⟨rfl, e203⟩ := Q203
          replace e203 := e203.symm
          subst e203
          refine g_istore C #[.val (.int i1), .val (.int i2), .val (.int i3), .val (.int i4), .val (.int i5), .val (.int i6), .val (.int aa), .val (.int bb), .val (.int cc), .val (.int hi), .val (.int lo), .val (.int mid), .val (.int (1 : Int32)), .val (.int (0 : Int32)), .val (.ref b183), .val (.ref b185), .val (.ref b186), .val (.int (1 : Int32)), .val (.int (if 0 < hi then 1 else 0)), .val (.int (if 0 < hi then 1 else 0))] at_259 rfl ?_
          refine g_iload C at_261 rfl ?_
          refine g_iload C at_263 rfl ?_
          refine g_icmp_f C at_265 (XT.ii_ne_f (if_pos hc195)) ?_
          refine g_iload C at_268 rfl ?_
          refine g_iload C at_270 rfl ?_
          refine g_icmp_f C at_272 (XT.ii_ne_f (if_pos hc195)) ?_
          refine g_iconst C 1 at_275 rfl ?_
          refine g_goto C 280 at_276 (by decide) (by decide) ?_
          refine g_ireturnN C (t := .boolean) rfl (by simp) at_280 (by decide) (by decide) ?_
          exact rfl
        · refine g_if_f C at_243 (XT.i0_eq_f hc197) ?_
          refine g_dconst1 C at_246 ?_
          refine g_goto C 253 at_247 (by decide) (by decide) ?_
          have V205 := (V184.keep K189 nin0)
          have V206 := (V191.keep KC194 (ninS (Nat.ne_of_lt (Nat.lt_of_lt_of_le V205.lt (Nat.le_of_eq g186.symm))) nin0))
          refine g_dastore C V206 (List.mem_of_getElem? (i := 2) rfl) at_253 ⟨by decide, by decide⟩ 0 rfl (Nat.le_of_ble_eq_true rfl) ?_
          intro h207 W207 V207
          replace V207 : Arv Z h207 b183 ka183 .double (1 : Int32) [(.double FP.dconst1)] (.double 0) := V207
          refine g_aload C at_254 rfl rfl ?_
          have F208 := (G194.other W207 (Or.inl (Ne.symm (Nat.ne_of_lt (Nat.lt_of_lt_of_le V205.lt (Nat.le_of_eq g186.symm))))))
          have V209 := (V194.other W207 (Ne.symm (Nat.ne_of_lt (Nat.lt_of_lt_of_le V191.lt le194))))
          have E211 := (X194.wr W207)
          refine g_virtual C E211 w_30 w_31 (fun hZ => nf_sel hw w_33 hZ) w_33 w_32 (by decide) [] (ct_of hw w_34 w_10 (rm_h1 l Z a0 hw b186 b194 _ (1 : Int32) hi _ h207 n0 F208 V209 (by decide) rfl)) all0 (by decide) 0 (by decide) rfl pd___Z rfl [] rfl (Nat.le_of_eq rfl) at_256 (by decide) (by decide) ?_
          intro v210 h210 Q210
          obtain ⟨rfl, e210⟩ := Q210
          replace e210 := e210.symm
          subst e210
          refine g_istore C #[.val (.int i1), .val (.int i2), .val (.int i3), .val (.int i4), .val (.int i5), .val (.int i6), .val (.int aa), .val (.int bb), .val (.int cc), .val (.int hi), .val (.int lo), .val (.int mid), .val (.int (1 : Int32)), .val (.int (0 : Int32)), .val (.ref b183), .val (.ref b185), .val (.ref b186), .val (.int (1 : Int32)), .val (.int (if 0 < hi then 1 else 0)), .val (.int (if 0 < hi then 1 else 0))] at_259 rfl ?_
          refine g_iload C at_261 rfl ?_
          refine g_iload C at_263 rfl ?_
          refine g_icmp_f C at_265 (XT.ii_ne_f (if_pos hc195)) ?_
          refine g_iload C at_268 rfl ?_
          refine g_iload C at_270 rfl ?_
          refine g_icmp_f C at_272 (XT.ii_ne_f (if_pos hc195)) ?_
          refine g_iconst C 1 at_275 rfl ?_
          refine g_goto C 280 at_276 (by decide) (by decide) ?_
          refine g_ireturnN C (t := .boolean) rfl (by simp) at_280 (by decide) (by decide) ?_
          exact rfl
      · refine g_if_f C at_190 (XT.i0_gt_f hc195) ?_
        refine g_iload C at_193 rfl ?_
        refine g_iconst C 2 at_195 rfl ?_
        refine g_icmp_t C 204 at_196 (XT.ii_lt_t (by decide)) (by decide) (by decide) ?_
        refine g_iload C at_204 rfl ?_
        refine g_iconst C 3 at_206 rfl ?_
        refine g_icmp_t C 219 at_207 (XT.ii_lt_t (by decide)) (by decide) (by decide) ?_
        refine g_iconst C 0 at_219 rfl ?_
        refine g_istore C #[.val (.int i1), .val (.int i2), .val (.int i3), .val (.int i4), .val (.int i5), .val (.int i6), .val (.int aa), .val (.int bb), .val (.int cc), .val (.int hi), .val (.int lo), .val (.int mid), .val (.int (1 : Int32)), .val (.int (0 : Int32)), .val (.ref b183), .val (.ref b185), .val (.ref b186), .val (.int (0 : Int32)), .unset, .unset] at_220 rfl ?_
        refine g_aload C at_222 rfl rfl ?_
        refine g_virtual C X194 w_30 w_31 (fun hZ => nf_sel hw w_33 hZ) w_33 w_32 (by decide) [] (ct_of hw w_34 w_10 (rm_h1 l Z a0 hw b186 b194 _ (1 : Int32) hi _ h194 n0 G194 V194 (by decide) rfl)) all0 (by decide) 0 (by decide) rfl pd___Z rfl [] rfl (Nat.le_of_eq rfl) at_224 (by decide) (by decide) ?_
        intro v212 h212 Q212
        obtain ⟨rfl, e212⟩ := Q212
        replace e212 := e212.symm
        subst e212
        refine g_istore C #[.val (.int i1), .val (.int i2), .val (.int i3), .val (.int i4), .val (.int i5), .val (.int i6), .val (.int aa), .val (.int bb), .val (.int cc), .val (.int hi), .val (.int lo), .val (.int mid), .val (.int (1 : Int32)), .val (.int (0 : Int32)), .val (.ref b183), .val (.ref b185), .val (.ref b186), .val (.int (0 : Int32)), .val (.int (if 0 < hi then 1 else 0)), .unset] at_227 rfl ?_
        refine g_iload C at_229 rfl ?_
        refine g_iconst C 1 at_231 rfl ?_
        refine g_icmp_f C at_232 (XT.ii_lt_f (by decide)) ?_
        refine g_aload C at_235 rfl rfl ?_
        refine g_iconst C 0 at_237 rfl ?_
        refine g_iloadN C at_238 rfl ?_
        refine g_iconst C 4 at_239 rfl ?_
        refine g_iushr C at_240 ?_
        refine g_iconst C 1 at_241 rfl ?_
        refine g_iand C at_242 ?_
        by_cases hc213 : (((i4.toUInt32 >>> ((4 : Int32) &&& 31).toUInt32).toInt32) &&& (1 : Int32)) = 0
        · refine g_if_t C 250 at_243 (XT.i0_eq_t hc213) (by decide) (by decide) ?_
          refine g_ldc2D C w_35 at_250 ?_
          have V214 := (V184.keep K189 nin0)
          have V215 := (V191.keep KC194 (ninS (Nat.ne_of_lt (Nat.lt_of_lt_of_le V214.lt (Nat.le_of_eq g186.symm))) nin0))
          refine g_dastore C V215 (List.mem_of_getElem? (i := 2) rfl) at_253 ⟨by decide, by decide⟩ 0 rfl (Nat.le_of_ble_eq_true rfl) ?_
          intro h216 W216 V216
          replace V216 : Arv Z h216 b183 ka183 .double (1 : Int32) [(.double (13830554455654793216 : UInt64))] (.double 0) := V216
          refine g_aload C at_254 rfl rfl ?_
          have F217 := (G194.other W216 (Or.inl (Ne.symm (Nat.ne_of_lt (Nat.lt_of_lt_of_le V214.lt (Nat.le_of_eq g186.symm))))))
          have V218 := (V194.other W216 (Ne.symm (Nat.ne_of_lt (Nat.lt_of_lt_of_le V191.lt le194))))
          have E220 := (X194.wr W216)
          refine g_virtual C E220 w_30 w_31 (fun hZ => nf_sel hw w_33 hZ) w_33 w_32 (by decide) [] (ct_of hw w_34 w_10 (rm_h1 l Z a0 hw b186 b194 _ (1 : Int32) hi _ h216 n0 F217 V218 (by decide) rfl)) all0 (by decide) 0 (by decide) rfl pd___Z rfl [] rfl (Nat.le_of_eq rfl) at_256 (by decide) (by decide) ?_
          intro v219 h219 Q219
          obtain ⟨rfl, e219⟩ := Q219
          replace e219 := e219.symm
          subst e219
          refine g_istore C #[.val (.int i1), .val (.int i2), .val (.int i3), .val (.int i4), .val (.int i5), .val (.int i6), .val (.int aa), .val (.int bb), .val (.int cc), .val (.int hi), .val (.int lo), .val (.int mid), .val (.int (1 : Int32)), .val (.int (0 : Int32)), .val (.ref b183), .val (.ref b185), .val (.ref b186), .val (.int (0 : Int32)), .val (.int (if 0 < hi then 1 else 0)), .val (.int (if 0 < hi then 1 else 0))] at_259 rfl ?_
          refine g_iload C at_261 rfl ?_
          refine g_iload C at_263 rfl ?_
          refine g_icmp_f C at_265 (XT.ii_ne_f (if_neg hc195)) ?_
          refine g_iload C at_268 rfl ?_
          refine g_iload C at_270 rfl ?_
          refine g_icmp_f C at_272 (XT.ii_ne_f (if_neg hc195)) ?_
          refine g_iconst C 1 at_275 rfl ?_
          refine g_goto C 280 at_276 (by decide) (by decide) ?_
          refine g_ireturnN C (t := .boolean) rfl (by simp) at_280 (by decide) (by decide) ?_
          exact rfl
        · refine g_if_f C at_243 (XT.i0_eq_f hc213) ?_
          refine g_dconst1 C at_246 ?_
          refine g_goto C 253 at_247 (by decide) (by decide) ?_
          have V221 := (V184.keep K189 nin0)
          have V222 := (V191.keep KC194 (ninS (Nat.ne_of_lt (Nat.lt_of_lt_of_le V221.lt (Nat.le_of_eq g186.symm))) nin0))
          refine g_dastore C V222 (List.mem_of_getElem? (i := 2) rfl) at_253 ⟨by decide, by decide⟩ 0 rfl (Nat.le_of_ble_eq_true rfl) ?_
          intro h223 W223 V223
          replace V223 : Arv Z h223 b183 ka183 .double (1 : Int32) [(.double FP.dconst1)] (.double 0) := V223
          refine g_aload C at_254 rfl rfl ?_
          have F224 := (G194.other W223 (Or.inl (Ne.symm (Nat.ne_of_lt (Nat.lt_of_lt_of_le V221.lt (Nat.le_of_eq g186.symm))))))
          have V225 := (V194.other W223 (Ne.symm (Nat.ne_of_lt (Nat.lt_of_lt_of_le V191.lt le194))))
          have E227 := (X194.wr W223)
          refine g_virtual C E227 w_30 w_31 (fun hZ => nf_sel hw w_33 hZ) w_33 w_32 (by decide) [] (ct_of hw w_34 w_10 (rm_h1 l Z a0 hw b186 b194 _ (1 : Int32) hi _ h223 n0 F224 V225 (by decide) rfl)) all0 (by decide) 0 (by decide) rfl pd___Z rfl [] rfl (Nat.le_of_eq rfl) at_256 (by decide) (by decide) ?_
          intro v226 h226 Q226
          obtain ⟨rfl, e226⟩ := Q226
          replace e226 := e226.symm
          subst e226
          refine g_istore C #[.val (.int i1), .val (.int i2), .val (.int i3), .val (.int i4), .val (.int i5), .val (.int i6), .val (.int aa), .val (.int bb), .val (.int cc), .val (.int hi), .val (.int lo), .val (.int mid), .val (.int (1 : Int32)), .val (.int (0 : Int32)), .val (.ref b183), .val (.ref b185), .val (.ref b186), .val (.int (0 : Int32)), .val (.int (if 0 < hi then 1 else 0)), .val (.int (if 0 < hi then 1 else 0))] at_259 rfl ?_
          refine g_iload C at_261 rfl ?_
          refine g_iload C at_263 rfl ?_
          refine g_icmp_f C at_265 (XT.ii_ne_f (if_neg hc195)) ?_
          refine g_iload C at_268 rfl ?_
          refine g_iload C at_270 rfl ?_
          refine g_icmp_f C at_272 (XT.ii_ne_f (if_neg hc195)) ?_
          refine g_iconst C 1 at_275 rfl ?_
          refine g_goto C 280 at_276 (by decide) (by decide) ?_
          refine g_ireturnN C (t := .boolean) rfl (by simp) at_280 (by decide) (by decide) ?_
          exact rfl
    · refine g_iload C at_116 rfl ?_
      refine g_newarray C (aty := .double) w_7 at_118 (by decide) 1 (by decide) (by decide) (by decide) (by decide) "[D" rfl ?_
      intro b228 h228 ka228 g228 E228 V228 A228
      replace V228 : Arv Z h228 b228 ka228 .double (1 : Int32) [(.double 0)] (.double 0) := V228.pad (pad_rep [] _ 1)
      refine g_astore C #[.val (.int i1), .val (.int i2), .val (.int i3), .val (.int i4), .val (.int i5), .val (.int i6), .val (.int aa), .val (.int bb), .val (.int cc), .val (.int hi), .val (.int lo), .val (.int mid), .val (.int (1 : Int32)), .val (.int (1 : Int32)), .val (.ref b183), .val (.ref b228), .unset, .unset, .unset, .unset] at_120 rfl rfl ?_
      refine g_iload C at_122 rfl ?_
      refine g_iconst C 1 at_124 rfl ?_
      refine g_icmp_f C at_125 (XT.ii_lt_f (by decide)) ?_
      refine g_aload C at_128 rfl rfl ?_
      refine g_iconst C 0 at_130 rfl ?_
      refine g_iload C at_131 rfl ?_
      refine g_iconst C 5 at_133 rfl ?_
      refine g_irem C at_134 (by decide) ?_
      refine g_i2d C at_135 ?_
      refine g_dastore C V228 (List.mem_of_getElem? (i := 0) rfl) at_136 ⟨by decide, by decide⟩ 0 rfl (Nat.le_of_ble_eq_true rfl) ?_
      intro h229 W229 V229
      replace V229 : Arv Z h229 b228 ka228 .double (1 : Int32) [(.double (FP.i2d (i5 % (5 : Int32))))] (.double 0) := V229
      refine g_iload C at_137 rfl ?_
      refine g_iconst C 2 at_139 rfl ?_
      refine g_icmp_t C 152 at_140 (XT.ii_lt_t (by decide)) (by decide) (by decide) ?_
      refine g_iload C at_152 rfl ?_
      refine g_iconst C 3 at_154 rfl ?_
      refine g_icmp_t C 169 at_155 (XT.ii_lt_t (by decide)) (by decide) (by decide) ?_
      refine g_new C w_8 w_9 w_10 at_169 (by decide) (by decide) ?_
      intro b230 h230 g230 E230 A230 D230
      refine g_dup C at_172 rfl ?_
      refine g_aload C at_173 rfl rfl ?_
      refine g_aload C at_175 rfl rfl ?_
      have K231 : Keep h229 h230 [] := (Keep.refl h229 []).ext E230
      have V232 := (V229.keep K231 nin0)
      have K233 : Keep h184 h228 [] := (Keep.refl h184 []).ext E228
      have K234 : Keep h184 h229 [] := K233.wr W229 (Or.inr (Nat.le_of_eq g228.symm))
      have K235 : Keep h184 h230 [] := K234.ext E230
      have V236 := (V184.keep K235 nin0)
      have E237 := ((A228.wr W229).ext E230)
      have E238 := ((((A183.wr W184).ext E228).wr W229).ext E230)
      refine g_special C (a := b230) w_11 w_12 w_13 rfl (by decide) [(.ref b228), (.ref b183)] (ct_of hw w_13 w_10 (rm_init l Z a0 hw b230 b228 b183 (1 : Int32) (1 : Int32) _ _ _ _ h230 n0 A230 (D230 (Or.inr (C.hw w_27)) (ty := (.array .double)) (by decide)) (D230 (Or.inr (C.hw w_29)) (ty := (.array .double)) (by decide)) V232 V236 E237 E238 (by decide) (by decide))) (allS (List.mem_of_getElem? (i := 0) rfl) all0) (by decide) 1 (by decide) rfl pd___D_D_V rfl [(.ref b230)] rfl (Nat.le_of_eq rfl) at_177 (by decide) (by decide) ?_
      intro v239 h239 Q239
      obtain ⟨rfl, KC239, X239, b239, le239, G239, V239⟩ := Q239
      refine g_astore C #[.val (.int i1), .val (.int i2), .val (.int i3), .val (.int i4), .val (.int i5), .val (.int i6), .val (.int aa), .val (.int bb), .val (.int cc), .val (.int hi), .val (.int lo), .val (.int mid), .val (.int (1 : Int32)), .val (.int (1 : Int32)), .val (.ref b183), .val (.ref b228), .val (.ref b230), .unset, .unset, .unset] at_180 rfl rfl ?_
      refine g_iload C at_182 rfl ?_
      refine g_iconst C 1 at_184 rfl ?_
      refine g_icmp_f C at_185 (XT.ii_lt_f (by decide)) ?_
      refine g_iload C at_188 rfl ?_
      by_cases hc240 : 0 < hi
      · refine g_if_t C 215 at_190 (XT.i0_gt_t hc240) (by decide) (by decide) ?_
        refine g_iconst C 1 at_215 rfl ?_
        refine g_goto C 220 at_216 (by decide) (by decide) ?_
        refine g_istore C #[.val (.int i1), .val (.int i2), .val (.int i3), .val (.int i4), .val (.int i5), .val (.int i6), .val (.int aa), .val (.int bb), .val (.int cc), .val (.int hi), .val (.int lo), .val (.int mid), .val (.int (1 : Int32)), .val (.int (1 : Int32)), .val (.ref b183), .val (.ref b228), .val (.ref b230), .val (.int (1 : Int32)), .unset, .unset] at_220 rfl ?_
        refine g_aload C at_222 rfl rfl ?_
        refine g_virtual C X239 w_30 w_31 (fun hZ => nf_sel hw w_33 hZ) w_33 w_32 (by decide) [] (ct_of hw w_34 w_10 (rm_h1 l Z a0 hw b230 b239 _ (1 : Int32) hi _ h239 n0 G239 V239 (by decide) rfl)) all0 (by decide) 0 (by decide) rfl pd___Z rfl [] rfl (Nat.le_of_eq rfl) at_224 (by decide) (by decide) ?_
        intro v241 h241 Q241
        obtain ⟨rfl, e241⟩ := Q241
        replace e241 := e241.symm
        subst e241
        refine g_istore C #[.val (.int i1), .val (.int i2), .val (.int i3), .val (.int i4), .val (.int i5), .val (.int i6), .val (.int aa), .val (.int bb), .val (.int cc), .val (.int hi), .val (.int lo), .val (.int mid), .val (.int (1 : Int32)), .val (.int (1 : Int32)), .val (.ref b183), .val (.ref b228), .val (.ref b230), .val (.int (1 : Int32)), .val (.int (if 0 < hi then 1 else 0)), .unset] at_227 rfl ?_
        refine g_iload C at_229 rfl ?_
        refine g_iconst C 1 at_231 rfl ?_
        refine g_icmp_f C at_232 (XT.ii_lt_f (by decide)) ?_
        refine g_aload C at_235 rfl rfl ?_
        refine g_iconst C 0 at_237 rfl ?_
        refine g_iloadN C at_238 rfl ?_
        refine g_iconst C 4 at_239 rfl ?_
        refine g_iushr C at_240 ?_
        refine g_iconst C 1 at_241 rfl ?_
        refine g_iand C at_242 ?_
        by_cases hc242 : (((i4.toUInt32 >>> ((4 : Int32) &&& 31).toUInt32).toInt32) &&& (1 : Int32)) = 0
        · refine g_if_t C 250 at_243 (XT.i0_eq_t hc242) (by decide) (by decide) ?_
          refine g_ldc2D C w_35 at_250 ?_
          have V243 := (V184.keep K234 nin0)
          have V244 := (V236.keep KC239 (ninS (Nat.ne_of_lt (Nat.lt_of_lt_of_le V243.lt (Nat.le_of_eq g230.symm))) nin0))
          refine g_dastore C V244 (List.mem_of_getElem? (i := 2) rfl) at_253 ⟨by decide, by decide⟩ 0 rfl (Nat.le_of_ble_eq_true rfl) ?_
          intro h245 W245 V245
          replace V245 : Arv Z h245 b183 ka183 .double (1 : Int32) [(.double (13830554455654793216 : UInt64))] (.double 0) := V245
          refine g_aload C at_254 rfl rfl ?_
          have F246 := (G239.other W245 (Or.inl (Ne.symm (Nat.ne_of_lt (Nat.lt_of_lt_of_le V243.lt (Nat.le_of_eq g230.symm))))))
          have V247 := (V239.other W245 (Ne.symm (Nat.ne_of_lt (Nat.lt_of_lt_of_le V236.lt le239))))
          have E249 := (X239.wr W245)
          refine g_virtual C E249 w_30 w_31 (fun hZ => nf_sel hw w_33 hZ) w_33 w_32 (by decide) [] (ct_of hw w_34 w_10 (rm_h1 l Z a0 hw b230 b239 _ (1 : Int32) hi _ h245 n0 F246 V247 (by decide) rfl)) all0 (by decide) 0 (by decide) rfl pd___Z rfl [] rfl (Nat.le_of_eq rfl) at_256 (by decide) (by decide) ?_
          intro v248 h248 Q248
          obtain ⟨rfl, e248⟩ := Q248
          replace e248 := e248.symm
          subst e248
          refine g_istore C #[.val (.int i1), .val (.int i2), .val (.int i3), .val (.int i4), .val (.int i5), .val (.int i6), .val (.int aa), .val (.int bb), .val (.int cc), .val (.int hi), .val (.int lo), .val (.int mid), .val (.int (1 : Int32)), .val (.int (1 : Int32)), .val (.ref b183), .val (.ref b228), .val (.ref b230), .val (.int (1 : Int32)), .val (.int (if 0 < hi then 1 else 0)), .val (.int (if 0 < hi then 1 else 0))] at_259 rfl ?_
          refine g_iload C at_261 rfl ?_
          refine g_iload C at_263 rfl ?_
          refine g_icmp_f C at_265 (XT.ii_ne_f (if_pos hc240)) ?_
          refine g_iload C at_268 rfl ?_
          refine g_iload C at_270 rfl ?_
          refine g_icmp_f C at_272 (XT.ii_ne_f (if_pos hc240)) ?_
          refine g_iconst C 1 at_275 rfl ?_
          refine g_goto C 280 at_276 (by decide) (by decide) ?_
          refine g_ireturnN C (t := .boolean) rfl (by simp) at_280 (by decide) (by decide) ?_
          exact rfl
        · refine g_if_f C at_243 (XT.i0_eq_f hc242) ?_
          refine g_dconst1 C at_246 ?_
          refine g_goto C 253 at_247 (by decide) (by decide) ?_
          have V250 := (V184.keep K234 nin0)
          have V251 := (V236.keep KC239 (ninS (Nat.ne_of_lt (Nat.lt_of_lt_of_le V250.lt (Nat.le_of_eq g230.symm))) nin0))
          refine g_dastore C V251 (List.mem_of_getElem? (i := 2) rfl) at_253 ⟨by decide, by decide⟩ 0 rfl (Nat.le_of_ble_eq_true rfl) ?_
          intro h252 W252 V252
          replace V252 : Arv Z h252 b183 ka183 .double (1 : Int32) [(.double FP.dconst1)] (.double 0) := V252
          refine g_aload C at_254 rfl rfl ?_
          have F253 := (G239.other W252 (Or.inl (Ne.symm (Nat.ne_of_lt (Nat.lt_of_lt_of_le V250.lt (Nat.le_of_eq g230.symm))))))
          have V254 := (V239.other W252 (Ne.symm (Nat.ne_of_lt (Nat.lt_of_lt_of_le V236.lt le239))))
          have E256 := (X239.wr W252)
          refine g_virtual C E256 w_30 w_31 (fun hZ => nf_sel hw w_33 hZ) w_33 w_32 (by decide) [] (ct_of hw w_34 w_10 (rm_h1 l Z a0 hw b230 b239 _ (1 : Int32) hi _ h252 n0 F253 V254 (by decide) rfl)) all0 (by decide) 0 (by decide) rfl pd___Z rfl [] rfl (Nat.le_of_eq rfl) at_256 (by decide) (by decide) ?_
          intro v255 h255 Q255
          obtain ⟨rfl, e255⟩ := Q255
          replace e255 := e255.symm
          subst e255
          refine g_istore C #[.val (.int i1), .val (.int i2), .val (.int i3), .val (.int i4), .val (.int i5), .val (.int i6), .val (.int aa), .val (.int bb), .val (.int cc), .val (.int hi), .val (.int lo), .val (.int mid), .val (.int (1 : Int32)), .val (.int (1 : Int32)), .val (.ref b183), .val (.ref b228), .val (.ref b230), .val (.int (1 : Int32)), .val (.int (if 0 < hi then 1 else 0)), .val (.int (if 0 < hi then 1 else 0))] at_259 rfl ?_
          refine g_iload C at_261 rfl ?_
          refine g_iload C at_263 rfl ?_
          refine g_icmp_f C at_265 (XT.ii_ne_f (if_pos hc240)) ?_
          refine g_iload C at_268 rfl ?_
          refine g_iload C at_270 rfl ?_
          refine g_icmp_f C at_272 (XT.ii_ne_f (if_pos hc240)) ?_
          refine g_iconst C 1 at_275 rfl ?_
          refine g_goto C 280 at_276 (by decide) (by decide) ?_
          refine g_ireturnN C (t := .boolean) rfl (by simp) at_280 (by decide) (by decide) ?_
          exact rfl
      · refine g_if_f C at_190 (XT.i0_gt_f hc240) ?_
        refine g_iload C at_193 rfl ?_
        refine g_iconst C 2 at_195 rfl ?_
        refine g_icmp_t C 204 at_196 (XT.ii_lt_t (by decide)) (by decide) (by decide) ?_
        refine g_iload C at_204 rfl ?_
        refine g_iconst C 3 at_206 rfl ?_
        refine g_icmp_t C 219 at_207 (XT.ii_lt_t (by decide)) (by decide) (by decide) ?_
        refine g_iconst C 0 at_219 rfl ?_
        refine g_istore C #[.val (.int i1), .val (.int i2), .val (.int i3), .val (.int i4), .val (.int i5), .val (.int i6), .val (.int aa), .val (.int bb), .val (.int cc), .val (.int hi), .val (.int lo), .val (.int mid), .val (.int (1 : Int32)), .val (.int (1 : Int32)), .val (.ref b183), .val (.ref b228), .val (.ref b230), .val (.int (0 : Int32)), .unset, .unset] at_220 rfl ?_
        refine g_aload C at_222 rfl rfl ?_
        refine g_virtual C X239 w_30 w_31 (fun hZ => nf_sel hw w_33 hZ) w_33 w_32 (by decide) [] (ct_of hw w_34 w_10 (rm_h1 l Z a0 hw b230 b239 _ (1 : Int32) hi _ h239 n0 G239 V239 (by decide) rfl)) all0 (by decide) 0 (by decide) rfl pd___Z rfl [] rfl (Nat.le_of_eq rfl) at_224 (by decide) (by decide) ?_
        intro v257 h257 Q257
        obtain ⟨rfl, e257⟩ := Q257
        replace e257 := e257.symm
        subst e257
        refine g_istore C #[.val (.int i1), .val (.int i2), .val (.int i3), .val (.int i4), .val (.int i5), .val (.int i6), .val (.int aa), .val (.int bb), .val (.int cc), .val (.int hi), .val (.int lo), .val (.int mid), .val (.int (1 : Int32)), .val (.int (1 : Int32)), .val (.ref b183), .val (.ref b228), .val (.ref b230), .val (.int (0 : Int32)), .val (.int (if 0 < hi then 1 else 0)), .unset] at_227 rfl ?_
        refine g_iload C at_229 rfl ?_
        refine g_iconst C 1 at_231 rfl ?_
        refine g_icmp_f C at_232 (XT.ii_lt_f (by decide)) ?_
        refine g_aload C at_235 rfl rfl ?_
        refine g_iconst C 0 at_237 rfl ?_
        refine g_iloadN C at_238 rfl ?_
        refine g_iconst C 4 at_239 rfl ?_
        refine g_iushr C at_240 ?_
        refine g_iconst C 1 at_241 rfl ?_
        refine g_iand C at_242 ?_
        by_cases hc258 : (((i4.toUInt32 >>> ((4 : Int32) &&& 31).toUInt32).toInt32) &&& (1 : Int32)) = 0
        · refine g_if_t C 250 at_243 (XT.i0_eq_t hc258) (by decide) (by decide) ?_
          refine g_ldc2D C w_35 at_250 ?_
          have V259 := (V184.keep K234 nin0)
          have V260 := (V236.keep KC239 (ninS (Nat.ne_of_lt (Nat.lt_of_lt_of_le V259.lt (Nat.le_of_eq g230.symm))) nin0))
          refine g_dastore C V260 (List.mem_of_getElem? (i := 2) rfl) at_253 ⟨by decide, by decide⟩ 0 rfl (Nat.le_of_ble_eq_true rfl) ?_
          intro h261 W261 V261
          replace V261 : Arv Z h261 b183 ka183 .double (1 : Int32) [(.double (13830554455654793216 : UInt64))] (.double 0) := V261
          refine g_aload C at_254 rfl rfl ?_
          have F262 := (G239.other W261 (Or.inl (Ne.symm (Nat.ne_of_lt (Nat.lt_of_lt_of_le V259.lt (Nat.le_of_eq g230.symm))))))
          have V263 := (V239.other W261 (Ne.symm (Nat.ne_of_lt (Nat.lt_of_lt_of_le V236.lt le239))))
          have E265 := (X239.wr W261)
          refine g_virtual C E265 w_30 w_31 (fun hZ => nf_sel hw w_33 hZ) w_33 w_32 (by decide) [] (ct_of hw w_34 w_10 (rm_h1 l Z a0 hw b230 b239 _ (1 : Int32) hi _ h261 n0 F262 V263 (by decide) rfl)) all0 (by decide) 0 (by decide) rfl pd___Z rfl [] rfl (Nat.le_of_eq rfl) at_256 (by decide) (by decide) ?_
          intro v264 h264 Q264
          obtain ⟨rfl, e264⟩ := Q264
          replace e264 := e264.symm
          subst e264
          refine g_istore C #[.val (.int i1), .val (.int i2), .val (.int i3), .val (.int i4), .val (.int i5), .val (.int i6), .val (.int aa), .val (.int bb), .val (.int cc), .val (.int hi), .val (.int lo), .val (.int mid), .val (.int (1 : Int32)), .val (.int (1 : Int32)), .val (.ref b183), .val (.ref b228), .val (.ref b230), .val (.int (0 : Int32)), .val (.int (if 0 < hi then 1 else 0)), .val (.int (if 0 < hi then 1 else 0))] at_259 rfl ?_
          refine g_iload C at_261 rfl ?_
          refine g_iload C at_263 rfl ?_
          refine g_icmp_f C at_265 (XT.ii_ne_f (if_neg hc240)) ?_
          refine g_iload C at_268 rfl ?_
          refine g_iload C at_270 rfl ?_
          refine g_icmp_f C at_272 (XT.ii_ne_f (if_neg hc240)) ?_
          refine g_iconst C 1 at_275 rfl ?_
          refine g_goto C 280 at_276 (by decide) (by decide) ?_
          refine g_ireturnN C (t := .boolean) rfl (by simp) at_280 (by decide) (by decide) ?_
          exact rfl
        · refine g_if_f C at_243 (XT.i0_eq_f hc258) ?_
          refine g_dconst1 C at_246 ?_
          refine g_goto C 253 at_247 (by decide) (by decide) ?_
          have V266 := (V184.keep K234 nin0)
          have V267 := (V236.keep KC239 (ninS (Nat.ne_of_lt (Nat.lt_of_lt_of_le V266.lt (Nat.le_of_eq g230.symm))) nin0))
          refine g_dastore C V267 (List.mem_of_getElem? (i := 2) rfl) at_253 ⟨by decide, by decide⟩ 0 rfl (Nat.le_of_ble_eq_true rfl) ?_
          intro h268 W268 V268
          replace V268 : Arv Z h268 b183 ka183 .double (1 : Int32) [(.double FP.dconst1)] (.double 0) := V268
          refine g_aload C at_254 rfl rfl ?_
          have F269 := (G239.other W268 (Or.inl (Ne.symm (Nat.ne_of_lt (Nat.lt_of_lt_of_le V266.lt (Nat.le_of_eq g230.symm))))))
          have V270 := (V239.other W268 (Ne.symm (Nat.ne_of_lt (Nat.lt_of_lt_of_le V236.lt le239))))
          have E272 := (X239.wr W268)
          refine g_virtual C E272 w_30 w_31 (fun hZ => nf_sel hw w_33 hZ) w_33 w_32 (by decide) [] (ct_of hw w_34 w_10 (rm_h1 l Z a0 hw b230 b239 _ (1 : Int32) hi _ h268 n0 F269 V270 (by decide) rfl)) all0 (by decide) 0 (by decide) rfl pd___Z rfl [] rfl (Nat.le_of_eq rfl) at_256 (by decide) (by decide) ?_
          intro v271 h271 Q271
          obtain ⟨rfl, e271⟩ := Q271
          replace e271 := e271.symm
          subst e271
          refine g_istore C #[.val (.int i1), .val (.int i2), .val (.int i3), .val (.int i4), .val (.int i5), .val (.int i6), .val (.int aa), .val (.int bb), .val (.int cc), .val (.int hi), .val (.int lo), .val (.int mid), .val (.int (1 : Int32)), .val (.int (1 : Int32)), .val (.ref b183), .val (.ref b228), .val (.ref b230), .val (.int (0 : Int32)), .val (.int (if 0 < hi then 1 else 0)), .val (.int (if 0 < hi then 1 else 0))] at_259 rfl ?_
          refine g_iload C at_261 rfl ?_
          refine g_iload C at_263 rfl ?_
          refine g_icmp_f C at_265 (XT.ii_ne_f (if_neg hc240)) ?_
          refine g_iload C at_268 rfl ?_
          refine g_iload C at_270 rfl ?_
          refine g_icmp_f C at_272 (XT.ii_ne_f (if_neg hc240)) ?_
          refine g_iconst C 1 at_275 rfl ?_
          refine g_goto C 280 at_276 (by decide) (by decide) ?_
          refine g_ireturnN C (t := .boolean) rfl (by simp) at_280 (by decide) (by decide) ?_
          exact rfl
    · refine g_iload C at_116 rfl ?_
      refine g_newarray C (aty := .double) w_7 at_118 (by decide) 2 (by decide) (by decide) (by decide) (by decide) "[D" rfl ?_
      intro b273 h273 ka273 g273 E273 V273 A273
      replace V273 : Arv Z h273 b273 ka273 .double (2 : Int32) [(.double 0), (.double 0)] (.double 0) := V273.pad (pad_rep [] _ 2)
      refine g_astore C #[.val (.int i1), .val (.int i2), .val (.int i3), .val (.int i4), .val (.int i5), .val (.int i6), .val (.int aa), .val (.int bb), .val (.int cc), .val (.int hi), .val (.int lo), .val (.int mid), .val (.int (1 : Int32)), .val (.int (2 : Int32)), .val (.ref b183), .val (.ref b273), .unset, .unset, .unset, .unset] at_120 rfl rfl ?_
      refine g_iload C at_122 rfl ?_
      refine g_iconst C 1 at_124 rfl ?_
      refine g_icmp_f C at_125 (XT.ii_lt_f (by decide)) ?_
      refine g_aload C at_128 rfl rfl ?_
      refine g_iconst C 0 at_130 rfl ?_
      refine g_iload C at_131 rfl ?_
      refine g_iconst C 5 at_133 rfl ?_
      refine g_irem C at_134 (by decide) ?_
      refine g_i2d C at_135 ?_
      refine g_dastore C V273 (List.mem_of_getElem? (i := 0) rfl) at_136 ⟨by decide, by decide⟩ 0 rfl (Nat.le_of_ble_eq_true rfl) ?_
      intro h274 W274 V274
      replace V274 : Arv Z h274 b273 ka273 .double (2 : Int32) [(.double (FP.i2d (i5 % (5 : Int32)))), (.double 0)] (.double 0) := V274
      refine g_iload C at_137 rfl ?_
      refine g_iconst C 2 at_139 rfl ?_
      refine g_icmp_f C at_140 (XT.ii_lt_f (by decide)) ?_
      refine g_aload C at_143 rfl rfl ?_
      refine g_iconst C 1 at_145 rfl ?_
      refine g_iload C at_146 rfl ?_
      refine g_iconst C 5 at_148 rfl ?_
      refine g_irem C at_149 (by decide) ?_
      refine g_i2d C at_150 ?_
      refine g_dastore C V274 (List.mem_of_getElem? (i := 0) rfl) at_151 ⟨by decide, by decide⟩ 1 rfl (Nat.le_of_ble_eq_true rfl) ?_
      intro h275 W275 V275
      replace V275 : Arv Z h275 b273 ka273 .double (2 : Int32) [(.double (FP.i2d (i5 % (5 : Int32)))), (.double (FP.i2d (i6 % (5 : Int32))))] (.double 0) := V275
      refine g_iload C at_152 rfl ?_
      refine g_iconst C 3 at_154 rfl ?_
      refine g_icmp_t C 169 at_155 (XT.ii_lt_t (by decide)) (by decide) (by decide) ?_
      refine g_new C w_8 w_9 w_10 at_169 (by decide) (by decide) ?_
      intro b276 h276 g276 E276 A276 D276
      refine g_dup C at_172 rfl ?_
      refine g_aload C at_173 rfl rfl ?_
      refine g_aload C at_175 rfl rfl ?_
      have K277 : Keep h275 h276 [] := (Keep.refl h275 []).ext E276
      have V278 := (V275.keep K277 nin0)
      have K279 : Keep h184 h273 [] := (Keep.refl h184 []).ext E273
      have K280 : Keep h184 h274 [] := K279.wr W274 (Or.inr (Nat.le_of_eq g273.symm))
      have K281 : Keep h184 h275 [] := K280.wr W275 (Or.inr (Nat.le_of_eq g273.symm))
      have K282 : Keep h184 h276 [] := K281.ext E276
      have V283 := (V184.keep K282 nin0)
      have E284 := (((A273.wr W274).wr W275).ext E276)
      have E285 := (((((A183.wr W184).ext E273).wr W274).wr W275).ext E276)
      refine g_special C (a := b276) w_11 w_12 w_13 rfl (by decide) [(.ref b273), (.ref b183)] (ct_of hw w_13 w_10 (rm_init l Z a0 hw b276 b273 b183 (2 : Int32) (1 : Int32) _ _ _ _ h276 n0 A276 (D276 (Or.inr (C.hw w_27)) (ty := (.array .double)) (by decide)) (D276 (Or.inr (C.hw w_29)) (ty := (.array .double)) (by decide)) V278 V283 E284 E285 (by decide) (by decide))) (allS (List.mem_of_getElem? (i := 0) rfl) all0) (by decide) 1 (by decide) rfl pd___D_D_V rfl [(.ref b276)] rfl (Nat.le_of_eq rfl) at_177 (by decide) (by decide) ?_
      intro v286 h286 Q286
      obtain ⟨rfl, KC286, X286, b286, le286, G286, V286⟩ := Q286
      refine g_astore C #[.val (.int i1), .val (.int i2), .val (.int i3), .val (.int i4), .val (.int i5), .val (.int i6), .val (.int aa), .val (.int bb), .val (.int cc), .val (.int hi), .val (.int lo), .val (.int mid), .val (.int (1 : Int32)), .val (.int (2 : Int32)), .val (.ref b183), .val (.ref b273), .val (.ref b276), .unset, .unset, .unset] at_180 rfl rfl ?_
      refine g_iload C at_182 rfl ?_
      refine g_iconst C 1 at_184 rfl ?_
      refine g_icmp_f C at_185 (XT.ii_lt_f (by decide)) ?_
      refine g_iload C at_188 rfl ?_
      by_cases hc287 : 0 < hi
      · refine g_if_t C 215 at_190 (XT.i0_gt_t hc287) (by decide) (by decide) ?_
        refine g_iconst C 1 at_215 rfl ?_
        refine g_goto C 220 at_216 (by decide) (by decide) ?_
        refine g_istore C #[.val (.int i1), .val (.int i2), .val (.int i3), .val (.int i4), .val (.int i5), .val (.int i6), .val (.int aa), .val (.int bb), .val (.int cc), .val (.int hi), .val (.int lo), .val (.int mid), .val (.int (1 : Int32)), .val (.int (2 : Int32)), .val (.ref b183), .val (.ref b273), .val (.ref b276), .val (.int (1 : Int32)), .unset, .unset] at_220 rfl ?_
        refine g_aload C at_222 rfl rfl ?_
        refine g_virtual C X286 w_30 w_31 (fun hZ => nf_sel hw w_33 hZ) w_33 w_32 (by decide) [] (ct_of hw w_34 w_10 (rm_h1 l Z a0 hw b276 b286 _ (1 : Int32) hi _ h286 n0 G286 V286 (by decide) rfl)) all0 (by decide) 0 (by decide) rfl pd___Z rfl [] rfl (Nat.le_of_eq rfl) at_224 (by decide) (by decide) ?_
        intro v288 h288 Q288
        obtain ⟨rfl, e288⟩ := Q288
        replace e288 := e288.symm
        subst e288
        refine g_istore C #[.val (.int i1), .val (.int i2), .val (.int i3), .val (.int i4), .val (.int i5), .val (.int i6), .val (.int aa), .val (.int bb), .val (.int cc), .val (.int hi), .val (.int lo), .val (.int mid), .val (.int (1 : Int32)), .val (.int (2 : Int32)), .val (.ref b183), .val (.ref b273), .val (.ref b276), .val (.int (1 : Int32)), .val (.int (if 0 < hi then 1 else 0)), .unset] at_227 rfl ?_
        refine g_iload C at_229 rfl ?_
        refine g_iconst C 1 at_231 rfl ?_
        refine g_icmp_f C at_232 (XT.ii_lt_f (by decide)) ?_
        refine g_aload C at_235 rfl rfl ?_
        refine g_iconst C 0 at_237 rfl ?_
        refine g_iloadN C at_238 rfl ?_
        refine g_iconst C 4 at_239 rfl ?_
        refine g_iushr C at_240 ?_
        refine g_iconst C 1 at_241 rfl ?_
        refine g_iand C at_242 ?_
        by_cases hc289 : (((i4.toUInt32 >>> ((4 : Int32) &&& 31).toUInt32).toInt32) &&& (1 : Int32)) = 0
        · refine g_if_t C 250 at_243 (XT.i0_eq_t hc289) (by decide) (by decide) ?_
          refine g_ldc2D C w_35 at_250 ?_
          have V290 := (V184.keep K281 nin0)
          have V291 := (V283.keep KC286 (ninS (Nat.ne_of_lt (Nat.lt_of_lt_of_le V290.lt (Nat.le_of_eq g276.symm))) nin0))
          refine g_dastore C V291 (List.mem_of_getElem? (i := 2) rfl) at_253 ⟨by decide, by decide⟩ 0 rfl (Nat.le_of_ble_eq_true rfl) ?_
          intro h292 W292 V292
          replace V292 : Arv Z h292 b183 ka183 .double (1 : Int32) [(.double (13830554455654793216 : UInt64))] (.double 0) := V292
          refine g_aload C at_254 rfl rfl ?_
          have F293 := (G286.other W292 (Or.inl (Ne.symm (Nat.ne_of_lt (Nat.lt_of_lt_of_le V290.lt (Nat.le_of_eq g276.symm))))))
          have V294 := (V286.other W292 (Ne.symm (Nat.ne_of_lt (Nat.lt_of_lt_of_le V283.lt le286))))
          have E296 := (X286.wr W292)
          refine g_virtual C E296 w_30 w_31 (fun hZ => nf_sel hw w_33 hZ) w_33 w_32 (by decide) [] (ct_of hw w_34 w_10 (rm_h1 l Z a0 hw b276 b286 _ (1 : Int32) hi _ h292 n0 F293 V294 (by decide) rfl)) all0 (by decide) 0 (by decide) rfl pd___Z rfl [] rfl (Nat.le_of_eq rfl) at_256 (by decide) (by decide) ?_
          intro v295 h295 Q295
          obtain ⟨rfl, e295⟩ := Q295
          replace e295 := e295.symm
          subst e295
          refine g_istore C #[.val (.int i1), .val (.int i2), .val (.int i3), .val (.int i4), .val (.int i5), .val (.int i6), .val (.int aa), .val (.int bb), .val (.int cc), .val (.int hi), .val (.int lo), .val (.int mid), .val (.int (1 : Int32)), .val (.int (2 : Int32)), .val (.ref b183), .val (.ref b273), .val (.ref b276), .val (.int (1 : Int32)), .val (.int (if 0 < hi then 1 else 0)), .val (.int (if 0 < hi then 1 else 0))] at_259 rfl ?_
          refine g_iload C at_261 rfl ?_
          refine g_iload C at_263 rfl ?_
          refine g_icmp_f C at_265 (XT.ii_ne_f (if_pos hc287)) ?_
          refine g_iload C at_268 rfl ?_
          refine g_iload C at_270 rfl ?_
          refine g_icmp_f C at_272 (XT.ii_ne_f (if_pos hc287)) ?_
          refine g_iconst C 1 at_275 rfl ?_
          refine g_goto C 280 at_276 (by decide) (by decide) ?_
          refine g_ireturnN C (t := .boolean) rfl (by simp) at_280 (by decide) (by decide) ?_
          exact rfl
        · refine g_if_f C at_243 (XT.i0_eq_f hc289) ?_
          refine g_dconst1 C at_246 ?_
          refine g_goto C 253 at_247 (by decide) (by decide) ?_
          have V297 := (V184.keep K281 nin0)
          have V298 := (V283.keep KC286 (ninS (Nat.ne_of_lt (Nat.lt_of_lt_of_le V297.lt (Nat.le_of_eq g276.symm))) nin0))
          refine g_dastore C V298 (List.mem_of_getElem? (i := 2) rfl) at_253 ⟨by decide, by decide⟩ 0 rfl (Nat.le_of_ble_eq_true rfl) ?_
          intro h299 W299 V299
          replace V299 : Arv Z h299 b183 ka183 .double (1 : Int32) [(.double FP.dconst1)] (.double 0) := V299
          refine g_aload C at_254 rfl rfl ?_
          have F300 := (G286.other W299 (Or.inl (Ne.symm (Nat.ne_of_lt (Nat.lt_of_lt_of_le V297.lt (Nat.le_of_eq g276.symm))))))
          have V301 := (V286.other W299 (Ne.symm (Nat.ne_of_lt (Nat.lt_of_lt_of_le V283.lt le286))))
          have E303 := (X286.wr W299)
          refine g_virtual C E303 w_30 w_31 (fun hZ => nf_sel hw w_33 hZ) w_33 w_32 (by decide) [] (ct_of hw w_34 w_10 (rm_h1 l Z a0 hw b276 b286 _ (1 : Int32) hi _ h299 n0 F300 V301 (by decide) rfl)) all0 (by decide) 0 (by decide) rfl pd___Z rfl [] rfl (Nat.le_of_eq rfl) at_256 (by decide) (by decide) ?_
          intro v302 h302 Q302
          obtain ⟨rfl, e302⟩ := Q302
          replace e302 := e302.symm
          subst e302
          refine g_istore C #[.val (.int i1), .val (.int i2), .val (.int i3), .val (.int i4), .val (.int i5), .val (.int i6), .val (.int aa), .val (.int bb), .val (.int cc), .val (.int hi), .val (.int lo), .val (.int mid), .val (.int (1 : Int32)), .val (.int (2 : Int32)), .val (.ref b183), .val (.ref b273), .val (.ref b276), .val (.int (1 : Int32)), .val (.int (if 0 < hi then 1 else 0)), .val (.int (if 0 < hi then 1 else 0))] at_259 rfl ?_
          refine g_iload C at_261 rfl ?_
          refine g_iload C at_263 rfl ?_
          refine g_icmp_f C at_265 (XT.ii_ne_f (if_pos hc287)) ?_
          refine g_iload C at_268 rfl ?_
          refine g_iload C at_270 rfl ?_
          refine g_icmp_f C at_272 (XT.ii_ne_f (if_pos hc287)) ?_
          refine g_iconst C 1 at_275 rfl ?_
          refine g_goto C 280 at_276 (by decide) (by decide) ?_
          refine g_ireturnN C (t := .boolean) rfl (by simp) at_280 (by decide) (by decide) ?_
          exact rfl
      · refine g_if_f C at_190 (XT.i0_gt_f hc287) ?_
        refine g_iload C at_193 rfl ?_
        refine g_iconst C 2 at_195 rfl ?_
        refine g_icmp_t C 204 at_196 (XT.ii_lt_t (by decide)) (by decide) (by decide) ?_
        refine g_iload C at_204 rfl ?_
        refine g_iconst C 3 at_206 rfl ?_
        refine g_icmp_t C 219 at_207 (XT.ii_lt_t (by decide)) (by decide) (by decide) ?_
        refine g_iconst C 0 at_219 rfl ?_
        refine g_istore C #[.val (.int i1), .val (.int i2), .val (.int i3), .val (.int i4), .val (.int i5), .val (.int i6), .val (.int aa), .val (.int bb), .val (.int cc), .val (.int hi), .val (.int lo), .val (.int mid), .val (.int (1 : Int32)), .val (.int (2 : Int32)), .val (.ref b183), .val (.ref b273), .val (.ref b276), .val (.int (0 : Int32)), .unset, .unset] at_220 rfl ?_
        refine g_aload C at_222 rfl rfl ?_
        refine g_virtual C X286 w_30 w_31 (fun hZ => nf_sel hw w_33 hZ) w_33 w_32 (by decide) [] (ct_of hw w_34 w_10 (rm_h1 l Z a0 hw b276 b286 _ (1 : Int32) hi _ h286 n0 G286 V286 (by decide) rfl)) all0 (by decide) 0 (by decide) rfl pd___Z rfl [] rfl (Nat.le_of_eq rfl) at_224 (by decide) (by decide) ?_
        intro v304 h304 Q304
        obtain ⟨rfl, e304⟩ := Q304
        replace e304 := e304.symm
        subst e304
        refine g_istore C #[.val (.int i1), .val (.int i2), .val (.int i3), .val (.int i4), .val (.int i5), .val (.int i6), .val (.int aa), .val (.int bb), .val (.int cc), .val (.int hi), .val (.int lo), .val (.int mid), .val (.int (1 : Int32)), .val (.int (2 : Int32)), .val (.ref b183), .val (.ref b273), .val (.ref b276), .val (.int (0 : Int32)), .val (.int (if 0 < hi then 1 else 0)), .unset] at_227 rfl ?_
        refine g_iload C at_229 rfl ?_
        refine g_iconst C 1 at_231 rfl ?_
        refine g_icmp_f C at_232 (XT.ii_lt_f (by decide)) ?_
        refine g_aload C at_235 rfl rfl ?_
        refine g_iconst C 0 at_237 rfl ?_
        refine g_iloadN C at_238 rfl ?_
        refine g_iconst C 4 at_239 rfl ?_
        refine g_iushr C at_240 ?_
        refine g_iconst C 1 at_241 rfl ?_
        refine g_iand C at_242 ?_
        by_cases hc305 : (((i4.toUInt32 >>> ((4 : Int32) &&& 31).toUInt32).toInt32) &&& (1 : Int32)) = 0
        · refine g_if_t C 250 at_243 (XT.i0_eq_t hc305) (by decide) (by decide) ?_
          refine g_ldc2D C w_35 at_250 ?_
          have V306 := (V184.keep K281 nin0)
          have V307 := (V283.keep KC286 (ninS (Nat.ne_of_lt (Nat.lt_of_lt_of_le V306.lt (Nat.le_of_eq g276.symm))) nin0))
          refine g_dastore C V307 (List.mem_of_getElem? (i := 2) rfl) at_253 ⟨by decide, by decide⟩ 0 rfl (Nat.le_of_ble_eq_true rfl) ?_
          intro h308 W308 V308
          replace V308 : Arv Z h308 b183 ka183 .double (1 : Int32) [(.double (13830554455654793216 : UInt64))] (.double 0) := V308
          refine g_aload C at_254 rfl rfl ?_
          have F309 := (G286.other W308 (Or.inl (Ne.symm (Nat.ne_of_lt (Nat.lt_of_lt_of_le V306.lt (Nat.le_of_eq g276.symm))))))
          have V310 := (V286.other W308 (Ne.symm (Nat.ne_of_lt (Nat.lt_of_lt_of_le V283.lt le286))))
          have E312 := (X286.wr W308)
          refine g_virtual C E312 w_30 w_31 (fun hZ => nf_sel hw w_33 hZ) w_33 w_32 (by decide) [] (ct_of hw w_34 w_10 (rm_h1 l Z a0 hw b276 b286 _ (1 : Int32) hi _ h308 n0 F309 V310 (by decide) rfl)) all0 (by decide) 0 (by decide) rfl pd___Z rfl [] rfl (Nat.le_of_eq rfl) at_256 (by decide) (by decide) ?_
          intro v311 h311 Q311
          obtain ⟨rfl, e311⟩ := Q311
          replace e311 := e311.symm
          subst e311
          refine g_istore C #[.val (.int i1), .val (.int i2), .val (.int i3), .val (.int i4), .val (.int i5), .val (.int i6), .val (.int aa), .val (.int bb), .val (.int cc), .val (.int hi), .val (.int lo), .val (.int mid), .val (.int (1 : Int32)), .val (.int (2 : Int32)), .val (.ref b183), .val (.ref b273), .val (.ref b276), .val (.int (0 : Int32)), .val (.int (if 0 < hi then 1 else 0)), .val (.int (if 0 < hi then 1 else 0))] at_259 rfl ?_
          refine g_iload C at_261 rfl ?_
          refine g_iload C at_263 rfl ?_
          refine g_icmp_f C at_265 (XT.ii_ne_f (if_neg hc287)) ?_
          refine g_iload C at_268 rfl ?_
          refine g_iload C at_270 rfl ?_
          refine g_icmp_f C at_272 (XT.ii_ne_f (if_neg hc287)) ?_
          refine g_iconst C 1 at_275 rfl ?_
          refine g_goto C 280 at_276 (by decide) (by decide) ?_
          refine g_ireturnN C (t := .boolean) rfl (by simp) at_280 (by decide) (by decide) ?_
          exact rfl
        · refine g_if_f C at_243 (XT.i0_eq_f hc305) ?_
          refine g_dconst1 C at_246 ?_
          refine g_goto C 253 at_247 (by decide) (by decide) ?_
          have V313 := (V184.keep K281 nin0)
          have V314 := (V283.keep KC286 (ninS (Nat.ne_of_lt (Nat.lt_of_lt_of_le V313.lt (Nat.le_of_eq g276.symm))) nin0))
          refine g_dastore C V314 (List.mem_of_getElem? (i := 2) rfl) at_253 ⟨by decide, by decide⟩ 0 rfl (Nat.le_of_ble_eq_true rfl) ?_
          intro h315 W315 V315
          replace V315 : Arv Z h315 b183 ka183 .double (1 : Int32) [(.double FP.dconst1)] (.double 0) := V315
          refine g_aload C at_254 rfl rfl ?_
          have F316 := (G286.other W315 (Or.inl (Ne.symm (Nat.ne_of_lt (Nat.lt_of_lt_of_le V313.lt (Nat.le_of_eq g276.symm))))))
          have V317 := (V286.other W315 (Ne.symm (Nat.ne_of_lt (Nat.lt_of_lt_of_le V283.lt le286))))
          have E319 := (X286.wr W315)
          refine g_virtual C E319 w_30 w_31 (fun hZ => nf_sel hw w_33 hZ) w_33 w_32 (by decide) [] (ct_of hw w_34 w_10 (rm_h1 l Z a0 hw b276 b286 _ (1 : Int32) hi _ h315 n0 F316 V317 (by decide) rfl)) all0 (by decide) 0 (by decide) rfl pd___Z rfl [] rfl (Nat.le_of_eq rfl) at_256 (by decide) (by decide) ?_
          intro v318 h318 Q318
          obtain ⟨rfl, e318⟩ := Q318
          replace e318 := e318.symm
          subst e318
          refine g_istore C #[.val (.int i1), .val (.int i2), .val (.int i3), .val (.int i4), .val (.int i5), .val (.int i6), .val (.int aa), .val (.int bb), .val (.int cc), .val (.int hi), .val (.int lo), .val (.int mid), .val (.int (1 : Int32)), .val (.int (2 : Int32)), .val (.ref b183), .val (.ref b273), .val (.ref b276), .val (.int (0 : Int32)), .val (.int (if 0 < hi then 1 else 0)), .val (.int (if 0 < hi then 1 else 0))] at_259 rfl ?_
          refine g_iload C at_261 rfl ?_
          refine g_iload C at_263 rfl ?_
          refine g_icmp_f C at_265 (XT.ii_ne_f (if_neg hc287)) ?_
          refine g_iload C at_268 rfl ?_
          refine g_iload C at_270 rfl ?_
          refine g_icmp_f C at_272 (XT.ii_ne_f (if_neg hc287)) ?_
          refine g_iconst C 1 at_275 rfl ?_
          refine g_goto C 280 at_276 (by decide) (by decide) ?_
          refine g_ireturnN C (t := .boolean) rfl (by simp) at_280 (by decide) (by decide) ?_
          exact rfl
    · refine g_iload C at_116 rfl ?_
      refine g_newarray C (aty := .double) w_7 at_118 (by decide) 3 (by decide) (by decide) (by decide) (by decide) "[D" rfl ?_
      intro b320 h320 ka320 g320 E320 V320 A320
      replace V320 : Arv Z h320 b320 ka320 .double (3 : Int32) [(.double 0), (.double 0), (.double 0)] (.double 0) := V320.pad (pad_rep [] _ 3)
      refine g_astore C #[.val (.int i1), .val (.int i2), .val (.int i3), .val (.int i4), .val (.int i5), .val (.int i6), .val (.int aa), .val (.int bb), .val (.int cc), .val (.int hi), .val (.int lo), .val (.int mid), .val (.int (1 : Int32)), .val (.int (3 : Int32)), .val (.ref b183), .val (.ref b320), .unset, .unset, .unset, .unset] at_120 rfl rfl ?_
      refine g_iload C at_122 rfl ?_
      refine g_iconst C 1 at_124 rfl ?_
      refine g_icmp_f C at_125 (XT.ii_lt_f (by decide)) ?_
      refine g_aload C at_128 rfl rfl ?_
      refine g_iconst C 0 at_130 rfl ?_
      refine g_iload C at_131 rfl ?_
      refine g_iconst C 5 at_133 rfl ?_
      refine g_irem C at_134 (by decide) ?_
      refine g_i2d C at_135 ?_
      refine g_dastore C V320 (List.mem_of_getElem? (i := 0) rfl) at_136 ⟨by decide, by decide⟩ 0 rfl (Nat.le_of_ble_eq_true rfl) ?_
      intro h321 W321 V321
      replace V321 : Arv Z h321 b320 ka320 .double (3 : Int32) [(.double (FP.i2d (i5 % (5 : Int32)))), (.double 0), (.double 0)] (.double 0) := V321
      refine g_iload C at_137 rfl ?_
      refine g_iconst C 2 at_139 rfl ?_
      refine g_icmp_f C at_140 (XT.ii_lt_f (by decide)) ?_
      refine g_aload C at_143 rfl rfl ?_
      refine g_iconst C 1 at_145 rfl ?_
      refine g_iload C at_146 rfl ?_
      refine g_iconst C 5 at_148 rfl ?_
      refine g_irem C at_149 (by decide) ?_
      refine g_i2d C at_150 ?_
      refine g_dastore C V321 (List.mem_of_getElem? (i := 0) rfl) at_151 ⟨by decide, by decide⟩ 1 rfl (Nat.le_of_ble_eq_true rfl) ?_
      intro h322 W322 V322
      replace V322 : Arv Z h322 b320 ka320 .double (3 : Int32) [(.double (FP.i2d (i5 % (5 : Int32)))), (.double (FP.i2d (i6 % (5 : Int32)))), (.double 0)] (.double 0) := V322
      refine g_iload C at_152 rfl ?_
      refine g_iconst C 3 at_154 rfl ?_
      refine g_icmp_f C at_155 (XT.ii_lt_f (by decide)) ?_
      refine g_aload C at_158 rfl rfl ?_
      refine g_iconst C 2 at_160 rfl ?_
      refine g_iload C at_161 rfl ?_
      refine g_iconst C 5 at_163 rfl ?_
      refine g_idiv C at_164 (by decide) ?_
      refine g_iconst C 5 at_165 rfl ?_
      refine g_irem C at_166 (by decide) ?_
      refine g_i2d C at_167 ?_
      refine g_dastore C V322 (List.mem_of_getElem? (i := 0) rfl) at_168 ⟨by decide, by decide⟩ 2 rfl (Nat.le_of_ble_eq_true rfl) ?_
      intro h323 W323 V323
      replace V323 : Arv Z h323 b320 ka320 .double (3 : Int32) [(.double (FP.i2d (i5 % (5 : Int32)))), (.double (FP.i2d (i6 % (5 : Int32)))), (.double (FP.i2d ((i5 / (5 : Int32)) % (5 : Int32))))] (.double 0) := V323
      refine g_new C w_8 w_9 w_10 at_169 (by decide) (by decide) ?_
      intro b324 h324 g324 E324 A324 D324
      refine g_dup C at_172 rfl ?_
      refine g_aload C at_173 rfl rfl ?_
      refine g_aload C at_175 rfl rfl ?_
      have K325 : Keep h323 h324 [] := (Keep.refl h323 []).ext E324
      have V326 := (V323.keep K325 nin0)
      have K327 : Keep h184 h320 [] := (Keep.refl h184 []).ext E320
      have K328 : Keep h184 h321 [] := K327.wr W321 (Or.inr (Nat.le_of_eq g320.symm))
      have K329 : Keep h184 h322 [] := K328.wr W322 (Or.inr (Nat.le_of_eq g320.symm))
      have K330 : Keep h184 h323 [] := K329.wr W323 (Or.inr (Nat.le_of_eq g320.symm))
      have K331 : Keep h184 h324 [] := K330.ext E324
      have V332 := (V184.keep K331 nin0)
      have E333 := ((((A320.wr W321).wr W322).wr W323).ext E324)
      have E334 := ((((((A183.wr W184).ext E320).wr W321).wr W322).wr W323).ext E324)
      refine g_special C (a := b324) w_11 w_12 w_13 rfl (by decide) [(.ref b320), (.ref b183)] (ct_of hw w_13 w_10 (rm_init l Z a0 hw b324 b320 b183 (3 : Int32) (1 : Int32) _ _ _ _ h324 n0 A324 (D324 (Or.inr (C.hw w_27)) (ty := (.array .double)) (by decide)) (D324 (Or.inr (C.hw w_29)) (ty := (.array .double)) (by decide)) V326 V332 E333 E334 (by decide) (by decide))) (allS (List.mem_of_getElem? (i := 0) rfl) all0) (by decide) 1 (by decide) rfl pd___D_D_V rfl [(.ref b324)] rfl (Nat.le_of_eq rfl) at_177 (by decide) (by decide) ?_
      intro v335 h335 Q335
      obtain ⟨rfl, KC335, X335, b335, le335, G335, V335⟩ := Q335
      refine g_astore C #[.val (.int i1), .val (.int i2), .val (.int i3), .val (.int i4), .val (.int i5), .val (.int i6), .val (.int aa), .val (.int bb), .val (.int cc), .val (.int hi), .val (.int lo), .val (.int mid), .val (.int (1 : Int32)), .val (.int (3 : Int32)), .val (.ref b183), .val (.ref b320), .val (.ref b324), .unset, .unset, .unset] at_180 rfl rfl ?_
      refine g_iload C at_182 rfl ?_
      refine g_iconst C 1 at_184 rfl ?_
      refine g_icmp_f C at_185 (XT.ii_lt_f (by decide)) ?_
      refine g_iload C at_188 rfl ?_
      by_cases hc336 : 0 < hi
      · refine g_if_t C 215 at_190 (XT.i0_gt_t hc336) (by decide) (by decide) ?_
        refine g_iconst C 1 at_215 rfl ?_
        refine g_goto C 220 at_216 (by decide) (by decide) ?_
        refine g_istore C #[.val (.int i1), .val (.int i2), .val (.int i3), .val (.int i4), .val (.int i5), .val (.int i6), .val (.int aa), .val (.int bb), .val (.int cc), .val (.int hi), .val (.int lo), .val (.int mid), .val (.int (1 : Int32)), .val (.int (3 : Int32)), .val (.ref b183), .val (.ref b320), .val (.ref b324), .val (.int (1 : Int32)), .unset, .unset] at_220 rfl ?_
        refine g_aload C at_222 rfl rfl ?_
        refine g_virtual C X335 w_30 w_31 (fun hZ => nf_sel hw w_33 hZ) w_33 w_32 (by decide) [] (ct_of hw w_34 w_10 (rm_h1 l Z a0 hw b324 b335 _ (1 : Int32) hi _ h335 n0 G335 V335 (by decide) rfl)) all0 (by decide) 0 (by decide) rfl pd___Z rfl [] rfl (Nat.le_of_eq rfl) at_224 (by decide) (by decide) ?_
        intro v337 h337 Q337
        obtain ⟨rfl, e337⟩ := Q337
        replace e337 := e337.symm
        subst e337
        refine g_istore C #[.val (.int i1), .val (.int i2), .val (.int i3), .val (.int i4), .val (.int i5), .val (.int i6), .val (.int aa), .val (.int bb), .val (.int cc), .val (.int hi), .val (.int lo), .val (.int mid), .val (.int (1 : Int32)), .val (.int (3 : Int32)), .val (.ref b183), .val (.ref b320), .val (.ref b324), .val (.int (1 : Int32)), .val (.int (if 0 < hi then 1 else 0)), .unset] at_227 rfl ?_
        refine g_iload C at_229 rfl ?_
        refine g_iconst C 1 at_231 rfl ?_
        refine g_icmp_f C at_232 (XT.ii_lt_f (by decide)) ?_
        refine g_aload C at_235 rfl rfl ?_
        refine g_iconst C 0 at_237 rfl ?_
        refine g_iloadN C at_238 rfl ?_
        refine g_iconst C 4 at_239 rfl ?_
        refine g_iushr C at_240 ?_
        refine g_iconst C 1 at_241 rfl ?_
        refine g_iand C at_242 ?_
        by_cases hc338 : (((i4.toUInt32 >>> ((4 : Int32) &&& 31).toUInt32).toInt32) &&& (1 : Int32)) = 0
        · refine g_if_t C 250 at_243 (XT.i0_eq_t hc338) (by decide) (by decide) ?_
          refine g_ldc2D C w_35 at_250 ?_
          have V339 := (V184.keep K330 nin0)
          have V340 := (V332.keep KC335 (ninS (Nat.ne_of_lt (Nat.lt_of_lt_of_le V339.lt (Nat.le_of_eq g324.symm))) nin0))
          refine g_dastore C V340 (List.mem_of_getElem? (i := 2) rfl) at_253 ⟨by decide, by decide⟩ 0 rfl (Nat.le_of_ble_eq_true rfl) ?_
          intro h341 W341 V341
          replace V341 : Arv Z h341 b183 ka183 .double (1 : Int32) [(.double (13830554455654793216 : UInt64))] (.double 0) := V341
          refine g_aload C at_254 rfl rfl ?_
          have F342 := (G335.other W341 (Or.inl (Ne.symm (Nat.ne_of_lt (Nat.lt_of_lt_of_le V339.lt (Nat.le_of_eq g324.symm))))))
          have V343 := (V335.other W341 (Ne.symm (Nat.ne_of_lt (Nat.lt_of_lt_of_le V332.lt le335))))
          have E345 := (X335.wr W341)
          refine g_virtual C E345 w_30 w_31 (fun hZ => nf_sel hw w_33 hZ) w_33 w_32 (by decide) [] (ct_of hw w_34 w_10 (rm_h1 l Z a0 hw b324 b335 _ (1 : Int32) hi _ h341 n0 F342 V343 (by decide) rfl)) all0 (by decide) 0 (by decide) rfl pd___Z rfl [] rfl (Nat.le_of_eq rfl) at_256 (by decide) (by decide) ?_
          intro v344 h344 Q344
          obtain ⟨rfl, e344⟩ := Q344
          replace e344 := e344.symm
          subst e344
          refine g_istore C #[.val (.int i1), .val (.int i2), .val (.int i3), .val (.int i4), .val (.int i5), .val (.int i6), .val (.int aa), .val (.int bb), .val (.int cc), .val (.int hi), .val (.int lo), .val (.int mid), .val (.int (1 : Int32)), .val (.int (3 : Int32)), .val (.ref b183), .val (.ref b320), .val (.ref b324), .val (.int (1 : Int32)), .val (.int (if 0 < hi then 1 else 0)), .val (.int (if 0 < hi then 1 else 0))] at_259 rfl ?_
          refine g_iload C at_261 rfl ?_
          refine g_iload C at_263 rfl ?_
          refine g_icmp_f C at_265 (XT.ii_ne_f (if_pos hc336)) ?_
          refine g_iload C at_268 rfl ?_
          refine g_iload C at_270 rfl ?_
          refine g_icmp_f C at_272 (XT.ii_ne_f (if_pos hc336)) ?_
          refine g_iconst C 1 at_275 rfl ?_
          refine g_goto C 280 at_276 (by decide) (by decide) ?_
          refine g_ireturnN C (t := .boolean) rfl (by simp) at_280 (by decide) (by decide) ?_
          exact rfl
        · refine g_if_f C at_243 (XT.i0_eq_f hc338) ?_
          refine g_dconst1 C at_246 ?_
          refine g_goto C 253 at_247 (by decide) (by decide) ?_
          have V346 := (V184.keep K330 nin0)
          have V347 := (V332.keep KC335 (ninS (Nat.ne_of_lt (Nat.lt_of_lt_of_le V346.lt (Nat.le_of_eq g324.symm))) nin0))
          refine g_dastore C V347 (List.mem_of_getElem? (i := 2) rfl) at_253 ⟨by decide, by decide⟩ 0 rfl (Nat.le_of_ble_eq_true rfl) ?_
          intro h348 W348 V348
          replace V348 : Arv Z h348 b183 ka183 .double (1 : Int32) [(.double FP.dconst1)] (.double 0) := V348
          refine g_aload C at_254 rfl rfl ?_
          have F349 := (G335.other W348 (Or.inl (Ne.symm (Nat.ne_of_lt (Nat.lt_of_lt_of_le V346.lt (Nat.le_of_eq g324.symm))))))
          have V350 := (V335.other W348 (Ne.symm (Nat.ne_of_lt (Nat.lt_of_lt_of_le V332.lt le335))))
          have E352 := (X335.wr W348)
          refine g_virtual C E352 w_30 w_31 (fun hZ => nf_sel hw w_33 hZ) w_33 w_32 (by decide) [] (ct_of hw w_34 w_10 (rm_h1 l Z a0 hw b324 b335 _ (1 : Int32) hi _ h348 n0 F349 V350 (by decide) rfl)) all0 (by decide) 0 (by decide) rfl pd___Z rfl [] rfl (Nat.le_of_eq rfl) at_256 (by decide) (by decide) ?_
          intro v351 h351 Q351
          obtain ⟨rfl, e351⟩ := Q351
          replace e351 := e351.symm
          subst e351
          refine g_istore C #[.val (.int i1), .val (.int i2), .val (.int i3), .val (.int i4), .val (.int i5), .val (.int i6), .val (.int aa), .val (.int bb), .val (.int cc), .val (.int hi), .val (.int lo), .val (.int mid), .val (.int (1 : Int32)), .val (.int (3 : Int32)), .val (.ref b183), .val (.ref b320), .val (.ref b324), .val (.int (1 : Int32)), .val (.int (if 0 < hi then 1 else 0)), .val (.int (if 0 < hi then 1 else 0))] at_259 rfl ?_
          refine g_iload C at_261 rfl ?_
          refine g_iload C at_263 rfl ?_
          refine g_icmp_f C at_265 (XT.ii_ne_f (if_pos hc336)) ?_
          refine g_iload C at_268 rfl ?_
          refine g_iload C at_270 rfl ?_
          refine g_icmp_f C at_272 (XT.ii_ne_f (if_pos hc336)) ?_
          refine g_iconst C 1 at_275 rfl ?_
          refine g_goto C 280 at_276 (by decide) (by decide) ?_
          refine g_ireturnN C (t := .boolean) rfl (by simp) at_280 (by decide) (by decide) ?_
          exact rfl
      · refine g_if_f C at_190 (XT.i0_gt_f hc336) ?_
        refine g_iload C at_193 rfl ?_
        refine g_iconst C 2 at_195 rfl ?_
        refine g_icmp_t C 204 at_196 (XT.ii_lt_t (by decide)) (by decide) (by decide) ?_
        refine g_iload C at_204 rfl ?_
        refine g_iconst C 3 at_206 rfl ?_
        refine g_icmp_t C 219 at_207 (XT.ii_lt_t (by decide)) (by decide) (by decide) ?_
        refine g_iconst C 0 at_219 rfl ?_
        refine g_istore C #[.val (.int i1), .val (.int i2), .val (.int i3), .val (.int i4), .val (.int i5), .val (.int i6), .val (.int aa), .val (.int bb), .val (.int cc), .val (.int hi), .val (.int lo), .val (.int mid), .val (.int (1 : Int32)), .val (.int (3 : Int32)), .val (.ref b183), .val (.ref b320), .val (.ref b324), .val (.int (0 : Int32)), .unset, .unset] at_220 rfl ?_
        refine g_aload C at_222 rfl rfl ?_
        refine g_virtual C X335 w_30 w_31 (fun hZ => nf_sel hw w_33 hZ) w_33 w_32 (by decide) [] (ct_of hw w_34 w_10 (rm_h1 l Z a0 hw b324 b335 _ (1 : Int32) hi _ h335 n0 G335 V335 (by decide) rfl)) all0 (by decide) 0 (by decide) rfl pd___Z rfl [] rfl (Nat.le_of_eq rfl) at_224 (by decide) (by decide) ?_
        intro v353 h353 Q353
        obtain ⟨rfl, e353⟩ := Q353
        replace e353 := e353.symm
        subst e353
        refine g_istore C #[.val (.int i1), .val (.int i2), .val (.int i3), .val (.int i4), .val (.int i5), .val (.int i6), .val (.int aa), .val (.int bb), .val (.int cc), .val (.int hi), .val (.int lo), .val (.int mid), .val (.int (1 : Int32)), .val (.int (3 : Int32)), .val (.ref b183), .val (.ref b320), .val (.ref b324), .val (.int (0 : Int32)), .val (.int (if 0 < hi then 1 else 0)), .unset] at_227 rfl ?_
        refine g_iload C at_229 rfl ?_
        refine g_iconst C 1 at_231 rfl ?_
        refine g_icmp_f C at_232 (XT.ii_lt_f (by decide)) ?_
        refine g_aload C at_235 rfl rfl ?_
        refine g_iconst C 0 at_237 rfl ?_
        refine g_iloadN C at_238 rfl ?_
        refine g_iconst C 4 at_239 rfl ?_
        refine g_iushr C at_240 ?_
        refine g_iconst C 1 at_241 rfl ?_
        refine g_iand C at_242 ?_
        by_cases hc354 : (((i4.toUInt32 >>> ((4 : Int32) &&& 31).toUInt32).toInt32) &&& (1 : Int32)) = 0
        · refine g_if_t C 250 at_243 (XT.i0_eq_t hc354) (by decide) (by decide) ?_
          refine g_ldc2D C w_35 at_250 ?_
          have V355 := (V184.keep K330 nin0)
          have V356 := (V332.keep KC335 (ninS (Nat.ne_of_lt (Nat.lt_of_lt_of_le V355.lt (Nat.le_of_eq g324.symm))) nin0))
          refine g_dastore C V356 (List.mem_of_getElem? (i := 2) rfl) at_253 ⟨by decide, by decide⟩ 0 rfl (Nat.le_of_ble_eq_true rfl) ?_
          intro h357 W357 V357
          replace V357 : Arv Z h357 b183 ka183 .double (1 : Int32) [(.double (13830554455654793216 : UInt64))] (.double 0) := V357
          refine g_aload C at_254 rfl rfl ?_
          have F358 := (G335.other W357 (Or.inl (Ne.symm (Nat.ne_of_lt (Nat.lt_of_lt_of_le V355.lt (Nat.le_of_eq g324.symm))))))
          have V359 := (V335.other W357 (Ne.symm (Nat.ne_of_lt (Nat.lt_of_lt_of_le V332.lt le335))))
          have E361 := (X335.wr W357)
          refine g_virtual C E361 w_30 w_31 (fun hZ => nf_sel hw w_33 hZ) w_33 w_32 (by decide) [] (ct_of hw w_34 w_10 (rm_h1 l Z a0 hw b324 b335 _ (1 : Int32) hi _ h357 n0 F358 V359 (by decide) rfl)) all0 (by decide) 0 (by decide) rfl pd___Z rfl [] rfl (Nat.le_of_eq rfl) at_256 (by decide) (by decide) ?_
          intro v360 h360 Q360
          obtain ⟨rfl, e360⟩ := Q360
          replace e360 := e360.symm
          subst e360
          refine g_istore C #[.val (.int i1), .val (.int i2), .val (.int i3), .val (.int i4), .val (.int i5), .val (.int i6), .val (.int aa), .val (.int bb), .val (.int cc), .val (.int hi), .val (.int lo), .val (.int mid), .val (.int (1 : Int32)), .val (.int (3 : Int32)), .val (.ref b183), .val (.ref b320), .val (.ref b324), .val (.int (0 : Int32)), .val (.int (if 0 < hi then 1 else 0)), .val (.int (if 0 < hi then 1 else 0))] at_259 rfl ?_
          refine g_iload C at_261 rfl ?_
          refine g_iload C at_263 rfl ?_
          refine g_icmp_f C at_265 (XT.ii_ne_f (if_neg hc336)) ?_
          refine g_iload C at_268 rfl ?_
          refine g_iload C at_270 rfl ?_
          refine g_icmp_f C at_272 (XT.ii_ne_f (if_neg hc336)) ?_
          refine g_iconst C 1 at_275 rfl ?_
          refine g_goto C 280 at_276 (by decide) (by decide) ?_
          refine g_ireturnN C (t := .boolean) rfl (by simp) at_280 (by decide) (by decide) ?_
          exact rfl
        · refine g_if_f C at_243 (XT.i0_eq_f hc354) ?_
          refine g_dconst1 C at_246 ?_
          refine g_goto C 253 at_247 (by decide) (by decide) ?_
          have V362 := (V184.keep K330 nin0)
          have V363 := (V332.keep KC335 (ninS (Nat.ne_of_lt (Nat.lt_of_lt_of_le V362.lt (Nat.le_of_eq g324.symm))) nin0))
          refine g_dastore C V363 (List.mem_of_getElem? (i := 2) rfl) at_253 ⟨by decide, by decide⟩ 0 rfl (Nat.le_of_ble_eq_true rfl) ?_
          intro h364 W364 V364
          replace V364 : Arv Z h364 b183 ka183 .double (1 : Int32) [(.double FP.dconst1)] (.double 0) := V364
          refine g_aload C at_254 rfl rfl ?_
          have F365 := (G335.other W364 (Or.inl (Ne.symm (Nat.ne_of_lt (Nat.lt_of_lt_of_le V362.lt (Nat.le_of_eq g324.symm))))))
          have V366 := (V335.other W364 (Ne.symm (Nat.ne_of_lt (Nat.lt_of_lt_of_le V332.lt le335))))
          have E368 := (X335.wr W364)
          refine g_virtual C E368 w_30 w_31 (fun hZ => nf_sel hw w_33 hZ) w_33 w_32 (by decide) [] (ct_of hw w_34 w_10 (rm_h1 l Z a0 hw b324 b335 _ (1 : Int32) hi _ h364 n0 F365 V366 (by decide) rfl)) all0 (by decide) 0 (by decide) rfl pd___Z rfl [] rfl (Nat.le_of_eq rfl) at_256 (by decide) (by decide) ?_
          intro v367 h367 Q367
          obtain ⟨rfl, e367⟩ := Q367
          replace e367 := e367.symm
          subst e367
          refine g_istore C #[.val (.int i1), .val (.int i2), .val (.int i3), .val (.int i4), .val (.int i5), .val (.int i6), .val (.int aa), .val (.int bb), .val (.int cc), .val (.int hi), .val (.int lo), .val (.int mid), .val (.int (1 : Int32)), .val (.int (3 : Int32)), .val (.ref b183), .val (.ref b320), .val (.ref b324), .val (.int (0 : Int32)), .val (.int (if 0 < hi then 1 else 0)), .val (.int (if 0 < hi then 1 else 0))] at_259 rfl ?_
          refine g_iload C at_261 rfl ?_
          refine g_iload C at_263 rfl ?_
          refine g_icmp_f C at_265 (XT.ii_ne_f (if_neg hc336)) ?_
          refine g_iload C at_268 rfl ?_
          refine g_iload C at_270 rfl ?_
          refine g_icmp_f C at_272 (XT.ii_ne_f (if_neg hc336)) ?_
          refine g_iconst C 1 at_275 rfl ?_
          refine g_goto C 280 at_276 (by decide) (by decide) ?_
          refine g_ireturnN C (t := .boolean) rfl (by simp) at_280 (by decide) (by decide) ?_
          exact rfl
  · refine g_iload C at_71 rfl ?_
    refine g_newarray C (aty := .double) w_7 at_73 (by decide) 2 (by decide) (by decide) (by decide) (by decide) "[D" rfl ?_
    intro b369 h369 ka369 g369 E369 V369 A369
    replace V369 : Arv Z h369 b369 ka369 .double (2 : Int32) [(.double 0), (.double 0)] (.double 0) := V369.pad (pad_rep [] _ 2)
    refine g_astore C #[.val (.int i1), .val (.int i2), .val (.int i3), .val (.int i4), .val (.int i5), .val (.int i6), .val (.int aa), .val (.int bb), .val (.int cc), .val (.int hi), .val (.int lo), .val (.int mid), .val (.int (2 : Int32)), .val (.int (((i4.toUInt32 >>> ((2 : Int32) &&& 31).toUInt32).toInt32) &&& (3 : Int32))), .val (.ref b369), .unset, .unset, .unset, .unset, .unset] at_75 rfl rfl ?_
    refine g_iload C at_77 rfl ?_
    refine g_iconst C 1 at_79 rfl ?_
    refine g_icmp_f C at_80 (XT.ii_lt_f (by decide)) ?_
    refine g_aload C at_83 rfl rfl ?_
    refine g_iconst C 0 at_85 rfl ?_
    refine g_iload C at_86 rfl ?_
    refine g_i2d C at_88 ?_
    refine g_dastore C V369 (List.mem_of_getElem? (i := 0) rfl) at_89 ⟨by decide, by decide⟩ 0 rfl (Nat.le_of_ble_eq_true rfl) ?_
    intro h370 W370 V370
    replace V370 : Arv Z h370 b369 ka369 .double (2 : Int32) [(.double (FP.i2d hi)), (.double 0)] (.double 0) := V370
    refine g_iload C at_90 rfl ?_
    refine g_iconst C 2 at_92 rfl ?_
    refine g_icmp_f C at_93 (XT.ii_lt_f (by decide)) ?_
    refine g_aload C at_96 rfl rfl ?_
    refine g_iconst C 1 at_98 rfl ?_
    refine g_iload C at_99 rfl ?_
    refine g_i2d C at_101 ?_
    refine g_dastore C V370 (List.mem_of_getElem? (i := 0) rfl) at_102 ⟨by decide, by decide⟩ 1 rfl (Nat.le_of_ble_eq_true rfl) ?_
    intro h371 W371 V371
    replace V371 : Arv Z h371 b369 ka369 .double (2 : Int32) [(.double (FP.i2d hi)), (.double (FP.i2d mid))] (.double 0) := V371
    refine g_iload C at_103 rfl ?_
    refine g_iconst C 3 at_105 rfl ?_
    refine g_icmp_t C 116 at_106 (XT.ii_lt_t (by decide)) (by decide) (by decide) ?_
    obtain ⟨n13, e_n13, h_n13⟩ : ∃ z : Int32, (((i4.toUInt32 >>> ((2 : Int32) &&& 31).toUInt32).toInt32) &&& (3 : Int32)) = z ∧ (z = 0 ∨ z = 1 ∨ z = 2 ∨ z = 3) := ⟨_, rfl, own_and3 _⟩
    rw [e_n13]
    rcases h_n13 with rfl | rfl | rfl | rfl
    · refine g_iload C at_116 rfl ?_
      refine g_newarray C (aty := .double) w_7 at_118 (by decide) 0 (by decide) (by decide) (by decide) (by decide) "[D" rfl ?_
      intro b372 h372 ka372 g372 E372 V372 A372
      replace V372 : Arv Z h372 b372 ka372 .double (0 : Int32) [] (.double 0) := V372.pad (pad_rep [] _ 0)
      refine g_astore C #[.val (.int i1), .val (.int i2), .val (.int i3), .val (.int i4), .val (.int i5), .val (.int i6), .val (.int aa), .val (.int bb), .val (.int cc), .val (.int hi), .val (.int lo), .val (.int mid), .val (.int (2 : Int32)), .val (.int (0 : Int32)), .val (.ref b369), .val (.ref b372), .unset, .unset, .unset, .unset] at_120 rfl rfl ?_
      refine g_iload C at_122 rfl ?_
      refine g_iconst C 1 at_124 rfl ?_
      refine g_icmp_t C 137 at_125 (XT.ii_lt_t (by decide)) (by decide) (by decide) ?_
      refine g_iload C at_137 rfl ?_
      refine g_iconst C 2 at_139 rfl ?_
      refine g_icmp_t C 152 at_140 (XT.ii_lt_t (by decide)) (by decide) (by decide) ?_
      refine g_iload C at_152 rfl ?_
      refine g_iconst C 3 at_154 rfl ?_
      refine g_icmp_t C 169 at_155 (XT.ii_lt_t (by decide)) (by decide) (by decide) ?_
      refine g_new C w_8 w_9 w_10 at_169 (by decide) (by decide) ?_
      intro b373 h373 g373 E373 A373 D373
      refine g_dup C at_172 rfl ?_
      refine g_aload C at_173 rfl rfl ?_
      refine g_aload C at_175 rfl rfl ?_
      have K374 : Keep h372 h373 [] := (Keep.refl h372 []).ext E373
      have V375 := (V372.keep K374 nin0)
      have K376 : Keep h371 h372 [] := (Keep.refl h371 []).ext E372
      have K377 : Keep h371 h373 [] := K376.ext E373
      have V378 := (V371.keep K377 nin0)
      have E379 := (A372.keep K374)
      have E380 := ((((A369.wr W370).wr W371).ext E372).ext E373)
      refine g_special C (a := b373) w_11 w_12 w_13 rfl (by decide) [(.ref b372), (.ref b369)] (ct_of hw w_13 w_10 (rm_init l Z a0 hw b373 b372 b369 (0 : Int32) (2 : Int32) _ _ _ _ h373 n0 A373 (D373 (Or.inr (C.hw w_27)) (ty := (.array .double)) (by decide)) (D373 (Or.inr (C.hw w_29)) (ty := (.array .double)) (by decide)) V375 V378 E379 E380 (by decide) (by decide))) (allS (List.mem_of_getElem? (i := 0) rfl) all0) (by decide) 1 (by decide) rfl pd___D_D_V rfl [(.ref b373)] rfl (Nat.le_of_eq rfl) at_177 (by decide) (by decide) ?_
      intro v381 h381 Q381
      obtain ⟨rfl, KC381, X381, b381, le381, G381, V381⟩ := Q381
      refine g_astore C #[.val (.int i1), .val (.int i2), .val (.int i3), .val (.int i4), .val (.int i5), .val (.int i6), .val (.int aa), .val (.int bb), .val (.int cc), .val (.int hi), .val (.int lo), .val (.int mid), .val (.int (2 : Int32)), .val (.int (0 : Int32)), .val (.ref b369), .val (.ref b372), .val (.ref b373), .unset, .unset, .unset] at_180 rfl rfl ?_
      refine g_iload C at_182 rfl ?_
      refine g_iconst C 1 at_184 rfl ?_
      refine g_icmp_f C at_185 (XT.ii_lt_f (by decide)) ?_
      refine g_iload C at_188 rfl ?_
      by_cases hc382 : 0 < hi
      · refine g_if_t C 215 at_190 (XT.i0_gt_t hc382) (by decide) (by decide) ?_
        refine g_iconst C 1 at_215 rfl ?_
        refine g_goto C 220 at_216 (by decide) (by decide) ?_
        refine g_istore C #[.val (.int i1), .val (.int i2), .val (.int i3), .val (.int i4), .val (.int i5), .val (.int i6), .val (.int aa), .val (.int bb), .val (.int cc), .val (.int hi), .val (.int lo), .val (.int mid), .val (.int (2 : Int32)), .val (.int (0 : Int32)), .val (.ref b369), .val (.ref b372), .val (.ref b373), .val (.int (1 : Int32)), .unset, .unset] at_220 rfl ?_
        refine g_aload C at_222 rfl rfl ?_
        refine g_virtual C X381 w_30 w_31 (fun hZ => nf_sel hw w_33 hZ) w_33 w_32 (by decide) [] (ct_of hw w_34 w_10 (rm_h1 l Z a0 hw b373 b381 _ (2 : Int32) hi _ h381 n0 G381 V381 (by decide) rfl)) all0 (by decide) 0 (by decide) rfl pd___Z rfl [] rfl (Nat.le_of_eq rfl) at_224 (by decide) (by decide) ?_
        intro v383 h383 Q383
        obtain ⟨rfl, e383⟩ := Q383
        replace e383 := e383.symm
        subst e383
        refine g_istore C #[.val (.int i1), .val (.int i2), .val (.int i3), .val (.int i4), .val (.int i5), .val (.int i6), .val (.int aa), .val (.int bb), .val (.int cc), .val (.int hi), .val (.int lo), .val (.int mid), .val (.int (2 : Int32)), .val (.int (0 : Int32)), .val (.ref b369), .val (.ref b372), .val (.ref b373), .val (.int (1 : Int32)), .val (.int (if 0 < hi then 1 else 0)), .unset] at_227 rfl ?_
        refine g_iload C at_229 rfl ?_
        refine g_iconst C 1 at_231 rfl ?_
        refine g_icmp_f C at_232 (XT.ii_lt_f (by decide)) ?_
        refine g_aload C at_235 rfl rfl ?_
        refine g_iconst C 0 at_237 rfl ?_
        refine g_iloadN C at_238 rfl ?_
        refine g_iconst C 4 at_239 rfl ?_
        refine g_iushr C at_240 ?_
        refine g_iconst C 1 at_241 rfl ?_
        refine g_iand C at_242 ?_
        by_cases hc384 : (((i4.toUInt32 >>> ((4 : Int32) &&& 31).toUInt32).toInt32) &&& (1 : Int32)) = 0
        · refine g_if_t C 250 at_243 (XT.i0_eq_t hc384) (by decide) (by decide) ?_
          refine g_ldc2D C w_35 at_250 ?_
          have V385 := (V371.keep K376 nin0)
          have V386 := (V378.keep KC381 (ninS (Nat.ne_of_lt (Nat.lt_of_lt_of_le V385.lt (Nat.le_of_eq g373.symm))) nin0))
          refine g_dastore C V386 (List.mem_of_getElem? (i := 2) rfl) at_253 ⟨by decide, by decide⟩ 0 rfl (Nat.le_of_ble_eq_true rfl) ?_
          intro h387 W387 V387
          replace V387 : Arv Z h387 b369 ka369 .double (2 : Int32) [(.double (13830554455654793216 : UInt64)), (.double (FP.i2d mid))] (.double 0) := V387
          refine g_aload C at_254 rfl rfl ?_
          have F388 := (G381.other W387 (Or.inl (Ne.symm (Nat.ne_of_lt (Nat.lt_of_lt_of_le V385.lt (Nat.le_of_eq g373.symm))))))
          have V389 := (V381.other W387 (Ne.symm (Nat.ne_of_lt (Nat.lt_of_lt_of_le V378.lt le381))))
          have E391 := (X381.wr W387)
          refine g_virtual C E391 w_30 w_31 (fun hZ => nf_sel hw w_33 hZ) w_33 w_32 (by decide) [] (ct_of hw w_34 w_10 (rm_h1 l Z a0 hw b373 b381 _ (2 : Int32) hi _ h387 n0 F388 V389 (by decide) rfl)) all0 (by decide) 0 (by decide) rfl pd___Z rfl [] rfl (Nat.le_of_eq rfl) at_256 (by decide) (by decide) ?_
          intro v390 h390 Q390
          obtain ⟨rfl, e390⟩ := Q390
          replace e390 := e390.symm
          subst e390
          refine g_istore C #[.val (.int i1), .val (.int i2), .val (.int i3), .val (.int i4), .val (.int i5), .val (.int i6), .val (.int aa), .val (.int bb), .val (.int cc), .val (.int hi), .val (.int lo), .val (.int mid), .val (.int (2 : Int32)), .val (.int (0 : Int32)), .val (.ref b369), .val (.ref b372), .val (.ref b373), .val (.int (1 : Int32)), .val (.int (if 0 < hi then 1 else 0)), .val (.int (if 0 < hi then 1 else 0))] at_259 rfl ?_
          refine g_iload C at_261 rfl ?_
          refine g_iload C at_263 rfl ?_
          refine g_icmp_f C at_265 (XT.ii_ne_f (if_pos hc382)) ?_
          refine g_iload C at_268 rfl ?_
          refine g_iload C at_270 rfl ?_
          refine g_icmp_f C at_272 (XT.ii_ne_f (if_pos hc382)) ?_
          refine g_iconst C 1 at_275 rfl ?_
          refine g_goto C 280 at_276 (by decide) (by decide) ?_
          refine g_ireturnN C (t := .boolean) rfl (by simp) at_280 (by decide) (by decide) ?_
          exact rfl
        · refine g_if_f C at_243 (XT.i0_eq_f hc384) ?_
          refine g_dconst1 C at_246 ?_
          refine g_goto C 253 at_247 (by decide) (by decide) ?_
          have V392 := (V371.keep K376 nin0)
          have V393 := (V378.keep KC381 (ninS (Nat.ne_of_lt (Nat.lt_of_lt_of_le V392.lt (Nat.le_of_eq g373.symm))) nin0))
          refine g_dastore C V393 (List.mem_of_getElem? (i := 2) rfl) at_253 ⟨by decide, by decide⟩ 0 rfl (Nat.le_of_ble_eq_true rfl) ?_
          intro h394 W394 V394
          replace V394 : Arv Z h394 b369 ka369 .double (2 : Int32) [(.double FP.dconst1), (.double (FP.i2d mid))] (.double 0) := V394
          refine g_aload C at_254 rfl rfl ?_
          have F395 := (G381.other W394 (Or.inl (Ne.symm (Nat.ne_of_lt (Nat.lt_of_lt_of_le V392.lt (Nat.le_of_eq g373.symm))))))
          have V396 := (V381.other W394 (Ne.symm (Nat.ne_of_lt (Nat.lt_of_lt_of_le V378.lt le381))))
          have E398 := (X381.wr W394)
          refine g_virtual C E398 w_30 w_31 (fun hZ => nf_sel hw w_33 hZ) w_33 w_32 (by decide) [] (ct_of hw w_34 w_10 (rm_h1 l Z a0 hw b373 b381 _ (2 : Int32) hi _ h394 n0 F395 V396 (by decide) rfl)) all0 (by decide) 0 (by decide) rfl pd___Z rfl [] rfl (Nat.le_of_eq rfl) at_256 (by decide) (by decide) ?_
          intro v397 h397 Q397
          obtain ⟨rfl, e397⟩ := Q397
          replace e397 := e397.symm
          subst e397
          refine g_istore C #[.val (.int i1), .val (.int i2), .val (.int i3), .val (.int i4), .val (.int i5), .val (.int i6), .val (.int aa), .val (.int bb), .val (.int cc), .val (.int hi), .val (.int lo), .val (.int mid), .val (.int (2 : Int32)), .val (.int (0 : Int32)), .val (.ref b369), .val (.ref b372), .val (.ref b373), .val (.int (1 : Int32)), .val (.int (if 0 < hi then 1 else 0)), .val (.int (if 0 < hi then 1 else 0))] at_259 rfl ?_
          refine g_iload C at_261 rfl ?_
          refine g_iload C at_263 rfl ?_
          refine g_icmp_f C at_265 (XT.ii_ne_f (if_pos hc382)) ?_
          refine g_iload C at_268 rfl ?_
          refine g_iload C at_270 rfl ?_
          refine g_icmp_f C at_272 (XT.ii_ne_f (if_pos hc382)) ?_
          refine g_iconst C 1 at_275 rfl ?_
          refine g_goto C 280 at_276 (by decide) (by decide) ?_
          refine g_ireturnN C (t := .boolean) rfl (by simp) at_280 (by decide) (by decide) ?_
          exact rfl
      · refine g_if_f C at_190 (XT.i0_gt_f hc382) ?_
        refine g_iload C at_193 rfl ?_
        refine g_iconst C 2 at_195 rfl ?_
        refine g_icmp_f C at_196 (XT.ii_lt_f (by decide)) ?_
        refine g_iload C at_199 rfl ?_
        refine g_if_f C at_201 (XT.i0_gt_f (hmed hc382).1) ?_
        refine g_iload C at_204 rfl ?_
        refine g_iconst C 3 at_206 rfl ?_
        refine g_icmp_t C 219 at_207 (XT.ii_lt_t (by decide)) (by decide) (by decide) ?_
        refine g_iconst C 0 at_219 rfl ?_
        refine g_istore C #[.val (.int i1), .val (.int i2), .val (.int i3), .val (.int i4), .val (.int i5), .val (.int i6), .val (.int aa), .val (.int bb), .val (.int cc), .val (.int hi), .val (.int lo), .val (.int mid), .val (.int (2 : Int32)), .val (.int (0 : Int32)), .val (.ref b369), .val (.ref b372), .val (.ref b373), .val (.int (0 : Int32)), .unset, .unset] at_220 rfl ?_
        refine g_aload C at_222 rfl rfl ?_
        refine g_virtual C X381 w_30 w_31 (fun hZ => nf_sel hw w_33 hZ) w_33 w_32 (by decide) [] (ct_of hw w_34 w_10 (rm_h1 l Z a0 hw b373 b381 _ (2 : Int32) hi _ h381 n0 G381 V381 (by decide) rfl)) all0 (by decide) 0 (by decide) rfl pd___Z rfl [] rfl (Nat.le_of_eq rfl) at_224 (by decide) (by decide) ?_
        intro v399 h399 Q399
        obtain ⟨rfl, e399⟩ := Q399
        replace e399 := e399.symm
        subst e399
        refine g_istore C #[.val (.int i1), .val (.int i2), .val (.int i3), .val (.int i4), .val (.int i5), .val (.int i6), .val (.int aa), .val (.int bb), .val (.int cc), .val (.int hi), .val (.int lo), .val (.int mid), .val (.int (2 : Int32)), .val (.int (0 : Int32)), .val (.ref b369), .val (.ref b372), .val (.ref b373), .val (.int (0 : Int32)), .val (.int (if 0 < hi then 1 else 0)), .unset] at_227 rfl ?_
        refine g_iload C at_229 rfl ?_
        refine g_iconst C 1 at_231 rfl ?_
        refine g_icmp_f C at_232 (XT.ii_lt_f (by decide)) ?_
        refine g_aload C at_235 rfl rfl ?_
        refine g_iconst C 0 at_237 rfl ?_
        refine g_iloadN C at_238 rfl ?_
        refine g_iconst C 4 at_239 rfl ?_
        refine g_iushr C at_240 ?_
        refine g_iconst C 1 at_241 rfl ?_
        refine g_iand C at_242 ?_
        by_cases hc400 : (((i4.toUInt32 >>> ((4 : Int32) &&& 31).toUInt32).toInt32) &&& (1 : Int32)) = 0
        · refine g_if_t C 250 at_243 (XT.i0_eq_t hc400) (by decide) (by decide) ?_
          refine g_ldc2D C w_35 at_250 ?_
          have V401 := (V371.keep K376 nin0)
          have V402 := (V378.keep KC381 (ninS (Nat.ne_of_lt (Nat.lt_of_lt_of_le V401.lt (Nat.le_of_eq g373.symm))) nin0))
          refine g_dastore C V402 (List.mem_of_getElem? (i := 2) rfl) at_253 ⟨by decide, by decide⟩ 0 rfl (Nat.le_of_ble_eq_true rfl) ?_
          intro h403 W403 V403
          replace V403 : Arv Z h403 b369 ka369 .double (2 : Int32) [(.double (13830554455654793216 : UInt64)), (.double (FP.i2d mid))] (.double 0) := V403
          refine g_aload C at_254 rfl rfl ?_
          have F404 := (G381.other W403 (Or.inl (Ne.symm (Nat.ne_of_lt (Nat.lt_of_lt_of_le V401.lt (Nat.le_of_eq g373.symm))))))
          have V405 := (V381.other W403 (Ne.symm (Nat.ne_of_lt (Nat.lt_of_lt_of_le V378.lt le381))))
          have E407 := (X381.wr W403)
          refine g_virtual C E407 w_30 w_31 (fun hZ => nf_sel hw w_33 hZ) w_33 w_32 (by decide) [] (ct_of hw w_34 w_10 (rm_h1 l Z a0 hw b373 b381 _ (2 : Int32) hi _ h403 n0 F404 V405 (by decide) rfl)) all0 (by decide) 0 (by decide) rfl pd___Z rfl [] rfl (Nat.le_of_eq rfl) at_256 (by decide) (by decide) ?_
          intro v406 h406 Q406
          obtain ⟨rfl, e406⟩ := Q406
          replace e406 := e406.symm
          subst e406
          refine g_istore C #[.val (.int i1), .val (.int i2), .val (.int i3), .val (.int i4), .val (.int i5), .val (.int i6), .val (.int aa), .val (.int bb), .val (.int cc), .val (.int hi), .val (.int lo), .val (.int mid), .val (.int (2 : Int32)), .val (.int (0 : Int32)), .val (.ref b369), .val (.ref b372), .val (.ref b373), .val (.int (0 : Int32)), .val (.int (if 0 < hi then 1 else 0)), .val (.int (if 0 < hi then 1 else 0))] at_259 rfl ?_
          refine g_iload C at_261 rfl ?_
          refine g_iload C at_263 rfl ?_
          refine g_icmp_f C at_265 (XT.ii_ne_f (if_neg hc382)) ?_
          refine g_iload C at_268 rfl ?_
          refine g_iload C at_270 rfl ?_
          refine g_icmp_f C at_272 (XT.ii_ne_f (if_neg hc382)) ?_
          refine g_iconst C 1 at_275 rfl ?_
          refine g_goto C 280 at_276 (by decide) (by decide) ?_
          refine g_ireturnN C (t := .boolean) rfl (by simp) at_280 (by decide) (by decide) ?_
          exact rfl
        · refine g_if_f C at_243 (XT.i0_eq_f hc400) ?_
          refine g_dconst1 C at_246 ?_
          refine g_goto C 253 at_247 (by decide) (by decide) ?_
          have V408 := (V371.keep K376 nin0)
          have V409 := (V378.keep KC381 (ninS (Nat.ne_of_lt (Nat.lt_of_lt_of_le V408.lt (Nat.le_of_eq g373.symm))) nin0))
          refine g_dastore C V409 (List.mem_of_getElem? (i := 2) rfl) at_253 ⟨by decide, by decide⟩ 0 rfl (Nat.le_of_ble_eq_true rfl) ?_
          intro h410 W410 V410
          replace V410 : Arv Z h410 b369 ka369 .double (2 : Int32) [(.double FP.dconst1), (.double (FP.i2d mid))] (.double 0) := V410
          refine g_aload C at_254 rfl rfl ?_
          have F411 := (G381.other W410 (Or.inl (Ne.symm (Nat.ne_of_lt (Nat.lt_of_lt_of_le V408.lt (Nat.le_of_eq g373.symm))))))
          have V412 := (V381.other W410 (Ne.symm (Nat.ne_of_lt (Nat.lt_of_lt_of_le V378.lt le381))))
          have E414 := (X381.wr W410)
          refine g_virtual C E414 w_30 w_31 (fun hZ => nf_sel hw w_33 hZ) w_33 w_32 (by decide) [] (ct_of hw w_34 w_10 (rm_h1 l Z a0 hw b373 b381 _ (2 : Int32) hi _ h410 n0 F411 V412 (by decide) rfl)) all0 (by decide) 0 (by decide) rfl pd___Z rfl [] rfl (Nat.le_of_eq rfl) at_256 (by decide) (by decide) ?_
          intro v413 h413 Q413
          obtain ⟨rfl, e413⟩ := Q413
          replace e413 := e413.symm
          subst e413
          refine g_istore C #[.val (.int i1), .val (.int i2), .val (.int i3), .val (.int i4), .val (.int i5), .val (.int i6), .val (.int aa), .val (.int bb), .val (.int cc), .val (.int hi), .val (.int lo), .val (.int mid), .val (.int (2 : Int32)), .val (.int (0 : Int32)), .val (.ref b369), .val (.ref b372), .val (.ref b373), .val (.int (0 : Int32)), .val (.int (if 0 < hi then 1 else 0)), .val (.int (if 0 < hi then 1 else 0))] at_259 rfl ?_
          refine g_iload C at_261 rfl ?_
          refine g_iload C at_263 rfl ?_
          refine g_icmp_f C at_265 (XT.ii_ne_f (if_neg hc382)) ?_
          refine g_iload C at_268 rfl ?_
          refine g_iload C at_270 rfl ?_
          refine g_icmp_f C at_272 (XT.ii_ne_f (if_neg hc382)) ?_
          refine g_iconst C 1 at_275 rfl ?_
          refine g_goto C 280 at_276 (by decide) (by decide) ?_
          refine g_ireturnN C (t := .boolean) rfl (by simp) at_280 (by decide) (by decide) ?_
          exact rfl
    · refine g_iload C at_116 rfl ?_
      refine g_newarray C (aty := .double) w_7 at_118 (by decide) 1 (by decide) (by decide) (by decide) (by decide) "[D" rfl ?_
      intro b415 h415 ka415 g415 E415 V415 A415
      replace V415 : Arv Z h415 b415 ka415 .double (1 : Int32) [(.double 0)] (.double 0) := V415.pad (pad_rep [] _ 1)
      refine g_astore C #[.val (.int i1), .val (.int i2), .val (.int i3), .val (.int i4), .val (.int i5), .val (.int i6), .val (.int aa), .val (.int bb), .val (.int cc), .val (.int hi), .val (.int lo), .val (.int mid), .val (.int (2 : Int32)), .val (.int (1 : Int32)), .val (.ref b369), .val (.ref b415), .unset, .unset, .unset, .unset] at_120 rfl rfl ?_
      refine g_iload C at_122 rfl ?_
      refine g_iconst C 1 at_124 rfl ?_
      refine g_icmp_f C at_125 (XT.ii_lt_f (by decide)) ?_
      refine g_aload C at_128 rfl rfl ?_
      refine g_iconst C 0 at_130 rfl ?_
      refine g_iload C at_131 rfl ?_
      refine g_iconst C 5 at_133 rfl ?_
      refine g_irem C at_134 (by decide) ?_
      refine g_i2d C at_135 ?_
      refine g_dastore C V415 (List.mem_of_getElem? (i := 0) rfl) at_136 ⟨by decide, by decide⟩ 0 rfl (Nat.le_of_ble_eq_true rfl) ?_
      intro h416 W416 V416
      replace V416 : Arv Z h416 b415 ka415 .double (1 : Int32) [(.double (FP.i2d (i5 % (5 : Int32))))] (.double 0) := V416
      refine g_iload C at_137 rfl ?_
      refine g_iconst C 2 at_139 rfl ?_
      refine g_icmp_t C 152 at_140 (XT.ii_lt_t (by decide)) (by decide) (by decide) ?_
      refine g_iload C at_152 rfl ?_
      refine g_iconst C 3 at_154 rfl ?_
      refine g_icmp_t C 169 at_155 (XT.ii_lt_t (by decide)) (by decide) (by decide) ?_
      refine g_new C w_8 w_9 w_10 at_169 (by decide) (by decide) ?_
      intro b417 h417 g417 E417 A417 D417
      refine g_dup C at_172 rfl ?_
      refine g_aload C at_173 rfl rfl ?_
      refine g_aload C at_175 rfl rfl ?_
      have K418 : Keep h416 h417 [] := (Keep.refl h416 []).ext E417
      have V419 := (V416.keep K418 nin0)
      have K420 : Keep h371 h415 [] := (Keep.refl h371 []).ext E415
      have K421 : Keep h371 h416 [] := K420.wr W416 (Or.inr (Nat.le_of_eq g415.symm))
      have K422 : Keep h371 h417 [] := K421.ext E417
      have V423 := (V371.keep K422 nin0)
      have E424 := ((A415.wr W416).ext E417)
      have E425 := (((((A369.wr W370).wr W371).ext E415).wr W416).ext E417)
      refine g_special C (a := b417) w_11 w_12 w_13 rfl (by decide) [(.ref b415), (.ref b369)] (ct_of hw w_13 w_10 (rm_init l Z a0 hw b417 b415 b369 (1 : Int32) (2 : Int32) _ _ _ _ h417 n0 A417 (D417 (Or.inr (C.hw w_27)) (ty := (.array .double)) (by decide)) (D417 (Or.inr (C.hw w_29)) (ty := (.array .double)) (by decide)) V419 V423 E424 E425 (by decide) (by decide))) (allS (List.mem_of_getElem? (i := 0) rfl) all0) (by decide) 1 (by decide) rfl pd___D_D_V rfl [(.ref b417)] rfl (Nat.le_of_eq rfl) at_177 (by decide) (by decide) ?_
      intro v426 h426 Q426
      obtain ⟨rfl, KC426, X426, b426, le426, G426, V426⟩ := Q426
      refine g_astore C #[.val (.int i1), .val (.int i2), .val (.int i3), .val (.int i4), .val (.int i5), .val (.int i6), .val (.int aa), .val (.int bb), .val (.int cc), .val (.int hi), .val (.int lo), .val (.int mid), .val (.int (2 : Int32)), .val (.int (1 : Int32)), .val (.ref b369), .val (.ref b415), .val (.ref b417), .unset, .unset, .unset] at_180 rfl rfl ?_
      refine g_iload C at_182 rfl ?_
      refine g_iconst C 1 at_184 rfl ?_
      refine g_icmp_f C at_185 (XT.ii_lt_f (by decide)) ?_
      refine g_iload C at_188 rfl ?_
      by_cases hc427 : 0 < hi
      · refine g_if_t C 215 at_190 (XT.i0_gt_t hc427) (by decide) (by decide) ?_
        refine g_iconst C 1 at_215 rfl ?_
        refine g_goto C 220 at_216 (by decide) (by decide) ?_
        refine g_istore C #[.val (.int i1), .val (.int i2), .val (.int i3), .val (.int i4), .val (.int i5), .val (.int i6), .val (.int aa), .val (.int bb), .val (.int cc), .val (.int hi), .val (.int lo), .val (.int mid), .val (.int (2 : Int32)), .val (.int (1 : Int32)), .val (.ref b369), .val (.ref b415), .val (.ref b417), .val (.int (1 : Int32)), .unset, .unset] at_220 rfl ?_
        refine g_aload C at_222 rfl rfl ?_
        refine g_virtual C X426 w_30 w_31 (fun hZ => nf_sel hw w_33 hZ) w_33 w_32 (by decide) [] (ct_of hw w_34 w_10 (rm_h1 l Z a0 hw b417 b426 _ (2 : Int32) hi _ h426 n0 G426 V426 (by decide) rfl)) all0 (by decide) 0 (by decide) rfl pd___Z rfl [] rfl (Nat.le_of_eq rfl) at_224 (by decide) (by decide) ?_
        intro v428 h428 Q428
        obtain ⟨rfl, e428⟩ := Q428
        replace e428 := e428.symm
        subst e428
        refine g_istore C #[.val (.int i1), .val (.int i2), .val (.int i3), .val (.int i4), .val (.int i5), .val (.int i6), .val (.int aa), .val (.int bb), .val (.int cc), .val (.int hi), .val (.int lo), .val (.int mid), .val (.int (2 : Int32)), .val (.int (1 : Int32)), .val (.ref b369), .val (.ref b415), .val (.ref b417), .val (.int (1 : Int32)), .val (.int (if 0 < hi then 1 else 0)), .unset] at_227 rfl ?_
        refine g_iload C at_229 rfl ?_
        refine g_iconst C 1 at_231 rfl ?_
        refine g_icmp_f C at_232 (XT.ii_lt_f (by decide)) ?_
        refine g_aload C at_235 rfl rfl ?_
        refine g_iconst C 0 at_237 rfl ?_
        refine g_iloadN C at_238 rfl ?_
        refine g_iconst C 4 at_239 rfl ?_
        refine g_iushr C at_240 ?_
        refine g_iconst C 1 at_241 rfl ?_
        refine g_iand C at_242 ?_
        by_cases hc429 : (((i4.toUInt32 >>> ((4 : Int32) &&& 31).toUInt32).toInt32) &&& (1 : Int32)) = 0
        · refine g_if_t C 250 at_243 (XT.i0_eq_t hc429) (by decide) (by decide) ?_
          refine g_ldc2D C w_35 at_250 ?_
          have V430 := (V371.keep K421 nin0)
          have V431 := (V423.keep KC426 (ninS (Nat.ne_of_lt (Nat.lt_of_lt_of_le V430.lt (Nat.le_of_eq g417.symm))) nin0))
          refine g_dastore C V431 (List.mem_of_getElem? (i := 2) rfl) at_253 ⟨by decide, by decide⟩ 0 rfl (Nat.le_of_ble_eq_true rfl) ?_
          intro h432 W432 V432
          replace V432 : Arv Z h432 b369 ka369 .double (2 : Int32) [(.double (13830554455654793216 : UInt64)), (.double (FP.i2d mid))] (.double 0) := V432
          refine g_aload C at_254 rfl rfl ?_
          have F433 := (G426.other W432 (Or.inl (Ne.symm (Nat.ne_of_lt (Nat.lt_of_lt_of_le V430.lt (Nat.le_of_eq g417.symm))))))
          have V434 := (V426.other W432 (Ne.symm (Nat.ne_of_lt (Nat.lt_of_lt_of_le V423.lt le426))))
          have E436 := (X426.wr W432)
          refine g_virtual C E436 w_30 w_31 (fun hZ => nf_sel hw w_33 hZ) w_33 w_32 (by decide) [] (ct_of hw w_34 w_10 (rm_h1 l Z a0 hw b417 b426 _ (2 : Int32) hi _ h432 n0 F433 V434 (by decide) rfl)) all0 (by decide) 0 (by decide) rfl pd___Z rfl [] rfl (Nat.le_of_eq rfl) at_256 (by decide) (by decide) ?_
          intro v435 h435 Q435
          obtain ⟨rfl, e435⟩ := Q435
          replace e435 := e435.symm
          subst e435
          refine g_istore C #[.val (.int i1), .val (.int i2), .val (.int i3), .val (.int i4), .val (.int i5), .val (.int i6), .val (.int aa), .val (.int bb), .val (.int cc), .val (.int hi), .val (.int lo), .val (.int mid), .val (.int (2 : Int32)), .val (.int (1 : Int32)), .val (.ref b369), .val (.ref b415), .val (.ref b417), .val (.int (1 : Int32)), .val (.int (if 0 < hi then 1 else 0)), .val (.int (if 0 < hi then 1 else 0))] at_259 rfl ?_
          refine g_iload C at_261 rfl ?_
          refine g_iload C at_263 rfl ?_
          refine g_icmp_f C at_265 (XT.ii_ne_f (if_pos hc427)) ?_
          refine g_iload C at_268 rfl ?_
          refine g_iload C at_270 rfl ?_
          refine g_icmp_f C at_272 (XT.ii_ne_f (if_pos hc427)) ?_
          refine g_iconst C 1 at_275 rfl ?_
          refine g_goto C 280 at_276 (by decide) (by decide) ?_
          refine g_ireturnN C (t := .boolean) rfl (by simp) at_280 (by decide) (by decide) ?_
          exact rfl
        · refine g_if_f C at_243 (XT.i0_eq_f hc429) ?_
          refine g_dconst1 C at_246 ?_
          refine g_goto C 253 at_247 (by decide) (by decide) ?_
          have V437 := (V371.keep K421 nin0)
          have V438 := (V423.keep KC426 (ninS (Nat.ne_of_lt (Nat.lt_of_lt_of_le V437.lt (Nat.le_of_eq g417.symm))) nin0))
          refine g_dastore C V438 (List.mem_of_getElem? (i := 2) rfl) at_253 ⟨by decide, by decide⟩ 0 rfl (Nat.le_of_ble_eq_true rfl) ?_
          intro h439 W439 V439
          replace V439 : Arv Z h439 b369 ka369 .double (2 : Int32) [(.double FP.dconst1), (.double (FP.i2d mid))] (.double 0) := V439
          refine g_aload C at_254 rfl rfl ?_
          have F440 := (G426.other W439 (Or.inl (Ne.symm (Nat.ne_of_lt (Nat.lt_of_lt_of_le V437.lt (Nat.le_of_eq g417.symm))))))
          have V441 := (V426.other W439 (Ne.symm (Nat.ne_of_lt (Nat.lt_of_lt_of_le V423.lt le426))))
          have E443 := (X426.wr W439)
          refine g_virtual C E443 w_30 w_31 (fun hZ => nf_sel hw w_33 hZ) w_33 w_32 (by decide) [] (ct_of hw w_34 w_10 (rm_h1 l Z a0 hw b417 b426 _ (2 : Int32) hi _ h439 n0 F440 V441 (by decide) rfl)) all0 (by decide) 0 (by decide) rfl pd___Z rfl [] rfl (Nat.le_of_eq rfl) at_256 (by decide) (by decide) ?_
          intro v442 h442 Q442
          obtain ⟨rfl, e442⟩ := Q442
          replace e442 := e442.symm
          subst e442
          refine g_istore C #[.val (.int i1), .val (.int i2), .val (.int i3), .val (.int i4), .val (.int i5), .val (.int i6), .val (.int aa), .val (.int bb), .val (.int cc), .val (.int hi), .val (.int lo), .val (.int mid), .val (.int (2 : Int32)), .val (.int (1 : Int32)), .val (.ref b369), .val (.ref b415), .val (.ref b417), .val (.int (1 : Int32)), .val (.int (if 0 < hi then 1 else 0)), .val (.int (if 0 < hi then 1 else 0))] at_259 rfl ?_
          refine g_iload C at_261 rfl ?_
          refine g_iload C at_263 rfl ?_
          refine g_icmp_f C at_265 (XT.ii_ne_f (if_pos hc427)) ?_
          refine g_iload C at_268 rfl ?_
          refine g_iload C at_270 rfl ?_
          refine g_icmp_f C at_272 (XT.ii_ne_f (if_pos hc427)) ?_
          refine g_iconst C 1 at_275 rfl ?_
          refine g_goto C 280 at_276 (by decide) (by decide) ?_
          refine g_ireturnN C (t := .boolean) rfl (by simp) at_280 (by decide) (by decide) ?_
          exact rfl
      · refine g_if_f C at_190 (XT.i0_gt_f hc427) ?_
        refine g_iload C at_193 rfl ?_
        refine g_iconst C 2 at_195 rfl ?_
        refine g_icmp_f C at_196 (XT.ii_lt_f (by decide)) ?_
        refine g_iload C at_199 rfl ?_
        refine g_if_f C at_201 (XT.i0_gt_f (hmed hc427).1) ?_
        refine g_iload C at_204 rfl ?_
        refine g_iconst C 3 at_206 rfl ?_
        refine g_icmp_t C 219 at_207 (XT.ii_lt_t (by decide)) (by decide) (by decide) ?_
        refine g_iconst C 0 at_219 rfl ?_
        refine g_istore C #[.val (.int i1), .val (.int i2), .val (.int i3), .val (.int i4), .val (.int i5), .val (.int i6), .val (.int aa), .val (.int bb), .val (.int cc), .val (.int hi), .val (.int lo), .val (.int mid), .val (.int (2 : Int32)), .val (.int (1 : Int32)), .val (.ref b369), .val (.ref b415), .val (.ref b417), .val (.int (0 : Int32)), .unset, .unset] at_220 rfl ?_
        refine g_aload C at_222 rfl rfl ?_
        refine g_virtual C X426 w_30 w_31 (fun hZ => nf_sel hw w_33 hZ) w_33 w_32 (by decide) [] (ct_of hw w_34 w_10 (rm_h1 l Z a0 hw b417 b426 _ (2 : Int32) hi _ h426 n0 G426 V426 (by decide) rfl)) all0 (by decide) 0 (by decide) rfl pd___Z rfl [] rfl (Nat.le_of_eq rfl) at_224 (by decide) (by decide) ?_
        intro v444 h444 Q444
        obtain ⟨rfl, e444⟩ := Q444
        replace e444 := e444.symm
        subst e444
        refine g_istore C #[.val (.int i1), .val (.int i2), .val (.int i3), .val (.int i4), .val (.int i5), .val (.int i6), .val (.int aa), .val (.int bb), .val (.int cc), .val (.int hi), .val (.int lo), .val (.int mid), .val (.int (2 : Int32)), .val (.int (1 : Int32)), .val (.ref b369), .val (.ref b415), .val (.ref b417), .val (.int (0 : Int32)), .val (.int (if 0 < hi then 1 else 0)), .unset] at_227 rfl ?_
        refine g_iload C at_229 rfl ?_
        refine g_iconst C 1 at_231 rfl ?_
        refine g_icmp_f C at_232 (XT.ii_lt_f (by decide)) ?_
        refine g_aload C at_235 rfl rfl ?_
        refine g_iconst C 0 at_237 rfl ?_
        refine g_iloadN C at_238 rfl ?_
        refine g_iconst C 4 at_239 rfl ?_
        refine g_iushr C at_240 ?_
        refine g_iconst C 1 at_241 rfl ?_
        refine g_iand C at_242 ?_
        by_cases hc445 : (((i4.toUInt32 >>> ((4 : Int32) &&& 31).toUInt32).toInt32) &&& (1 : Int32)) = 0
        · refine g_if_t C 250 at_243 (XT.i0_eq_t hc445) (by decide) (by decide) ?_
          refine g_ldc2D C w_35 at_250 ?_
          have V446 := (V371.keep K421 nin0)
          have V447 := (V423.keep KC426 (ninS (Nat.ne_of_lt (Nat.lt_of_lt_of_le V446.lt (Nat.le_of_eq g417.symm))) nin0))
          refine g_dastore C V447 (List.mem_of_getElem? (i := 2) rfl) at_253 ⟨by decide, by decide⟩ 0 rfl (Nat.le_of_ble_eq_true rfl) ?_
          intro h448 W448 V448
          replace V448 : Arv Z h448 b369 ka369 .double (2 : Int32) [(.double (13830554455654793216 : UInt64)), (.double (FP.i2d mid))] (.double 0) := V448
          refine g_aload C at_254 rfl rfl ?_
          have F449 := (G426.other W448 (Or.inl (Ne.symm (Nat.ne_of_lt (Nat.lt_of_lt_of_le V446.lt (Nat.le_of_eq g417.symm))))))
          have V450 := (V426.other W448 (Ne.symm (Nat.ne_of_lt (Nat.lt_of_lt_of_le V423.lt le426))))
          have E452 := (X426.wr W448)
          refine g_virtual C E452 w_30 w_31 (fun hZ => nf_sel hw w_33 hZ) w_33 w_32 (by decide) [] (ct_of hw w_34 w_10 (rm_h1 l Z a0 hw b417 b426 _ (2 : Int32) hi _ h448 n0 F449 V450 (by decide) rfl)) all0 (by decide) 0 (by decide) rfl pd___Z rfl [] rfl (Nat.le_of_eq rfl) at_256 (by decide) (by decide) ?_
          intro v451 h451 Q451
          obtain ⟨rfl, e451⟩ := Q451
          replace e451 := e451.symm
          subst e451
          refine g_istore C #[.val (.int i1), .val (.int i2), .val (.int i3), .val (.int i4), .val (.int i5), .val (.int i6), .val (.int aa), .val (.int bb), .val (.int cc), .val (.int hi), .val (.int lo), .val (.int mid), .val (.int (2 : Int32)), .val (.int (1 : Int32)), .val (.ref b369), .val (.ref b415), .val (.ref b417), .val (.int (0 : Int32)), .val (.int (if 0 < hi then 1 else 0)), .val (.int (if 0 < hi then 1 else 0))] at_259 rfl ?_
          refine g_iload C at_261 rfl ?_
          refine g_iload C at_263 rfl ?_
          refine g_icmp_f C at_265 (XT.ii_ne_f (if_neg hc427)) ?_
          refine g_iload C at_268 rfl ?_
          refine g_iload C at_270 rfl ?_
          refine g_icmp_f C at_272 (XT.ii_ne_f (if_neg hc427)) ?_
          refine g_iconst C 1 at_275 rfl ?_
          refine g_goto C 280 at_276 (by decide) (by decide) ?_
          refine g_ireturnN C (t := .boolean) rfl (by simp) at_280 (by decide) (by decide) ?_
          exact rfl
        · refine g_if_f C at_243 (XT.i0_eq_f hc445) ?_
          refine g_dconst1 C at_246 ?_
          refine g_goto C 253 at_247 (by decide) (by decide) ?_
          have V453 := (V371.keep K421 nin0)
          have V454 := (V423.keep KC426 (ninS (Nat.ne_of_lt (Nat.lt_of_lt_of_le V453.lt (Nat.le_of_eq g417.symm))) nin0))
          refine g_dastore C V454 (List.mem_of_getElem? (i := 2) rfl) at_253 ⟨by decide, by decide⟩ 0 rfl (Nat.le_of_ble_eq_true rfl) ?_
          intro h455 W455 V455
          replace V455 : Arv Z h455 b369 ka369 .double (2 : Int32) [(.double FP.dconst1), (.double (FP.i2d mid))] (.double 0) := V455
          refine g_aload C at_254 rfl rfl ?_
          have F456 := (G426.other W455 (Or.inl (Ne.symm (Nat.ne_of_lt (Nat.lt_of_lt_of_le V453.lt (Nat.le_of_eq g417.symm))))))
          have V457 := (V426.other W455 (Ne.symm (Nat.ne_of_lt (Nat.lt_of_lt_of_le V423.lt le426))))
          have E459 := (X426.wr W455)
          refine g_virtual C E459 w_30 w_31 (fun hZ => nf_sel hw w_33 hZ) w_33 w_32 (by decide) [] (ct_of hw w_34 w_10 (rm_h1 l Z a0 hw b417 b426 _ (2 : Int32) hi _ h455 n0 F456 V457 (by decide) rfl)) all0 (by decide) 0 (by decide) rfl pd___Z rfl [] rfl (Nat.le_of_eq rfl) at_256 (by decide) (by decide) ?_
          intro v458 h458 Q458
          obtain ⟨rfl, e458⟩ := Q458
          replace e458 := e458.symm
          subst e458
          refine g_istore C #[.val (.int i1), .val (.int i2), .val (.int i3), .val (.int i4), .val (.int i5), .val (.int i6), .val (.int aa), .val (.int bb), .val (.int cc), .val (.int hi), .val (.int lo), .val (.int mid), .val (.int (2 : Int32)), .val (.int (1 : Int32)), .val (.ref b369), .val (.ref b415), .val (.ref b417), .val (.int (0 : Int32)), .val (.int (if 0 < hi then 1 else 0)), .val (.int (if 0 < hi then 1 else 0))] at_259 rfl ?_
          refine g_iload C at_261 rfl ?_
          refine g_iload C at_263 rfl ?_
          refine g_icmp_f C at_265 (XT.ii_ne_f (if_neg hc427)) ?_
          refine g_iload C at_268 rfl ?_
          refine g_iload C at_270 rfl ?_
          refine g_icmp_f C at_272 (XT.ii_ne_f (if_neg hc427)) ?_
          refine g_iconst C 1 at_275 rfl ?_
          refine g_goto C 280 at_276 (by decide) (by decide) ?_
          refine g_ireturnN C (t := .boolean) rfl (by simp) at_280 (by decide) (by decide) ?_
          exact rfl
    · refine g_iload C at_116 rfl ?_
      refine g_newarray C (aty := .double) w_7 at_118 (by decide) 2 (by decide) (by decide) (by decide) (by decide) "[D" rfl ?_
      intro b460 h460 ka460 g460 E460 V460 A460
      replace V460 : Arv Z h460 b460 ka460 .double (2 : Int32) [(.double 0), (.double 0)] (.double 0) := V460.pad (pad_rep [] _ 2)
      refine g_astore C #[.val (.int i1), .val (.int i2), .val (.int i3), .val (.int i4), .val (.int i5), .val (.int i6), .val (.int aa), .val (.int bb), .val (.int cc), .val (.int hi), .val (.int lo), .val (.int mid), .val (.int (2 : Int32)), .val (.int (2 : Int32)), .val (.ref b369), .val (.ref b460), .unset, .unset, .unset, .unset] at_120 rfl rfl ?_
      refine g_iload C at_122 rfl ?_
      refine g_iconst C 1 at_124 rfl ?_
      refine g_icmp_f C at_125 (XT.ii_lt_f (by decide)) ?_
      refine g_aload C at_128 rfl rfl ?_
      refine g_iconst C 0 at_130 rfl ?_
      refine g_iload C at_131 rfl ?_
      refine g_iconst C 5 at_133 rfl ?_
      refine g_irem C at_134 (by decide) ?_
      refine g_i2d C at_135 ?_
      refine g_dastore C V460 (List.mem_of_getElem? (i := 0) rfl) at_136 ⟨by decide, by decide⟩ 0 rfl (Nat.le_of_ble_eq_true rfl) ?_
      intro h461 W461 V461
      replace V461 : Arv Z h461 b460 ka460 .double (2 : Int32) [(.double (FP.i2d (i5 % (5 : Int32)))), (.double 0)] (.double 0) := V461
      refine g_iload C at_137 rfl ?_
      refine g_iconst C 2 at_139 rfl ?_
      refine g_icmp_f C at_140 (XT.ii_lt_f (by decide)) ?_
      refine g_aload C at_143 rfl rfl ?_
      refine g_iconst C 1 at_145 rfl ?_
      refine g_iload C at_146 rfl ?_
      refine g_iconst C 5 at_148 rfl ?_
      refine g_irem C at_149 (by decide) ?_
      refine g_i2d C at_150 ?_
      refine g_dastore C V461 (List.mem_of_getElem? (i := 0) rfl) at_151 ⟨by decide, by decide⟩ 1 rfl (Nat.le_of_ble_eq_true rfl) ?_
      intro h462 W462 V462
      replace V462 : Arv Z h462 b460 ka460 .double (2 : Int32) [(.double (FP.i2d (i5 % (5 : Int32)))), (.double (FP.i2d (i6 % (5 : Int32))))] (.double 0) := V462
      refine g_iload C at_152 rfl ?_
      refine g_iconst C 3 at_154 rfl ?_
      refine g_icmp_t C 169 at_155 (XT.ii_lt_t (by decide)) (by decide) (by decide) ?_
      refine g_new C w_8 w_9 w_10 at_169 (by decide) (by decide) ?_
      intro b463 h463 g463 E463 A463 D463
      refine g_dup C at_172 rfl ?_
      refine g_aload C at_173 rfl rfl ?_
      refine g_aload C at_175 rfl rfl ?_
      have K464 : Keep h462 h463 [] := (Keep.refl h462 []).ext E463
      have V465 := (V462.keep K464 nin0)
      have K466 : Keep h371 h460 [] := (Keep.refl h371 []).ext E460
      have K467 : Keep h371 h461 [] := K466.wr W461 (Or.inr (Nat.le_of_eq g460.symm))
      have K468 : Keep h371 h462 [] := K467.wr W462 (Or.inr (Nat.le_of_eq g460.symm))
      have K469 : Keep h371 h463 [] := K468.ext E463
      have V470 := (V371.keep K469 nin0)
      have E471 := (((A460.wr W461).wr W462).ext E463)
      have E472 := ((((((A369.wr W370).wr W371).ext E460).wr W461).wr W462).ext E463)
      refine g_special C (a := b463) w_11 w_12 w_13 rfl (by decide) [(.ref b460), (.ref b369)] (ct_of hw w_13 w_10 (rm_init l Z a0 hw b463 b460 b369 (2 : Int32) (2 : Int32) _ _ _ _ h463 n0 A463 (D463 (Or.inr (C.hw w_27)) (ty := (.array .double)) (by decide)) (D463 (Or.inr (C.hw w_29)) (ty := (.array .double)) (by decide)) V465 V470 E471 E472 (by decide) (by decide))) (allS (List.mem_of_getElem? (i := 0) rfl) all0) (by decide) 1 (by decide) rfl pd___D_D_V rfl [(.ref b463)] rfl (Nat.le_of_eq rfl) at_177 (by decide) (by decide) ?_
      intro v473 h473 Q473
      obtain ⟨rfl, KC473, X473, b473, le473, G473, V473⟩ := Q473
      refine g_astore C #[.val (.int i1), .val (.int i2), .val (.int i3), .val (.int i4), .val (.int i5), .val (.int i6), .val (.int aa), .val (.int bb), .val (.int cc), .val (.int hi), .val (.int lo), .val (.int mid), .val (.int (2 : Int32)), .val (.int (2 : Int32)), .val (.ref b369), .val (.ref b460), .val (.ref b463), .unset, .unset, .unset] at_180 rfl rfl ?_
      refine g_iload C at_182 rfl ?_
      refine g_iconst C 1 at_184 rfl ?_
      refine g_icmp_f C at_185 (XT.ii_lt_f (by decide)) ?_
      refine g_iload C at_188 rfl ?_
      by_cases hc474 : 0 < hi
      · refine g_if_t C 215 at_190 (XT.i0_gt_t hc474) (by decide) (by decide) ?_
        refine g_iconst C 1 at_215 rfl ?_
        refine g_goto C 220 at_216 (by decide) (by decide) ?_
        refine g_istore C #[.val (.int i1), .val (.int i2), .val (.int i3), .val (.int i4), .val (.int i5), .val (.int i6), .val (.int aa), .val (.int bb), .val (.int cc), .val (.int hi), .val (.int lo), .val (.int mid), .val (.int (2 : Int32)), .val (.int (2 : Int32)), .val (.ref b369), .val (.ref b460), .val (.ref b463), .val (.int (1 : Int32)), .unset, .unset] at_220 rfl ?_
        refine g_aload C at_222 rfl rfl ?_
        refine g_virtual C X473 w_30 w_31 (fun hZ => nf_sel hw w_33 hZ) w_33 w_32 (by decide) [] (ct_of hw w_34 w_10 (rm_h1 l Z a0 hw b463 b473 _ (2 : Int32) hi _ h473 n0 G473 V473 (by decide) rfl)) all0 (by decide) 0 (by decide) rfl pd___Z rfl [] rfl (Nat.le_of_eq rfl) at_224 (by decide) (by decide) ?_
        intro v475 h475 Q475
        obtain ⟨rfl, e475⟩ := Q475
        replace e475 := e475.symm
        subst e475
        refine g_istore C #[.val (.int i1), .val (.int i2), .val (.int i3), .val (.int i4), .val (.int i5), .val (.int i6), .val (.int aa), .val (.int bb), .val (.int cc), .val (.int hi), .val (.int lo), .val (.int mid), .val (.int (2 : Int32)), .val (.int (2 : Int32)), .val (.ref b369), .val (.ref b460), .val (.ref b463), .val (.int (1 : Int32)), .val (.int (if 0 < hi then 1 else 0)), .unset] at_227 rfl ?_
        refine g_iload C at_229 rfl ?_
        refine g_iconst C 1 at_231 rfl ?_
        refine g_icmp_f C at_232 (XT.ii_lt_f (by decide)) ?_
        refine g_aload C at_235 rfl rfl ?_
        refine g_iconst C 0 at_237 rfl ?_
        refine g_iloadN C at_238 rfl ?_
        refine g_iconst C 4 at_239 rfl ?_
        refine g_iushr C at_240 ?_
        refine g_iconst C 1 at_241 rfl ?_
        refine g_iand C at_242 ?_
        by_cases hc476 : (((i4.toUInt32 >>> ((4 : Int32) &&& 31).toUInt32).toInt32) &&& (1 : Int32)) = 0
        · refine g_if_t C 250 at_243 (XT.i0_eq_t hc476) (by decide) (by decide) ?_
          refine g_ldc2D C w_35 at_250 ?_
          have V477 := (V371.keep K468 nin0)
          have V478 := (V470.keep KC473 (ninS (Nat.ne_of_lt (Nat.lt_of_lt_of_le V477.lt (Nat.le_of_eq g463.symm))) nin0))
          refine g_dastore C V478 (List.mem_of_getElem? (i := 2) rfl) at_253 ⟨by decide, by decide⟩ 0 rfl (Nat.le_of_ble_eq_true rfl) ?_
          intro h479 W479 V479
          replace V479 : Arv Z h479 b369 ka369 .double (2 : Int32) [(.double (13830554455654793216 : UInt64)), (.double (FP.i2d mid))] (.double 0) := V479
          refine g_aload C at_254 rfl rfl ?_
          have F480 := (G473.other W479 (Or.inl (Ne.symm (Nat.ne_of_lt (Nat.lt_of_lt_of_le V477.lt (Nat.le_of_eq g463.symm))))))
          have V481 := (V473.other W479 (Ne.symm (Nat.ne_of_lt (Nat.lt_of_lt_of_le V470.lt le473))))
          have E483 := (X473.wr W479)
          refine g_virtual C E483 w_30 w_31 (fun hZ => nf_sel hw w_33 hZ) w_33 w_32 (by decide) [] (ct_of hw w_34 w_10 (rm_h1 l Z a0 hw b463 b473 _ (2 : Int32) hi _ h479 n0 F480 V481 (by decide) rfl)) all0 (by decide) 0 (by decide) rfl pd___Z rfl [] rfl (Nat.le_of_eq rfl) at_256 (by decide) (by decide) ?_
          intro v482 h482 Q482
          obtain ⟨rfl, e482⟩ := Q482
          replace e482 := e482.symm
          subst e482
          refine g_istore C #[.val (.int i1), .val (.int i2), .val (.int i3), .val (.int i4), .val (.int i5), .val (.int i6), .val (.int aa), .val (.int bb), .val (.int cc), .val (.int hi), .val (.int lo), .val (.int mid), .val (.int (2 : Int32)), .val (.int (2 : Int32)), .val (.ref b369), .val (.ref b460), .val (.ref b463), .val (.int (1 : Int32)), .val (.int (if 0 < hi then 1 else 0)), .val (.int (if 0 < hi then 1 else 0))] at_259 rfl ?_
          refine g_iload C at_261 rfl ?_
          refine g_iload C at_263 rfl ?_
          refine g_icmp_f C at_265 (XT.ii_ne_f (if_pos hc474)) ?_
          refine g_iload C at_268 rfl ?_
          refine g_iload C at_270 rfl ?_
          refine g_icmp_f C at_272 (XT.ii_ne_f (if_pos hc474)) ?_
          refine g_iconst C 1 at_275 rfl ?_
          refine g_goto C 280 at_276 (by decide) (by decide) ?_
          refine g_ireturnN C (t := .boolean) rfl (by simp) at_280 (by decide) (by decide) ?_
          exact rfl
        · refine g_if_f C at_243 (XT.i0_eq_f hc476) ?_
          refine g_dconst1 C at_246 ?_
          refine g_goto C 253 at_247 (by decide) (by decide) ?_
          have V484 := (V371.keep K468 nin0)
          have V485 := (V470.keep KC473 (ninS (Nat.ne_of_lt (Nat.lt_of_lt_of_le V484.lt (Nat.le_of_eq g463.symm))) nin0))
          refine g_dastore C V485 (List.mem_of_getElem? (i := 2) rfl) at_253 ⟨by decide, by decide⟩ 0 rfl (Nat.le_of_ble_eq_true rfl) ?_
          intro h486 W486 V486
          replace V486 : Arv Z h486 b369 ka369 .double (2 : Int32) [(.double FP.dconst1), (.double (FP.i2d mid))] (.double 0) := V486
          refine g_aload C at_254 rfl rfl ?_
          have F487 := (G473.other W486 (Or.inl (Ne.symm (Nat.ne_of_lt (Nat.lt_of_lt_of_le V484.lt (Nat.le_of_eq g463.symm))))))
          have V488 := (V473.other W486 (Ne.symm (Nat.ne_of_lt (Nat.lt_of_lt_of_le V470.lt le473))))
          have E490 := (X473.wr W486)
          refine g_virtual C E490 w_30 w_31 (fun hZ => nf_sel hw w_33 hZ) w_33 w_32 (by decide) [] (ct_of hw w_34 w_10 (rm_h1 l Z a0 hw b463 b473 _ (2 : Int32) hi _ h486 n0 F487 V488 (by decide) rfl)) all0 (by decide) 0 (by decide) rfl pd___Z rfl [] rfl (Nat.le_of_eq rfl) at_256 (by decide) (by decide) ?_
          intro v489 h489 Q489
          obtain ⟨rfl, e489⟩ := Q489
          replace e489 := e489.symm
          subst e489
          refine g_istore C #[.val (.int i1), .val (.int i2), .val (.int i3), .val (.int i4), .val (.int i5), .val (.int i6), .val (.int aa), .val (.int bb), .val (.int cc), .val (.int hi), .val (.int lo), .val (.int mid), .val (.int (2 : Int32)), .val (.int (2 : Int32)), .val (.ref b369), .val (.ref b460), .val (.ref b463), .val (.int (1 : Int32)), .val (.int (if 0 < hi then 1 else 0)), .val (.int (if 0 < hi then 1 else 0))] at_259 rfl ?_
          refine g_iload C at_261 rfl ?_
          refine g_iload C at_263 rfl ?_
          refine g_icmp_f C at_265 (XT.ii_ne_f (if_pos hc474)) ?_
          refine g_iload C at_268 rfl ?_
          refine g_iload C at_270 rfl ?_
          refine g_icmp_f C at_272 (XT.ii_ne_f (if_pos hc474)) ?_
          refine g_iconst C 1 at_275 rfl ?_
          refine g_goto C 280 at_276 (by decide) (by decide) ?_
          refine g_ireturnN C (t := .boolean) rfl (by simp) at_280 (by decide) (by decide) ?_
          exact rfl
      · refine g_if_f C at_190 (XT.i0_gt_f hc474) ?_
        refine g_iload C at_193 rfl ?_
        refine g_iconst C 2 at_195 rfl ?_
        refine g_icmp_f C at_196 (XT.ii_lt_f (by decide)) ?_
        refine g_iload C at_199 rfl ?_
        refine g_if_f C at_201 (XT.i0_gt_f (hmed hc474).1) ?_
        refine g_iload C at_204 rfl ?_
        refine g_iconst C 3 at_206 rfl ?_
        refine g_icmp_t C 219 at_207 (XT.ii_lt_t (by decide)) (by decide) (by decide) ?_
        refine g_iconst C 0 at_219 rfl ?_
        refine g_istore C #[.val (.int i1), .val (.int i2), .val (.int i3), .val (.int i4), .val (.int i5), .val (.int i6), .val (.int aa), .val (.int bb), .val (.int cc), .val (.int hi), .val (.int lo), .val (.int mid), .val (.int (2 : Int32)), .val (.int (2 : Int32)), .val (.ref b369), .val (.ref b460), .val (.ref b463), .val (.int (0 : Int32)), .unset, .unset] at_220 rfl ?_
        refine g_aload C at_222 rfl rfl ?_
        refine g_virtual C X473 w_30 w_31 (fun hZ => nf_sel hw w_33 hZ) w_33 w_32 (by decide) [] (ct_of hw w_34 w_10 (rm_h1 l Z a0 hw b463 b473 _ (2 : Int32) hi _ h473 n0 G473 V473 (by decide) rfl)) all0 (by decide) 0 (by decide) rfl pd___Z rfl [] rfl (Nat.le_of_eq rfl) at_224 (by decide) (by decide) ?_
        intro v491 h491 Q491
        obtain ⟨rfl, e491⟩ := Q491
        replace e491 := e491.symm
        subst e491
        refine g_istore C #[.val (.int i1), .val (.int i2), .val (.int i3), .val (.int i4), .val (.int i5), .val (.int i6), .val (.int aa), .val (.int bb), .val (.int cc), .val (.int hi), .val (.int lo), .val (.int mid), .val (.int (2 : Int32)), .val (.int (2 : Int32)), .val (.ref b369), .val (.ref b460), .val (.ref b463), .val (.int (0 : Int32)), .val (.int (if 0 < hi then 1 else 0)), .unset] at_227 rfl ?_
        refine g_iload C at_229 rfl ?_
        refine g_iconst C 1 at_231 rfl ?_
        refine g_icmp_f C at_232 (XT.ii_lt_f (by decide)) ?_
        refine g_aload C at_235 rfl rfl ?_
        refine g_iconst C 0 at_237 rfl ?_
        refine g_iloadN C at_238 rfl ?_
        refine g_iconst C 4 at_239 rfl ?_
        refine g_iushr C at_240 ?_
        refine g_iconst C 1 at_241 rfl ?_
        refine g_iand C at_242 ?_
        by_cases hc492 : (((i4.toUInt32 >>> ((4 : Int32) &&& 31).toUInt32).toInt32) &&& (1 : Int32)) = 0
        · refine g_if_t C 250 at_243 (XT.i0_eq_t hc492) (by decide) (by decide) ?_
          refine g_ldc2D C w_35 at_250 ?_
          have V493 := (V371.keep K468 nin0)
          have V494 := (V470.keep KC473 (ninS (Nat.ne_of_lt (Nat.lt_of_lt_of_le V493.lt (Nat.le_of_eq g463.symm))) nin0))
          refine g_dastore C V494 (List.mem_of_getElem? (i := 2) rfl) at_253 ⟨by decide, by decide⟩ 0 rfl (Nat.le_of_ble_eq_true rfl) ?_
          intro h495 W495 V495
          replace V495 : Arv Z h495 b369 ka369 .double (2 : Int32) [(.double (13830554455654793216 : UInt64)), (.double (FP.i2d mid))] (.double 0) := V495
          refine g_aload C at_254 rfl rfl ?_
          have F496 := (G473.other W495 (Or.inl (Ne.symm (Nat.ne_of_lt (Nat.lt_of_lt_of_le V493.lt (Nat.le_of_eq g463.symm))))))
          have V497 := (V473.other W495 (Ne.symm (Nat.ne_of_lt (Nat.lt_of_lt_of_le V470.lt le473))))
          have E499 := (X473.wr W495)
          refine g_virtual C E499 w_30 w_31 (fun hZ => nf_sel hw w_33 hZ) w_33 w_32 (by decide) [] (ct_of hw w_34 w_10 (rm_h1 l Z a0 hw b463 b473 _ (2 : Int32) hi _ h495 n0 F496 V497 (by decide) rfl)) all0 (by decide) 0 (by decide) rfl pd___Z rfl [] rfl (Nat.le_of_eq rfl) at_256 (by decide) (by decide) ?_
          intro v498 h498 Q498
          obtain ⟨rfl, e498⟩ := Q498
          replace e498 := e498.symm
          subst e498
          refine g_istore C #[.val (.int i1), .val (.int i2), .val (.int i3), .val (.int i4), .val (.int i5), .val (.int i6), .val (.int aa), .val (.int bb), .val (.int cc), .val (.int hi), .val (.int lo), .val (.int mid), .val (.int (2 : Int32)), .val (.int (2 : Int32)), .val (.ref b369), .val (.ref b460), .val (.ref b463), .val (.int (0 : Int32)), .val (.int (if 0 < hi then 1 else 0)), .val (.int (if 0 < hi then 1 else 0))] at_259 rfl ?_
          refine g_iload C at_261 rfl ?_
          refine g_iload C at_263 rfl ?_
          refine g_icmp_f C at_265 (XT.ii_ne_f (if_neg hc474)) ?_
          refine g_iload C at_268 rfl ?_
          refine g_iload C at_270 rfl ?_
          refine g_icmp_f C at_272 (XT.ii_ne_f (if_neg hc474)) ?_
          refine g_iconst C 1 at_275 rfl ?_
          refine g_goto C 280 at_276 (by decide) (by decide) ?_
          refine g_ireturnN C (t := .boolean) rfl (by simp) at_280 (by decide) (by decide) ?_
          exact rfl
        · refine g_if_f C at_243 (XT.i0_eq_f hc492) ?_
          refine g_dconst1 C at_246 ?_
          refine g_goto C 253 at_247 (by decide) (by decide) ?_
          have V500 := (V371.keep K468 nin0)
          have V501 := (V470.keep KC473 (ninS (Nat.ne_of_lt (Nat.lt_of_lt_of_le V500.lt (Nat.le_of_eq g463.symm))) nin0))
          refine g_dastore C V501 (List.mem_of_getElem? (i := 2) rfl) at_253 ⟨by decide, by decide⟩ 0 rfl (Nat.le_of_ble_eq_true rfl) ?_
          intro h502 W502 V502
          replace V502 : Arv Z h502 b369 ka369 .double (2 : Int32) [(.double FP.dconst1), (.double (FP.i2d mid))] (.double 0) := V502
          refine g_aload C at_254 rfl rfl ?_
          have F503 := (G473.other W502 (Or.inl (Ne.symm (Nat.ne_of_lt (Nat.lt_of_lt_of_le V500.lt (Nat.le_of_eq g463.symm))))))
          have V504 := (V473.other W502 (Ne.symm (Nat.ne_of_lt (Nat.lt_of_lt_of_le V470.lt le473))))
          have E506 := (X473.wr W502)
          refine g_virtual C E506 w_30 w_31 (fun hZ => nf_sel hw w_33 hZ) w_33 w_32 (by decide) [] (ct_of hw w_34 w_10 (rm_h1 l Z a0 hw b463 b473 _ (2 : Int32) hi _ h502 n0 F503 V504 (by decide) rfl)) all0 (by decide) 0 (by decide) rfl pd___Z rfl [] rfl (Nat.le_of_eq rfl) at_256 (by decide) (by decide) ?_
          intro v505 h505 Q505
          obtain ⟨rfl, e505⟩ := Q505
          replace e505 := e505.symm
          subst e505
          refine g_istore C #[.val (.int i1), .val (.int i2), .val (.int i3), .val (.int i4), .val (.int i5), .val (.int i6), .val (.int aa), .val (.int bb), .val (.int cc), .val (.int hi), .val (.int lo), .val (.int mid), .val (.int (2 : Int32)), .val (.int (2 : Int32)), .val (.ref b369), .val (.ref b460), .val (.ref b463), .val (.int (0 : Int32)), .val (.int (if 0 < hi then 1 else 0)), .val (.int (if 0 < hi then 1 else 0))] at_259 rfl ?_
          refine g_iload C at_261 rfl ?_
          refine g_iload C at_263 rfl ?_
          refine g_icmp_f C at_265 (XT.ii_ne_f (if_neg hc474)) ?_
          refine g_iload C at_268 rfl ?_
          refine g_iload C at_270 rfl ?_
          refine g_icmp_f C at_272 (XT.ii_ne_f (if_neg hc474)) ?_
          refine g_iconst C 1 at_275 rfl ?_
          refine g_goto C 280 at_276 (by decide) (by decide) ?_
          refine g_ireturnN C (t := .boolean) rfl (by simp) at_280 (by decide) (by decide) ?_
          exact rfl
    · refine g_iload C at_116 rfl ?_
      refine g_newarray C (aty := .double) w_7 at_118 (by decide) 3 (by decide) (by decide) (by decide) (by decide) "[D" rfl ?_
      intro b507 h507 ka507 g507 E507 V507 A507
      replace V507 : Arv Z h507 b507 ka507 .double (3 : Int32) [(.double 0), (.double 0), (.double 0)] (.double 0) := V507.pad (pad_rep [] _ 3)
      refine g_astore C #[.val (.int i1), .val (.int i2), .val (.int i3), .val (.int i4), .val (.int i5), .val (.int i6), .val (.int aa), .val (.int bb), .val (.int cc), .val (.int hi), .val (.int lo), .val (.int mid), .val (.int (2 : Int32)), .val (.int (3 : Int32)), .val (.ref b369), .val (.ref b507), .unset, .unset, .unset, .unset] at_120 rfl rfl ?_
      refine g_iload C at_122 rfl ?_
      refine g_iconst C 1 at_124 rfl ?_
      refine g_icmp_f C at_125 (XT.ii_lt_f (by decide)) ?_
      refine g_aload C at_128 rfl rfl ?_
      refine g_iconst C 0 at_130 rfl ?_
      refine g_iload C at_131 rfl ?_
      refine g_iconst C 5 at_133 rfl ?_
      refine g_irem C at_134 (by decide) ?_
      refine g_i2d C at_135 ?_
      refine g_dastore C V507 (List.mem_of_getElem? (i := 0) rfl) at_136 ⟨by decide, by decide⟩ 0 rfl (Nat.le_of_ble_eq_true rfl) ?_
      intro h508 W508 V508
      replace V508 : Arv Z h508 b507 ka507 .double (3 : Int32) [(.double (FP.i2d (i5 % (5 : Int32)))), (.double 0), (.double 0)] (.double 0) := V508
      refine g_iload C at_137 rfl ?_
      refine g_iconst C 2 at_139 rfl ?_
      refine g_icmp_f C at_140 (XT.ii_lt_f (by decide)) ?_
      refine g_aload C at_143 rfl rfl ?_
      refine g_iconst C 1 at_145 rfl ?_
      refine g_iload C at_146 rfl ?_
      refine g_iconst C 5 at_148 rfl ?_
      refine g_irem C at_149 (by decide) ?_
      refine g_i2d C at_150 ?_
      refine g_dastore C V508 (List.mem_of_getElem? (i := 0) rfl) at_151 ⟨by decide, by decide⟩ 1 rfl (Nat.le_of_ble_eq_true rfl) ?_
      intro h509 W509 V509
      replace V509 : Arv Z h509 b507 ka507 .double (3 : Int32) [(.double (FP.i2d (i5 % (5 : Int32)))), (.double (FP.i2d (i6 % (5 : Int32)))), (.double 0)] (.double 0) := V509
      refine g_iload C at_152 rfl ?_
      refine g_iconst C 3 at_154 rfl ?_
      refine g_icmp_f C at_155 (XT.ii_lt_f (by decide)) ?_
      refine g_aload C at_158 rfl rfl ?_
      refine g_iconst C 2 at_160 rfl ?_
      refine g_iload C at_161 rfl ?_
      refine g_iconst C 5 at_163 rfl ?_
      refine g_idiv C at_164 (by decide) ?_
      refine g_iconst C 5 at_165 rfl ?_
      refine g_irem C at_166 (by decide) ?_
      refine g_i2d C at_167 ?_
      refine g_dastore C V509 (List.mem_of_getElem? (i := 0) rfl) at_168 ⟨by decide, by decide⟩ 2 rfl (Nat.le_of_ble_eq_true rfl) ?_
      intro h510 W510 V510
      replace V510 : Arv Z h510 b507 ka507 .double (3 : Int32) [(.double (FP.i2d (i5 % (5 : Int32)))), (.double (FP.i2d (i6 % (5 : Int32)))), (.double (FP.i2d ((i5 / (5 : Int32)) % (5 : Int32))))] (.double 0) := V510
      refine g_new C w_8 w_9 w_10 at_169 (by decide) (by decide) ?_
      intro b511 h511 g511 E511 A511 D511
      refine g_dup C at_172 rfl ?_
      refine g_aload C at_173 rfl rfl ?_
      refine g_aload C at_175 rfl rfl ?_
      have K512 : Keep h510 h511 [] := (Keep.refl h510 []).ext E511
      have V513 := (V510.keep K512 nin0)
      have K514 : Keep h371 h507 [] := (Keep.refl h371 []).ext E507
      have K515 : Keep h371 h508 [] := K514.wr W508 (Or.inr (Nat.le_of_eq g507.symm))
      have K516 : Keep h371 h509 [] := K515.wr W509 (Or.inr (Nat.le_of_eq g507.symm))
      have K517 : Keep h371 h510 [] := K516.wr W510 (Or.inr (Nat.le_of_eq g507.symm))
      have K518 : Keep h371 h511 [] := K517.ext E511
      have V519 := (V371.keep K518 nin0)
      have E520 := ((((A507.wr W508).wr W509).wr W510).ext E511)
      have E521 := (((((((A369.wr W370).wr W371).ext E507).wr W508).wr W509).wr W510).ext E511)
      refine g_special C (a := b511) w_11 w_12 w_13 rfl (by decide) [(.ref b507), (.ref b369)] (ct_of hw w_13 w_10 (rm_init l Z a0 hw b511 b507 b369 (3 : Int32) (2 : Int32) _ _ _ _ h511 n0 A511 (D511 (Or.inr (C.hw w_27)) (ty := (.array .double)) (by decide)) (D511 (Or.inr (C.hw w_29)) (ty := (.array .double)) (by decide)) V513 V519 E520 E521 (by decide) (by decide))) (allS (List.mem_of_getElem? (i := 0) rfl) all0) (by decide) 1 (by decide) rfl pd___D_D_V rfl [(.ref b511)] rfl (Nat.le_of_eq rfl) at_177 (by decide) (by decide) ?_
      intro v522 h522 Q522
      obtain ⟨rfl, KC522, X522, b522, le522, G522, V522⟩ := Q522
      refine g_astore C #[.val (.int i1), .val (.int i2), .val (.int i3), .val (.int i4), .val (.int i5), .val (.int i6), .val (.int aa), .val (.int bb), .val (.int cc), .val (.int hi), .val (.int lo), .val (.int mid), .val (.int (2 : Int32)), .val (.int (3 : Int32)), .val (.ref b369), .val (.ref b507), .val (.ref b511), .unset, .unset, .unset] at_180 rfl rfl ?_
      refine g_iload C at_182 rfl ?_
      refine g_iconst C 1 at_184 rfl ?_
      refine g_icmp_f C at_185 (XT.ii_lt_f (by decide)) ?_
      refine g_iload C at_188 rfl ?_
      by_cases hc523 : 0 < hi
      · refine g_if_t C 215 at_190 (XT.i0_gt_t hc523) (by decide) (by decide) ?_
        refine g_iconst C 1 at_215 rfl ?_
        refine g_goto C 220 at_216 (by decide) (by decide) ?_
        refine g_istore C #[.val (.int i1), .val (.int i2), .val (.int i3), .val (.int i4), .val (.int i5), .val (.int i6), .val (.int aa), .val (.int bb), .val (.int cc), .val (.int hi), .val (.int lo), .val (.int mid), .val (.int (2 : Int32)), .val (.int (3 : Int32)), .val (.ref b369), .val (.ref b507), .val (.ref b511), .val (.int (1 : Int32)), .unset, .unset] at_220 rfl ?_
        refine g_aload C at_222 rfl rfl ?_
        refine g_virtual C X522 w_30 w_31 (fun hZ => nf_sel hw w_33 hZ) w_33 w_32 (by decide) [] (ct_of hw w_34 w_10 (rm_h1 l Z a0 hw b511 b522 _ (2 : Int32) hi _ h522 n0 G522 V522 (by decide) rfl)) all0 (by decide) 0 (by decide) rfl pd___Z rfl [] rfl (Nat.le_of_eq rfl) at_224 (by decide) (by decide) ?_
        intro v524 h524 Q524
        obtain ⟨rfl, e524⟩ := Q524
        replace e524 := e524.symm
        subst e524
        refine g_istore C #[.val (.int i1), .val (.int i2), .val (.int i3), .val (.int i4), .val (.int i5), .val (.int i6), .val (.int aa), .val (.int bb), .val (.int cc), .val (.int hi), .val (.int lo), .val (.int mid), .val (.int (2 : Int32)), .val (.int (3 : Int32)), .val (.ref b369), .val (.ref b507), .val (.ref b511), .val (.int (1 : Int32)), .val (.int (if 0 < hi then 1 else 0)), .unset] at_227 rfl ?_
        refine g_iload C at_229 rfl ?_
        refine g_iconst C 1 at_231 rfl ?_
        refine g_icmp_f C at_232 (XT.ii_lt_f (by decide)) ?_
        refine g_aload C at_235 rfl rfl ?_
        refine g_iconst C 0 at_237 rfl ?_
        refine g_iloadN C at_238 rfl ?_
        refine g_iconst C 4 at_239 rfl ?_
        refine g_iushr C at_240 ?_
        refine g_iconst C 1 at_241 rfl ?_
        refine g_iand C at_242 ?_
        by_cases hc525 : (((i4.toUInt32 >>> ((4 : Int32) &&& 31).toUInt32).toInt32) &&& (1 : Int32)) = 0
        · refine g_if_t C 250 at_243 (XT.i0_eq_t hc525) (by decide) (by decide) ?_
          refine g_ldc2D C w_35 at_250 ?_
          have V526 := (V371.keep K517 nin0)
          have V527 := (V519.keep KC522 (ninS (Nat.ne_of_lt (Nat.lt_of_lt_of_le V526.lt (Nat.le_of_eq g511.symm))) nin0))
          refine g_dastore C V527 (List.mem_of_getElem? (i := 2) rfl) at_253 ⟨by decide, by decide⟩ 0 rfl (Nat.le_of_ble_eq_true rfl) ?_
          intro h528 W528 V528
          replace V528 : Arv Z h528 b369 ka369 .double (2 : Int32) [(.double (13830554455654793216 : UInt64)), (.double (FP.i2d mid))] (.double 0) := V528
          refine g_aload C at_254 rfl rfl ?_
          have F529 := (G522.other W528 (Or.inl (Ne.symm (Nat.ne_of_lt (Nat.lt_of_lt_of_le V526.lt (Nat.le_of_eq g511.symm))))))
          have V530 := (V522.other W528 (Ne.symm (Nat.ne_of_lt (Nat.lt_of_lt_of_le V519.lt le522))))
          have E532 := (X522.wr W528)
          refine g_virtual C E532 w_30 w_31 (fun hZ => nf_sel hw w_33 hZ) w_33 w_32 (by decide) [] (ct_of hw w_34 w_10 (rm_h1 l Z a0 hw b511 b522 _ (2 : Int32) hi _ h528 n0 F529 V530 (by decide) rfl)) all0 (by decide) 0 (by decide) rfl pd___Z rfl [] rfl (Nat.le_of_eq rfl) at_256 (by decide) (by decide) ?_
          intro v531 h531 Q531
          obtain ⟨rfl, e531⟩ := Q531
          replace e531 := e531.symm
          subst e531
          refine g_istore C #[.val (.int i1), .val (.int i2), .val (.int i3), .val (.int i4), .val (.int i5), .val (.int i6), .val (.int aa), .val (.int bb), .val (.int cc), .val (.int hi), .val (.int lo), .val (.int mid), .val (.int (2 : Int32)), .val (.int (3 : Int32)), .val (.ref b369), .val (.ref b507), .val (.ref b511), .val (.int (1 : Int32)), .val (.int (if 0 < hi then 1 else 0)), .val (.int (if 0 < hi then 1 else 0))] at_259 rfl ?_
          refine g_iload C at_261 rfl ?_
          refine g_iload C at_263 rfl ?_
          refine g_icmp_f C at_265 (XT.ii_ne_f (if_pos hc523)) ?_
          refine g_iload C at_268 rfl ?_
          refine g_iload C at_270 rfl ?_
          refine g_icmp_f C at_272 (XT.ii_ne_f (if_pos hc523)) ?_
          refine g_iconst C 1 at_275 rfl ?_
          refine g_goto C 280 at_276 (by decide) (by decide) ?_
          refine g_ireturnN C (t := .boolean) rfl (by simp) at_280 (by decide) (by decide) ?_
          exact rfl
        · refine g_if_f C at_243 (XT.i0_eq_f hc525) ?_
          refine g_dconst1 C at_246 ?_
          refine g_goto C 253 at_247 (by decide) (by decide) ?_
          have V533 := (V371.keep K517 nin0)
          have V534 := (V519.keep KC522 (ninS (Nat.ne_of_lt (Nat.lt_of_lt_of_le V533.lt (Nat.le_of_eq g511.symm))) nin0))
          refine g_dastore C V534 (List.mem_of_getElem? (i := 2) rfl) at_253 ⟨by decide, by decide⟩ 0 rfl (Nat.le_of_ble_eq_true rfl) ?_
          intro h535 W535 V535
          replace V535 : Arv Z h535 b369 ka369 .double (2 : Int32) [(.double FP.dconst1), (.double (FP.i2d mid))] (.double 0) := V535
          refine g_aload C at_254 rfl rfl ?_
          have F536 := (G522.other W535 (Or.inl (Ne.symm (Nat.ne_of_lt (Nat.lt_of_lt_of_le V533.lt (Nat.le_of_eq g511.symm))))))
          have V537 := (V522.other W535 (Ne.symm (Nat.ne_of_lt (Nat.lt_of_lt_of_le V519.lt le522))))
          have E539 := (X522.wr W535)
          refine g_virtual C E539 w_30 w_31 (fun hZ => nf_sel hw w_33 hZ) w_33 w_32 (by decide) [] (ct_of hw w_34 w_10 (rm_h1 l Z a0 hw b511 b522 _ (2 : Int32) hi _ h535 n0 F536 V537 (by decide) rfl)) all0 (by decide) 0 (by decide) rfl pd___Z rfl [] rfl (Nat.le_of_eq rfl) at_256 (by decide) (by decide) ?_
          intro v538 h538 Q538
          obtain ⟨rfl, e538⟩ := Q538
          replace e538 := e538.symm
          subst e538
          refine g_istore C #[.val (.int i1), .val (.int i2), .val (.int i3), .val (.int i4), .val (.int i5), .val (.int i6), .val (.int aa), .val (.int bb), .val (.int cc), .val (.int hi), .val (.int lo), .val (.int mid), .val (.int (2 : Int32)), .val (.int (3 : Int32)), .val (.ref b369), .val (.ref b507), .val (.ref b511), .val (.int (1 : Int32)), .val (.int (if 0 < hi then 1 else 0)), .val (.int (if 0 < hi then 1 else 0))] at_259 rfl ?_
          refine g_iload C at_261 rfl ?_
          refine g_iload C at_263 rfl ?_
          refine g_icmp_f C at_265 (XT.ii_ne_f (if_pos hc523)) ?_
          refine g_iload C at_268 rfl ?_
          refine g_iload C at_270 rfl ?_
          refine g_icmp_f C at_272 (XT.ii_ne_f (if_pos hc523)) ?_
          refine g_iconst C 1 at_275 rfl ?_
          refine g_goto C 280 at_276 (by decide) (by decide) ?_
          refine g_ireturnN C (t := .boolean) rfl (by simp) at_280 (by decide) (by decide) ?_
          exact rfl
      · refine g_if_f C at_190 (XT.i0_gt_f hc523) ?_
        refine g_iload C at_193 rfl ?_
        refine g_iconst C 2 at_195 rfl ?_
        refine g_icmp_f C at_196 (XT.ii_lt_f (by decide)) ?_
        refine g_iload C at_199 rfl ?_
        refine g_if_f C at_201 (XT.i0_gt_f (hmed hc523).1) ?_
        refine g_iload C at_204 rfl ?_
        refine g_iconst C 3 at_206 rfl ?_
        refine g_icmp_t C 219 at_207 (XT.ii_lt_t (by decide)) (by decide) (by decide) ?_
        refine g_iconst C 0 at_219 rfl ?_
        refine g_istore C #[.val (.int i1), .val (.int i2), .val (.int i3), .val (.int i4), .val (.int i5), .val (.int i6), .val (.int aa), .val (.int bb), .val (.int cc), .val (.int hi), .val (.int lo), .val (.int mid), .val (.int (2 : Int32)), .val (.int (3 : Int32)), .val (.ref b369), .val (.ref b507), .val (.ref b511), .val (.int (0 : Int32)), .unset, .unset] at_220 rfl ?_
        refine g_aload C at_222 rfl rfl ?_
        refine g_virtual C X522 w_30 w_31 (fun hZ => nf_sel hw w_33 hZ) w_33 w_32 (by decide) [] (ct_of hw w_34 w_10 (rm_h1 l Z a0 hw b511 b522 _ (2 : Int32) hi _ h522 n0 G522 V522 (by decide) rfl)) all0 (by decide) 0 (by decide) rfl pd___Z rfl [] rfl (Nat.le_of_eq rfl) at_224 (by decide) (by decide) ?_
        intro v540 h540 Q540
        obtain ⟨rfl, e540⟩ := Q540
        replace e540 := e540.symm
        subst e540
        refine g_istore C #[.val (.int i1), .val (.int i2), .val (.int i3), .val (.int i4), .val (.int i5), .val (.int i6), .val (.int aa), .val (.int bb), .val (.int cc), .val (.int hi), .val (.int lo), .val (.int mid), .val (.int (2 : Int32)), .val (.int (3 : Int32)), .val (.ref b369), .val (.ref b507), .val (.ref b511), .val (.int (0 : Int32)), .val (.int (if 0 < hi then 1 else 0)), .unset] at_227 rfl ?_
        refine g_iload C at_229 rfl ?_
        refine g_iconst C 1 at_231 rfl ?_
        refine g_icmp_f C at_232 (XT.ii_lt_f (by decide)) ?_
        refine g_aload C at_235 rfl rfl ?_
        refine g_iconst C 0 at_237 rfl ?_
        refine g_iloadN C at_238 rfl ?_
        refine g_iconst C 4 at_239 rfl ?_
        refine g_iushr C at_240 ?_
        refine g_iconst C 1 at_241 rfl ?_
        refine g_iand C at_242 ?_
        by_cases hc541 : (((i4.toUInt32 >>> ((4 : Int32) &&& 31).toUInt32).toInt32) &&& (1 : Int32)) = 0
        · refine g_if_t C 250 at_243 (XT.i0_eq_t hc541) (by decide) (by decide) ?_
          refine g_ldc2D C w_35 at_250 ?_
          have V542 := (V371.keep K517 nin0)
          have V543 := (V519.keep KC522 (ninS (Nat.ne_of_lt (Nat.lt_of_lt_of_le V542.lt (Nat.le_of_eq g511.symm))) nin0))
          refine g_dastore C V543 (List.mem_of_getElem? (i := 2) rfl) at_253 ⟨by decide, by decide⟩ 0 rfl (Nat.le_of_ble_eq_true rfl) ?_
          intro h544 W544 V544
          replace V544 : Arv Z h544 b369 ka369 .double (2 : Int32) [(.double (13830554455654793216 : UInt64)), (.double (FP.i2d mid))] (.double 0) := V544
          refine g_aload C at_254 rfl rfl ?_
          have F545 := (G522.other W544 (Or.inl (Ne.symm (Nat.ne_of_lt (Nat.lt_of_lt_of_le V542.lt (Nat.le_of_eq g511.symm))))))
          have V546 := (V522.other W544 (Ne.symm (Nat.ne_of_lt (Nat.lt_of_lt_of_le V519.lt le522))))
          have E548 := (X522.wr W544)
          refine g_virtual C E548 w_30 w_31 (fun hZ => nf_sel hw w_33 hZ) w_33 w_32 (by decide) [] (ct_of hw w_34 w_10 (rm_h1 l Z a0 hw b511 b522 _ (2 : Int32) hi _ h544 n0 F545 V546 (by decide) rfl)) all0 (by decide) 0 (by decide) rfl pd___Z rfl [] rfl (Nat.le_of_eq rfl) at_256 (by decide) (by decide) ?_
          intro v547 h547 Q547
          obtain ⟨rfl, e547⟩ := Q547
          replace e547 := e547.symm
          subst e547
          refine g_istore C #[.val (.int i1), .val (.int i2), .val (.int i3), .val (.int i4), .val (.int i5), .val (.int i6), .val (.int aa), .val (.int bb), .val (.int cc), .val (.int hi), .val (.int lo), .val (.int mid), .val (.int (2 : Int32)), .val (.int (3 : Int32)), .val (.ref b369), .val (.ref b507), .val (.ref b511), .val (.int (0 : Int32)), .val (.int (if 0 < hi then 1 else 0)), .val (.int (if 0 < hi then 1 else 0))] at_259 rfl ?_
          refine g_iload C at_261 rfl ?_
          refine g_iload C at_263 rfl ?_
          refine g_icmp_f C at_265 (XT.ii_ne_f (if_neg hc523)) ?_
          refine g_iload C at_268 rfl ?_
          refine g_iload C at_270 rfl ?_
          refine g_icmp_f C at_272 (XT.ii_ne_f (if_neg hc523)) ?_
          refine g_iconst C 1 at_275 rfl ?_
          refine g_goto C 280 at_276 (by decide) (by decide) ?_
          refine g_ireturnN C (t := .boolean) rfl (by simp) at_280 (by decide) (by decide) ?_
          exact rfl
        · refine g_if_f C at_243 (XT.i0_eq_f hc541) ?_
          refine g_dconst1 C at_246 ?_
          refine g_goto C 253 at_247 (by decide) (by decide) ?_
          have V549 := (V371.keep K517 nin0)
          have V550 := (V519.keep KC522 (ninS (Nat.ne_of_lt (Nat.lt_of_lt_of_le V549.lt (Nat.le_of_eq g511.symm))) nin0))
          refine g_dastore C V550 (List.mem_of_getElem? (i := 2) rfl) at_253 ⟨by decide, by decide⟩ 0 rfl (Nat.le_of_ble_eq_true rfl) ?_
          intro h551 W551 V551
          replace V551 : Arv Z h551 b369 ka369 .double (2 : Int32) [(.double FP.dconst1), (.double (FP.i2d mid))] (.double 0) := V551
          refine g_aload C at_254 rfl rfl ?_
          have F552 := (G522.other W551 (Or.inl (Ne.symm (Nat.ne_of_lt (Nat.lt_of_lt_of_le V549.lt (Nat.le_of_eq g511.symm))))))
          have V553 := (V522.other W551 (Ne.symm (Nat.ne_of_lt (Nat.lt_of_lt_of_le V519.lt le522))))
          have E555 := (X522.wr W551)
          refine g_virtual C E555 w_30 w_31 (fun hZ => nf_sel hw w_33 hZ) w_33 w_32 (by decide) [] (ct_of hw w_34 w_10 (rm_h1 l Z a0 hw b511 b522 _ (2 : Int32) hi _ h551 n0 F552 V553 (by decide) rfl)) all0 (by decide) 0 (by decide) rfl pd___Z rfl [] rfl (Nat.le_of_eq rfl) at_256 (by decide) (by decide) ?_
          intro v554 h554 Q554
          obtain ⟨rfl, e554⟩ := Q554
          replace e554 := e554.symm
          subst e554
          refine g_istore C #[.val (.int i1), .val (.int i2), .val (.int i3), .val (.int i4), .val (.int i5), .val (.int i6), .val (.int aa), .val (.int bb), .val (.int cc), .val (.int hi), .val (.int lo), .val (.int mid), .val (.int (2 : Int32)), .val (.int (3 : Int32)), .val (.ref b369), .val (.ref b507), .val (.ref b511), .val (.int (0 : Int32)), .val (.int (if 0 < hi then 1 else 0)), .val (.int (if 0 < hi then 1 else 0))] at_259 rfl ?_
          refine g_iload C at_261 rfl ?_
          refine g_iload C at_263 rfl ?_
          refine g_icmp_f C at_265 (XT.ii_ne_f (if_neg hc523)) ?_
          refine g_iload C at_268 rfl ?_
          refine g_iload C at_270 rfl ?_
          refine g_icmp_f C at_272 (XT.ii_ne_f (if_neg hc523)) ?_
          refine g_iconst C 1 at_275 rfl ?_
          refine g_goto C 280 at_276 (by decide) (by decide) ?_
          refine g_ireturnN C (t := .boolean) rfl (by simp) at_280 (by decide) (by decide) ?_
          exact rfl
  · refine g_iload C at_71 rfl ?_
    refine g_newarray C (aty := .double) w_7 at_73 (by decide) 3 (by decide) (by decide) (by decide) (by decide) "[D" rfl ?_
    intro b556 h556 ka556 g556 E556 V556 A556
    replace V556 : Arv Z h556 b556 ka556 .double (3 : Int32) [(.double 0), (.double 0), (.double 0)] (.double 0) := V556.pad (pad_rep [] _ 3)
    refine g_astore C #[.val (.int i1), .val (.int i2), .val (.int i3), .val (.int i4), .val (.int i5), .val (.int i6), .val (.int aa), .val (.int bb), .val (.int cc), .val (.int hi), .val (.int lo), .val (.int mid), .val (.int (3 : Int32)), .val (.int (((i4.toUInt32 >>> ((2 : Int32) &&& 31).toUInt32).toInt32) &&& (3 : Int32))), .val (.ref b556), .unset, .unset, .unset, .unset, .unset] at_75 rfl rfl ?_
    refine g_iload C at_77 rfl ?_
    refine g_iconst C 1 at_79 rfl ?_
    refine g_icmp_f C at_80 (XT.ii_lt_f (by decide)) ?_
    refine g_aload C at_83 rfl rfl ?_
    refine g_iconst C 0 at_85 rfl ?_
    refine g_iload C at_86 rfl ?_
    refine g_i2d C at_88 ?_
    refine g_dastore C V556 (List.mem_of_getElem? (i := 0) rfl) at_89 ⟨by decide, by decide⟩ 0 rfl (Nat.le_of_ble_eq_true rfl) ?_
    intro h557 W557 V557
    replace V557 : Arv Z h557 b556 ka556 .double (3 : Int32) [(.double (FP.i2d hi)), (.double 0), (.double 0)] (.double 0) := V557
    refine g_iload C at_90 rfl ?_
    refine g_iconst C 2 at_92 rfl ?_
    refine g_icmp_f C at_93 (XT.ii_lt_f (by decide)) ?_
    refine g_aload C at_96 rfl rfl ?_
    refine g_iconst C 1 at_98 rfl ?_
    refine g_iload C at_99 rfl ?_
    refine g_i2d C at_101 ?_
    refine g_dastore C V557 (List.mem_of_getElem? (i := 0) rfl) at_102 ⟨by decide, by decide⟩ 1 rfl (Nat.le_of_ble_eq_true rfl) ?_
    intro h558 W558 V558
    replace V558 : Arv Z h558 b556 ka556 .double (3 : Int32) [(.double (FP.i2d hi)), (.double (FP.i2d mid)), (.double 0)] (.double 0) := V558
    refine g_iload C at_103 rfl ?_
    refine g_iconst C 3 at_105 rfl ?_
    refine g_icmp_f C at_106 (XT.ii_lt_f (by decide)) ?_
    refine g_aload C at_109 rfl rfl ?_
    refine g_iconst C 2 at_111 rfl ?_
    refine g_iload C at_112 rfl ?_
    refine g_i2d C at_114 ?_
    refine g_dastore C V558 (List.mem_of_getElem? (i := 0) rfl) at_115 ⟨by decide, by decide⟩ 2 rfl (Nat.le_of_ble_eq_true rfl) ?_
    intro h559 W559 V559
    replace V559 : Arv Z h559 b556 ka556 .double (3 : Int32) [(.double (FP.i2d hi)), (.double (FP.i2d mid)), (.double (FP.i2d lo))] (.double 0) := V559
    obtain ⟨n13, e_n13, h_n13⟩ : ∃ z : Int32, (((i4.toUInt32 >>> ((2 : Int32) &&& 31).toUInt32).toInt32) &&& (3 : Int32)) = z ∧ (z = 0 ∨ z = 1 ∨ z = 2 ∨ z = 3) := ⟨_, rfl, own_and3 _⟩
    rw [e_n13]
    rcases h_n13 with rfl | rfl | rfl | rfl
    · refine g_iload C at_116 rfl ?_
      refine g_newarray C (aty := .double) w_7 at_118 (by decide) 0 (by decide) (by decide) (by decide) (by decide) "[D" rfl ?_
      intro b560 h560 ka560 g560 E560 V560 A560
      replace V560 : Arv Z h560 b560 ka560 .double (0 : Int32) [] (.double 0) := V560.pad (pad_rep [] _ 0)
      refine g_astore C #[.val (.int i1), .val (.int i2), .val (.int i3), .val (.int i4), .val (.int i5), .val (.int i6), .val (.int aa), .val (.int bb), .val (.int cc), .val (.int hi), .val (.int lo), .val (.int mid), .val (.int (3 : Int32)), .val (.int (0 : Int32)), .val (.ref b556), .val (.ref b560), .unset, .unset, .unset, .unset] at_120 rfl rfl ?_
      refine g_iload C at_122 rfl ?_
      refine g_iconst C 1 at_124 rfl ?_
      refine g_icmp_t C 137 at_125 (XT.ii_lt_t (by decide)) (by decide) (by decide) ?_
      refine g_iload C at_137 rfl ?_
      refine g_iconst C 2 at_139 rfl ?_
      refine g_icmp_t C 152 at_140 (XT.ii_lt_t (by decide)) (by decide) (by decide) ?_
      refine g_iload C at_152 rfl ?_
      refine g_iconst C 3 at_154 rfl ?_
      refine g_icmp_t C 169 at_155 (XT.ii_lt_t (by decide)) (by decide) (by decide) ?_
      refine g_new C w_8 w_9 w_10 at_169 (by decide) (by decide) ?_
      intro b561 h561 g561 E561 A561 D561
      refine g_dup C at_172 rfl ?_
      refine g_aload C at_173 rfl rfl ?_
      refine g_aload C at_175 rfl rfl ?_
      have K562 : Keep h560 h561 [] := (Keep.refl h560 []).ext E561
      have V563 := (V560.keep K562 nin0)
      have K564 : Keep h559 h560 [] := (Keep.refl h559 []).ext E560
      have K565 : Keep h559 h561 [] := K564.ext E561
      have V566 := (V559.keep K565 nin0)
      have E567 := (A560.keep K562)
      have E568 := (((((A556.wr W557).wr W558).wr W559).ext E560).ext E561)
      refine g_special C (a := b561) w_11 w_12 w_13 rfl (by decide) [(.ref b560), (.ref b556)] (ct_of hw w_13 w_10 (rm_init l Z a0 hw b561 b560 b556 (0 : Int32) (3 : Int32) _ _ _ _ h561 n0 A561 (D561 (Or.inr (C.hw w_27)) (ty := (.array .double)) (by decide)) (D561 (Or.inr (C.hw w_29)) (ty := (.array .double)) (by decide)) V563 V566 E567 E568 (by decide) (by decide))) (allS (List.mem_of_getElem? (i := 0) rfl) all0) (by decide) 1 (by decide) rfl pd___D_D_V rfl [(.ref b561)] rfl (Nat.le_of_eq rfl) at_177 (by decide) (by decide) ?_
      intro v569 h569 Q569
      obtain ⟨rfl, KC569, X569, b569, le569, G569, V569⟩ := Q569
      refine g_astore C #[.val (.int i1), .val (.int i2), .val (.int i3), .val (.int i4), .val (.int i5), .val (.int i6), .val (.int aa), .val (.int bb), .val (.int cc), .val (.int hi), .val (.int lo), .val (.int mid), .val (.int (3 : Int32)), .val (.int (0 : Int32)), .val (.ref b556), .val (.ref b560), .val (.ref b561), .unset, .unset, .unset] at_180 rfl rfl ?_
      refine g_iload C at_182 rfl ?_
      refine g_iconst C 1 at_184 rfl ?_
      refine g_icmp_f C at_185 (XT.ii_lt_f (by decide)) ?_
      refine g_iload C at_188 rfl ?_
      by_cases hc570 : 0 < hi
      · refine g_if_t C 215 at_190 (XT.i0_gt_t hc570) (by decide) (by decide) ?_
        refine g_iconst C 1 at_215 rfl ?_
        refine g_goto C 220 at_216 (by decide) (by decide) ?_
        refine g_istore C #[.val (.int i1), .val (.int i2), .val (.int i3), .val (.int i4), .val (.int i5), .val (.int i6), .val (.int aa), .val (.int bb), .val (.int cc), .val (.int hi), .val (.int lo), .val (.int mid), .val (.int (3 : Int32)), .val (.int (0 : Int32)), .val (.ref b556), .val (.ref b560), .val (.ref b561), .val (.int (1 : Int32)), .unset, .unset] at_220 rfl ?_
        refine g_aload C at_222 rfl rfl ?_
        refine g_virtual C X569 w_30 w_31 (fun hZ => nf_sel hw w_33 hZ) w_33 w_32 (by decide) [] (ct_of hw w_34 w_10 (rm_h1 l Z a0 hw b561 b569 _ (3 : Int32) hi _ h569 n0 G569 V569 (by decide) rfl)) all0 (by decide) 0 (by decide) rfl pd___Z rfl [] rfl (Nat.le_of_eq rfl) at_224 (by decide) (by decide) ?_
        intro v571 h571 Q571
        obtain ⟨rfl, e571⟩ := Q571
        replace e571 := e571.symm
        subst e571
        refine g_istore C #[.val (.int i1), .val (.int i2), .val (.int i3), .val (.int i4), .val (.int i5), .val (.int i6), .val (.int aa), .val (.int bb), .val (.int cc), .val (.int hi), .val (.int lo), .val (.int mid), .val (.int (3 : Int32)), .val (.int (0 : Int32)), .val (.ref b556), .val (.ref b560), .val (.ref b561), .val (.int (1 : Int32)), .val (.int (if 0 < hi then 1 else 0)), .unset] at_227 rfl ?_
        refine g_iload C at_229 rfl ?_
        refine g_iconst C 1 at_231 rfl ?_
        refine g_icmp_f C at_232 (XT.ii_lt_f (by decide)) ?_
        refine g_aload C at_235 rfl rfl ?_
        refine g_iconst C 0 at_237 rfl ?_
        refine g_iloadN C at_238 rfl ?_
        refine g_iconst C 4 at_239 rfl ?_
        refine g_iushr C at_240 ?_
        refine g_iconst C 1 at_241 rfl ?_
        refine g_iand C at_242 ?_
        by_cases hc572 : (((i4.toUInt32 >>> ((4 : Int32) &&& 31).toUInt32).toInt32) &&& (1 : Int32)) = 0
        · refine g_if_t C 250 at_243 (XT.i0_eq_t hc572) (by decide) (by decide) ?_
          refine g_ldc2D C w_35 at_250 ?_
          have V573 := (V559.keep K564 nin0)
          have V574 := (V566.keep KC569 (ninS (Nat.ne_of_lt (Nat.lt_of_lt_of_le V573.lt (Nat.le_of_eq g561.symm))) nin0))
          refine g_dastore C V574 (List.mem_of_getElem? (i := 2) rfl) at_253 ⟨by decide, by decide⟩ 0 rfl (Nat.le_of_ble_eq_true rfl) ?_
          intro h575 W575 V575
          replace V575 : Arv Z h575 b556 ka556 .double (3 : Int32) [(.double (13830554455654793216 : UInt64)), (.double (FP.i2d mid)), (.double (FP.i2d lo))] (.double 0) := V575
          refine g_aload C at_254 rfl rfl ?_
          have F576 := (G569.other W575 (Or.inl (Ne.symm (Nat.ne_of_lt (Nat.lt_of_lt_of_le V573.lt (Nat.le_of_eq g561.symm))))))
          have V577 := (V569.other W575 (Ne.symm (Nat.ne_of_lt (Nat.lt_of_lt_of_le V566.lt le569))))
          have E579 := (X569.wr W575)
          refine g_virtual C E579 w_30 w_31 (fun hZ => nf_sel hw w_33 hZ) w_33 w_32 (by decide) [] (ct_of hw w_34 w_10 (rm_h1 l Z a0 hw b561 b569 _ (3 : Int32) hi _ h575 n0 F576 V577 (by decide) rfl)) all0 (by decide) 0 (by decide) rfl pd___Z rfl [] rfl (Nat.le_of_eq rfl) at_256 (by decide) (by decide) ?_
          intro v578 h578 Q578
          obtain ⟨rfl, e578⟩ := Q578
          replace e578 := e578.symm
          subst e578
          refine g_istore C #[.val (.int i1), .val (.int i2), .val (.int i3), .val (.int i4), .val (.int i5), .val (.int i6), .val (.int aa), .val (.int bb), .val (.int cc), .val (.int hi), .val (.int lo), .val (.int mid), .val (.int (3 : Int32)), .val (.int (0 : Int32)), .val (.ref b556), .val (.ref b560), .val (.ref b561), .val (.int (1 : Int32)), .val (.int (if 0 < hi then 1 else 0)), .val (.int (if 0 < hi then 1 else 0))] at_259 rfl ?_
          refine g_iload C at_261 rfl ?_
          refine g_iload C at_263 rfl ?_
          refine g_icmp_f C at_265 (XT.ii_ne_f (if_pos hc570)) ?_
          refine g_iload C at_268 rfl ?_
          refine g_iload C at_270 rfl ?_
          refine g_icmp_f C at_272 (XT.ii_ne_f (if_pos hc570)) ?_
          refine g_iconst C 1 at_275 rfl ?_
          refine g_goto C 280 at_276 (by decide) (by decide) ?_
          refine g_ireturnN C (t := .boolean) rfl (by simp) at_280 (by decide) (by decide) ?_
          exact rfl
        · refine g_if_f C at_243 (XT.i0_eq_f hc572) ?_
          refine g_dconst1 C at_246 ?_
          refine g_goto C 253 at_247 (by decide) (by decide) ?_
          have V580 := (V559.keep K564 nin0)
          have V581 := (V566.keep KC569 (ninS (Nat.ne_of_lt (Nat.lt_of_lt_of_le V580.lt (Nat.le_of_eq g561.symm))) nin0))
          refine g_dastore C V581 (List.mem_of_getElem? (i := 2) rfl) at_253 ⟨by decide, by decide⟩ 0 rfl (Nat.le_of_ble_eq_true rfl) ?_
          intro h582 W582 V582
          replace V582 : Arv Z h582 b556 ka556 .double (3 : Int32) [(.double FP.dconst1), (.double (FP.i2d mid)), (.double (FP.i2d lo))] (.double 0) := V582
          refine g_aload C at_254 rfl rfl ?_
          have F583 := (G569.other W582 (Or.inl (Ne.symm (Nat.ne_of_lt (Nat.lt_of_lt_of_le V580.lt (Nat.le_of_eq g561.symm))))))
          have V584 := (V569.other W582 (Ne.symm (Nat.ne_of_lt (Nat.lt_of_lt_of_le V566.lt le569))))
          have E586 := (X569.wr W582)
          refine g_virtual C E586 w_30 w_31 (fun hZ => nf_sel hw w_33 hZ) w_33 w_32 (by decide) [] (ct_of hw w_34 w_10 (rm_h1 l Z a0 hw b561 b569 _ (3 : Int32) hi _ h582 n0 F583 V584 (by decide) rfl)) all0 (by decide) 0 (by decide) rfl pd___Z rfl [] rfl (Nat.le_of_eq rfl) at_256 (by decide) (by decide) ?_
          intro v585 h585 Q585
          obtain ⟨rfl, e585⟩ := Q585
          replace e585 := e585.symm
          subst e585
          refine g_istore C #[.val (.int i1), .val (.int i2), .val (.int i3), .val (.int i4), .val (.int i5), .val (.int i6), .val (.int aa), .val (.int bb), .val (.int cc), .val (.int hi), .val (.int lo), .val (.int mid), .val (.int (3 : Int32)), .val (.int (0 : Int32)), .val (.ref b556), .val (.ref b560), .val (.ref b561), .val (.int (1 : Int32)), .val (.int (if 0 < hi then 1 else 0)), .val (.int (if 0 < hi then 1 else 0))] at_259 rfl ?_
          refine g_iload C at_261 rfl ?_
          refine g_iload C at_263 rfl ?_
          refine g_icmp_f C at_265 (XT.ii_ne_f (if_pos hc570)) ?_
          refine g_iload C at_268 rfl ?_
          refine g_iload C at_270 rfl ?_
          refine g_icmp_f C at_272 (XT.ii_ne_f (if_pos hc570)) ?_
          refine g_iconst C 1 at_275 rfl ?_
          refine g_goto C 280 at_276 (by decide) (by decide) ?_
          refine g_ireturnN C (t := .boolean) rfl (by simp) at_280 (by decide) (by decide) ?_
          exact rfl
      · refine g_if_f C at_190 (XT.i0_gt_f hc570) ?_
        refine g_iload C at_193 rfl ?_
        refine g_iconst C 2 at_195 rfl ?_
        refine g_icmp_f C at_196 (XT.ii_lt_f (by decide)) ?_
        refine g_iload C at_199 rfl ?_
        refine g_if_f C at_201 (XT.i0_gt_f (hmed hc570).1) ?_
        refine g_iload C at_204 rfl ?_
        refine g_iconst C 3 at_206 rfl ?_
        refine g_icmp_f C at_207 (XT.ii_lt_f (by decide)) ?_
        refine g_iload C at_210 rfl ?_
        refine g_if_t C 219 at_212 (XT.i0_le_t (hmed hc570).2) (by decide) (by decide) ?_
        refine g_iconst C 0 at_219 rfl ?_
        refine g_istore C #[.val (.int i1), .val (.int i2), .val (.int i3), .val (.int i4), .val (.int i5), .val (.int i6), .val (.int aa), .val (.int bb), .val (.int cc), .val (.int hi), .val (.int lo), .val (.int mid), .val (.int (3 : Int32)), .val (.int (0 : Int32)), .val (.ref b556), .val (.ref b560), .val (.ref b561), .val (.int (0 : Int32)), .unset, .unset] at_220 rfl ?_
        refine g_aload C at_222 rfl rfl ?_
        refine g_virtual C X569 w_30 w_31 (fun hZ => nf_sel hw w_33 hZ) w_33 w_32 (by decide) [] (ct_of hw w_34 w_10 (rm_h1 l Z a0 hw b561 b569 _ (3 : Int32) hi _ h569 n0 G569 V569 (by decide) rfl)) all0 (by decide) 0 (by decide) rfl pd___Z rfl [] rfl (Nat.le_of_eq rfl) at_224 (by decide) (by decide) ?_
        intro v587 h587 Q587
        obtain ⟨rfl, e587⟩ := Q587
        replace e587 := e587.symm
        subst e587
        refine g_istore C #[.val (.int i1), .val (.int i2), .val (.int i3), .val (.int i4), .val (.int i5), .val (.int i6), .val (.int aa), .val (.int bb), .val (.int cc), .val (.int hi), .val (.int lo), .val (.int mid), .val (.int (3 : Int32)), .val (.int (0 : Int32)), .val (.ref b556), .val (.ref b560), .val (.ref b561), .val (.int (0 : Int32)), .val (.int (if 0 < hi then 1 else 0)), .unset] at_227 rfl ?_
        refine g_iload C at_229 rfl ?_
        refine g_iconst C 1 at_231 rfl ?_
        refine g_icmp_f C at_232 (XT.ii_lt_f (by decide)) ?_
        refine g_aload C at_235 rfl rfl ?_
        refine g_iconst C 0 at_237 rfl ?_
        refine g_iloadN C at_238 rfl ?_
        refine g_iconst C 4 at_239 rfl ?_
        refine g_iushr C at_240 ?_
        refine g_iconst C 1 at_241 rfl ?_
        refine g_iand C at_242 ?_
        by_cases hc588 : (((i4.toUInt32 >>> ((4 : Int32) &&& 31).toUInt32).toInt32) &&& (1 : Int32)) = 0
        · refine g_if_t C 250 at_243 (XT.i0_eq_t hc588) (by decide) (by decide) ?_
          refine g_ldc2D C w_35 at_250 ?_
          have V589 := (V559.keep K564 nin0)
          have V590 := (V566.keep KC569 (ninS (Nat.ne_of_lt (Nat.lt_of_lt_of_le V589.lt (Nat.le_of_eq g561.symm))) nin0))
          refine g_dastore C V590 (List.mem_of_getElem? (i := 2) rfl) at_253 ⟨by decide, by decide⟩ 0 rfl (Nat.le_of_ble_eq_true rfl) ?_
          intro h591 W591 V591
          replace V591 : Arv Z h591 b556 ka556 .double (3 : Int32) [(.double (13830554455654793216 : UInt64)), (.double (FP.i2d mid)), (.double (FP.i2d lo))] (.double 0) := V591
          refine g_aload C at_254 rfl rfl ?_
          have F592 := (G569.other W591 (Or.inl (Ne.symm (Nat.ne_of_lt (Nat.lt_of_lt_of_le V589.lt (Nat.le_of_eq g561.symm))))))
          have V593 := (V569.other W591 (Ne.symm (Nat.ne_of_lt (Nat.lt_of_lt_of_le V566.lt le569))))
          have E595 := (X569.wr W591)
          refine g_virtual C E595 w_30 w_31 (fun hZ => nf_sel hw w_33 hZ) w_33 w_32 (by decide) [] (ct_of hw w_34 w_10 (rm_h1 l Z a0 hw b561 b569 _ (3 : Int32) hi _ h591 n0 F592 V593 (by decide) rfl)) all0 (by decide) 0 (by decide) rfl pd___Z rfl [] rfl (Nat.le_of_eq rfl) at_256 (by decide) (by decide) ?_
          intro v594 h594 Q594
          obtain ⟨rfl, e594⟩ := Q594
          replace e594 := e594.symm
          subst e594
          refine g_istore C #[.val (.int i1), .val (.int i2), .val (.int i3), .val (.int i4), .val (.int i5), .val (.int i6), .val (.int aa), .val (.int bb), .val (.int cc), .val (.int hi), .val (.int lo), .val (.int mid), .val (.int (3 : Int32)), .val (.int (0 : Int32)), .val (.ref b556), .val (.ref b560), .val (.ref b561), .val (.int (0 : Int32)), .val (.int (if 0 < hi then 1 else 0)), .val (.int (if 0 < hi then 1 else 0))] at_259 rfl ?_
          refine g_iload C at_261 rfl ?_
          refine g_iload C at_263 rfl ?_
          refine g_icmp_f C at_265 (XT.ii_ne_f (if_neg hc570)) ?_
          refine g_iload C at_268 rfl ?_
          refine g_iload C at_270 rfl ?_
          refine g_icmp_f C at_272 (XT.ii_ne_f (if_neg hc570)) ?_
          refine g_iconst C 1 at_275 rfl ?_
          refine g_goto C 280 at_276 (by decide) (by decide) ?_
          refine g_ireturnN C (t := .boolean) rfl (by simp) at_280 (by decide) (by decide) ?_
          exact rfl
        · refine g_if_f C at_243 (XT.i0_eq_f hc588) ?_
          refine g_dconst1 C at_246 ?_
          refine g_goto C 253 at_247 (by decide) (by decide) ?_
          have V596 := (V559.keep K564 nin0)
          have V597 := (V566.keep KC569 (ninS (Nat.ne_of_lt (Nat.lt_of_lt_of_le V596.lt (Nat.le_of_eq g561.symm))) nin0))
          refine g_dastore C V597 (List.mem_of_getElem? (i := 2) rfl) at_253 ⟨by decide, by decide⟩ 0 rfl (Nat.le_of_ble_eq_true rfl) ?_
          intro h598 W598 V598
          replace V598 : Arv Z h598 b556 ka556 .double (3 : Int32) [(.double FP.dconst1), (.double (FP.i2d mid)), (.double (FP.i2d lo))] (.double 0) := V598
          refine g_aload C at_254 rfl rfl ?_
          have F599 := (G569.other W598 (Or.inl (Ne.symm (Nat.ne_of_lt (Nat.lt_of_lt_of_le V596.lt (Nat.le_of_eq g561.symm))))))
          have V600 := (V569.other W598 (Ne.symm (Nat.ne_of_lt (Nat.lt_of_lt_of_le V566.lt le569))))
          have E602 := (X569.wr W598)
          refine g_virtual C E602 w_30 w_31 (fun hZ => nf_sel hw w_33 hZ) w_33 w_32 (by decide) [] (ct_of hw w_34 w_10 (rm_h1 l Z a0 hw b561 b569 _ (3 : Int32) hi _ h598 n0 F599 V600 (by decide) rfl)) all0 (by decide) 0 (by decide) rfl pd___Z rfl [] rfl (Nat.le_of_eq rfl) at_256 (by decide) (by decide) ?_
          intro v601 h601 Q601
          obtain ⟨rfl, e601⟩ := Q601
          replace e601 := e601.symm
          subst e601
          refine g_istore C #[.val (.int i1), .val (.int i2), .val (.int i3), .val (.int i4), .val (.int i5), .val (.int i6), .val (.int aa), .val (.int bb), .val (.int cc), .val (.int hi), .val (.int lo), .val (.int mid), .val (.int (3 : Int32)), .val (.int (0 : Int32)), .val (.ref b556), .val (.ref b560), .val (.ref b561), .val (.int (0 : Int32)), .val (.int (if 0 < hi then 1 else 0)), .val (.int (if 0 < hi then 1 else 0))] at_259 rfl ?_
          refine g_iload C at_261 rfl ?_
          refine g_iload C at_263 rfl ?_
          refine g_icmp_f C at_265 (XT.ii_ne_f (if_neg hc570)) ?_
          refine g_iload C at_268 rfl ?_
          refine g_iload C at_270 rfl ?_
          refine g_icmp_f C at_272 (XT.ii_ne_f (if_neg hc570)) ?_
          refine g_iconst C 1 at_275 rfl ?_
          refine g_goto C 280 at_276 (by decide) (by decide) ?_
          refine g_ireturnN C (t := .boolean) rfl (by simp) at_280 (by decide) (by decide) ?_
          exact rfl
    · refine g_iload C at_116 rfl ?_
      refine g_newarray C (aty := .double) w_7 at_118 (by decide) 1 (by decide) (by decide) (by decide) (by decide) "[D" rfl ?_
      intro b603 h603 ka603 g603 E603 V603 A603
      replace V603 : Arv Z h603 b603 ka603 .double (1 : Int32) [(.double 0)] (.double 0) := V603.pad (pad_rep [] _ 1)
      refine g_astore C #[.val (.int i1), .val (.int i2), .val (.int i3), .val (.int i4), .val (.int i5), .val (.int i6), .val (.int aa), .val (.int bb), .val (.int cc), .val (.int hi), .val (.int lo), .val (.int mid), .val (.int (3 : Int32)), .val (.int (1 : Int32)), .val (.ref b556), .val (.ref b603), .unset, .unset, .unset, .unset] at_120 rfl rfl ?_
      refine g_iload C at_122 rfl ?_
      refine g_iconst C 1 at_124 rfl ?_
      refine g_icmp_f C at_125 (XT.ii_lt_f (by decide)) ?_
      refine g_aload C at_128 rfl rfl ?_
      refine g_iconst C 0 at_130 rfl ?_
      refine g_iload C at_131 rfl ?_
      refine g_iconst C 5 at_133 rfl ?_
      refine g_irem C at_134 (by decide) ?_
      refine g_i2d C at_135 ?_
      refine g_dastore C V603 (List.mem_of_getElem? (i := 0) rfl) at_136 ⟨by decide, by decide⟩ 0 rfl (Nat.le_of_ble_eq_true rfl) ?_
      intro h604 W604 V604
      replace V604 : Arv Z h604 b603 ka603 .double (1 : Int32) [(.double (FP.i2d (i5 % (5 : Int32))))] (.double 0) := V604
      refine g_iload C at_137 rfl ?_
      refine g_iconst C 2 at_139 rfl ?_
      refine g_icmp_t C 152 at_140 (XT.ii_lt_t (by decide)) (by decide) (by decide) ?_
      refine g_iload C at_152 rfl ?_
      refine g_iconst C 3 at_154 rfl ?_
      refine g_icmp_t C 169 at_155 (XT.ii_lt_t (by decide)) (by decide) (by decide) ?_
      refine g_new C w_8 w_9 w_10 at_169 (by decide) (by decide) ?_
      intro b605 h605 g605 E605 A605 D605
      refine g_dup C at_172 rfl ?_
      refine g_aload C at_173 rfl rfl ?_
      refine g_aload C at_175 rfl rfl ?_
      have K606 : Keep h604 h605 [] := (Keep.refl h604 []).ext E605
      have V607 := (V604.keep K606 nin0)
      have K608 : Keep h559 h603 [] := (Keep.refl h559 []).ext E603
      have K609 : Keep h559 h604 [] := K608.wr W604 (Or.inr (Nat.le_of_eq g603.symm))
      have K610 : Keep h559 h605 [] := K609.ext E605
      have V611 := (V559.keep K610 nin0)
      have E612 := ((A603.wr W604).ext E605)
      have E613 := ((((((A556.wr W557).wr W558).wr W559).ext E603).wr W604).ext E605)
      refine g_special C (a := b605) w_11 w_12 w_13 rfl (by decide) [(.ref b603), (.ref b556)] (ct_of hw w_13 w_10 (rm_init l Z a0 hw b605 b603 b556 (1 : Int32) (3 : Int32) _ _ _ _ h605 n0 A605 (D605 (Or.inr (C.hw w_27)) (ty := (.array .double)) (by decide)) (D605 (Or.inr (C.hw w_29)) (ty := (.array .double)) (by decide)) V607 V611 E612 E613 (by decide) (by decide))) (allS (List.mem_of_getElem? (i := 0) rfl) all0) (by decide) 1 (by decide) rfl pd___D_D_V rfl [(.ref b605)] rfl (Nat.le_of_eq rfl) at_177 (by decide) (by decide) ?_
      intro v614 h614 Q614
      obtain ⟨rfl, KC614, X614, b614, le614, G614, V614⟩ := Q614
      refine g_astore C #[.val (.int i1), .val (.int i2), .val (.int i3), .val (.int i4), .val (.int i5), .val (.int i6), .val (.int aa), .val (.int bb), .val (.int cc), .val (.int hi), .val (.int lo), .val (.int mid), .val (.int (3 : Int32)), .val (.int (1 : Int32)), .val (.ref b556), .val (.ref b603), .val (.ref b605), .unset, .unset, .unset] at_180 rfl rfl ?_
      refine g_iload C at_182 rfl ?_
      refine g_iconst C 1 at_184 rfl ?_
      refine g_icmp_f C at_185 (XT.ii_lt_f (by decide)) ?_
      refine g_iload C at_188 rfl ?_
      by_cases hc615 : 0 < hi
      · refine g_if_t C 215 at_190 (XT.i0_gt_t hc615) (by decide) (by decide) ?_
        refine g_iconst C 1 at_215 rfl ?_
        refine g_goto C 220 at_216 (by decide) (by decide) ?_
        refine g_istore C #[.val (.int i1), .val (.int i2), .val (.int i3), .val (.int i4), .val (.int i5), .val (.int i6), .val (.int aa), .val (.int bb), .val (.int cc), .val (.int hi), .val (.int lo), .val (.int mid), .val (.int (3 : Int32)), .val (.int (1 : Int32)), .val (.ref b556), .val (.ref b603), .val (.ref b605), .val (.int (1 : Int32)), .unset, .unset] at_220 rfl ?_
        refine g_aload C at_222 rfl rfl ?_
        refine g_virtual C X614 w_30 w_31 (fun hZ => nf_sel hw w_33 hZ) w_33 w_32 (by decide) [] (ct_of hw w_34 w_10 (rm_h1 l Z a0 hw b605 b614 _ (3 : Int32) hi _ h614 n0 G614 V614 (by decide) rfl)) all0 (by decide) 0 (by decide) rfl pd___Z rfl [] rfl (Nat.le_of_eq rfl) at_224 (by decide) (by decide) ?_
        intro v616 h616 Q616
        obtain ⟨rfl, e616⟩ := Q616
        replace e616 := e616.symm
        subst e616
        refine g_istore C #[.val (.int i1), .val (.int i2), .val (.int i3), .val (.int i4), .val (.int i5), .val (.int i6), .val (.int aa), .val (.int bb), .val (.int cc), .val (.int hi), .val (.int lo), .val (.int mid), .val (.int (3 : Int32)), .val (.int (1 : Int32)), .val (.ref b556), .val (.ref b603), .val (.ref b605), .val (.int (1 : Int32)), .val (.int (if 0 < hi then 1 else 0)), .unset] at_227 rfl ?_
        refine g_iload C at_229 rfl ?_
        refine g_iconst C 1 at_231 rfl ?_
        refine g_icmp_f C at_232 (XT.ii_lt_f (by decide)) ?_
        refine g_aload C at_235 rfl rfl ?_
        refine g_iconst C 0 at_237 rfl ?_
        refine g_iloadN C at_238 rfl ?_
        refine g_iconst C 4 at_239 rfl ?_
        refine g_iushr C at_240 ?_
        refine g_iconst C 1 at_241 rfl ?_
        refine g_iand C at_242 ?_
        by_cases hc617 : (((i4.toUInt32 >>> ((4 : Int32) &&& 31).toUInt32).toInt32) &&& (1 : Int32)) = 0
        · refine g_if_t C 250 at_243 (XT.i0_eq_t hc617) (by decide) (by decide) ?_
          refine g_ldc2D C w_35 at_250 ?_
          have V618 := (V559.keep K609 nin0)
          have V619 := (V611.keep KC614 (ninS (Nat.ne_of_lt (Nat.lt_of_lt_of_le V618.lt (Nat.le_of_eq g605.symm))) nin0))
          refine g_dastore C V619 (List.mem_of_getElem? (i := 2) rfl) at_253 ⟨by decide, by decide⟩ 0 rfl (Nat.le_of_ble_eq_true rfl) ?_
          intro h620 W620 V620
          replace V620 : Arv Z h620 b556 ka556 .double (3 : Int32) [(.double (13830554455654793216 : UInt64)), (.double (FP.i2d mid)), (.double (FP.i2d lo))] (.double 0) := V620
          refine g_aload C at_254 rfl rfl ?_
          have F621 := (G614.other W620 (Or.inl (Ne.symm (Nat.ne_of_lt (Nat.lt_of_lt_of_le V618.lt (Nat.le_of_eq g605.symm))))))
          have V622 := (V614.other W620 (Ne.symm (Nat.ne_of_lt (Nat.lt_of_lt_of_le V611.lt le614))))
          have E624 := (X614.wr W620)
          refine g_virtual C E624 w_30 w_31 (fun hZ => nf_sel hw w_33 hZ) w_33 w_32 (by decide) [] (ct_of hw w_34 w_10 (rm_h1 l Z a0 hw b605 b614 _ (3 : Int32) hi _ h620 n0 F621 V622 (by decide) rfl)) all0 (by decide) 0 (by decide) rfl pd___Z rfl [] rfl (Nat.le_of_eq rfl) at_256 (by decide) (by decide) ?_
          intro v623 h623 Q623
          obtain ⟨rfl, e623⟩ := Q623
          replace e623 := e623.symm
          subst e623
          refine g_istore C #[.val (.int i1), .val (.int i2), .val (.int i3), .val (.int i4), .val (.int i5), .val (.int i6), .val (.int aa), .val (.int bb), .val (.int cc), .val (.int hi), .val (.int lo), .val (.int mid), .val (.int (3 : Int32)), .val (.int (1 : Int32)), .val (.ref b556), .val (.ref b603), .val (.ref b605), .val (.int (1 : Int32)), .val (.int (if 0 < hi then 1 else 0)), .val (.int (if 0 < hi then 1 else 0))] at_259 rfl ?_
          refine g_iload C at_261 rfl ?_
          refine g_iload C at_263 rfl ?_
          refine g_icmp_f C at_265 (XT.ii_ne_f (if_pos hc615)) ?_
          refine g_iload C at_268 rfl ?_
          refine g_iload C at_270 rfl ?_
          refine g_icmp_f C at_272 (XT.ii_ne_f (if_pos hc615)) ?_
          refine g_iconst C 1 at_275 rfl ?_
          refine g_goto C 280 at_276 (by decide) (by decide) ?_
          refine g_ireturnN C (t := .boolean) rfl (by simp) at_280 (by decide) (by decide) ?_
          exact rfl
        · refine g_if_f C at_243 (XT.i0_eq_f hc617) ?_
          refine g_dconst1 C at_246 ?_
          refine g_goto C 253 at_247 (by decide) (by decide) ?_
          have V625 := (V559.keep K609 nin0)
          have V626 := (V611.keep KC614 (ninS (Nat.ne_of_lt (Nat.lt_of_lt_of_le V625.lt (Nat.le_of_eq g605.symm))) nin0))
          refine g_dastore C V626 (List.mem_of_getElem? (i := 2) rfl) at_253 ⟨by decide, by decide⟩ 0 rfl (Nat.le_of_ble_eq_true rfl) ?_
          intro h627 W627 V627
          replace V627 : Arv Z h627 b556 ka556 .double (3 : Int32) [(.double FP.dconst1), (.double (FP.i2d mid)), (.double (FP.i2d lo))] (.double 0) := V627
          refine g_aload C at_254 rfl rfl ?_
          have F628 := (G614.other W627 (Or.inl (Ne.symm (Nat.ne_of_lt (Nat.lt_of_lt_of_le V625.lt (Nat.le_of_eq g605.symm))))))
          have V629 := (V614.other W627 (Ne.symm (Nat.ne_of_lt (Nat.lt_of_lt_of_le V611.lt le614))))
          have E631 := (X614.wr W627)
          refine g_virtual C E631 w_30 w_31 (fun hZ => nf_sel hw w_33 hZ) w_33 w_32 (by decide) [] (ct_of hw w_34 w_10 (rm_h1 l Z a0 hw b605 b614 _ (3 : Int32) hi _ h627 n0 F628 V629 (by decide) rfl)) all0 (by decide) 0 (by decide) rfl pd___Z rfl [] rfl (Nat.le_of_eq rfl) at_256 (by decide) (by decide) ?_
          intro v630 h630 Q630
          obtain ⟨rfl, e630⟩ := Q630
          replace e630 := e630.symm
          subst e630
          refine g_istore C #[.val (.int i1), .val (.int i2), .val (.int i3), .val (.int i4), .val (.int i5), .val (.int i6), .val (.int aa), .val (.int bb), .val (.int cc), .val (.int hi), .val (.int lo), .val (.int mid), .val (.int (3 : Int32)), .val (.int (1 : Int32)), .val (.ref b556), .val (.ref b603), .val (.ref b605), .val (.int (1 : Int32)), .val (.int (if 0 < hi then 1 else 0)), .val (.int (if 0 < hi then 1 else 0))] at_259 rfl ?_
          refine g_iload C at_261 rfl ?_
          refine g_iload C at_263 rfl ?_
          refine g_icmp_f C at_265 (XT.ii_ne_f (if_pos hc615)) ?_
          refine g_iload C at_268 rfl ?_
          refine g_iload C at_270 rfl ?_
          refine g_icmp_f C at_272 (XT.ii_ne_f (if_pos hc615)) ?_
          refine g_iconst C 1 at_275 rfl ?_
          refine g_goto C 280 at_276 (by decide) (by decide) ?_
          refine g_ireturnN C (t := .boolean) rfl (by simp) at_280 (by decide) (by decide) ?_
          exact rfl
      · refine g_if_f C at_190 (XT.i0_gt_f hc615) ?_
        refine g_iload C at_193 rfl ?_
        refine g_iconst C 2 at_195 rfl ?_
        refine g_icmp_f C at_196 (XT.ii_lt_f (by decide)) ?_
        refine g_iload C at_199 rfl ?_
        refine g_if_f C at_201 (XT.i0_gt_f (hmed hc615).1) ?_
        refine g_iload C at_204 rfl ?_
        refine g_iconst C 3 at_206 rfl ?_
        refine g_icmp_f C at_207 (XT.ii_lt_f (by decide)) ?_
        refine g_iload C at_210 rfl ?_
        refine g_if_t C 219 at_212 (XT.i0_le_t (hmed hc615).2) (by decide) (by decide) ?_
        refine g_iconst C 0 at_219 rfl ?_
        refine g_istore C #[.val (.int i1), .val (.int i2), .val (.int i3), .val (.int i4), .val (.int i5), .val (.int i6), .val (.int aa), .val (.int bb), .val (.int cc), .val (.int hi), .val (.int lo), .val (.int mid), .val (.int (3 : Int32)), .val (.int (1 : Int32)), .val (.ref b556), .val (.ref b603), .val (.ref b605), .val (.int (0 : Int32)), .unset, .unset] at_220 rfl ?_
        refine g_aload C at_222 rfl rfl ?_
        refine g_virtual C X614 w_30 w_31 (fun hZ => nf_sel hw w_33 hZ) w_33 w_32 (by decide) [] (ct_of hw w_34 w_10 (rm_h1 l Z a0 hw b605 b614 _ (3 : Int32) hi _ h614 n0 G614 V614 (by decide) rfl)) all0 (by decide) 0 (by decide) rfl pd___Z rfl [] rfl (Nat.le_of_eq rfl) at_224 (by decide) (by decide) ?_
        intro v632 h632 Q632
        obtain ⟨rfl, e632⟩ := Q632
        replace e632 := e632.symm
        subst e632
        refine g_istore C #[.val (.int i1), .val (.int i2), .val (.int i3), .val (.int i4), .val (.int i5), .val (.int i6), .val (.int aa), .val (.int bb), .val (.int cc), .val (.int hi), .val (.int lo), .val (.int mid), .val (.int (3 : Int32)), .val (.int (1 : Int32)), .val (.ref b556), .val (.ref b603), .val (.ref b605), .val (.int (0 : Int32)), .val (.int (if 0 < hi then 1 else 0)), .unset] at_227 rfl ?_
        refine g_iload C at_229 rfl ?_
        refine g_iconst C 1 at_231 rfl ?_
        refine g_icmp_f C at_232 (XT.ii_lt_f (by decide)) ?_
        refine g_aload C at_235 rfl rfl ?_
        refine g_iconst C 0 at_237 rfl ?_
        refine g_iloadN C at_238 rfl ?_
        refine g_iconst C 4 at_239 rfl ?_
        refine g_iushr C at_240 ?_
        refine g_iconst C 1 at_241 rfl ?_
        refine g_iand C at_242 ?_
        by_cases hc633 : (((i4.toUInt32 >>> ((4 : Int32) &&& 31).toUInt32).toInt32) &&& (1 : Int32)) = 0
        · refine g_if_t C 250 at_243 (XT.i0_eq_t hc633) (by decide) (by decide) ?_
          refine g_ldc2D C w_35 at_250 ?_
          have V634 := (V559.keep K609 nin0)
          have V635 := (V611.keep KC614 (ninS (Nat.ne_of_lt (Nat.lt_of_lt_of_le V634.lt (Nat.le_of_eq g605.symm))) nin0))
          refine g_dastore C V635 (List.mem_of_getElem? (i := 2) rfl) at_253 ⟨by decide, by decide⟩ 0 rfl (Nat.le_of_ble_eq_true rfl) ?_
          intro h636 W636 V636
          replace V636 : Arv Z h636 b556 ka556 .double (3 : Int32) [(.double (13830554455654793216 : UInt64)), (.double (FP.i2d mid)), (.double (FP.i2d lo))] (.double 0) := V636
          refine g_aload C at_254 rfl rfl ?_
          have F637 := (G614.other W636 (Or.inl (Ne.symm (Nat.ne_of_lt (Nat.lt_of_lt_of_le V634.lt (Nat.le_of_eq g605.symm))))))
          have V638 := (V614.other W636 (Ne.symm (Nat.ne_of_lt (Nat.lt_of_lt_of_le V611.lt le614))))
          have E640 := (X614.wr W636)
          refine g_virtual C E640 w_30 w_31 (fun hZ => nf_sel hw w_33 hZ) w_33 w_32 (by decide) [] (ct_of hw w_34 w_10 (rm_h1 l Z a0 hw b605 b614 _ (3 : Int32) hi _ h636 n0 F637 V638 (by decide) rfl)) all0 (by decide) 0 (by decide) rfl pd___Z rfl [] rfl (Nat.le_of_eq rfl) at_256 (by decide) (by decide) ?_
          intro v639 h639 Q639
          obtain ⟨rfl, e639⟩ := Q639
          replace e639 := e639.symm
          subst e639
          refine g_istore C #[.val (.int i1), .val (.int i2), .val (.int i3), .val (.int i4), .val (.int i5), .val (.int i6), .val (.int aa), .val (.int bb), .val (.int cc), .val (.int hi), .val (.int lo), .val (.int mid), .val (.int (3 : Int32)), .val (.int (1 : Int32)), .val (.ref b556), .val (.ref b603), .val (.ref b605), .val (.int (0 : Int32)), .val (.int (if 0 < hi then 1 else 0)), .val (.int (if 0 < hi then 1 else 0))] at_259 rfl ?_
          refine g_iload C at_261 rfl ?_
          refine g_iload C at_263 rfl ?_
          refine g_icmp_f C at_265 (XT.ii_ne_f (if_neg hc615)) ?_
          refine g_iload C at_268 rfl ?_
          refine g_iload C at_270 rfl ?_
          refine g_icmp_f C at_272 (XT.ii_ne_f (if_neg hc615)) ?_
          refine g_iconst C 1 at_275 rfl ?_
          refine g_goto C 280 at_276 (by decide) (by decide) ?_
          refine g_ireturnN C (t := .boolean) rfl (by simp) at_280 (by decide) (by decide) ?_
          exact rfl
        · refine g_if_f C at_243 (XT.i0_eq_f hc633) ?_
          refine g_dconst1 C at_246 ?_
          refine g_goto C 253 at_247 (by decide) (by decide) ?_
          have V641 := (V559.keep K609 nin0)
          have V642 := (V611.keep KC614 (ninS (Nat.ne_of_lt (Nat.lt_of_lt_of_le V641.lt (Nat.le_of_eq g605.symm))) nin0))
          refine g_dastore C V642 (List.mem_of_getElem? (i := 2) rfl) at_253 ⟨by decide, by decide⟩ 0 rfl (Nat.le_of_ble_eq_true rfl) ?_
          intro h643 W643 V643
          replace V643 : Arv Z h643 b556 ka556 .double (3 : Int32) [(.double FP.dconst1), (.double (FP.i2d mid)), (.double (FP.i2d lo))] (.double 0) := V643
          refine g_aload C at_254 rfl rfl ?_
          have F644 := (G614.other W643 (Or.inl (Ne.symm (Nat.ne_of_lt (Nat.lt_of_lt_of_le V641.lt (Nat.le_of_eq g605.symm))))))
          have V645 := (V614.other W643 (Ne.symm (Nat.ne_of_lt (Nat.lt_of_lt_of_le V611.lt le614))))
          have E647 := (X614.wr W643)
          refine g_virtual C E647 w_30 w_31 (fun hZ => nf_sel hw w_33 hZ) w_33 w_32 (by decide) [] (ct_of hw w_34 w_10 (rm_h1 l Z a0 hw b605 b614 _ (3 : Int32) hi _ h643 n0 F644 V645 (by decide) rfl)) all0 (by decide) 0 (by decide) rfl pd___Z rfl [] rfl (Nat.le_of_eq rfl) at_256 (by decide) (by decide) ?_
          intro v646 h646 Q646
          obtain ⟨rfl, e646⟩ := Q646
          replace e646 := e646.symm
          subst e646
          refine g_istore C #[.val (.int i1), .val (.int i2), .val (.int i3), .val (.int i4), .val (.int i5), .val (.int i6), .val (.int aa), .val (.int bb), .val (.int cc), .val (.int hi), .val (.int lo), .val (.int mid), .val (.int (3 : Int32)), .val (.int (1 : Int32)), .val (.ref b556), .val (.ref b603), .val (.ref b605), .val (.int (0 : Int32)), .val (.int (if 0 < hi then 1 else 0)), .val (.int (if 0 < hi then 1 else 0))] at_259 rfl ?_
          refine g_iload C at_261 rfl ?_
          refine g_iload C at_263 rfl ?_
          refine g_icmp_f C at_265 (XT.ii_ne_f (if_neg hc615)) ?_
          refine g_iload C at_268 rfl ?_
          refine g_iload C at_270 rfl ?_
          refine g_icmp_f C at_272 (XT.ii_ne_f (if_neg hc615)) ?_
          refine g_iconst C 1 at_275 rfl ?_
          refine g_goto C 280 at_276 (by decide) (by decide) ?_
          refine g_ireturnN C (t := .boolean) rfl (by simp) at_280 (by decide) (by decide) ?_
          exact rfl
    · refine g_iload C at_116 rfl ?_
      refine g_newarray C (aty := .double) w_7 at_118 (by decide) 2 (by decide) (by decide) (by decide) (by decide) "[D" rfl ?_
      intro b648 h648 ka648 g648 E648 V648 A648
      replace V648 : Arv Z h648 b648 ka648 .double (2 : Int32) [(.double 0), (.double 0)] (.double 0) := V648.pad (pad_rep [] _ 2)
      refine g_astore C #[.val (.int i1), .val (.int i2), .val (.int i3), .val (.int i4), .val (.int i5), .val (.int i6), .val (.int aa), .val (.int bb), .val (.int cc), .val (.int hi), .val (.int lo), .val (.int mid), .val (.int (3 : Int32)), .val (.int (2 : Int32)), .val (.ref b556), .val (.ref b648), .unset, .unset, .unset, .unset] at_120 rfl rfl ?_
      refine g_iload C at_122 rfl ?_
      refine g_iconst C 1 at_124 rfl ?_
      refine g_icmp_f C at_125 (XT.ii_lt_f (by decide)) ?_
      refine g_aload C at_128 rfl rfl ?_
      refine g_iconst C 0 at_130 rfl ?_
      refine g_iload C at_131 rfl ?_
      refine g_iconst C 5 at_133 rfl ?_
      refine g_irem C at_134 (by decide) ?_
      refine g_i2d C at_135 ?_
      refine g_dastore C V648 (List.mem_of_getElem? (i := 0) rfl) at_136 ⟨by decide, by decide⟩ 0 rfl (Nat.le_of_ble_eq_true rfl) ?_
      intro h649 W649 V649
      replace V649 : Arv Z h649 b648 ka648 .double (2 : Int32) [(.double (FP.i2d (i5 % (5 : Int32)))), (.double 0)] (.double 0) := V649
      refine g_iload C at_137 rfl ?_
      refine g_iconst C 2 at_139 rfl ?_
      refine g_icmp_f C at_140 (XT.ii_lt_f (by decide)) ?_
      refine g_aload C at_143 rfl rfl ?_
      refine g_iconst C 1 at_145 rfl ?_
      refine g_iload C at_146 rfl ?_
      refine g_iconst C 5 at_148 rfl ?_
      refine g_irem C at_149 (by decide) ?_
      refine g_i2d C at_150 ?_
      refine g_dastore C V649 (List.mem_of_getElem? (i := 0) rfl) at_151 ⟨by decide, by decide⟩ 1 rfl (Nat.le_of_ble_eq_true rfl) ?_
      intro h650 W650 V650
      replace V650 : Arv Z h650 b648 ka648 .double (2 : Int32) [(.double (FP.i2d (i5 % (5 : Int32)))), (.double (FP.i2d (i6 % (5 : Int32))))] (.double 0) := V650
      refine g_iload C at_152 rfl ?_
      refine g_iconst C 3 at_154 rfl ?_
      refine g_icmp_t C 169 at_155 (XT.ii_lt_t (by decide)) (by decide) (by decide) ?_
      refine g_new C w_8 w_9 w_10 at_169 (by decide) (by decide) ?_
      intro b651 h651 g651 E651 A651 D651
      refine g_dup C at_172 rfl ?_
      refine g_aload C at_173 rfl rfl ?_
      refine g_aload C at_175 rfl rfl ?_
      have K652 : Keep h650 h651 [] := (Keep.refl h650 []).ext E651
      have V653 := (V650.keep K652 nin0)
      have K654 : Keep h559 h648 [] := (Keep.refl h559 []).ext E648
      have K655 : Keep h559 h649 [] := K654.wr W649 (Or.inr (Nat.le_of_eq g648.symm))
      have K656 : Keep h559 h650 [] := K655.wr W650 (Or.inr (Nat.le_of_eq g648.symm))
      have K657 : Keep h559 h651 [] := K656.ext E651
      have V658 := (V559.keep K657 nin0)
      have E659 := (((A648.wr W649).wr W650).ext E651)
      have E660 := (((((((A556.wr W557).wr W558).wr W559).ext E648).wr W649).wr W650).ext E651)
      refine g_special C (a := b651) w_11 w_12 w_13 rfl (by decide) [(.ref b648), (.ref b556)] (ct_of hw w_13 w_10 (rm_init l Z a0 hw b651 b648 b556 (2 : Int32) (3 : Int32) _ _ _ _ h651 n0 A651 (D651 (Or.inr (C.hw w_27)) (ty := (.array .double)) (by decide)) (D651 (Or.inr (C.hw w_29)) (ty := (.array .double)) (by decide)) V653 V658 E659 E660 (by decide) (by decide))) (allS (List.mem_of_getElem? (i := 0) rfl) all0) (by decide) 1 (by decide) rfl pd___D_D_V rfl [(.ref b651)] rfl (Nat.le_of_eq rfl) at_177 (by decide) (by decide) ?_
      intro v661 h661 Q661
      obtain ⟨rfl, KC661, X661, b661, le661, G661, V661⟩ := Q661
      refine g_astore C #[.val (.int i1), .val (.int i2), .val (.int i3), .val (.int i4), .val (.int i5), .val (.int i6), .val (.int aa), .val (.int bb), .val (.int cc), .val (.int hi), .val (.int lo), .val (.int mid), .val (.int (3 : Int32)), .val (.int (2 : Int32)), .val (.ref b556), .val (.ref b648), .val (.ref b651), .unset, .unset, .unset] at_180 rfl rfl ?_
      refine g_iload C at_182 rfl ?_
      refine g_iconst C 1 at_184 rfl ?_
      refine g_icmp_f C at_185 (XT.ii_lt_f (by decide)) ?_
      refine g_iload C at_188 rfl ?_
      by_cases hc662 : 0 < hi
      · refine g_if_t C 215 at_190 (XT.i0_gt_t hc662) (by decide) (by decide) ?_
        refine g_iconst C 1 at_215 rfl ?_
        refine g_goto C 220 at_216 (by decide) (by decide) ?_
        refine g_istore C #[.val (.int i1), .val (.int i2), .val (.int i3), .val (.int i4), .val (.int i5), .val (.int i6), .val (.int aa), .val (.int bb), .val (.int cc), .val (.int hi), .val (.int lo), .val (.int mid), .val (.int (3 : Int32)), .val (.int (2 : Int32)), .val (.ref b556), .val (.ref b648), .val (.ref b651), .val (.int (1 : Int32)), .unset, .unset] at_220 rfl ?_
        refine g_aload C at_222 rfl rfl ?_
        refine g_virtual C X661 w_30 w_31 (fun hZ => nf_sel hw w_33 hZ) w_33 w_32 (by decide) [] (ct_of hw w_34 w_10 (rm_h1 l Z a0 hw b651 b661 _ (3 : Int32) hi _ h661 n0 G661 V661 (by decide) rfl)) all0 (by decide) 0 (by decide) rfl pd___Z rfl [] rfl (Nat.le_of_eq rfl) at_224 (by decide) (by decide) ?_
        intro v663 h663 Q663
        obtain ⟨rfl, e663⟩ := Q663
        replace e663 := e663.symm
        subst e663
        refine g_istore C #[.val (.int i1), .val (.int i2), .val (.int i3), .val (.int i4), .val (.int i5), .val (.int i6), .val (.int aa), .val (.int bb), .val (.int cc), .val (.int hi), .val (.int lo), .val (.int mid), .val (.int (3 : Int32)), .val (.int (2 : Int32)), .val (.ref b556), .val (.ref b648), .val (.ref b651), .val (.int (1 : Int32)), .val (.int (if 0 < hi then 1 else 0)), .unset] at_227 rfl ?_
        refine g_iload C at_229 rfl ?_
        refine g_iconst C 1 at_231 rfl ?_
        refine g_icmp_f C at_232 (XT.ii_lt_f (by decide)) ?_
        refine g_aload C at_235 rfl rfl ?_
        refine g_iconst C 0 at_237 rfl ?_
        refine g_iloadN C at_238 rfl ?_
        refine g_iconst C 4 at_239 rfl ?_
        refine g_iushr C at_240 ?_
        refine g_iconst C 1 at_241 rfl ?_
        refine g_iand C at_242 ?_
        by_cases hc664 : (((i4.toUInt32 >>> ((4 : Int32) &&& 31).toUInt32).toInt32) &&& (1 : Int32)) = 0
        · refine g_if_t C 250 at_243 (XT.i0_eq_t hc664) (by decide) (by decide) ?_
          refine g_ldc2D C w_35 at_250 ?_
          have V665 := (V559.keep K656 nin0)
          have V666 := (V658.keep KC661 (ninS (Nat.ne_of_lt (Nat.lt_of_lt_of_le V665.lt (Nat.le_of_eq g651.symm))) nin0))
          refine g_dastore C V666 (List.mem_of_getElem? (i := 2) rfl) at_253 ⟨by decide, by decide⟩ 0 rfl (Nat.le_of_ble_eq_true rfl) ?_
          intro h667 W667 V667
          replace V667 : Arv Z h667 b556 ka556 .double (3 : Int32) [(.double (13830554455654793216 : UInt64)), (.double (FP.i2d mid)), (.double (FP.i2d lo))] (.double 0) := V667
          refine g_aload C at_254 rfl rfl ?_
          have F668 := (G661.other W667 (Or.inl (Ne.symm (Nat.ne_of_lt (Nat.lt_of_lt_of_le V665.lt (Nat.le_of_eq g651.symm))))))
          have V669 := (V661.other W667 (Ne.symm (Nat.ne_of_lt (Nat.lt_of_lt_of_le V658.lt le661))))
          have E671 := (X661.wr W667)
          refine g_virtual C E671 w_30 w_31 (fun hZ => nf_sel hw w_33 hZ) w_33 w_32 (by decide) [] (ct_of hw w_34 w_10 (rm_h1 l Z a0 hw b651 b661 _ (3 : Int32) hi _ h667 n0 F668 V669 (by decide) rfl)) all0 (by decide) 0 (by decide) rfl pd___Z rfl [] rfl (Nat.le_of_eq rfl) at_256 (by decide) (by decide) ?_
          intro v670 h670 Q670
          obtain ⟨rfl, e670⟩ := Q670
          replace e670 := e670.symm
          subst e670
          refine g_istore C #[.val (.int i1), .val (.int i2), .val (.int i3), .val (.int i4), .val (.int i5), .val (.int i6), .val (.int aa), .val (.int bb), .val (.int cc), .val (.int hi), .val (.int lo), .val (.int mid), .val (.int (3 : Int32)), .val (.int (2 : Int32)), .val (.ref b556), .val (.ref b648), .val (.ref b651), .val (.int (1 : Int32)), .val (.int (if 0 < hi then 1 else 0)), .val (.int (if 0 < hi then 1 else 0))] at_259 rfl ?_
          refine g_iload C at_261 rfl ?_
          refine g_iload C at_263 rfl ?_
          refine g_icmp_f C at_265 (XT.ii_ne_f (if_pos hc662)) ?_
          refine g_iload C at_268 rfl ?_
          refine g_iload C at_270 rfl ?_
          refine g_icmp_f C at_272 (XT.ii_ne_f (if_pos hc662)) ?_
          refine g_iconst C 1 at_275 rfl ?_
          refine g_goto C 280 at_276 (by decide) (by decide) ?_
          refine g_ireturnN C (t := .boolean) rfl (by simp) at_280 (by decide) (by decide) ?_
          exact rfl
        · refine g_if_f C at_243 (XT.i0_eq_f hc664) ?_
          refine g_dconst1 C at_246 ?_
          refine g_goto C 253 at_247 (by decide) (by decide) ?_
          have V672 := (V559.keep K656 nin0)
          have V673 := (V658.keep KC661 (ninS (Nat.ne_of_lt (Nat.lt_of_lt_of_le V672.lt (Nat.le_of_eq g651.symm))) nin0))
          refine g_dastore C V673 (List.mem_of_getElem? (i := 2) rfl) at_253 ⟨by decide, by decide⟩ 0 rfl (Nat.le_of_ble_eq_true rfl) ?_
          intro h674 W674 V674
          replace V674 : Arv Z h674 b556 ka556 .double (3 : Int32) [(.double FP.dconst1), (.double (FP.i2d mid)), (.double (FP.i2d lo))] (.double 0) := V674
          refine g_aload C at_254 rfl rfl ?_
          have F675 := (G661.other W674 (Or.inl (Ne.symm (Nat.ne_of_lt (Nat.lt_of_lt_of_le V672.lt (Nat.le_of_eq g651.symm))))))
          have V676 := (V661.other W674 (Ne.symm (Nat.ne_of_lt (Nat.lt_of_lt_of_le V658.lt le661))))
          have E678 := (X661.wr W674)
          refine g_virtual C E678 w_30 w_31 (fun hZ => nf_sel hw w_33 hZ) w_33 w_32 (by decide) [] (ct_of hw w_34 w_10 (rm_h1 l Z a0 hw b651 b661 _ (3 : Int32) hi _ h674 n0 F675 V676 (by decide) rfl)) all0 (by decide) 0 (by decide) rfl pd___Z rfl [] rfl (Nat.le_of_eq rfl) at_256 (by decide) (by decide) ?_
          intro v677 h677 Q677
          obtain ⟨rfl, e677⟩ := Q677
          replace e677 := e677.symm
          subst e677
          refine g_istore C #[.val (.int i1), .val (.int i2), .val (.int i3), .val (.int i4), .val (.int i5), .val (.int i6), .val (.int aa), .val (.int bb), .val (.int cc), .val (.int hi), .val (.int lo), .val (.int mid), .val (.int (3 : Int32)), .val (.int (2 : Int32)), .val (.ref b556), .val (.ref b648), .val (.ref b651), .val (.int (1 : Int32)), .val (.int (if 0 < hi then 1 else 0)), .val (.int (if 0 < hi then 1 else 0))] at_259 rfl ?_
          refine g_iload C at_261 rfl ?_
          refine g_iload C at_263 rfl ?_
          refine g_icmp_f C at_265 (XT.ii_ne_f (if_pos hc662)) ?_
          refine g_iload C at_268 rfl ?_
          refine g_iload C at_270 rfl ?_
          refine g_icmp_f C at_272 (XT.ii_ne_f (if_pos hc662)) ?_
          refine g_iconst C 1 at_275 rfl ?_
          refine g_goto C 280 at_276 (by decide) (by decide) ?_
          refine g_ireturnN C (t := .boolean) rfl (by simp) at_280 (by decide) (by decide) ?_
          exact rfl
      · refine g_if_f C at_190 (XT.i0_gt_f hc662) ?_
        refine g_iload C at_193 rfl ?_
        refine g_iconst C 2 at_195 rfl ?_
        refine g_icmp_f C at_196 (XT.ii_lt_f (by decide)) ?_
        refine g_iload C at_199 rfl ?_
        refine g_if_f C at_201 (XT.i0_gt_f (hmed hc662).1) ?_
        refine g_iload C at_204 rfl ?_
        refine g_iconst C 3 at_206 rfl ?_
        refine g_icmp_f C at_207 (XT.ii_lt_f (by decide)) ?_
        refine g_iload C at_210 rfl ?_
        refine g_if_t C 219 at_212 (XT.i0_le_t (hmed hc662).2) (by decide) (by decide) ?_
        refine g_iconst C 0 at_219 rfl ?_
        refine g_istore C #[.val (.int i1), .val (.int i2), .val (.int i3), .val (.int i4), .val (.int i5), .val (.int i6), .val (.int aa), .val (.int bb), .val (.int cc), .val (.int hi), .val (.int lo), .val (.int mid), .val (.int (3 : Int32)), .val (.int (2 : Int32)), .val (.ref b556), .val (.ref b648), .val (.ref b651), .val (.int (0 : Int32)), .unset, .unset] at_220 rfl ?_
        refine g_aload C at_222 rfl rfl ?_
        refine g_virtual C X661 w_30 w_31 (fun hZ => nf_sel hw w_33 hZ) w_33 w_32 (by decide) [] (ct_of hw w_34 w_10 (rm_h1 l Z a0 hw b651 b661 _ (3 : Int32) hi _ h661 n0 G661 V661 (by decide) rfl)) all0 (by decide) 0 (by decide) rfl pd___Z rfl [] rfl (Nat.le_of_eq rfl) at_224 (by decide) (by decide) ?_
        intro v679 h679 Q679
        obtain ⟨rfl, e679⟩ := Q679
        replace e679 := e679.symm
        subst e679
        refine g_istore C #[.val (.int i1), .val (.int i2), .val (.int i3), .val (.int i4), .val (.int i5), .val (.int i6), .val (.int aa), .val (.int bb), .val (.int cc), .val (.int hi), .val (.int lo), .val (.int mid), .val (.int (3 : Int32)), .val (.int (2 : Int32)), .val (.ref b556), .val (.ref b648), .val (.ref b651), .val (.int (0 : Int32)), .val (.int (if 0 < hi then 1 else 0)), .unset] at_227 rfl ?_
        refine g_iload C at_229 rfl ?_
        refine g_iconst C 1 at_231 rfl ?_
        refine g_icmp_f C at_232 (XT.ii_lt_f (by decide)) ?_
        refine g_aload C at_235 rfl rfl ?_
        refine g_iconst C 0 at_237 rfl ?_
        refine g_iloadN C at_238 rfl ?_
        refine g_iconst C 4 at_239 rfl ?_
        refine g_iushr C at_240 ?_
        refine g_iconst C 1 at_241 rfl ?_
        refine g_iand C at_242 ?_
        by_cases hc680 : (((i4.toUInt32 >>> ((4 : Int32) &&& 31).toUInt32).toInt32) &&& (1 : Int32)) = 0
        · refine g_if_t C 250 at_243 (XT.i0_eq_t hc680) (by decide) (by decide) ?_
          refine g_ldc2D C w_35 at_250 ?_
          have V681 := (V559.keep K656 nin0)
          have V682 := (V658.keep KC661 (ninS (Nat.ne_of_lt (Nat.lt_of_lt_of_le V681.lt (Nat.le_of_eq g651.symm))) nin0))
          refine g_dastore C V682 (List.mem_of_getElem? (i := 2) rfl) at_253 ⟨by decide, by decide⟩ 0 rfl (Nat.le_of_ble_eq_true rfl) ?_
          intro h683 W683 V683
          replace V683 : Arv Z h683 b556 ka556 .double (3 : Int32) [(.double (13830554455654793216 : UInt64)), (.double (FP.i2d mid)), (.double (FP.i2d lo))] (.double 0) := V683
          refine g_aload C at_254 rfl rfl ?_
          have F684 := (G661.other W683 (Or.inl (Ne.symm (Nat.ne_of_lt (Nat.lt_of_lt_of_le V681.lt (Nat.le_of_eq g651.symm))))))
          have V685 := (V661.other W683 (Ne.symm (Nat.ne_of_lt (Nat.lt_of_lt_of_le V658.lt le661))))
          have E687 := (X661.wr W683)
          refine g_virtual C E687 w_30 w_31 (fun hZ => nf_sel hw w_33 hZ) w_33 w_32 (by decide) [] (ct_of hw w_34 w_10 (rm_h1 l Z a0 hw b651 b661 _ (3 : Int32) hi _ h683 n0 F684 V685 (by decide) rfl)) all0 (by decide) 0 (by decide) rfl pd___Z rfl [] rfl (Nat.le_of_eq rfl) at_256 (by decide) (by decide) ?_
          intro v686 h686 Q686
          obtain ⟨rfl, e686⟩ := Q686
          replace e686 := e686.symm
          subst e686
          refine g_istore C #[.val (.int i1), .val (.int i2), .val (.int i3), .val (.int i4), .val (.int i5), .val (.int i6), .val (.int aa), .val (.int bb), .val (.int cc), .val (.int hi), .val (.int lo), .val (.int mid), .val (.int (3 : Int32)), .val (.int (2 : Int32)), .val (.ref b556), .val (.ref b648), .val (.ref b651), .val (.int (0 : Int32)), .val (.int (if 0 < hi then 1 else 0)), .val (.int (if 0 < hi then 1 else 0))] at_259 rfl ?_
          refine g_iload C at_261 rfl ?_
          refine g_iload C at_263 rfl ?_
          refine g_icmp_f C at_265 (XT.ii_ne_f (if_neg hc662)) ?_
          refine g_iload C at_268 rfl ?_
          refine g_iload C at_270 rfl ?_
          refine g_icmp_f C at_272 (XT.ii_ne_f (if_neg hc662)) ?_
          refine g_iconst C 1 at_275 rfl ?_
          refine g_goto C 280 at_276 (by decide) (by decide) ?_
          refine g_ireturnN C (t := .boolean) rfl (by simp) at_280 (by decide) (by decide) ?_
          exact rfl
        · refine g_if_f C at_243 (XT.i0_eq_f hc680) ?_
          refine g_dconst1 C at_246 ?_
          refine g_goto C 253 at_247 (by decide) (by decide) ?_
          have V688 := (V559.keep K656 nin0)
          have V689 := (V658.keep KC661 (ninS (Nat.ne_of_lt (Nat.lt_of_lt_of_le V688.lt (Nat.le_of_eq g651.symm))) nin0))
          refine g_dastore C V689 (List.mem_of_getElem? (i := 2) rfl) at_253 ⟨by decide, by decide⟩ 0 rfl (Nat.le_of_ble_eq_true rfl) ?_
          intro h690 W690 V690
          replace V690 : Arv Z h690 b556 ka556 .double (3 : Int32) [(.double FP.dconst1), (.double (FP.i2d mid)), (.double (FP.i2d lo))] (.double 0) := V690
          refine g_aload C at_254 rfl rfl ?_
          have F691 := (G661.other W690 (Or.inl (Ne.symm (Nat.ne_of_lt (Nat.lt_of_lt_of_le V688.lt (Nat.le_of_eq g651.symm))))))
          have V692 := (V661.other W690 (Ne.symm (Nat.ne_of_lt (Nat.lt_of_lt_of_le V658.lt le661))))
          have E694 := (X661.wr W690)
          refine g_virtual C E694 w_30 w_31 (fun hZ => nf_sel hw w_33 hZ) w_33 w_32 (by decide) [] (ct_of hw w_34 w_10 (rm_h1 l Z a0 hw b651 b661 _ (3 : Int32) hi _ h690 n0 F691 V692 (by decide) rfl)) all0 (by decide) 0 (by decide) rfl pd___Z rfl [] rfl (Nat.le_of_eq rfl) at_256 (by decide) (by decide) ?_
          intro v693 h693 Q693
          obtain ⟨rfl, e693⟩ := Q693
          replace e693 := e693.symm
          subst e693
          refine g_istore C #[.val (.int i1), .val (.int i2), .val (.int i3), .val (.int i4), .val (.int i5), .val (.int i6), .val (.int aa), .val (.int bb), .val (.int cc), .val (.int hi), .val (.int lo), .val (.int mid), .val (.int (3 : Int32)), .val (.int (2 : Int32)), .val (.ref b556), .val (.ref b648), .val (.ref b651), .val (.int (0 : Int32)), .val (.int (if 0 < hi then 1 else 0)), .val (.int (if 0 < hi then 1 else 0))] at_259 rfl ?_
          refine g_iload C at_261 rfl ?_
          refine g_iload C at_263 rfl ?_
          refine g_icmp_f C at_265 (XT.ii_ne_f (if_neg hc662)) ?_
          refine g_iload C at_268 rfl ?_
          refine g_iload C at_270 rfl ?_
          refine g_icmp_f C at_272 (XT.ii_ne_f (if_neg hc662)) ?_
          refine g_iconst C 1 at_275 rfl ?_
          refine g_goto C 280 at_276 (by decide) (by decide) ?_
          refine g_ireturnN C (t := .boolean) rfl (by simp) at_280 (by decide) (by decide) ?_
          exact rfl
    · refine g_iload C at_116 rfl ?_
      refine g_newarray C (aty := .double) w_7 at_118 (by decide) 3 (by decide) (by decide) (by decide) (by decide) "[D" rfl ?_
      intro b695 h695 ka695 g695 E695 V695 A695
      replace V695 : Arv Z h695 b695 ka695 .double (3 : Int32) [(.double 0), (.double 0), (.double 0)] (.double 0) := V695.pad (pad_rep [] _ 3)
      refine g_astore C #[.val (.int i1), .val (.int i2), .val (.int i3), .val (.int i4), .val (.int i5), .val (.int i6), .val (.int aa), .val (.int bb), .val (.int cc), .val (.int hi), .val (.int lo), .val (.int mid), .val (.int (3 : Int32)), .val (.int (3 : Int32)), .val (.ref b556), .val (.ref b695), .unset, .unset, .unset, .unset] at_120 rfl rfl ?_
      refine g_iload C at_122 rfl ?_
      refine g_iconst C 1 at_124 rfl ?_
      refine g_icmp_f C at_125 (XT.ii_lt_f (by decide)) ?_
      refine g_aload C at_128 rfl rfl ?_
      refine g_iconst C 0 at_130 rfl ?_
      refine g_iload C at_131 rfl ?_
      refine g_iconst C 5 at_133 rfl ?_
      refine g_irem C at_134 (by decide) ?_
      refine g_i2d C at_135 ?_
      refine g_dastore C V695 (List.mem_of_getElem? (i := 0) rfl) at_136 ⟨by decide, by decide⟩ 0 rfl (Nat.le_of_ble_eq_true rfl) ?_
      intro h696 W696 V696
      replace V696 : Arv Z h696 b695 ka695 .double (3 : Int32) [(.double (FP.i2d (i5 % (5 : Int32)))), (.double 0), (.double 0)] (.double 0) := V696
      refine g_iload C at_137 rfl ?_
      refine g_iconst C 2 at_139 rfl ?_
      refine g_icmp_f C at_140 (XT.ii_lt_f (by decide)) ?_
      refine g_aload C at_143 rfl rfl ?_
      refine g_iconst C 1 at_145 rfl ?_
      refine g_iload C at_146 rfl ?_
      refine g_iconst C 5 at_148 rfl ?_
      refine g_irem C at_149 (by decide) ?_
      refine g_i2d C at_150 ?_
      refine g_dastore C V696 (List.mem_of_getElem? (i := 0) rfl) at_151 ⟨by decide, by decide⟩ 1 rfl (Nat.le_of_ble_eq_true rfl) ?_
      intro h697 W697 V697
      replace V697 : Arv Z h697 b695 ka695 .double (3 : Int32) [(.double (FP.i2d (i5 % (5 : Int32)))), (.double (FP.i2d (i6 % (5 : Int32)))), (.double 0)] (.double 0) := V697
      refine g_iload C at_152 rfl ?_
      refine g_iconst C 3 at_154 rfl ?_
      refine g_icmp_f C at_155 (XT.ii_lt_f (by decide)) ?_
      refine g_aload C at_158 rfl rfl ?_
      refine g_iconst C 2 at_160 rfl ?_
      refine g_iload C at_161 rfl ?_
      refine g_iconst C 5 at_163 rfl ?_
      refine g_idiv C at_164 (by decide) ?_
      refine g_iconst C 5 at_165 rfl ?_
      refine g_irem C at_166 (by decide) ?_
      refine g_i2d C at_167 ?_
      refine g_dastore C V697 (List.mem_of_getElem? (i := 0) rfl) at_168 ⟨by decide, by decide⟩ 2 rfl (Nat.le_of_ble_eq_true rfl) ?_
      intro h698 W698 V698
      replace V698 : Arv Z h698 b695 ka695 .double (3 : Int32) [(.double (FP.i2d (i5 % (5 : Int32)))), (.double (FP.i2d (i6 % (5 : Int32)))), (.double (FP.i2d ((i5 / (5 : Int32)) % (5 : Int32))))] (.double 0) := V698
      refine g_new C w_8 w_9 w_10 at_169 (by decide) (by decide) ?_
      intro b699 h699 g699 E699 A699 D699
      refine g_dup C at_172 rfl ?_
      refine g_aload C at_173 rfl rfl ?_
      refine g_aload C at_175 rfl rfl ?_
      have K700 : Keep h698 h699 [] := (Keep.refl h698 []).ext E699
      have V701 := (V698.keep K700 nin0)
      have K702 : Keep h559 h695 [] := (Keep.refl h559 []).ext E695
      have K703 : Keep h559 h696 [] := K702.wr W696 (Or.inr (Nat.le_of_eq g695.symm))
      have K704 : Keep h559 h697 [] := K703.wr W697 (Or.inr (Nat.le_of_eq g695.symm))
      have K705 : Keep h559 h698 [] := K704.wr W698 (Or.inr (Nat.le_of_eq g695.symm))
      have K706 : Keep h559 h699 [] := K705.ext E699
      have V707 := (V559.keep K706 nin0)
      have E708 := ((((A695.wr W696).wr W697).wr W698).ext E699)
      have E709 := ((((((((A556.wr W557).wr W558).wr W559).ext E695).wr W696).wr W697).wr W698).ext E699)
      refine g_special C (a := b699) w_11 w_12 w_13 rfl (by decide) [(.ref b695), (.ref b556)] (ct_of hw w_13 w_10 (rm_init l Z a0 hw b699 b695 b556 (3 : Int32) (3 : Int32) _ _ _ _ h699 n0 A699 (D699 (Or.inr (C.hw w_27)) (ty := (.array .double)) (by decide)) (D699 (Or.inr (C.hw w_29)) (ty := (.array .double)) (by decide)) V701 V707 E708 E709 (by decide) (by decide))) (allS (List.mem_of_getElem? (i := 0) rfl) all0) (by decide) 1 (by decide) rfl pd___D_D_V rfl [(.ref b699)] rfl (Nat.le_of_eq rfl) at_177 (by decide) (by decide) ?_
      intro v710 h710 Q710
      obtain ⟨rfl, KC710, X710, b710, le710, G710, V710⟩ := Q710
      refine g_astore C #[.val (.int i1), .val (.int i2), .val (.int i3), .val (.int i4), .val (.int i5), .val (.int i6), .val (.int aa), .val (.int bb), .val (.int cc), .val (.int hi), .val (.int lo), .val (.int mid), .val (.int (3 : Int32)), .val (.int (3 : Int32)), .val (.ref b556), .val (.ref b695), .val (.ref b699), .unset, .unset, .unset] at_180 rfl rfl ?_
      refine g_iload C at_182 rfl ?_
      refine g_iconst C 1 at_184 rfl ?_
      refine g_icmp_f C at_185 (XT.ii_lt_f (by decide)) ?_
      refine g_iload C at_188 rfl ?_
      by_cases hc711 : 0 < hi
      · refine g_if_t C 215 at_190 (XT.i0_gt_t hc711) (by decide) (by decide) ?_
        refine g_iconst C 1 at_215 rfl ?_
        refine g_goto C 220 at_216 (by decide) (by decide) ?_
        refine g_istore C #[.val (.int i1), .val (.int i2), .val (.int i3), .val (.int i4), .val (.int i5), .val (.int i6), .val (.int aa), .val (.int bb), .val (.int cc), .val (.int hi), .val (.int lo), .val (.int mid), .val (.int (3 : Int32)), .val (.int (3 : Int32)), .val (.ref b556), .val (.ref b695), .val (.ref b699), .val (.int (1 : Int32)), .unset, .unset] at_220 rfl ?_
        refine g_aload C at_222 rfl rfl ?_
        refine g_virtual C X710 w_30 w_31 (fun hZ => nf_sel hw w_33 hZ) w_33 w_32 (by decide) [] (ct_of hw w_34 w_10 (rm_h1 l Z a0 hw b699 b710 _ (3 : Int32) hi _ h710 n0 G710 V710 (by decide) rfl)) all0 (by decide) 0 (by decide) rfl pd___Z rfl [] rfl (Nat.le_of_eq rfl) at_224 (by decide) (by decide) ?_
        intro v712 h712 Q712
        obtain ⟨rfl, e712⟩ := Q712
        replace e712 := e712.symm
        subst e712
        refine g_istore C #[.val (.int i1), .val (.int i2), .val (.int i3), .val (.int i4), .val (.int i5), .val (.int i6), .val (.int aa), .val (.int bb), .val (.int cc), .val (.int hi), .val (.int lo), .val (.int mid), .val (.int (3 : Int32)), .val (.int (3 : Int32)), .val (.ref b556), .val (.ref b695), .val (.ref b699), .val (.int (1 : Int32)), .val (.int (if 0 < hi then 1 else 0)), .unset] at_227 rfl ?_
        refine g_iload C at_229 rfl ?_
        refine g_iconst C 1 at_231 rfl ?_
        refine g_icmp_f C at_232 (XT.ii_lt_f (by decide)) ?_
        refine g_aload C at_235 rfl rfl ?_
        refine g_iconst C 0 at_237 rfl ?_
        refine g_iloadN C at_238 rfl ?_
        refine g_iconst C 4 at_239 rfl ?_
        refine g_iushr C at_240 ?_
        refine g_iconst C 1 at_241 rfl ?_
        refine g_iand C at_242 ?_
        by_cases hc713 : (((i4.toUInt32 >>> ((4 : Int32) &&& 31).toUInt32).toInt32) &&& (1 : Int32)) = 0
        · refine g_if_t C 250 at_243 (XT.i0_eq_t hc713) (by decide) (by decide) ?_
          refine g_ldc2D C w_35 at_250 ?_
          have V714 := (V559.keep K705 nin0)
          have V715 := (V707.keep KC710 (ninS (Nat.ne_of_lt (Nat.lt_of_lt_of_le V714.lt (Nat.le_of_eq g699.symm))) nin0))
          refine g_dastore C V715 (List.mem_of_getElem? (i := 2) rfl) at_253 ⟨by decide, by decide⟩ 0 rfl (Nat.le_of_ble_eq_true rfl) ?_
          intro h716 W716 V716
          replace V716 : Arv Z h716 b556 ka556 .double (3 : Int32) [(.double (13830554455654793216 : UInt64)), (.double (FP.i2d mid)), (.double (FP.i2d lo))] (.double 0) := V716
          refine g_aload C at_254 rfl rfl ?_
          have F717 := (G710.other W716 (Or.inl (Ne.symm (Nat.ne_of_lt (Nat.lt_of_lt_of_le V714.lt (Nat.le_of_eq g699.symm))))))
          have V718 := (V710.other W716 (Ne.symm (Nat.ne_of_lt (Nat.lt_of_lt_of_le V707.lt le710))))
          have E720 := (X710.wr W716)
          refine g_virtual C E720 w_30 w_31 (fun hZ => nf_sel hw w_33 hZ) w_33 w_32 (by decide) [] (ct_of hw w_34 w_10 (rm_h1 l Z a0 hw b699 b710 _ (3 : Int32) hi _ h716 n0 F717 V718 (by decide) rfl)) all0 (by decide) 0 (by decide) rfl pd___Z rfl [] rfl (Nat.le_of_eq rfl) at_256 (by decide) (by decide) ?_
          intro v719 h719 Q719
          obtain ⟨rfl, e719⟩ := Q719
          replace e719 := e719.symm
          subst e719
          refine g_istore C #[.val (.int i1), .val (.int i2), .val (.int i3), .val (.int i4), .val (.int i5), .val (.int i6), .val (.int aa), .val (.int bb), .val (.int cc), .val (.int hi), .val (.int lo), .val (.int mid), .val (.int (3 : Int32)), .val (.int (3 : Int32)), .val (.ref b556), .val (.ref b695), .val (.ref b699), .val (.int (1 : Int32)), .val (.int (if 0 < hi then 1 else 0)), .val (.int (if 0 < hi then 1 else 0))] at_259 rfl ?_
          refine g_iload C at_261 rfl ?_
          refine g_iload C at_263 rfl ?_
          refine g_icmp_f C at_265 (XT.ii_ne_f (if_pos hc711)) ?_
          refine g_iload C at_268 rfl ?_
          refine g_iload C at_270 rfl ?_
          refine g_icmp_f C at_272 (XT.ii_ne_f (if_pos hc711)) ?_
          refine g_iconst C 1 at_275 rfl ?_
          refine g_goto C 280 at_276 (by decide) (by decide) ?_
          refine g_ireturnN C (t := .boolean) rfl (by simp) at_280 (by decide) (by decide) ?_
          exact rfl
        · refine g_if_f C at_243 (XT.i0_eq_f hc713) ?_
          refine g_dconst1 C at_246 ?_
          refine g_goto C 253 at_247 (by decide) (by decide) ?_
          have V721 := (V559.keep K705 nin0)
          have V722 := (V707.keep KC710 (ninS (Nat.ne_of_lt (Nat.lt_of_lt_of_le V721.lt (Nat.le_of_eq g699.symm))) nin0))
          refine g_dastore C V722 (List.mem_of_getElem? (i := 2) rfl) at_253 ⟨by decide, by decide⟩ 0 rfl (Nat.le_of_ble_eq_true rfl) ?_
          intro h723 W723 V723
          replace V723 : Arv Z h723 b556 ka556 .double (3 : Int32) [(.double FP.dconst1), (.double (FP.i2d mid)), (.double (FP.i2d lo))] (.double 0) := V723
          refine g_aload C at_254 rfl rfl ?_
          have F724 := (G710.other W723 (Or.inl (Ne.symm (Nat.ne_of_lt (Nat.lt_of_lt_of_le V721.lt (Nat.le_of_eq g699.symm))))))
          have V725 := (V710.other W723 (Ne.symm (Nat.ne_of_lt (Nat.lt_of_lt_of_le V707.lt le710))))
          have E727 := (X710.wr W723)
          refine g_virtual C E727 w_30 w_31 (fun hZ => nf_sel hw w_33 hZ) w_33 w_32 (by decide) [] (ct_of hw w_34 w_10 (rm_h1 l Z a0 hw b699 b710 _ (3 : Int32) hi _ h723 n0 F724 V725 (by decide) rfl)) all0 (by decide) 0 (by decide) rfl pd___Z rfl [] rfl (Nat.le_of_eq rfl) at_256 (by decide) (by decide) ?_
          intro v726 h726 Q726
          obtain ⟨rfl, e726⟩ := Q726
          replace e726 := e726.symm
          subst e726
          refine g_istore C #[.val (.int i1), .val (.int i2), .val (.int i3), .val (.int i4), .val (.int i5), .val (.int i6), .val (.int aa), .val (.int bb), .val (.int cc), .val (.int hi), .val (.int lo), .val (.int mid), .val (.int (3 : Int32)), .val (.int (3 : Int32)), .val (.ref b556), .val (.ref b695), .val (.ref b699), .val (.int (1 : Int32)), .val (.int (if 0 < hi then 1 else 0)), .val (.int (if 0 < hi then 1 else 0))] at_259 rfl ?_
          refine g_iload C at_261 rfl ?_
          refine g_iload C at_263 rfl ?_
          refine g_icmp_f C at_265 (XT.ii_ne_f (if_pos hc711)) ?_
          refine g_iload C at_268 rfl ?_
          refine g_iload C at_270 rfl ?_
          refine g_icmp_f C at_272 (XT.ii_ne_f (if_pos hc711)) ?_
          refine g_iconst C 1 at_275 rfl ?_
          refine g_goto C 280 at_276 (by decide) (by decide) ?_
          refine g_ireturnN C (t := .boolean) rfl (by simp) at_280 (by decide) (by decide) ?_
          exact rfl
      · refine g_if_f C at_190 (XT.i0_gt_f hc711) ?_
        refine g_iload C at_193 rfl ?_
        refine g_iconst C 2 at_195 rfl ?_
        refine g_icmp_f C at_196 (XT.ii_lt_f (by decide)) ?_
        refine g_iload C at_199 rfl ?_
        refine g_if_f C at_201 (XT.i0_gt_f (hmed hc711).1) ?_
        refine g_iload C at_204 rfl ?_
        refine g_iconst C 3 at_206 rfl ?_
        refine g_icmp_f C at_207 (XT.ii_lt_f (by decide)) ?_
        refine g_iload C at_210 rfl ?_
        refine g_if_t C 219 at_212 (XT.i0_le_t (hmed hc711).2) (by decide) (by decide) ?_
        refine g_iconst C 0 at_219 rfl ?_
        refine g_istore C #[.val (.int i1), .val (.int i2), .val (.int i3), .val (.int i4), .val (.int i5), .val (.int i6), .val (.int aa), .val (.int bb), .val (.int cc), .val (.int hi), .val (.int lo), .val (.int mid), .val (.int (3 : Int32)), .val (.int (3 : Int32)), .val (.ref b556), .val (.ref b695), .val (.ref b699), .val (.int (0 : Int32)), .unset, .unset] at_220 rfl ?_
        refine g_aload C at_222 rfl rfl ?_
        refine g_virtual C X710 w_30 w_31 (fun hZ => nf_sel hw w_33 hZ) w_33 w_32 (by decide) [] (ct_of hw w_34 w_10 (rm_h1 l Z a0 hw b699 b710 _ (3 : Int32) hi _ h710 n0 G710 V710 (by decide) rfl)) all0 (by decide) 0 (by decide) rfl pd___Z rfl [] rfl (Nat.le_of_eq rfl) at_224 (by decide) (by decide) ?_
        intro v728 h728 Q728
        obtain ⟨rfl, e728⟩ := Q728
        replace e728 := e728.symm
        subst e728
        refine g_istore C #[.val (.int i1), .val (.int i2), .val (.int i3), .val (.int i4), .val (.int i5), .val (.int i6), .val (.int aa), .val (.int bb), .val (.int cc), .val (.int hi), .val (.int lo), .val (.int mid), .val (.int (3 : Int32)), .val (.int (3 : Int32)), .val (.ref b556), .val (.ref b695), .val (.ref b699), .val (.int (0 : Int32)), .val (.int (if 0 < hi then 1 else 0)), .unset] at_227 rfl ?_
        refine g_iload C at_229 rfl ?_
        refine g_iconst C 1 at_231 rfl ?_
        refine g_icmp_f C at_232 (XT.ii_lt_f (by decide)) ?_
        refine g_aload C at_235 rfl rfl ?_
        refine g_iconst C 0 at_237 rfl ?_
        refine g_iloadN C at_238 rfl ?_
        refine g_iconst C 4 at_239 rfl ?_
        refine g_iushr C at_240 ?_
        refine g_iconst C 1 at_241 rfl ?_
        refine g_iand C at_242 ?_
        by_cases hc729 : (((i4.toUInt32 >>> ((4 : Int32) &&& 31).toUInt32).toInt32) &&& (1 : Int32)) = 0
        · refine g_if_t C 250 at_243 (XT.i0_eq_t hc729) (by decide) (by decide) ?_
          refine g_ldc2D C w_35 at_250 ?_
          have V730 := (V559.keep K705 nin0)
          have V731 := (V707.keep KC710 (ninS (Nat.ne_of_lt (Nat.lt_of_lt_of_le V730.lt (Nat.le_of_eq g699.symm))) nin0))
          refine g_dastore C V731 (List.mem_of_getElem? (i := 2) rfl) at_253 ⟨by decide, by decide⟩ 0 rfl (Nat.le_of_ble_eq_true rfl) ?_
          intro h732 W732 V732
          replace V732 : Arv Z h732 b556 ka556 .double (3 : Int32) [(.double (13830554455654793216 : UInt64)), (.double (FP.i2d mid)), (.double (FP.i2d lo))] (.double 0) := V732
          refine g_aload C at_254 rfl rfl ?_
          have F733 := (G710.other W732 (Or.inl (Ne.symm (Nat.ne_of_lt (Nat.lt_of_lt_of_le V730.lt (Nat.le_of_eq g699.symm))))))
          have V734 := (V710.other W732 (Ne.symm (Nat.ne_of_lt (Nat.lt_of_lt_of_le V707.lt le710))))
          have E736 := (X710.wr W732)
          refine g_virtual C E736 w_30 w_31 (fun hZ => nf_sel hw w_33 hZ) w_33 w_32 (by decide) [] (ct_of hw w_34 w_10 (rm_h1 l Z a0 hw b699 b710 _ (3 : Int32) hi _ h732 n0 F733 V734 (by decide) rfl)) all0 (by decide) 0 (by decide) rfl pd___Z rfl [] rfl (Nat.le_of_eq rfl) at_256 (by decide) (by decide) ?_
          intro v735 h735 Q735
          obtain ⟨rfl, e735⟩ := Q735
          replace e735 := e735.symm
          subst e735
          refine g_istore C #[.val (.int i1), .val (.int i2), .val (.int i3), .val (.int i4), .val (.int i5), .val (.int i6), .val (.int aa), .val (.int bb), .val (.int cc), .val (.int hi), .val (.int lo), .val (.int mid), .val (.int (3 : Int32)), .val (.int (3 : Int32)), .val (.ref b556), .val (.ref b695), .val (.ref b699), .val (.int (0 : Int32)), .val (.int (if 0 < hi then 1 else 0)), .val (.int (if 0 < hi then 1 else 0))] at_259 rfl ?_
          refine g_iload C at_261 rfl ?_
          refine g_iload C at_263 rfl ?_
          refine g_icmp_f C at_265 (XT.ii_ne_f (if_neg hc711)) ?_
          refine g_iload C at_268 rfl ?_
          refine g_iload C at_270 rfl ?_
          refine g_icmp_f C at_272 (XT.ii_ne_f (if_neg hc711)) ?_
          refine g_iconst C 1 at_275 rfl ?_
          refine g_goto C 280 at_276 (by decide) (by decide) ?_
          refine g_ireturnN C (t := .boolean) rfl (by simp) at_280 (by decide) (by decide) ?_
          exact rfl
        · refine g_if_f C at_243 (XT.i0_eq_f hc729) ?_
          refine g_dconst1 C at_246 ?_
          refine g_goto C 253 at_247 (by decide) (by decide) ?_
          have V737 := (V559.keep K705 nin0)
          have V738 := (V707.keep KC710 (ninS (Nat.ne_of_lt (Nat.lt_of_lt_of_le V737.lt (Nat.le_of_eq g699.symm))) nin0))
          refine g_dastore C V738 (List.mem_of_getElem? (i := 2) rfl) at_253 ⟨by decide, by decide⟩ 0 rfl (Nat.le_of_ble_eq_true rfl) ?_
          intro h739 W739 V739
          replace V739 : Arv Z h739 b556 ka556 .double (3 : Int32) [(.double FP.dconst1), (.double (FP.i2d mid)), (.double (FP.i2d lo))] (.double 0) := V739
          refine g_aload C at_254 rfl rfl ?_
          have F740 := (G710.other W739 (Or.inl (Ne.symm (Nat.ne_of_lt (Nat.lt_of_lt_of_le V737.lt (Nat.le_of_eq g699.symm))))))
          have V741 := (V710.other W739 (Ne.symm (Nat.ne_of_lt (Nat.lt_of_lt_of_le V707.lt le710))))
          have E743 := (X710.wr W739)
          refine g_virtual C E743 w_30 w_31 (fun hZ => nf_sel hw w_33 hZ) w_33 w_32 (by decide) [] (ct_of hw w_34 w_10 (rm_h1 l Z a0 hw b699 b710 _ (3 : Int32) hi _ h739 n0 F740 V741 (by decide) rfl)) all0 (by decide) 0 (by decide) rfl pd___Z rfl [] rfl (Nat.le_of_eq rfl) at_256 (by decide) (by decide) ?_
          intro v742 h742 Q742
          obtain ⟨rfl, e742⟩ := Q742
          replace e742 := e742.symm
          subst e742
          refine g_istore C #[.val (.int i1), .val (.int i2), .val (.int i3), .val (.int i4), .val (.int i5), .val (.int i6), .val (.int aa), .val (.int bb), .val (.int cc), .val (.int hi), .val (.int lo), .val (.int mid), .val (.int (3 : Int32)), .val (.int (3 : Int32)), .val (.ref b556), .val (.ref b695), .val (.ref b699), .val (.int (0 : Int32)), .val (.int (if 0 < hi then 1 else 0)), .val (.int (if 0 < hi then 1 else 0))] at_259 rfl ?_
          refine g_iload C at_261 rfl ?_
          refine g_iload C at_263 rfl ?_
          refine g_icmp_f C at_265 (XT.ii_ne_f (if_neg hc711)) ?_
          refine g_iload C at_268 rfl ?_
          refine g_iload C at_270 rfl ?_
          refine g_icmp_f C at_272 (XT.ii_ne_f (if_neg hc711)) ?_
          refine g_iconst C 1 at_275 rfl ?_
          refine g_goto C 280 at_276 (by decide) (by decide) ?_
          refine g_ireturnN C (t := .boolean) rfl (by simp) at_280 (by decide) (by decide) ?_
          exact rfl
set_option maxRecDepth 65536 in
set_option maxHeartbeats 40000000 in
theorem comes_1 {Post : Tables → Env → Array Value → State → Outcome → State → Prop} (hpost : ∀ tb e args s v u, (limb_1_1.after args s (.returned v) u = true ∧ limb_1_2.after args s (.returned v) u = true ∧ True) → FrameEnd s (.returned v) u (Jvm.fieldLocs frame_1_writes args s ++ Jvm.arrayLocs frame_1_arrays args s ++ Jvm.staticLocs frame_1_statics s) 24 128 → Post tb e args s (.returned v) u) :
    ArmFor flags0 classFile x code maxLocals ret World_1 tables_1 room_1 Calls_1 rest_1 Pre_1 Post := by
  intro l hfl _ _ p e ha hc hk s m args below hf hA hF happ hP
  obtain ⟨hcalls, hrest, hpre⟩ := hP
  obtain ⟨-, -, -, hnamed, -, -, -, hat⟩ := (Spec.applies_iff hf).mp happ
  obtain ⟨hg, hn⟩ := and_e (Cond.before_iff.mp (show (Jvm.Cond.and given_1 narrow_1).before args s = true from hpre))
  obtain ⟨hcount, ga0⟩ := and_e hg
  obtain ⟨gv0, ga1⟩ := and_e ga0
  obtain ⟨gv1, ga2⟩ := and_e ga1
  obtain ⟨gv2, ga3⟩ := and_e ga2
  obtain ⟨gv3, ga4⟩ := and_e ga3
  obtain ⟨gv4, ga5⟩ := and_e ga4
  obtain ⟨w0, w1, w2, w3, w4, w5, rfl⟩ : ∃ w0 w1 w2 w3 w4 w5 : Value, args = #[w0, w1, w2, w3, w4, w5] := by
    have hs : args.size = 6 := by simpa [Cond.value, given_1] using hcount
    obtain ⟨L⟩ := args
    match L, hs with
    | [w0, w1, w2, w3, w4, w5], _ => exact ⟨w0, w1, w2, w3, w4, w5, rfl⟩
  have hw := fun d (hd : d ∈ tables_1) => atoms_spec (ws := Jvm.Cond.code x code maxLocals ret :: tables_1) hat d (List.mem_cons_of_mem _ hd)
  have hfit : Fit s := fun {y c} hc i hi => by
    obtain ⟨ha, rfl⟩ := Array.getElem?_eq_some_iff.mp hc
    have q := List.all_eq_true.mp ((Array.all_eq_true_iff_forall_mem.mp hF) _ (Array.getElem_mem ha)) i (List.mem_range.mpr hi)
    simpa [Array.getElem?_eq_getElem hi] using q
  obtain ⟨i0, ei0⟩ := is_v gv0
  obtain rfl : w0 = (.int i0) := Option.some.inj ei0
  obtain ⟨i1, ei1⟩ := is_v gv1
  obtain rfl : w1 = (.int i1) := Option.some.inj ei1
  obtain ⟨i2, ei2⟩ := is_v gv2
  obtain rfl : w2 = (.int i2) := Option.some.inj ei2
  obtain ⟨i3, ei3⟩ := is_v gv3
  obtain rfl : w3 = (.int i3) := Option.some.inj ei3
  obtain ⟨i4, ei4⟩ := is_v gv4
  obtain rfl : w4 = (.int i4) := Option.some.inj ei4
  obtain ⟨i5, ei5⟩ := is_v ga5
  obtain rfl : w5 = (.int i5) := Option.some.inj ei5
  obtain ⟨n, o, h1, h2, h3, _, L, ns, rfl, ⟨⟨rfl, rfl⟩, N⟩, -, hq⟩ := rm_law l s _ hw (ws := tables_1) i0 i1 i2 i3 i4 i5  s.heap s.heap.size  ⟨Nat.le_refl _, all0⟩ p e ha hc hk s m _ below hf ((Spec.applies_iff_loose hf).mp happ).1 ⟨rfl, State.Warmed39.refl s, rfl⟩ trivial
  refine ⟨n, _, h1, h2, h3, hpost _ _ _ _ _ _ ⟨Cond.after_iff.mpr rfl, Cond.after_iff.mpr (eq_i res_at (Term.int_eval (1)) rfl), trivial⟩ ⟨hq.1, hq.2.1, (hq.2.2.sift fun y hy => Or.inr (N y hy)).mono (by decide) (by decide)⟩⟩
theorem main_1_1 : Claimed_1_1 := comes_1 fun _ _ _ _ _ _ h hF => ⟨h.1, hF⟩
theorem main_1_2 : Claimed_1_2 := comes_1 fun _ _ _ _ _ _ h hF => ⟨h.2.1, hF⟩

end Jvm.Pilot.@@N@@
namespace Jvm.Pilot.@@N@@
open Jvm Jvm.ClassFile Sem Op Lib Jvm.Free Jvm.Stand Jvm.Pilot.@@N@@.Jvm.D
/-! MADE BY PROGRAM (witnessworld.py) out of the Statement's table words and the real class files: 12 classes; the members and pool entries that the words name. The judged class is class 1, her method 1. -/
namespace start1
open Jvm.ClassFile
def u (s : String) : CpInfo := .utf8 (stringToUtf16 s)
/-- a pool by its gaps: so many unusable entries, then the entry; so many at the end -/
def gap : Nat → List CpInfo → List CpInfo
  | 0, r => r
  | n + 1, r => .unusable :: gap n r
def poolList (es : List (Nat × CpInfo)) (last : Nat) : List CpInfo := es.foldr (fun e r => gap e.1 (e.2 :: r)) (gap last [])
def pool (es : List (Nat × CpInfo)) (last : Nat) : Array CpInfo := ⟨poolList es last⟩
def fileOf (pool : Array CpInfo) (this : Nat) (attrs : Array Attribute := #[]) (ms : Array MethodInfo := #[]) (fl : Nat := 33) (sup : Nat := 0) (ifs : Array Nat := #[]) (fds : Array FieldInfo := #[]) : ClassFile where
  minorVersion := 0
  majorVersion := 65
  constantPool := pool
  accessFlags := fl
  thisClass := this
  superClass := sup
  interfaces := ifs
  fields := fds
  methods := ms
  attributes := attrs
def plain (name : String) (sup : Option ClassId) : Class where
  name := name
  kind := .ordinary
  loader := none
  accessFlags := 33
  super := sup
  interfaces := #[]
  cf := none
  fields := #[]
  methods := #[]
  instanceTypes := #[]
  staticTypes := #[]
  resolved := #[]
  callSites := []
  init := .initialized
  statics := none
  mirror := none

def pool0 : Array CpInfo := pool [(5, u "<init>"), (0, u "()V"), (1, .class_ 10), (1, u "java/lang/Object"), (85, u "clone"), (0, u "()Ljava/lang/Object;")] 26

def k0c0 : Code := { maxStack := 0, maxLocals := 1, code := object_method_1_code, exceptionTable := #[], attributes := #[] }
def k0m0 : Method := { name := "<init>", desc := "()V", sig := { parameters := [], returnType := none }, accessFlags := 1, code := some k0c0 }
def k0m1 : Method := { name := "clone", desc := "()Ljava/lang/Object;", sig := { parameters := [], returnType := some (.object "java/lang/Object") }, accessFlags := 260, code := none }
/-- java/lang/Object -/
def k0 : Class := { plain "java/lang/Object" none with
  accessFlags := 33
  interfaces := #[]
  cf := some (fileOf pool0 8 #[] #[{ accessFlags := 1, nameIndex := 5, descriptorIndex := 6, attributes := #[] }, { accessFlags := 260, nameIndex := 96, descriptorIndex := 97, attributes := #[] }] 33 0 #[] #[])
  fields := #[]
  methods := #[k0m0, k0m1]
  instanceTypes := #[]
  staticTypes := #[]
  resolved := Array.replicate 124 none
  statics := none }

def pool1 : Array CpInfo := pool [(2, .class_ 4), (1, u "java/lang/Object"), (0, u "<init>"), (0, u "()V"), (0, .methodref 8 9), (0, .class_ 10), (0, .nameAndType 11 12), (0, u "java/lang/Math"), (0, u "max"), (0, u "(II)I"), (0, .methodref 8 14), (0, .nameAndType 15 12), (0, u "min"), (0, .class_ 17), (0, u "com/example/xml_retrieval_scoring/xmlretrievalscoring/CumulatedGain"), (0, .methodref 16 19), (0, .nameAndType 5 20), (0, u "([D[D)V"), (0, .methodref 16 22), (0, .nameAndType 23 24), (0, u "hasIdealGain"), (0, u "()Z"), (0, .double 13830554455654793216), (1, .class_ 28), (0, u "com/example/xml_retrieval_scoring/xmlretrievalscoring/CumulatedGainHasIdealGainPinLaw"), (2, u "law"), (0, u "(IIIIII)Z")] 5

def k1m0 : Method := { name := "<init>", desc := "()V", sig := { parameters := [], returnType := none }, accessFlags := 1, code := none }
def k1c1 : Code := { maxStack := 4, maxLocals := 20, code := code, exceptionTable := #[], attributes := #[] }
def k1m1 : Method := { name := "law", desc := "(IIIIII)Z", sig := { parameters := [.int, .int, .int, .int, .int, .int], returnType := some .boolean }, accessFlags := 9, code := some k1c1 }
/-- com/example/xml_retrieval_scoring/xmlretrievalscoring/CumulatedGainHasIdealGainPinLaw -/
def k1 : Class := { plain "com/example/xml_retrieval_scoring/xmlretrievalscoring/CumulatedGainHasIdealGainPinLaw" (some 0) with
  accessFlags := 49
  interfaces := #[]
  cf := some (fileOf pool1 27 #[] #[{ accessFlags := 1, nameIndex := 5, descriptorIndex := 6, attributes := #[] }, { accessFlags := 9, nameIndex := 31, descriptorIndex := 32, attributes := #[] }] 49 2 #[] #[])
  fields := #[]
  methods := #[k1m0, k1m1]
  instanceTypes := #[]
  staticTypes := #[]
  resolved := Array.replicate 38 none
  statics := none }

def pool2 : Array CpInfo := pool [(1, .class_ 2), (0, u "java/lang/Math"), (1, .class_ 6), (1, u "java/lang/Object"), (0, u "<init>"), (0, u "()V"), (89, .class_ 100), (1, u "java/lang/Math$RandomNumberGeneratorHolder"), (71, u "negativeZeroFloatBits"), (0, u "J"), (2, u "negativeZeroDoubleBits"), (21, u "max"), (2, u "min"), (43, u "$assertionsDisabled"), (0, u "Z"), (88, u "(II)I"), (2, u "twoToTheDoubleScaleDown"), (0, u "D"), (4, u "twoToTheDoubleScaleUp"), (9, u "E"), (3, u "PI"), (2, u "TAU"), (2, u "DEGREES_TO_RADIANS"), (0, u "RADIANS_TO_DEGREES")] 94

def k2m0 : Method := { name := "<init>", desc := "()V", sig := { parameters := [], returnType := none }, accessFlags := 2, code := none }
def k2c1 : Code := { maxStack := 2, maxLocals := 2, code := jdk_29_method_65_code, exceptionTable := #[], attributes := #[] }
def k2m1 : Method := { name := "max", desc := "(II)I", sig := { parameters := [.int, .int], returnType := some .int }, accessFlags := 9, code := some k2c1 }
def k2c2 : Code := { maxStack := 2, maxLocals := 2, code := jdk_29_method_69_code, exceptionTable := #[], attributes := #[] }
def k2m2 : Method := { name := "min", desc := "(II)I", sig := { parameters := [.int, .int], returnType := some .int }, accessFlags := 9, code := some k2c2 }
/-- java/lang/Math -/
def k2 : Class := { plain "java/lang/Math" (some 0) with
  accessFlags := 49
  interfaces := #[]
  cf := some (fileOf pool2 1 #[.nestMembers #[98]] #[{ accessFlags := 2, nameIndex := 7, descriptorIndex := 8, attributes := #[] }, { accessFlags := 9, nameIndex := 198, descriptorIndex := 335, attributes := #[] }, { accessFlags := 9, nameIndex := 201, descriptorIndex := 335, attributes := #[] }] 49 4 #[] #[{ accessFlags := 25, nameIndex := 354, descriptorIndex := 339, attributes := #[] }, { accessFlags := 25, nameIndex := 358, descriptorIndex := 339, attributes := #[] }, { accessFlags := 25, nameIndex := 361, descriptorIndex := 339, attributes := #[] }, { accessFlags := 26, nameIndex := 364, descriptorIndex := 339, attributes := #[] }, { accessFlags := 26, nameIndex := 365, descriptorIndex := 339, attributes := #[] }, { accessFlags := 26, nameIndex := 172, descriptorIndex := 173, attributes := #[] }, { accessFlags := 26, nameIndex := 176, descriptorIndex := 173, attributes := #[] }, { accessFlags := 8, nameIndex := 344, descriptorIndex := 339, attributes := #[] }, { accessFlags := 8, nameIndex := 338, descriptorIndex := 339, attributes := #[] }, { accessFlags := 4120, nameIndex := 245, descriptorIndex := 246, attributes := #[] }])
  fields := #[{ name := "E", type := .double, accessFlags := 25, slot := 0, constantValue := 0 }, { name := "PI", type := .double, accessFlags := 25, slot := 1, constantValue := 0 }, { name := "TAU", type := .double, accessFlags := 25, slot := 2, constantValue := 0 }, { name := "DEGREES_TO_RADIANS", type := .double, accessFlags := 26, slot := 3, constantValue := 0 }, { name := "RADIANS_TO_DEGREES", type := .double, accessFlags := 26, slot := 4, constantValue := 0 }, { name := "negativeZeroFloatBits", type := .long, accessFlags := 26, slot := 5, constantValue := 0 }, { name := "negativeZeroDoubleBits", type := .long, accessFlags := 26, slot := 6, constantValue := 0 }, { name := "twoToTheDoubleScaleUp", type := .double, accessFlags := 8, slot := 7, constantValue := 0 }, { name := "twoToTheDoubleScaleDown", type := .double, accessFlags := 8, slot := 8, constantValue := 0 }, { name := "$assertionsDisabled", type := .boolean, accessFlags := 4120, slot := 9, constantValue := 0 }]
  methods := #[k2m0, k2m1, k2m2]
  instanceTypes := #[]
  staticTypes := #[.double, .double, .double, .double, .double, .long, .long, .double, .double, .boolean]
  resolved := Array.replicate 460 none
  statics := none }

def pool3 : Array CpInfo := pool [(1, .methodref 2 3), (0, .class_ 4), (0, .nameAndType 5 6), (0, u "java/lang/Object"), (0, u "<init>"), (0, u "()V"), (0, .methodref 8 9), (0, .class_ 10), (0, .nameAndType 11 12), (0, u "[D"), (0, u "clone"), (0, u "()Ljava/lang/Object;"), (0, .fieldref 14 15), (0, .class_ 16), (0, .nameAndType 17 10), (0, u "com/example/xml_retrieval_scoring/xmlretrievalscoring/CumulatedGain"), (0, u "gains"), (0, .fieldref 14 19), (0, .nameAndType 20 10), (0, u "ideal"), (25, .class_ 48), (1, u "com/example/xml_retrieval_scoring/xmlretrievalscoring/CumulatedGain$NaturalPoints"), (27, u "([D[D)V"), (5, u "hasIdealGain"), (0, u "()Z"), (5, u "LEVELS"), (0, u "I"), (2, u "LEVEL_TOLERANCE"), (0, u "D")] 33

def k3c0 : Code := { maxStack := 2, maxLocals := 3, code := prog_19_method_1_code, exceptionTable := #[], attributes := #[] }
def k3m0 : Method := { name := "<init>", desc := "([D[D)V", sig := { parameters := [(.array .double), (.array .double)], returnType := none }, accessFlags := 1, code := some k3c0 }
def k3c1 : Code := { maxStack := 4, maxLocals := 1, code := prog_19_method_2_code, exceptionTable := #[], attributes := #[] }
def k3m1 : Method := { name := "hasIdealGain", desc := "()Z", sig := { parameters := [], returnType := some .boolean }, accessFlags := 1, code := some k3c1 }
/-- com/example/xml_retrieval_scoring/xmlretrievalscoring/CumulatedGain -/
def k3 : Class := { plain "com/example/xml_retrieval_scoring/xmlretrievalscoring/CumulatedGain" (some 0) with
  accessFlags := 49
  interfaces := #[]
  cf := some (fileOf pool3 14 #[.nestMembers #[46]] #[{ accessFlags := 1, nameIndex := 5, descriptorIndex := 76, attributes := #[] }, { accessFlags := 1, nameIndex := 82, descriptorIndex := 83, attributes := #[] }] 49 2 #[] #[{ accessFlags := 26, nameIndex := 89, descriptorIndex := 90, attributes := #[] }, { accessFlags := 26, nameIndex := 93, descriptorIndex := 94, attributes := #[] }, { accessFlags := 18, nameIndex := 17, descriptorIndex := 10, attributes := #[] }, { accessFlags := 18, nameIndex := 20, descriptorIndex := 10, attributes := #[] }])
  fields := #[{ name := "LEVELS", type := .int, accessFlags := 26, slot := 0, constantValue := 0 }, { name := "LEVEL_TOLERANCE", type := .double, accessFlags := 26, slot := 1, constantValue := 0 }, { name := "gains", type := (.array .double), accessFlags := 18, slot := 0, constantValue := 0 }, { name := "ideal", type := (.array .double), accessFlags := 18, slot := 1, constantValue := 0 }]
  methods := #[k3m0, k3m1]
  instanceTypes := #[(.array .double), (.array .double)]
  staticTypes := #[.int, .double]
  resolved := Array.replicate 128 none
  statics := none }

def pool4 : Array CpInfo := pool [(1, .class_ 2), (0, u "java/lang/Cloneable"), (0, .class_ 4), (0, u "java/lang/Object")] 2

/-- java/lang/Cloneable -/
def k4 : Class := { plain "java/lang/Cloneable" (some 0) with
  accessFlags := 1537
  interfaces := #[]
  cf := some (fileOf pool4 1 #[] #[] 1537 3 #[] #[])
  fields := #[]
  methods := #[]
  instanceTypes := #[]
  staticTypes := #[]
  resolved := Array.replicate 7 none
  statics := none }

def pool5 : Array CpInfo := pool [(1, u "java/io/Serializable"), (0, .class_ 1), (0, u "java/lang/Object"), (0, .class_ 3)] 3

/-- java/io/Serializable -/
def k5 : Class := { plain "java/io/Serializable" (some 0) with
  accessFlags := 1537
  interfaces := #[]
  cf := some (fileOf pool5 2 #[] #[] 1537 4 #[] #[])
  fields := #[]
  methods := #[]
  instanceTypes := #[]
  staticTypes := #[]
  resolved := Array.replicate 8 none
  statics := none }

/-- the primitive byte -/
def k6 : Class := { plain "byte" none with kind := .primitive 'B', accessFlags := 0x411 }
/-- [B -/
def k7 : Class := { plain "[B" (some 0) with kind := .array 6 .byte, interfaces := #[4, 5], accessFlags := 1041 }

/-- the primitive double -/
def k8 : Class := { plain "double" none with kind := .primitive 'D', accessFlags := 0x411 }
/-- [D -/
def k9 : Class := { plain "[D" (some 0) with kind := .array 8 .double, interfaces := #[4, 5], accessFlags := 1041 }

/-- the primitive int -/
def k10 : Class := { plain "int" none with kind := .primitive 'I', accessFlags := 0x411 }
/-- [I -/
def k11 : Class := { plain "[I" (some 0) with kind := .array 10 .int, interfaces := #[4, 5], accessFlags := 1041 }

def heap : Heap := #[]
def classes : Array Class := #[k0, k1, k2, k3, k4, k5, k6, k7, k8, k9, k10, k11]
def interned : List (Array UInt16 × Addr) := []
def slotsUsed : Nat := 0
def theMethod : MethodId := ⟨1, 1⟩
def args0 : Array Value := #[.int 3, .int 1, .int 2, .int 11, .int 7, .int 9]
def aboutOver (below : List Frame) : State where
  vm := { classes := classes, interned := interned.toArray }
  heap := heap
  slotsUsed := slotsUsed
  threads := #[{ frames := .invoking theMethod args0 :: below }]
def below0 : List Frame := [.native { method := ⟨0, 0⟩, args := #[] }]
def about1 : State := aboutOver below0
def p0 : Program := .bare "" "" ""
def e0 : Env := launch0.env 0 0 0
theorem w_frames : about1.frames = Frame.invoking theMethod args0 :: below0 := rfl
set_option maxRecDepth 65536 in
theorem w_args : argsFit about1.vm theMethod args0 = true := by decide +kernel
set_option maxRecDepth 65536 in
theorem w_heap : heapFits about1 = true := by decide +kernel
set_option maxRecDepth 65536 in
theorem w_runnable : about1.curStatus? = some .runnable := by decide +kernel
set_option maxRecDepth 65536 in
theorem w_alone : about1.alone = true := by decide +kernel
set_option maxRecDepth 65536 in
theorem w_named : about1.methodNamed? x = some theMethod := by decide +kernel
set_option maxRecDepth 65536 in
theorem w_hears : about1.hears theMethod below0 = true := by decide +kernel
set_option maxRecDepth 65536 in
theorem w_ripe : about1.ripe theMethod args0 below0 = true := by decide +kernel
theorem w_running : about1.status = .running := rfl
set_option maxRecDepth 65536 in
theorem w_room : about1.hasRoom e0.platform room_1 = true :=
  launch0.hasRoom_least _ room_1 (by decide +kernel) (by decide +kernel) (by decide +kernel) (by decide +kernel) (by decide +kernel) (by decide +kernel)
theorem allAtoms_all (ts : List Jvm.Cond) (a : Array Jvm.Value) (st : Jvm.State) : (allAtoms ts).before a st = ts.all (fun c => c.before a st) := by
  induction ts with
  | nil => rfl
  | cons c t ih =>
    show (Jvm.Cond.and c (allAtoms t)).before a st = _
    rw [Jvm.Cond.before_and, ih, List.all_cons]
def words1 : List Jvm.Cond := Jvm.Cond.code x code maxLocals ret :: tables_1
/-- a 'code' word, met by the world's own term for the bytes: nothing is compared byte by byte -/
theorem code_word {y : MethodName} {bytes : ByteArray} {mx : Nat} {rt : Option FieldType} {a : Array Value} {s : State} {m : MethodId} {meth : Method} {c : Code} (h1 : s.methodNamed? y = some m) (h2 : s.vm.method? m = some meth) (h3 : meth.code = some c) (h4 : c.code = bytes)
    (h5 : (c.maxLocals == mx && c.exceptionTable.isEmpty && decide (c.maxStack ≤ mostOperands) && decide (meth.sig.returnType = rt) && !meth.locks && decide (parseMethodDescriptor y.desc = some meth.sig)) = true) : (Jvm.Cond.code y bytes mx rt).before a s = true := by
  simp only [Bool.and_eq_true, beq_iff_eq, Bool.not_eq_true', decide_eq_true_eq] at h5
  obtain ⟨⟨⟨⟨⟨g1, g2⟩, g3⟩, g4⟩, g5⟩, g6⟩ := h5
  simp [Cond.before, Cond.holds, Cond.value, h1, h2, h3, h4, g1, g2, g3, g4, g5, g6]
def isCode : Jvm.Cond → Bool
  | .code _ _ _ _ => true
  | _ => false
theorem all_split {L : List Jvm.Cond} {P : Jvm.Cond → Bool} (h1 : L.all (fun c => isCode c || P c) = true) (h2 : ∀ c ∈ L.filter isCode, P c = true) : L.all P = true := by
  refine List.all_eq_true.mpr fun c hc => ?_
  have h := List.all_eq_true.mp h1 c hc
  rcases Bool.eq_false_or_eq_true (isCode c) with hi | hi
  · exact h2 c (List.mem_filter.mpr ⟨hc, hi⟩)
  · simpa [hi] using h
set_option maxRecDepth 65536 in
theorem w_c0 : (Jvm.Cond.code x code maxLocals ret).before args0 about1 = true := code_word (m := ⟨1, 1⟩) (meth := k1m1) (c := k1c1) (by decide +kernel) rfl rfl rfl (by decide +kernel)
set_option maxRecDepth 65536 in
theorem w_c1 : (Jvm.Cond.code ({ cls := "java/lang/Math", name := "max", desc := "(II)I" } : Jvm.MethodName) jdk_29_method_65_code (2 : Nat) (Option.some Jvm.ClassFile.FieldType.int)).before args0 about1 = true := code_word (m := ⟨2, 1⟩) (meth := k2m1) (c := k2c1) (by decide +kernel) rfl rfl rfl (by decide +kernel)
set_option maxRecDepth 65536 in
theorem w_c2 : (Jvm.Cond.code ({ cls := "java/lang/Math", name := "min", desc := "(II)I" } : Jvm.MethodName) jdk_29_method_69_code (2 : Nat) (Option.some Jvm.ClassFile.FieldType.int)).before args0 about1 = true := code_word (m := ⟨2, 2⟩) (meth := k2m2) (c := k2c2) (by decide +kernel) rfl rfl rfl (by decide +kernel)
set_option maxRecDepth 65536 in
theorem w_c3 : (Jvm.Cond.code ({ cls := "com/example/xml_retrieval_scoring/xmlretrievalscoring/CumulatedGain", name := "<init>", desc := "([D[D)V" } : Jvm.MethodName) prog_19_method_1_code (3 : Nat) (Option.none : Option Jvm.ClassFile.FieldType)).before args0 about1 = true := code_word (m := ⟨3, 0⟩) (meth := k3m0) (c := k3c0) (by decide +kernel) rfl rfl rfl (by decide +kernel)
set_option maxRecDepth 65536 in
theorem w_c4 : (Jvm.Cond.code ({ cls := "java/lang/Object", name := "<init>", desc := "()V" } : Jvm.MethodName) object_method_1_code (1 : Nat) (Option.none : Option Jvm.ClassFile.FieldType)).before args0 about1 = true := code_word (m := ⟨0, 0⟩) (meth := k0m0) (c := k0c0) (by decide +kernel) rfl rfl rfl (by decide +kernel)
set_option maxRecDepth 65536 in
theorem w_c5 : (Jvm.Cond.code ({ cls := "com/example/xml_retrieval_scoring/xmlretrievalscoring/CumulatedGain", name := "hasIdealGain", desc := "()Z" } : Jvm.MethodName) prog_19_method_2_code (1 : Nat) (Option.some Jvm.ClassFile.FieldType.boolean)).before args0 about1 = true := code_word (m := ⟨3, 1⟩) (meth := k3m1) (c := k3c1) (by decide +kernel) rfl rfl rfl (by decide +kernel)
def codes1 : List Jvm.Cond := [Jvm.Cond.code x code maxLocals ret, Jvm.Cond.code ({ cls := "java/lang/Math", name := "max", desc := "(II)I" } : Jvm.MethodName) jdk_29_method_65_code (2 : Nat) (Option.some Jvm.ClassFile.FieldType.int), Jvm.Cond.code ({ cls := "java/lang/Math", name := "min", desc := "(II)I" } : Jvm.MethodName) jdk_29_method_69_code (2 : Nat) (Option.some Jvm.ClassFile.FieldType.int), Jvm.Cond.code ({ cls := "com/example/xml_retrieval_scoring/xmlretrievalscoring/CumulatedGain", name := "<init>", desc := "([D[D)V" } : Jvm.MethodName) prog_19_method_1_code (3 : Nat) (Option.none : Option Jvm.ClassFile.FieldType), Jvm.Cond.code ({ cls := "java/lang/Object", name := "<init>", desc := "()V" } : Jvm.MethodName) object_method_1_code (1 : Nat) (Option.none : Option Jvm.ClassFile.FieldType), Jvm.Cond.code ({ cls := "com/example/xml_retrieval_scoring/xmlretrievalscoring/CumulatedGain", name := "hasIdealGain", desc := "()Z" } : Jvm.MethodName) prog_19_method_2_code (1 : Nat) (Option.some Jvm.ClassFile.FieldType.boolean)]
set_option maxRecDepth 65536 in
theorem codes_eq : words1.filter isCode = codes1 := rfl
theorem w_codes : ∀ c ∈ words1.filter isCode, c.before args0 about1 = true := by
  rw [codes_eq]
  intro c hc
  simp only [codes1, List.mem_cons, List.not_mem_nil, or_false] at hc
  rcases hc with rfl | rfl | rfl | rfl | rfl | rfl
  · exact w_c0
  · exact w_c1
  · exact w_c2
  · exact w_c3
  · exact w_c4
  · exact w_c5
set_option maxRecDepth 65536 in
theorem w_t1 : (words1.take 24).all (fun c => isCode c || c.before args0 about1) = true := by decide +kernel
set_option maxRecDepth 65536 in
theorem w_t2 : (words1.drop 24).all (fun c => isCode c || c.before args0 about1) = true := by decide +kernel
theorem w_tables : (allAtoms (Jvm.Cond.code x code maxLocals ret :: tables_1)).before args0 about1 = true := by
  rw [allAtoms_all]
  show words1.all (fun c => c.before args0 about1) = true
  refine all_split ?_ w_codes
  rw [← List.take_append_drop 24 words1, List.all_append, w_t1, w_t2]
  rfl
set_option maxRecDepth 65536 in
theorem w_case : (Jvm.Cond.and given_1 narrow_1).before args0 about1 = true := by decide +kernel
theorem w_applies : (headSpec (Jvm.Cond.code x code maxLocals ret :: tables_1) room_1).applies x e0.platform about1 = true :=
  (Spec.applies_iff w_frames).mpr ⟨w_running, w_runnable, w_alone, w_named, w_hears, w_ripe, w_room, w_tables⟩
theorem atStart : AtStart classFile x code maxLocals ret World_1 tables_1 room_1 Calls_1 rest_1 Pre_1 launch0 p0 e0 about1 theMethod args0 below0 :=
  ⟨lists_1, trivial, launch0.admits_env _ _ _, launch0.least_env, fairChoices_fair.cas, fairChoices_fair.clock, w_frames, w_args, w_heap, w_applies, trivial, trivial, w_case⟩
end start1
theorem witness_1 : WitnessClaimed_1 := ⟨start1.p0, start1.e0, start1.about1, start1.theMethod, start1.args0, start1.below0, start1.atStart⟩
end Jvm.Pilot.@@N@@
