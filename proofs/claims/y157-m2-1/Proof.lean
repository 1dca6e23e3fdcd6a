import JvmDerived
import JvmDerived.Pilot.@@N@@Statement
import JvmDerived.Pilot.@@N@@Code
set_option linter.unusedVariables false
set_option linter.unusedSimpArgs false
namespace Jvm.OwnGo
open Sem ClassFile Op Lib Jvm.Stand Jvm.Free Jvm.LawKit Jvm.RoadKit Bundle
section OwnFacts
variable {Z : State} {h h' : Heap} {a b t : Addr} {C n d : String} {v w : Value} {ws : List Addr} {bo : Bool} {ka kb : ClassId} {ty : FieldType} {z : Int32} {vs : List Value} {dv : Value} {cs : List Int32} {sl : Nat}
theorem Sta_keep (F : Sta Z h C n d v) (K : Keep h h' []) : Sta Z h' C n d v := by
  obtain ⟨cf, i, k, f, st, cell, h1, h2, h3, h4, h5, h6, h7⟩ := F
  exact ⟨cf, i, k, f, st, cell, h1, h2, h3, h4, K.2.1 _ _ h5 nin0, h6, h7⟩
theorem Ins_keep (F : Ins Z h a C bo) (K : Keep h h' ws) : Ins Z h' a C bo := by
  obtain ⟨cell, cT, h1, h2, h3⟩ := F
  obtain ⟨c', q, r1, r2, r3⟩ := K.2.2 a cell h1
  exact ⟨c', cT, q, h2, by rw [r1, r2]; exact h3⟩
theorem own_sto {y : Addr} (F : Arv Z h a ka ty z vs dv) (O : Ovr Z ka C) (I : Ins Z h y C true) : Sto Z h a (.ref y) := by
  obtain ⟨cl, A, q, -⟩ := F
  exact Sto.ofV A q O I
theorem Sta_keepE (F : Sta Z h C n d v) (K : Keep h h' ws) (q : ∀ x ∈ ws, ∃ Cx, Exa Z h x Cx) : Sta Z h' C n d v := by
  obtain ⟨cf, i, k, f, st, cell, h1, h2, h3, h4, h5, h6, h7⟩ := F
  refine ⟨cf, i, k, f, st, cell, h1, h2, h3, h4, K.2.1 _ _ h5 (fun hm => ?_), h6, h7⟩
  obtain ⟨Cx, c1, k1, e1, -, -, e4, -⟩ := q _ hm
  cases e1.symm.trans h5
  rw [e4] at h6; cases h6
theorem own_ne_arv {a0 : Array Value} {nk : Nat} (F : Exa Z h a C) (wi : (Cond.instantiable C nk).before a0 Z = true) (G : Arv Z h b ka ty z vs dv) : a ≠ b := by
  obtain ⟨cl, A, -⟩ := G
  exact ne_arr F wi A
/-- the String at a: one byte a char, its array at t -/
def Str (Z : State) (h : Heap) (a t : Addr) (kb : ClassId) (cs : List Int32) : Prop :=
  Exa Z h a "java/lang/String" ∧ Fld Z h a "java/lang/String" "coder" "B" (.int 0) ∧ Fld Z h a "java/lang/String" "value" "[B" (.ref t) ∧ Arv Z h t kb .byte (Int32.ofNat cs.length) ((cs.map fun c => c.toInt8.toInt32).map Value.int) (.int 0) ∧ cs.length ≤ 4000 ∧ ∀ c ∈ cs, ¬ c < 0 ∧ ¬ (255 : Int32) < c
theorem Str.keep (S : Str Z h a t kb cs) (K : Keep h h' ws) (q : a ∉ ws) (r : t ∉ ws) : Str Z h' a t kb cs := ⟨S.1.keep K, S.2.1.keep K q, S.2.2.1.keep K q, S.2.2.2.1.keep K r, S.2.2.2.2⟩
theorem Str.ext (S : Str Z h a t kb cs) (E : Ext h h') : Str Z h' a t kb cs := ⟨S.1.ext E, S.2.1.ext E, S.2.2.1.ext E, S.2.2.2.1.ext E, S.2.2.2.2⟩
theorem Str.other (S : Str Z h a t kb cs) (W : Wr h h' b sl v) (q : a ≠ b) (r : t ≠ b) : Str Z h' a t kb cs := ⟨S.1.wr W, S.2.1.other W (Or.inl q), S.2.2.1.other W (Or.inl q), S.2.2.2.1.other W r, S.2.2.2.2⟩
theorem Str.tlt (S : Str Z h a t kb cs) : t < h.size := S.2.2.2.1.lt
/-- C's chain of superclasses does not meet K, a class that can be made -/
theorem own_root {a0 : Array Value} {O K : String} {nk : Nat} (w : (Cond.noSuperclass O).before a0 Z = true) (wk : (Cond.instantiable K nk).before a0 Z = true) (hn : O ≠ K) : NS Z O K := by
  obtain ⟨c, k, h1, h2, h3, -, -⟩ := Cond.noSuperclass_spec w
  obtain ⟨t, kt, g1, -⟩ := Cond.instantiable_spec wk
  have ne := ids_ne h1 g1 hn
  refine ⟨c, t, h1, g1, fun fuel => ?_⟩
  cases fuel with
  | zero => rfl
  | succ f => simp [Vm.isSubclassAux, ne, h2, h3]
theorem own_no {a0 : Array Value} {C S K : String} {nk : Nat} (w : (Cond.superclass C S).before a0 Z = true) (wk : (Cond.instantiable K nk).before a0 Z = true) (n : NS Z C K) (hn : C ≠ K) : ∃ c t, Z.vm.findClass C = some c ∧ Z.vm.findClass K = some t ∧ Z.vm.assignable c t = false := by
  obtain ⟨c, t, h0, g0, n3⟩ := n
  obtain ⟨p, k, kp, h1, h2, h3, h4, h5, -, h7⟩ := Cond.superclass_spec h0 w
  obtain ⟨t', k', g1, g2, g3, g4, -⟩ := Cond.instantiable_spec wk
  cases g0.symm.trans g1
  have g5 : k'.isInterface = false := by
    cases hi : k'.isInterface <;> simp [hi] at g4 ⊢
  have ne := ids_ne h0 g0 hn
  refine ⟨c, t, h0, g0, ?_⟩
  show Z.vm.assignableAux (255 + 1) c t = false
  simp [Vm.assignableAux, ne, h2, g2, h5, g3, g5, Vm.isSubclass, n3]
/-- the boxes that stood before -/
def Box (Z : State) (h : Heap) (a : Addr) (K d : String) (z : Int32) (val : Int32 → Value) : Prop :=
  ∃ c : Cell, Arr Z h a c (.object K) ∧ c.slots.size = z.toNatClampNeg ∧ ¬ z < 0 ∧ ∀ j : Int32, ¬ (j < 0 ∨ c.slots.size ≤ j.toNatClampNeg) → ∃ b : Addr, c.slots[j.toNatClampNeg]? = some (.ref b) ∧ Exa Z h b K ∧ Fld Z h b K "value" d (val j)
theorem Box.start {K : String} {val : Int32 → Value} {c : Cell} (F : Bxs Z a c K d z val) : Box Z Z.heap a K d z val := ⟨c, F.1, F.2.1, F.2.2.1, F.2.2.2⟩
theorem Box.keep {K : String} {val : Int32 → Value} (F : Box Z h a K d z val) (Kp : Keep h h' []) : Box Z h' a K d z val := by
  obtain ⟨c, f1, f2, f3, f4⟩ := F
  refine ⟨c, ⟨Kp.2.1 _ _ f1.1 nin0, f1.2⟩, f2, f3, fun j hj => ?_⟩
  obtain ⟨b, q1, q2, q3⟩ := f4 j hj
  exact ⟨b, q1, q2.keep Kp, q3.keep Kp nin0⟩
end OwnFacts
end Jvm.OwnGo
namespace Jvm.OwnGo
open Sem ClassFile Op Lib Jvm.Stand Jvm.Free Jvm.LawKit Jvm.RoadKit Bundle
section OwnGo
variable {Z : State} {a0 : Array Value} {tb : List Jvm.Cond} {p : Program} {l : Launch} {e : Env} {R : Room} {s : State} {m : MethodId} {args : Array Value} {below : List Frame} {meth : Method} {c : Code} {own mname : String} {bytes : ByteArray} {maxL : Nat} {ret : Option FieldType} {n0 : Nat} {Q : Option Value → Heap → List Addr → Prop} {Q2 : Option Value → Heap → Prop} {fs : List Addr} {h : Heap} {k n : Nat} {pc : Nat} {Ls : Array Slot} {St : List Value}
/-- what is fixed in the walk of one body -/
def Cx (Z : State) (a0 : Array Value) (tb : List Jvm.Cond) (p : Program) (s : State) (m : MethodId) (meth : Method) (c : Code) (own mname : String) (bytes : ByteArray) (maxL : Nat) (ret : Option FieldType) (n0 : Nat) : Prop :=
  p.tables.exec = Jvm.exec ∧ Z.Warmed39 s.vm ∧ s.vm.findClass own = some m.cls ∧ c.code = bytes ∧ c.maxLocals = maxL ∧ meth.sig.returnType = ret ∧ meth.locks = false ∧ (∀ d ∈ tb, d.before a0 Z = true) ∧ meth.name = mname ∧ n0 ≤ s.heap.size
theorem Cx.hx (C : Cx Z a0 tb p s m meth c own mname bytes maxL ret n0) : p.tables.exec = Jvm.exec := C.1
theorem Cx.hZ (C : Cx Z a0 tb p s m meth c own mname bytes maxL ret n0) : Z.Warmed39 s.vm := C.2.1
theorem Cx.hown (C : Cx Z a0 tb p s m meth c own mname bytes maxL ret n0) : s.vm.findClass own = some m.cls := C.2.2.1
theorem Cx.hby (C : Cx Z a0 tb p s m meth c own mname bytes maxL ret n0) : c.code = bytes := C.2.2.2.1
theorem Cx.hml (C : Cx Z a0 tb p s m meth c own mname bytes maxL ret n0) : c.maxLocals = maxL := C.2.2.2.2.1
theorem Cx.hret (C : Cx Z a0 tb p s m meth c own mname bytes maxL ret n0) : meth.sig.returnType = ret := C.2.2.2.2.2.1
theorem Cx.hlk (C : Cx Z a0 tb p s m meth c own mname bytes maxL ret n0) : meth.locks = false := C.2.2.2.2.2.2.1
theorem Cx.hw (C : Cx Z a0 tb p s m meth c own mname bytes maxL ret n0) {d : Jvm.Cond} (hd : d ∈ tb) : d.before a0 Z = true := C.2.2.2.2.2.2.2.1 d hd
theorem Cx.hnm (C : Cx Z a0 tb p s m meth c own mname bytes maxL ret n0) : meth.name = mname := C.2.2.2.2.2.2.2.2.1
theorem Cx.hn0 (C : Cx Z a0 tb p s m meth c own mname bytes maxL ret n0) : n0 ≤ s.heap.size := C.2.2.2.2.2.2.2.2.2
/-- which new cells may be written -/
def Inv (n0 : Nat) (fs : List Addr) (h : Heap) : Prop := n0 ≤ h.size ∧ ∀ x ∈ fs, n0 ≤ x
theorem Inv.ext {h' : Heap} (I : Inv n0 fs h) (E : Ext h h') : Inv n0 fs h' := ⟨Nat.le_trans I.1 E.1, I.2⟩
theorem Inv.new {h' : Heap} (I : Inv n0 fs h) (E : Ext h h') (q : h.size < h'.size) : Inv n0 (h.size :: fs) h' := by
  refine ⟨Nat.le_trans I.1 E.1, fun x hx => ?_⟩
  rcases List.mem_cons.mp hx with rfl | hx
  · exact I.1
  · exact I.2 x hx
theorem Inv.wr {h' : Heap} {a : Addr} {sl : Nat} {v : Value} (I : Inv n0 fs h) (W : Wr h h' a sl v) (ha : a ∈ fs) : Inv n0 fs h' := ⟨by rw [W.size]; exact I.1, I.2⟩
theorem Inv.kept {h' : Heap} {a : Addr} (I : Inv n0 fs h) (K : Keep h h' [a]) (ha : a ∈ fs) : Inv n0 fs h' := ⟨Nat.le_trans I.1 K.1, I.2⟩
theorem Inv.ge {a : Addr} (I : Inv n0 fs h) (ha : a ∈ fs) : n0 ≤ a := I.2 a ha
theorem Inv.less {fs' : List Addr} (I : Inv n0 fs h) (q : ∀ x ∈ fs', x ∈ fs) : Inv n0 fs' h := ⟨I.1, fun x hx => I.2 x (q x hx)⟩
/-- a body that tells of no new cell that its caller may write -/
def nq (Q : Option Value → Heap → Prop) : Option Value → Heap → List Addr → Prop := fun v h ns => ns = [] ∧ Q v h
/-- from every state that stands at frame f over the heap h, the body ends well -/
def Go (p : Program) (l : Launch) (e : Env) (R : Room) (s : State) (m : MethodId) (args : Array Value) (below : List Frame) (meth : Method) (c : Code) (n0 : Nat) (Q : Option Value → Heap → List Addr → Prop) (fs : List Addr) (h : Heap) (k n : Nat) (f : JFrame) : Prop :=
  ∀ T locs, Stand p l e R s m args below meth c T locs k n → T.heap = h → Fr n0 locs → Inv n0 fs h →
    ∃ s₂ o, Steps p.tables e below (T.setTop f) s₂ ∧ s₂.status = .running ∧ Ended s₂ below o ∧ ∃ v L ns, o = .returned v ∧ (Q v s₂.heap ns ∧ Fr n0 L) ∧ (∀ x ∈ ns, n0 ≤ x) ∧ FrameEnd s o s₂ L R.cells R.slots
theorem Go.step {f f' : JFrame} (H : ∀ T : State, At T m c below → ∀ t, Steps p.tables e below (T.setTop f') t → Steps p.tables e below (T.setTop f) t) (K : Go p l e R s m args below meth c n0 Q fs h k n f') : Go p l e R s m args below meth c n0 Q fs h k n f := by
  intro T locs X eT N I
  obtain ⟨s2, o, st, r⟩ := K T locs X eT N I
  exact ⟨s2, o, H T X.here s2 st, r⟩
theorem Go.less {f : JFrame} {fs' : List Addr} (K : Go p l e R s m args below meth c n0 Q fs' h k n f) (q : ∀ x ∈ fs', x ∈ fs) : Go p l e R s m args below meth c n0 Q fs h k n f := by
  intro T locs X eT N I
  exact K T locs X eT N (I.less q)
theorem Go.size {f : JFrame} (K : n0 ≤ h.size → Go p l e R s m args below meth c n0 Q fs h k n f) : Go p l e R s m args below meth c n0 Q fs h k n f := by
  intro T locs X eT N I
  exact K I.1 T locs X eT N I
theorem Go.ge {f : JFrame} {a : Addr} (ha : a ∈ fs) (K : n0 ≤ a → Go p l e R s m args below meth c n0 Q fs h k n f) : Go p l e R s m args below meth c n0 Q fs h k n f := by
  intro T locs X eT N I
  exact K (I.ge ha) T locs X eT N I
theorem g_iload (C : Cx Z a0 tb p s m meth c own mname bytes maxL ret n0) {j : Nat} {z : Int32} (hd : decode bytes pc = .ok (.iload j, 2)) (hl : Ls[j]? = some (.val (.int z))) (K : Go p l e R s m args below meth c n0 Q fs h k n (mkF m (pc + 2) Ls (.int z :: St))) : Go p l e R s m args below meth c n0 Q fs h k n (mkF m pc Ls (St)) :=
  Go.step (fun T A t st => XS.iload A C.hx rfl (hb C.hby hd) hl st) K
theorem g_iloadN (C : Cx Z a0 tb p s m meth c own mname bytes maxL ret n0) {j : Fin 4} {z : Int32} (hd : decode bytes pc = .ok (.iload_n j, 1)) (hl : Ls[j.val]? = some (.val (.int z))) (K : Go p l e R s m args below meth c n0 Q fs h k n (mkF m (pc + 1) Ls (.int z :: St))) : Go p l e R s m args below meth c n0 Q fs h k n (mkF m pc Ls (St)) :=
  Go.step (fun T A t st => XS.iloadN A C.hx rfl (hb C.hby hd) hl st) K
theorem g_lload (C : Cx Z a0 tb p s m meth c own mname bytes maxL ret n0) {j : Nat} {z : Int64} (hd : decode bytes pc = .ok (.lload j, 2)) (hl : Ls[j]? = some (.val (.long z))) (K : Go p l e R s m args below meth c n0 Q fs h k n (mkF m (pc + 2) Ls (.long z :: St))) : Go p l e R s m args below meth c n0 Q fs h k n (mkF m pc Ls (St)) :=
  Go.step (fun T A t st => XS.lload A C.hx rfl (hb C.hby hd) hl st) K
theorem g_aload (C : Cx Z a0 tb p s m meth c own mname bytes maxL ret n0) {j : Nat} {v : Value} (hd : decode bytes pc = .ok (.aload j, 2)) (hl : Ls[j]? = some (.val v)) (hv : v.isRef = true) (K : Go p l e R s m args below meth c n0 Q fs h k n (mkF m (pc + 2) Ls (v :: St))) : Go p l e R s m args below meth c n0 Q fs h k n (mkF m pc Ls (St)) :=
  Go.step (fun T A t st => XS.aload A C.hx rfl (hb C.hby hd) hl hv st) K
theorem g_aloadN (C : Cx Z a0 tb p s m meth c own mname bytes maxL ret n0) {j : Fin 4} {v : Value} (hd : decode bytes pc = .ok (.aload_n j, 1)) (hl : Ls[j.val]? = some (.val v)) (hv : v.isRef = true) (K : Go p l e R s m args below meth c n0 Q fs h k n (mkF m (pc + 1) Ls (v :: St))) : Go p l e R s m args below meth c n0 Q fs h k n (mkF m pc Ls (St)) :=
  Go.step (fun T A t st => XS.aloadN A C.hx rfl (hb C.hby hd) hl hv st) K
theorem g_istore (C : Cx Z a0 tb p s m meth c own mname bytes maxL ret n0) {j : Nat} {z : Int32} (l' : Array Slot) (hd : decode bytes pc = .ok (.istore j, 2)) (hl : storeLocals Ls j (.int z) = some l') (K : Go p l e R s m args below meth c n0 Q fs h k n (mkF m (pc + 2) l' St)) : Go p l e R s m args below meth c n0 Q fs h k n (mkF m pc Ls (.int z :: St)) :=
  Go.step (fun T A t st => XS.istore A C.hx rfl (hb C.hby hd) rfl hl st) K
theorem g_astore (C : Cx Z a0 tb p s m meth c own mname bytes maxL ret n0) {j : Nat} {v : Value} (l' : Array Slot) (hd : decode bytes pc = .ok (.astore j, 2)) (hv : v.isRef = true) (hl : storeLocals Ls j v = some l') (K : Go p l e R s m args below meth c n0 Q fs h k n (mkF m (pc + 2) l' St)) : Go p l e R s m args below meth c n0 Q fs h k n (mkF m pc Ls (v :: St)) :=
  Go.step (fun T A t st => XS.astore A C.hx rfl (hb C.hby hd) rfl hv hl st) K
theorem g_iconst (C : Cx Z a0 tb p s m meth c own mname bytes maxL ret n0) {i : Int} (z : Int32) (hd : decode bytes pc = .ok (.iconst i, 1)) (hz : Int32.ofInt i = z) (K : Go p l e R s m args below meth c n0 Q fs h k n (mkF m (pc + 1) Ls (.int z :: St))) : Go p l e R s m args below meth c n0 Q fs h k n (mkF m pc Ls (St)) :=
  Go.step (fun T A t st => XS.iconst A C.hx rfl (hb C.hby hd) (hz ▸ st)) K
theorem g_bipush (C : Cx Z a0 tb p s m meth c own mname bytes maxL ret n0) {i : Int} (z : Int32) (hd : decode bytes pc = .ok (.bipush i, 2)) (hz : (Int8.ofInt i).toInt32 = z) (K : Go p l e R s m args below meth c n0 Q fs h k n (mkF m (pc + 2) Ls (.int z :: St))) : Go p l e R s m args below meth c n0 Q fs h k n (mkF m pc Ls (St)) :=
  Go.step (fun T A t st => XS.bipush A C.hx rfl (hb C.hby hd) (hz ▸ st)) K
theorem g_aconst_null (C : Cx Z a0 tb p s m meth c own mname bytes maxL ret n0)  (hd : decode bytes pc = .ok (.aconst_null, 1))  (K : Go p l e R s m args below meth c n0 Q fs h k n (mkF m (pc + 1) Ls (.null :: St))) : Go p l e R s m args below meth c n0 Q fs h k n (mkF m pc Ls (St)) :=
  Go.step (fun T A t st => XS.aconstNull A C.hx rfl (hb C.hby hd) st) K
theorem g_isub (C : Cx Z a0 tb p s m meth c own mname bytes maxL ret n0) {x y : Int32} (hd : decode bytes pc = .ok (.isub, 1))  (K : Go p l e R s m args below meth c n0 Q fs h k n (mkF m (pc + 1) Ls (.int (x - y) :: St))) : Go p l e R s m args below meth c n0 Q fs h k n (mkF m pc Ls (.int y :: .int x :: St)) :=
  Go.step (fun T A t st => XS.isub A C.hx rfl (hb C.hby hd) rfl st) K
theorem g_iand (C : Cx Z a0 tb p s m meth c own mname bytes maxL ret n0) {x y : Int32} (hd : decode bytes pc = .ok (.iand, 1))  (K : Go p l e R s m args below meth c n0 Q fs h k n (mkF m (pc + 1) Ls (.int (x &&& y) :: St))) : Go p l e R s m args below meth c n0 Q fs h k n (mkF m pc Ls (.int y :: .int x :: St)) :=
  Go.step (fun T A t st => XS.iand A C.hx rfl (hb C.hby hd) rfl st) K
theorem g_land (C : Cx Z a0 tb p s m meth c own mname bytes maxL ret n0) {x y : Int64} (hd : decode bytes pc = .ok (.land, 1))  (K : Go p l e R s m args below meth c n0 Q fs h k n (mkF m (pc + 1) Ls (.long (x &&& y) :: St))) : Go p l e R s m args below meth c n0 Q fs h k n (mkF m pc Ls (.long y :: .long x :: St)) :=
  Go.step (fun T A t st => XS.land A C.hx rfl (hb C.hby hd) rfl st) K
theorem g_lushr (C : Cx Z a0 tb p s m meth c own mname bytes maxL ret n0) {x : Int64} {y : Int32} (hd : decode bytes pc = .ok (.lushr, 1))  (K : Go p l e R s m args below meth c n0 Q fs h k n (mkF m (pc + 1) Ls (.long ((x.toUInt64 >>> (y &&& 0x3f).toInt64.toUInt64).toInt64) :: St))) : Go p l e R s m args below meth c n0 Q fs h k n (mkF m pc Ls (.int y :: .long x :: St)) :=
  Go.step (fun T A t st => XS.lushr A C.hx rfl (hb C.hby hd) rfl st) K
theorem g_l2i (C : Cx Z a0 tb p s m meth c own mname bytes maxL ret n0) {x : Int64} (hd : decode bytes pc = .ok (.l2i, 1))  (K : Go p l e R s m args below meth c n0 Q fs h k n (mkF m (pc + 1) Ls (.int (x.toInt32) :: St))) : Go p l e R s m args below meth c n0 Q fs h k n (mkF m pc Ls (.long x :: St)) :=
  Go.step (fun T A t st => XS.l2i A C.hx rfl (hb C.hby hd) rfl st) K
theorem g_i2c (C : Cx Z a0 tb p s m meth c own mname bytes maxL ret n0) {x : Int32} (hd : decode bytes pc = .ok (.i2c, 1))  (K : Go p l e R s m args below meth c n0 Q fs h k n (mkF m (pc + 1) Ls (.int (x.toUInt32.toUInt16.toUInt32.toInt32) :: St))) : Go p l e R s m args below meth c n0 Q fs h k n (mkF m pc Ls (.int x :: St)) :=
  Go.step (fun T A t st => XS.i2c A C.hx rfl (hb C.hby hd) rfl st) K
theorem g_irem (C : Cx Z a0 tb p s m meth c own mname bytes maxL ret n0) {x y : Int32} (hd : decode bytes pc = .ok (.irem, 1)) (hy : y ≠ 0) (K : Go p l e R s m args below meth c n0 Q fs h k n (mkF m (pc + 1) Ls (.int (x % y) :: St))) : Go p l e R s m args below meth c n0 Q fs h k n (mkF m pc Ls (.int y :: .int x :: St)) :=
  Go.step (fun T A t st => XS.irem A C.hx rfl (hb C.hby hd) rfl hy (by rw [irem_eq_mod]; exact st)) K
theorem g_dup (C : Cx Z a0 tb p s m meth c own mname bytes maxL ret n0) {v : Value} (hd : decode bytes pc = .ok (.dup, 1)) (hc : v.category = 1) (K : Go p l e R s m args below meth c n0 Q fs h k n (mkF m (pc + 1) Ls (v :: v :: St))) : Go p l e R s m args below meth c n0 Q fs h k n (mkF m pc Ls (v :: St)) :=
  Go.step (fun T A t st => XS.dup A C.hx rfl (hb C.hby hd) rfl hc st) K
theorem g_goto (C : Cx Z a0 tb p s m meth c own mname bytes maxL ret n0)  {o : Int} (pc' : Nat) (hd : decode bytes pc = .ok (.goto o, 3))  (ho : 0 ≤ (pc : Int) + o) (hp : ((pc : Int) + o).toNat = pc') (K : Go p l e R s m args below meth c n0 Q fs h k n (mkF m pc' Ls St)) : Go p l e R s m args below meth c n0 Q fs h k n (mkF m pc Ls (St)) :=
  Go.step (fun T A t st => XS.goto A C.hx rfl rfl (hb C.hby hd) ho hp st) K
theorem g_if_t (C : Cx Z a0 tb p s m meth c own mname bytes maxL ret n0) {cd : ClassFile.Cond} {x : Int32} {o : Int} (pc' : Nat) (hd : decode bytes pc = .ok (.ifCond cd o, 3)) (hc : ifCond.holds cd x = true) (ho : 0 ≤ (pc : Int) + o) (hp : ((pc : Int) + o).toNat = pc') (K : Go p l e R s m args below meth c n0 Q fs h k n (mkF m pc' Ls St)) : Go p l e R s m args below meth c n0 Q fs h k n (mkF m pc Ls (.int x :: St)) :=
  Go.step (fun T A t st => XS.ifYes A C.hx rfl rfl (hb C.hby hd) rfl hc ho hp st) K
theorem g_icmp_t (C : Cx Z a0 tb p s m meth c own mname bytes maxL ret n0) {cd : ClassFile.Cond} {x y : Int32} {o : Int} (pc' : Nat) (hd : decode bytes pc = .ok (.if_icmp cd o, 3)) (hc : if_icmp.holds cd x y = true) (ho : 0 ≤ (pc : Int) + o) (hp : ((pc : Int) + o).toNat = pc') (K : Go p l e R s m args below meth c n0 Q fs h k n (mkF m pc' Ls St)) : Go p l e R s m args below meth c n0 Q fs h k n (mkF m pc Ls (.int y :: .int x :: St)) :=
  Go.step (fun T A t st => XS.icmpYes A C.hx rfl rfl (hb C.hby hd) rfl hc ho hp st) K
theorem g_ifnonnull_t (C : Cx Z a0 tb p s m meth c own mname bytes maxL ret n0) {b : Addr} {o : Int} (pc' : Nat) (hd : decode bytes pc = .ok (.ifnonnull o, 3))  (ho : 0 ≤ (pc : Int) + o) (hp : ((pc : Int) + o).toNat = pc') (K : Go p l e R s m args below meth c n0 Q fs h k n (mkF m pc' Ls St)) : Go p l e R s m args below meth c n0 Q fs h k n (mkF m pc Ls (.ref b :: St)) :=
  Go.step (fun T A t st => XS.ifnonnullYes A C.hx rfl rfl (hb C.hby hd) rfl ho hp st) K
theorem g_if_f (C : Cx Z a0 tb p s m meth c own mname bytes maxL ret n0) {cd : ClassFile.Cond} {x : Int32} {o : Int} (hd : decode bytes pc = .ok (.ifCond cd o, 3)) (hc : ifCond.holds cd x = false) (K : Go p l e R s m args below meth c n0 Q fs h k n (mkF m (pc + 3) Ls St)) : Go p l e R s m args below meth c n0 Q fs h k n (mkF m pc Ls (.int x :: St)) :=
  Go.step (fun T A t st => XS.ifNo A C.hx rfl (hb C.hby hd) rfl hc st) K
theorem g_icmp_f (C : Cx Z a0 tb p s m meth c own mname bytes maxL ret n0) {cd : ClassFile.Cond} {x y : Int32} {o : Int} (hd : decode bytes pc = .ok (.if_icmp cd o, 3)) (hc : if_icmp.holds cd x y = false) (K : Go p l e R s m args below meth c n0 Q fs h k n (mkF m (pc + 3) Ls St)) : Go p l e R s m args below meth c n0 Q fs h k n (mkF m pc Ls (.int y :: .int x :: St)) :=
  Go.step (fun T A t st => XS.icmpNo A C.hx rfl (hb C.hby hd) rfl hc st) K
theorem g_ifnull_f (C : Cx Z a0 tb p s m meth c own mname bytes maxL ret n0) {b : Addr} {o : Int} (hd : decode bytes pc = .ok (.ifnull o, 3))  (K : Go p l e R s m args below meth c n0 Q fs h k n (mkF m (pc + 3) Ls St)) : Go p l e R s m args below meth c n0 Q fs h k n (mkF m pc Ls (.ref b :: St)) :=
  Go.step (fun T A t st => XS.ifnullNo A C.hx rfl (hb C.hby hd) rfl st) K
theorem g_ifnonnull_f (C : Cx Z a0 tb p s m meth c own mname bytes maxL ret n0)  {o : Int} (hd : decode bytes pc = .ok (.ifnonnull o, 3))  (K : Go p l e R s m args below meth c n0 Q fs h k n (mkF m (pc + 3) Ls St)) : Go p l e R s m args below meth c n0 Q fs h k n (mkF m pc Ls (.null :: St)) :=
  Go.step (fun T A t st => XS.ifnonnullNo A C.hx rfl (hb C.hby hd) rfl st) K
theorem g_acmp_f (C : Cx Z a0 tb p s m meth c own mname bytes maxL ret n0) {cd : ClassFile.ACond} {x y : Value} {o : Int} (hd : decode bytes pc = .ok (.if_acmp cd o, 3)) (hx' : x.isRef = true) (hy' : y.isRef = true) (hc : XT.acmp cd x y = false) (K : Go p l e R s m args below meth c n0 Q fs h k n (mkF m (pc + 3) Ls St)) : Go p l e R s m args below meth c n0 Q fs h k n (mkF m pc Ls (y :: x :: St)) :=
  Go.step (fun T A t st => XT.acmpNo A C.hx rfl (hb C.hby hd) rfl hx' hy' hc st) K
theorem g_ldcI (C : Cx Z a0 tb p s m meth c own mname bytes maxL ret n0) {index : Nat} {z : Int32} (w : Jvm.Cond.constant own index z ∈ tb) (hd : decode bytes pc = .ok (.ldc index, 2)) (K : Go p l e R s m args below meth c n0 Q fs h k n (mkF m (pc + 2) Ls (.int z :: St))) : Go p l e R s m args below meth c n0 Q fs h k n (mkF m pc Ls St) := by
  intro T locs X eT N I
  have hZ := C.hZ
  have hown := C.hown
  obtain ⟨s2, o, st, r⟩ := K T locs X eT N I
  exact ⟨s2, o, X.ldcInt C.hx hown (mvT hZ (C.hw w)) (g := mkF m pc Ls St) rfl (hb C.hby hd) s2 st, r⟩
theorem g_ldc2L (C : Cx Z a0 tb p s m meth c own mname bytes maxL ret n0) {index : Nat} {z : Int64} (w : Jvm.Cond.constantLong own index z ∈ tb) (hd : decode bytes pc = .ok (.ldc2_w index, 3)) (K : Go p l e R s m args below meth c n0 Q fs h k n (mkF m (pc + 3) Ls (.long z :: St))) : Go p l e R s m args below meth c n0 Q fs h k n (mkF m pc Ls St) := by
  intro T locs X eT N I
  have hZ := C.hZ
  have hown := C.hown
  obtain ⟨s2, o, st, r⟩ := K T locs X eT N I
  exact ⟨s2, o, X.ldc2Long C.hx hown (mvT hZ (C.hw w)) (g := mkF m pc Ls St) rfl (hb C.hby hd) s2 st, r⟩
theorem g_new (C : Cx Z a0 tb p s m meth c own mname bytes maxL ret n0) {index ns : Nat} {Cn : String} (w : Jvm.Cond.classLink own index Cn ∈ tb) (wi : Jvm.Cond.instantiable Cn ns ∈ tb) (wz : Jvm.Cond.initialized Cn ∈ tb) (hd : decode bytes pc = .ok (.new index, 3)) (hc : k + 1 ≤ R.cells) (hl : n + ns ≤ R.slots)
    (K : ∀ a h', a = h.size → Ext h h' → Exa Z h' a Cn → (∀ {O nm d : String} {ty : FieldType}, Laid Z a0 Cn O nm d → parseFieldDescriptor d = some ty → Fld Z h' a O nm d (defaultValue ty)) → Go p l e R s m args below meth c n0 Q (a :: fs) h' (k + 1) (n + ns) (mkF m (pc + 3) Ls (.ref a :: St))) : Go p l e R s m args below meth c n0 Q fs h k n (mkF m pc Ls St) := by
  intro T locs X eT N I
  have hZ := C.hZ
  have hown := C.hown
  obtain ⟨T', h', X', e', E', A', D', -, st⟩ := newO X C.hx hZ hown (C.hw w) (C.hw wi) (C.hw wz) eT (g := mkF m pc Ls St) rfl (hb C.hby hd) hc hl
  obtain ⟨s2, o, st2, r⟩ := K h.size h' rfl E' A' D' T' locs X' e' N (I.new E' A'.lt)
  exact ⟨s2, o, st _ st2, r⟩
theorem g_newarray (C : Cx Z a0 tb p s m meth c own mname bytes maxL ret n0) {aty : ArrayType} {z : Int32} (w : Jvm.Cond.arrayClass (newarray.typeOf aty) ∈ tb) (hd : decode bytes pc = .ok (.newarray aty, 2)) (hz : ¬ z < 0) (cap : Nat) (hcap : z.toNatClampNeg ≤ cap) (hbig : cap * 8 ≤ 536870912) (hc : k + 1 ≤ R.cells) (hl : n + cap ≤ R.slots) (ad : String) (had : "[" ++ (newarray.typeOf aty).toString = ad)
    (K : ∀ a h' ka, a = h.size → Ext h h' → Arv Z h' a ka (newarray.typeOf aty) z [] (defaultValue (newarray.typeOf aty)) → Exa Z h' a ad → Go p l e R s m args below meth c n0 Q (a :: fs) h' (k + 1) (n + cap) (mkF m (pc + 2) Ls (.ref a :: St))) : Go p l e R s m args below meth c n0 Q fs h k n (mkF m pc Ls (.int z :: St)) := by
  intro T locs X eT N I
  have hZ := C.hZ
  have hown := C.hown
  obtain ⟨T', h', ka, X', e', E', A', Ex', st⟩ := newPE X C.hx hZ (C.hw w) eT (g := mkF m pc Ls (.int z :: St)) rfl (hb C.hby hd) rfl hz hcap hbig hc hl had
  obtain ⟨s2, o, st2, r⟩ := K h.size h' ka rfl E' (Arv.new A' hz) Ex' T' locs X' e' N (I.new E' A'.lt)
  exact ⟨s2, o, st _ st2, r⟩
theorem g_anewarray (C : Cx Z a0 tb p s m meth c own mname bytes maxL ret n0) {index : Nat} {Cn : String} {z : Int32} (w1 : Jvm.Cond.classLink own index Cn ∈ tb) (w2 : Jvm.Cond.arrayOver (.object Cn) ∈ tb) (hd : decode bytes pc = .ok (.anewarray index, 3)) (hz : ¬ z < 0) (cap : Nat) (hcap : z.toNatClampNeg ≤ cap) (hbig : cap * 8 ≤ 536870912) (hc : k + 1 ≤ R.cells) (hl : n + cap ≤ R.slots) (ad : String) (had : "[" ++ (FieldType.object Cn).toString = ad)
    (K : ∀ a h' ka, a = h.size → Ext h h' → Arv Z h' a ka (.object Cn) z [] .null → Ovr Z ka Cn → Exa Z h' a ad → Go p l e R s m args below meth c n0 Q (a :: fs) h' (k + 1) (n + cap) (mkF m (pc + 3) Ls (.ref a :: St))) : Go p l e R s m args below meth c n0 Q fs h k n (mkF m pc Ls (.int z :: St)) := by
  intro T locs X eT N I
  have hZ := C.hZ
  have hown := C.hown
  obtain ⟨T', h', ka, X', e', E', A', Ex', O', st⟩ := newRE X C.hx hZ hown (C.hw w1) (C.hw w2) eT (g := mkF m pc Ls (.int z :: St)) rfl (hb C.hby hd) rfl hz hcap hbig hc hl had
  obtain ⟨s2, o, st2, r⟩ := K h.size h' ka rfl E' (Arv.new A' hz) O' Ex' T' locs X' e' N (I.new E' A'.lt)
  exact ⟨s2, o, st _ st2, r⟩
theorem g_iastore (C : Cx Z a0 tb p s m meth c own mname bytes maxL ret n0) {a : Addr} {ka : ClassId} {z j : Int32} {x : Int32} {vs : List Value} {dv : Value} (F : Arv Z h a ka .int z vs dv) (ha : a ∈ fs) (hd : decode bytes pc = .ok (.iastore, 1)) (hj : ¬ j < 0 ∧ j < z) (i : Nat) (hi : j.toNatClampNeg = i) (hl : i < vs.length)
    (K : ∀ h', Wr h h' a j.toNatClampNeg (.int x) → Arv Z h' a ka .int z (vs.set i (.int x)) dv → Go p l e R s m args below meth c n0 Q fs h' k n (mkF m (pc + 1) Ls St)) : Go p l e R s m args below meth c n0 Q fs h k n (mkF m pc Ls (.int x :: .int j :: .ref a :: St)) := by
  intro T locs X eT N I
  have hZ := C.hZ
  have hown := C.hown
  obtain ⟨cl, A, q, S, Nn, H, G⟩ := F
  obtain ⟨T', h', X', e', W', st⟩ := stI X C.hx hZ eT A (j := j) (inb_of S hj) (g := mkF m pc Ls (.int x :: .int j :: .ref a :: St)) rfl rfl (hb C.hby hd)
  obtain ⟨s2, o, st2, r⟩ := K h' W' (Arv.set A q S Nn H G rfl W' i hi hl) T' _ X' e' (Fr.snoc X' N (I.ge ha)) (I.wr W' ha)
  exact ⟨s2, o, st _ st2, r⟩
theorem g_castore (C : Cx Z a0 tb p s m meth c own mname bytes maxL ret n0) {a : Addr} {ka : ClassId} {z j : Int32} {x : Int32} {vs : List Value} {dv : Value} (F : Arv Z h a ka .char z vs dv) (ha : a ∈ fs) (hd : decode bytes pc = .ok (.castore, 1)) (hj : ¬ j < 0 ∧ j < z) (i : Nat) (hi : j.toNatClampNeg = i) (hl : i < vs.length)
    (K : ∀ h', Wr h h' a j.toNatClampNeg (.int (nar .char x)) → Arv Z h' a ka .char z (vs.set i (.int (nar .char x))) dv → Go p l e R s m args below meth c n0 Q fs h' k n (mkF m (pc + 1) Ls St)) : Go p l e R s m args below meth c n0 Q fs h k n (mkF m pc Ls (.int x :: .int j :: .ref a :: St)) := by
  intro T locs X eT N I
  have hZ := C.hZ
  have hown := C.hown
  obtain ⟨cl, A, q, S, Nn, H, G⟩ := F
  obtain ⟨T', h', X', e', W', st⟩ := stC X C.hx hZ eT A (j := j) (inb_of S hj) (g := mkF m pc Ls (.int x :: .int j :: .ref a :: St)) rfl rfl (hb C.hby hd)
  obtain ⟨s2, o, st2, r⟩ := K h' W' (Arv.set A q S Nn H G (fits_nar_char x) W' i hi hl) T' _ X' e' (Fr.snoc X' N (I.ge ha)) (I.wr W' ha)
  exact ⟨s2, o, st _ st2, r⟩
theorem g_aastore (C : Cx Z a0 tb p s m meth c own mname bytes maxL ret n0) {a : Addr} {ka : ClassId} {ty : FieldType} {z j : Int32} {v : Value} {vs : List Value} {dv : Value} (F : Arv Z h a ka ty z vs dv) (hty : ty.isReference = true) (hv : v.isRef = true) (S0 : Sto Z h a v) (ha : a ∈ fs) (hd : decode bytes pc = .ok (.aastore, 1)) (hj : ¬ j < 0 ∧ j < z) (i : Nat) (hi : j.toNatClampNeg = i) (hl : i < vs.length)
    (K : ∀ h', Wr h h' a j.toNatClampNeg v → Arv Z h' a ka ty z (vs.set i v) dv → Go p l e R s m args below meth c n0 Q fs h' k n (mkF m (pc + 1) Ls St)) : Go p l e R s m args below meth c n0 Q fs h k n (mkF m pc Ls (v :: .int j :: .ref a :: St)) := by
  intro T locs X eT N I
  have hZ := C.hZ
  have hown := C.hown
  obtain ⟨cl, A, q, S, Nn, H, G⟩ := F
  obtain ⟨T', h', X', e', W', st⟩ := stR X C.hx hZ eT A (j := j) (inb_of S hj) hty S0 (g := mkF m pc Ls (v :: .int j :: .ref a :: St)) rfl rfl (hb C.hby hd)
  have hf : fits ty v = true := by
    rcases ref_cases hv with rfl | ⟨b, rfl⟩ <;> cases ty <;> first | rfl | (cases hty)
  obtain ⟨s2, o, st2, r⟩ := K h' W' (Arv.set A q S Nn H G hf W' i hi hl) T' _ X' e' (Fr.snoc X' N (I.ge ha)) (I.wr W' ha)
  exact ⟨s2, o, st _ st2, r⟩
theorem g_iaload (C : Cx Z a0 tb p s m meth c own mname bytes maxL ret n0) {a : Addr} {ka : ClassId} {z j : Int32} {vs : List Value} {dv v : Value} (F : Arv Z h a ka .int z vs dv) (hd : decode bytes pc = .ok (.iaload, 1)) (hj : ¬ j < 0 ∧ j < z) (hv : vs.getD j.toNatClampNeg dv = v)
    (K : Go p l e R s m args below meth c n0 Q fs h k n (mkF m (pc + 1) Ls (v :: St))) : Go p l e R s m args below meth c n0 Q fs h k n (mkF m pc Ls (.int j :: .ref a :: St)) := by
  intro T locs X eT N I
  have hZ := C.hZ
  have hown := C.hown
  obtain ⟨cl, A, q, S, Nn, H, G⟩ := F
  obtain ⟨s2, o, st2, r⟩ := K T locs X eT N I
  exact ⟨s2, o, X.iaload C.hx (j := j) (v := v) (by rw [eT]; exact A.1) (State.isArrayOf_alike hZ.alike A.2.1) A.2.2 (inb_of S hj) (H.at (inb_of S hj) hv) (g := mkF m pc Ls (.int j :: .ref a :: St)) rfl rfl (hb C.hby hd) _ st2, r⟩
theorem g_aaload (C : Cx Z a0 tb p s m meth c own mname bytes maxL ret n0) {a : Addr} {ka : ClassId} {ty : FieldType} {z j : Int32} {vs : List Value} {dv v : Value} (F : Arv Z h a ka ty z vs dv) (hty : ty.isReference = true) (hd : decode bytes pc = .ok (.aaload, 1)) (hj : ¬ j < 0 ∧ j < z) (hv : vs.getD j.toNatClampNeg dv = v)
    (K : Go p l e R s m args below meth c n0 Q fs h k n (mkF m (pc + 1) Ls (v :: St))) : Go p l e R s m args below meth c n0 Q fs h k n (mkF m pc Ls (.int j :: .ref a :: St)) := by
  intro T locs X eT N I
  have hZ := C.hZ
  have hown := C.hown
  obtain ⟨cl, A, q, S, Nn, H, G⟩ := F
  obtain ⟨s2, o, st2, r⟩ := K T locs X eT N I
  exact ⟨s2, o, X.aaload C.hx (j := j) (v := v) (by rw [eT]; exact A.1) (State.isArrayOf_alike hZ.alike A.2.1) hty A.2.2 (inb_of S hj) (H.at (inb_of S hj) hv) (g := mkF m pc Ls (.int j :: .ref a :: St)) rfl rfl (hb C.hby hd) _ st2, r⟩
theorem g_getfield (C : Cx Z a0 tb p s m meth c own mname bytes maxL ret n0) {index : Nat} {R0 O nm d : String} {a : Addr} {v : Value} (w : Jvm.Cond.fieldLink own index R0 nm d ∈ tb) (via : Via Z R0 O nm d) (F : Fld Z h a O nm d v) (hd : decode bytes pc = .ok (.getfield index, 3))
    (K : Go p l e R s m args below meth c n0 Q fs h k n (mkF m (pc + 3) Ls (v :: St))) : Go p l e R s m args below meth c n0 Q fs h k n (mkF m pc Ls (.ref a :: St)) := by
  intro T locs X eT N I
  have hZ := C.hZ
  have hown := C.hown
  obtain ⟨T', X', e', st⟩ := getF X C.hx hZ hown (host := "") (Or.inl (C.hw w)) via eT F (g := mkF m pc Ls (.ref a :: St)) rfl rfl (hb C.hby hd)
  obtain ⟨s2, o, st2, r⟩ := K T' locs X' e' N I
  exact ⟨s2, o, st _ st2, r⟩
theorem g_putfield (C : Cx Z a0 tb p s m meth c own mname bytes maxL ret n0) {index kk : Nat} {R0 O nm d Cn : String} {a : Addr} {v old : Value} (ty : FieldType) (w : Jvm.Cond.fieldLink own index R0 nm d ∈ tb) (via : Via Z R0 O nm d) (F : Fld Z h a O nm d old) (E : Exa Z h a Cn) (hl : Jvm.Cond.lays Cn O nm d ∈ tb ∨ (Jvm.Cond.laysFinal Cn O nm d ∈ tb ∧ own = O ∧ mname = "<init>")) (wi : Jvm.Cond.instantiable Cn kk ∈ tb)
    (hty : parseFieldDescriptor d = some ty) (hn : narrow ty v = v) (hf : fits ty v = true) (ha : a ∈ fs) (hd : decode bytes pc = .ok (.putfield index, 3))
    (K : ∀ h', Wr h h' a (Jvm.RoadKit.slotOf Z O nm d) v → Fld Z h' a O nm d v → Go p l e R s m args below meth c n0 Q fs h' k n (mkF m (pc + 3) Ls St)) : Go p l e R s m args below meth c n0 Q fs h k n (mkF m pc Ls (v :: .ref a :: St)) := by
  intro T locs X eT N I
  have hZ := C.hZ
  have hown := C.hown
  obtain ⟨T', h', X', e', W', st⟩ := putF X C.hx hZ hown (host := "") (Or.inl (C.hw w)) via eT F E (hl.imp (fun q => C.hw q) (fun q => ⟨C.hw q.1, q.2.1, C.hnm.trans q.2.2⟩)) (C.hw wi) (ty := ty) hty hn hf (g := mkF m pc Ls (v :: .ref a :: St)) rfl rfl (hb C.hby hd)
  obtain ⟨s2, o, st2, r⟩ := K h' W' (F.same W') T' _ X' e' (Fr.snoc X' N (I.ge ha)) (I.wr W' ha)
  exact ⟨s2, o, st _ st2, r⟩
theorem g_initO (C : Cx Z a0 tb p s m meth c own mname bytes maxL ret n0) {index : Nat} {a : Addr} (w1 : Jvm.Cond.methodLink own index Lib.objectInit ∈ tb) (w2 : Jvm.Cond.instanceMethod Lib.objectInit ∈ tb) (w3 : Jvm.Cond.code Lib.objectInit ⟨#[0xb1]⟩ 1 none ∈ tb) (hsz : Ls.size = maxL) (hd : decode bytes pc = .ok (.invokespecial index, 3)) (hf : 1 ≤ R.frames) (W : Nat) (hW : (St.map fun v => v.category).sum ≤ W) (hl : W + 12 ≤ R.locals)
    (K : Go p l e R s m args below meth c n0 Q fs h k n (mkF m (pc + 3) Ls St)) : Go p l e R s m args below meth c n0 Q fs h k n (mkF m pc Ls (.ref a :: St)) := by
  intro T locs X eT N I
  have hZ := C.hZ
  have hown := C.hown
  obtain ⟨T', X', e', st⟩ := initO X C.hx hZ hown (C.hw w1) (C.hw w2) (C.hw w3) eT (g := mkF m pc Ls (.ref a :: St)) rfl (hsz.trans C.hml.symm) rfl (hb C.hby hd) hf (W := W) (by show 2 * 0 + _ ≤ _; omega) hl
  obtain ⟨s2, o, st2, r⟩ := K T' locs X' e' N I
  exact ⟨s2, o, st _ st2, r⟩
theorem own_narref {t : FieldType} {v : Value} (ht : t.isReference = true) (hv : v.isRef = true) : narrow t v = v := by
  rcases ref_cases hv with rfl | ⟨b, rfl⟩ <;> cases t <;> first | rfl | (cases ht)
theorem g_returnX (C : Cx Z a0 tb p s m meth c own mname bytes maxL ret n0)  (ns : List Addr) (hns : ∀ x ∈ ns, x ∈ fs) (hret : ret = none) (hd : decode bytes pc = .ok (.return_, 1)) (hk : k ≤ R.cells) (hn : n ≤ R.slots) (hQ : Q (none) h ns) : Go p l e R s m args below meth c n0 Q fs h k n (mkF m pc Ls ([])) := by
  intro T locs X eT N I
  have hZ := C.hZ
  have hown := C.hown
  obtain ⟨ff, hr, hrun, hended, hW, hsame⟩ := X.leave (v := none) (fun _ => rfl) C.hlk
  exact ⟨_, _, X.returnOut C.hx (C.hret.trans hret) (hb C.hby hd) hr, hrun, hended, _, _, ns, rfl, ⟨by rw [show (T.setFrames ff).heap = T.heap from rfl, eT]; exact hQ, N⟩, fun y hy => I.ge (hns y hy), ⟨_, rfl⟩, hW, hsame.mono hk hn⟩
theorem g_return (C : Cx Z a0 tb p s m meth c own mname bytes maxL ret n0)  (hret : ret = none) (hd : decode bytes pc = .ok (.return_, 1)) (hk : k ≤ R.cells) (hn : n ≤ R.slots) (hQ : Q2 (none) h) : Go p l e R s m args below meth c n0 (nq Q2) fs h k n (mkF m pc Ls ([])) :=
  g_returnX C [] all0 hret hd hk hn ⟨rfl, hQ⟩
theorem g_ireturnNX (C : Cx Z a0 tb p s m meth c own mname bytes maxL ret n0) {z : Int32} {t : FieldType} (ns : List Addr) (hns : ∀ x ∈ ns, x ∈ fs) (hret : ret = some t) (ht : t = .boolean ∨ t = .byte ∨ t = .char ∨ t = .short) (hd : decode bytes pc = .ok (.ireturn, 1)) (hk : k ≤ R.cells) (hn : n ≤ R.slots) (hQ : Q (some (.int (nar t z))) h ns) : Go p l e R s m args below meth c n0 Q fs h k n (mkF m pc Ls (.int z :: St)) := by
  intro T locs X eT N I
  have hZ := C.hZ
  have hown := C.hown
  obtain ⟨ff, hr, hrun, hended, hW, hsame⟩ := X.leave (v := some (.int (nar t z))) (fun q => by rw [C.hret, hret] at q; cases q) C.hlk
  exact ⟨_, _, retN X C.hx (C.hret.trans hret) ht (hb C.hby hd) hr, hrun, hended, _, _, ns, rfl, ⟨by rw [show (T.setFrames ff).heap = T.heap from rfl, eT]; exact hQ, N⟩, fun y hy => I.ge (hns y hy), ⟨_, rfl⟩, hW, hsame.mono hk hn⟩
theorem g_ireturnN (C : Cx Z a0 tb p s m meth c own mname bytes maxL ret n0) {z : Int32} {t : FieldType} (hret : ret = some t) (ht : t = .boolean ∨ t = .byte ∨ t = .char ∨ t = .short) (hd : decode bytes pc = .ok (.ireturn, 1)) (hk : k ≤ R.cells) (hn : n ≤ R.slots) (hQ : Q2 (some (.int (nar t z))) h) : Go p l e R s m args below meth c n0 (nq Q2) fs h k n (mkF m pc Ls (.int z :: St)) :=
  g_ireturnNX C [] all0 hret ht hd hk hn ⟨rfl, hQ⟩
theorem g_areturnX (C : Cx Z a0 tb p s m meth c own mname bytes maxL ret n0) {v : Value} {t : FieldType} (ns : List Addr) (hns : ∀ x ∈ ns, x ∈ fs) (hret : ret = some t) (ht : t.isReference = true) (hv : v.isRef = true) (hd : decode bytes pc = .ok (.areturn, 1)) (hk : k ≤ R.cells) (hn : n ≤ R.slots) (hQ : Q (some v) h ns) : Go p l e R s m args below meth c n0 Q fs h k n (mkF m pc Ls (v :: St)) := by
  intro T locs X eT N I
  have hZ := C.hZ
  have hown := C.hown
  obtain ⟨ff, hr, hrun, hended, hW, hsame⟩ := X.leave (v := some v) (fun q => by rw [C.hret, hret] at q; cases q) C.hlk
  exact ⟨_, _, retOut X C.hx (C.hret.trans hret) (own_narref ht hv) (Or.inr (Or.inr (Or.inr (Or.inr ⟨rfl, ht, hv⟩)))) (hb C.hby hd) hr, hrun, hended, _, _, ns, rfl, ⟨by rw [show (T.setFrames ff).heap = T.heap from rfl, eT]; exact hQ, N⟩, fun y hy => I.ge (hns y hy), ⟨_, rfl⟩, hW, hsame.mono hk hn⟩
theorem g_areturn (C : Cx Z a0 tb p s m meth c own mname bytes maxL ret n0) {v : Value} {t : FieldType} (hret : ret = some t) (ht : t.isReference = true) (hv : v.isRef = true) (hd : decode bytes pc = .ok (.areturn, 1)) (hk : k ≤ R.cells) (hn : n ≤ R.slots) (hQ : Q2 (some v) h) : Go p l e R s m args below meth c n0 (nq Q2) fs h k n (mkF m pc Ls (v :: St)) :=
  g_areturnX C [] all0 hret ht hv hd hk hn ⟨rfl, hQ⟩
/-- a body's contract: called so, over this heap, it returns with Q -/
def Met (l : Launch) (Z : State) (y : MethodName) (bytes : ByteArray) (maxL : Nat) (ret : Option FieldType) (ws : List Jvm.Cond) (rm : Room) (fs : List Addr) (as' : Array Value) (h : Heap) (n0 : Nat) (Q : Option Value → Heap → List Addr → Prop) : Prop :=
  Inv n0 fs h → MetFree l y (head1 (Jvm.Cond.code y bytes maxL ret :: ws) rm) (fun a U => a = as' ∧ Z.Warmed39 U.vm ∧ U.heap = h) (fun _ _ _ _ _ => True) (fun _ U o U' => ∃ v L ns, o = .returned v ∧ (Q v U'.heap ns ∧ Fr n0 L) ∧ (∀ x ∈ ns, n0 ≤ x) ∧ FrameEnd U o U' L rm.cells rm.slots)
theorem met_of {y : MethodName} {ws : List Jvm.Cond} {as' : Array Value} (hpl : plainFor y = true) (hw : ∀ d ∈ tb, d.before a0 Z = true) (Ls : Array Slot) (hef : ∀ m : MethodId, entryFrame m as' maxL = mkF m 0 Ls [])
    (H : ∀ p e s m below meth c, Cx Z a0 tb p s m meth c y.cls y.name bytes maxL ret n0 → Go p l e R s m as' below meth c n0 Q fs h 0 0 (mkF m 0 Ls [])) : Met l Z y bytes maxL ret ws R fs as' h n0 Q := by
  intro I
  refine MetFree.of_bodySF hpl hisR ?_
  intro p e s m args below meth c s₁ Bd hml0 hP hK
  obtain ⟨rfl, hZ, hh⟩ := hP
  have X0 : Stand p l e R s m args below meth c s₁ [] 0 0 := Stand.of_body Bd
  have e0 : s₁.heap = h := by rw [← hh, Bd.state]; rfl
  have C : Cx Z a0 tb p s m meth c y.cls y.name bytes maxL ret n0 := ⟨Bd.exec, hZ, findClass_of_methodNamed Bd.named, Bd.bytes, hml0, Bd.returns, Bd.notSynchronized, hw, (name_of_methodNamed Bd.named Bd.method).1, by rw [hh]; exact I.1⟩
  obtain ⟨s2, o, st, r⟩ := H p e s m below meth c C s₁ [] X0 e0 (Fr.nil n0) I
  exact ⟨s2, o, castTop (hef m) st, r⟩
/-- the same as the caller needs it -/
def Ct (l : Launch) (Z : State) (y : MethodName) (maxL : Nat) (rm : Room) (fs : List Addr) (as' : Array Value) (h : Heap) (n0 : Nat) (Q : Option Value → Heap → List Addr → Prop) : Prop :=
  ∀ ⦃R : Room⦄ ⦃p : Program⦄ ⦃e : Env⦄ ⦃below : List Frame⦄ ⦃s : State⦄ ⦃args : Array Value⦄ ⦃len W : Nat⦄, Z.Warmed39 s.vm → Inv n0 fs h → rm.frames + 1 ≤ R.frames → W + (maxL + 11) + rm.locals ≤ R.locals →
    Back l R p e below s args y len W (fun A a => a = as' ∧ A.U.heap = h ∧ A.cells + rm.cells ≤ R.cells ∧ A.slots + rm.slots ≤ R.slots) (fun A _ v B => ∃ L, (∃ ns, Q v B.U.heap ns ∧ Fr n0 L ∧ ∀ x ∈ ns, n0 ≤ x) ∧ B.locs = A.locs ++ L ∧ B.cells = A.cells + rm.cells ∧ B.slots = A.slots + rm.slots)
theorem ct_of {y : MethodName} {rm : Room} {as' : Array Value} (hw : ∀ d ∈ tb, d.before a0 Z = true) (wc : Jvm.Cond.code y bytes maxL ret ∈ tb) (wz : Jvm.Cond.initialized y.cls ∈ tb) (M : Met l Z y bytes maxL ret [] rm fs as' h n0 Q) : Ct l Z y maxL rm fs as' h n0 Q :=
  fun _ _ _ _ _ _ _ _ hZ I hf hl => backOf (Q := fun v h' L => ∃ ns, Q v h' ns ∧ Fr n0 L ∧ ∀ x ∈ ns, n0 ≤ x) (fun p e ha hc hk s m args below hf' happ hP hK => by
    obtain ⟨nn, o, h1, h2, h3, v, L, ns, h4, ⟨h5, h6⟩, h7, h8⟩ := M I p e ha hc hk s m args below hf' happ hP hK
    exact ⟨nn, o, h1, h2, h3, v, L, h4, ⟨ns, h5, h6, h7⟩, h8⟩) hZ (hw _ wc) (hw _ wz) hf hl
/-- a callee by a Back -/
theorem ct_back {y : MethodName} {rm : Room} {as' : Array Value}
    (B0 : ∀ {R : Room} {p : Program} {e : Env} {below : List Frame} {s : State} {args : Array Value} {len W : Nat}, Z.Warmed39 s.vm → n0 ≤ h.size → (∀ x ∈ fs, n0 ≤ x) → rm.frames + 1 ≤ R.frames → W + (maxL + 11) + rm.locals ≤ R.locals →
      Back l R p e below s args y len W (fun A a => a = as' ∧ A.U.heap = h ∧ A.cells + rm.cells ≤ R.cells ∧ A.slots + rm.slots ≤ R.slots) (fun A _ v B => ∃ L, (Q2 v B.U.heap ∧ Fr n0 L) ∧ B.locs = A.locs ++ L ∧ B.cells = A.cells + rm.cells ∧ B.slots = A.slots + rm.slots)) : Ct l Z y maxL rm fs as' h n0 (nq Q2) := by
  intro R p e below s args len W hZ I hf hl
  refine Back.mono (B0 hZ I.1 I.2 hf hl) (fun P a q => q) (fun P a v B hp hq => ?_)
  obtain ⟨L, ⟨q1, q2⟩, q3⟩ := hq
  exact ⟨L, ⟨[], ⟨rfl, q1⟩, q2, all0⟩, q3⟩
theorem g_specialX (C : Cx Z a0 tb p s m meth c own mname bytes maxL ret n0) {index : Nat} {y : MethodName} {a : Addr} {yb : ByteArray} {yl' : Nat} (w1 : Jvm.Cond.methodLink own index y ∈ tb) (w2 : Jvm.Cond.instanceMethod y ∈ tb) (w4 : Jvm.Cond.code y yb yl' none ∈ tb) (hy1 : y.name = "<init>") (hy : y.cls ≠ "java/lang/invoke/MethodHandle" ∧ y.cls ≠ "java/lang/invoke/VarHandle") {rm : Room} {fs0 : List Addr} (argsL : List Value) {Qy : Option Value → Heap → List Addr → Prop} {yl : Nat} (K0 : Ct l Z y yl rm fs0 (.ref a :: argsL).toArray h n0 Qy) (hfs : ∀ x ∈ fs0, x ∈ fs) (hf : rm.frames + 1 ≤ R.frames) (W : Nat) (hlo : W + (yl + 11) + rm.locals ≤ R.locals) (hsz : Ls.size = maxL) {sig : MethodDescriptor} (hdesc : parseMethodDescriptor y.desc = some sig) (hlen : argsL.length = sig.parameters.length) (rest : List Value) (hs : St = argsL.reverse ++ .ref a :: rest) (hW : (rest.map fun v => v.category).sum ≤ W) (hd : decode bytes pc = .ok (.invokespecial index, 3)) (hc : k + rm.cells ≤ R.cells) (hn : n + rm.slots ≤ R.slots)
    (K : ∀ v h' ns, Qy v h' ns → Go p l e R s m args below meth c n0 Q (ns ++ fs) h' (k + rm.cells) (n + rm.slots) (mkF m (pc + 3) Ls (v.toList ++ rest))) : Go p l e R s m args below meth c n0 Q fs h k n (mkF m pc Ls St) := by
  intro T locs X eT N I
  have hZ := C.hZ
  have hown := C.hown
  obtain ⟨v, _, ⟨T', L', k', n'⟩, -, X', ⟨Lc, ⟨ns, hQ, hN, hns⟩, hl', hk', hn'⟩, st⟩ := X.specialBack C.hx hy1 hown (mvT hZ (C.hw w1)) (mvT hZ (C.hw w2)) (mvT hZ (C.hw w4)) hy (K0 (W := W) hZ (I.less hfs) hf hlo) (g := mkF m pc Ls St) rfl (hsz.trans C.hml.symm) (Steps.refl _) (a := a) (argsL := argsL) (rest := rest) (fun sg q => by cases hdesc.symm.trans q; exact hlen) hs (by show 2 * 0 + _ ≤ _; omega) (hb C.hby hd) (fun _ _ => ⟨rfl, eT, hc, hn⟩)
  dsimp only [Pt.U, Pt.locs, Pt.cells, Pt.slots] at X' hl' hk' hn' st hQ
  subst hl' hk' hn'
  have hsize : n0 ≤ T'.heap.size := Nat.le_trans C.hn0 X'.same.2.1
  obtain ⟨s2, o, st2, r⟩ := K v T'.heap ns hQ T' _ X' rfl (N.app hN) ⟨hsize, fun x hx => (List.mem_append.mp hx).elim (hns x) (I.2 x)⟩
  exact ⟨s2, o, st.trans st2, r⟩
theorem g_special (C : Cx Z a0 tb p s m meth c own mname bytes maxL ret n0) {index : Nat} {y : MethodName} {a : Addr} {yb : ByteArray} {yl' : Nat} (w1 : Jvm.Cond.methodLink own index y ∈ tb) (w2 : Jvm.Cond.instanceMethod y ∈ tb) (w4 : Jvm.Cond.code y yb yl' none ∈ tb) (hy1 : y.name = "<init>") (hy : y.cls ≠ "java/lang/invoke/MethodHandle" ∧ y.cls ≠ "java/lang/invoke/VarHandle") {rm : Room} {fs0 : List Addr} (argsL : List Value) {Qy : Option Value → Heap → Prop} {yl : Nat} (K0 : Ct l Z y yl rm fs0 (.ref a :: argsL).toArray h n0 (nq Qy)) (hfs : ∀ x ∈ fs0, x ∈ fs) (hf : rm.frames + 1 ≤ R.frames) (W : Nat) (hlo : W + (yl + 11) + rm.locals ≤ R.locals) (hsz : Ls.size = maxL) {sig : MethodDescriptor} (hdesc : parseMethodDescriptor y.desc = some sig) (hlen : argsL.length = sig.parameters.length) (rest : List Value) (hs : St = argsL.reverse ++ .ref a :: rest) (hW : (rest.map fun v => v.category).sum ≤ W) (hd : decode bytes pc = .ok (.invokespecial index, 3)) (hc : k + rm.cells ≤ R.cells) (hn : n + rm.slots ≤ R.slots)
    (K : ∀ v h', Qy v h' → Go p l e R s m args below meth c n0 Q fs h' (k + rm.cells) (n + rm.slots) (mkF m (pc + 3) Ls (v.toList ++ rest))) : Go p l e R s m args below meth c n0 Q fs h k n (mkF m pc Ls St) :=
  g_specialX C w1 w2 w4 hy1 hy argsL K0 hfs hf W hlo hsz hdesc hlen rest hs hW hd hc hn (fun v h' ns q => by obtain ⟨rfl, q⟩ := q; exact K v h' q)
theorem g_virtualX (C : Cx Z a0 tb p s m meth c own mname bytes maxL ret n0) {index : Nat} {y z : MethodName} {Cn : String} {a : Addr} (E : Exa Z h a Cn) (w1 : Jvm.Cond.methodLink own index y ∈ tb) (w2 : Jvm.Cond.declares y ∈ tb) (hnf : ∀ {s' : State}, Z.Warmed39 s'.vm → NotFace s' y) (w3 : Jvm.Cond.selects Cn y z ∈ tb) (w4 : Jvm.Cond.instanceMethod z ∈ tb) (hy : y.cls ≠ "java/lang/invoke/MethodHandle" ∧ y.cls ≠ "java/lang/invoke/VarHandle") {rm : Room} {fs0 : List Addr} (argsL : List Value) {Qy : Option Value → Heap → List Addr → Prop} {yl : Nat} (K0 : Ct l Z z yl rm fs0 (.ref a :: argsL).toArray h n0 Qy) (hfs : ∀ x ∈ fs0, x ∈ fs) (hf : rm.frames + 1 ≤ R.frames) (W : Nat) (hlo : W + (yl + 11) + rm.locals ≤ R.locals) (hsz : Ls.size = maxL) {sig : MethodDescriptor} (hdesc : parseMethodDescriptor y.desc = some sig) (hlen : argsL.length = sig.parameters.length) (rest : List Value) (hs : St = argsL.reverse ++ .ref a :: rest) (hW : (rest.map fun v => v.category).sum ≤ W) (hd : decode bytes pc = .ok (.invokevirtual index, 3)) (hc : k + rm.cells ≤ R.cells) (hn : n + rm.slots ≤ R.slots)
    (K : ∀ v h' ns, Qy v h' ns → Go p l e R s m args below meth c n0 Q (ns ++ fs) h' (k + rm.cells) (n + rm.slots) (mkF m (pc + 3) Ls (v.toList ++ rest))) : Go p l e R s m args below meth c n0 Q fs h k n (mkF m pc Ls St) := by
  intro T locs X eT N I
  have hZ := C.hZ
  have hown := C.hown
  obtain ⟨cq, kq, qa, qb, qc⟩ := isOf hZ eT E
  obtain ⟨v, _, ⟨T', L', k', n'⟩, -, X', ⟨Lc, ⟨ns, hQ, hN, hns⟩, hl', hk', hn'⟩, st⟩ := X.virtualBack C.hx hown (mvT hZ (C.hw w1)) (mvT hZ (C.hw w2)) (hnf hZ) (mvT hZ (C.hw w3)) (mvT hZ (C.hw w4)) hy (K0 (W := W) hZ (I.less hfs) hf hlo) qa qc (g := mkF m pc Ls St) rfl (hsz.trans C.hml.symm) (Steps.refl _) (argsL := argsL) (rest := rest) (fun sg q => by cases hdesc.symm.trans q; exact hlen) hs (by show 2 * 0 + _ ≤ _; omega) (hb C.hby hd) (fun _ _ => ⟨rfl, eT, hc, hn⟩)
  dsimp only [Pt.U, Pt.locs, Pt.cells, Pt.slots] at X' hl' hk' hn' st hQ
  subst hl' hk' hn'
  have hsize : n0 ≤ T'.heap.size := Nat.le_trans C.hn0 X'.same.2.1
  obtain ⟨s2, o, st2, r⟩ := K v T'.heap ns hQ T' _ X' rfl (N.app hN) ⟨hsize, fun x hx => (List.mem_append.mp hx).elim (hns x) (I.2 x)⟩
  exact ⟨s2, o, st.trans st2, r⟩
theorem g_virtual (C : Cx Z a0 tb p s m meth c own mname bytes maxL ret n0) {index : Nat} {y z : MethodName} {Cn : String} {a : Addr} (E : Exa Z h a Cn) (w1 : Jvm.Cond.methodLink own index y ∈ tb) (w2 : Jvm.Cond.declares y ∈ tb) (hnf : ∀ {s' : State}, Z.Warmed39 s'.vm → NotFace s' y) (w3 : Jvm.Cond.selects Cn y z ∈ tb) (w4 : Jvm.Cond.instanceMethod z ∈ tb) (hy : y.cls ≠ "java/lang/invoke/MethodHandle" ∧ y.cls ≠ "java/lang/invoke/VarHandle") {rm : Room} {fs0 : List Addr} (argsL : List Value) {Qy : Option Value → Heap → Prop} {yl : Nat} (K0 : Ct l Z z yl rm fs0 (.ref a :: argsL).toArray h n0 (nq Qy)) (hfs : ∀ x ∈ fs0, x ∈ fs) (hf : rm.frames + 1 ≤ R.frames) (W : Nat) (hlo : W + (yl + 11) + rm.locals ≤ R.locals) (hsz : Ls.size = maxL) {sig : MethodDescriptor} (hdesc : parseMethodDescriptor y.desc = some sig) (hlen : argsL.length = sig.parameters.length) (rest : List Value) (hs : St = argsL.reverse ++ .ref a :: rest) (hW : (rest.map fun v => v.category).sum ≤ W) (hd : decode bytes pc = .ok (.invokevirtual index, 3)) (hc : k + rm.cells ≤ R.cells) (hn : n + rm.slots ≤ R.slots)
    (K : ∀ v h', Qy v h' → Go p l e R s m args below meth c n0 Q fs h' (k + rm.cells) (n + rm.slots) (mkF m (pc + 3) Ls (v.toList ++ rest))) : Go p l e R s m args below meth c n0 Q fs h k n (mkF m pc Ls St) :=
  g_virtualX C E w1 w2 hnf w3 w4 hy argsL K0 hfs hf W hlo hsz hdesc hlen rest hs hW hd hc hn (fun v h' ns q => by obtain ⟨rfl, q⟩ := q; exact K v h' q)
theorem nf_sel {y : MethodName} {Cn : String} (hw : ∀ d ∈ tb, d.before a0 Z = true) (w : Jvm.Cond.selects Cn y y ∈ tb) {s' : State} (hZ : Z.Warmed39 s'.vm) : NotFace s' y := notFace_of_selects (args := #[]) (mvT hZ (hw _ w))
end OwnGo
end Jvm.OwnGo
namespace Jvm.OwnGo
open Sem ClassFile Op Lib Jvm.Stand Jvm.Free Jvm.LawKit Jvm.RoadKit Bundle
section OwnBox
variable {Z : State} {a0 : Array Value} {tb : List Jvm.Cond} {p : Program} {l : Launch} {e : Env} {R : Room} {s : State} {m : MethodId} {args : Array Value} {below : List Frame} {meth : Method} {c : Code} {own mname : String} {bytes : ByteArray} {maxL : Nat} {ret : Option FieldType} {n0 : Nat} {Q : Option Value → Heap → List Addr → Prop} {Q2 : Option Value → Heap → Prop} {fs : List Addr} {h : Heap} {k n : Nat} {pc : Nat} {Ls : Array Slot} {St : List Value}
end OwnBox
end Jvm.OwnGo
/- laws to paste: Road.backV (cut by pick.py; bodies as the Statement names them) -/
namespace Jvm.Pilot.@@N@@
namespace StrChars
open Jvm Sem ClassFile Op Lib Jvm.Stand Jvm.Free.XT Jvm.Free.ALB Jvm.Free.JM Jvm.Free
open Jvm.Lib.Cold (StaticIs)
/-- a char array whose places are chars -/
def Ch (a : Addr) (A : Cell) (U : State) : Prop := Arr .char a A U ∧ Typed .char A
theorem Ch.mv {a : Addr} {A : Cell} {U U' : State} (h : Ch a A U) (hal : U.vm.Alike U'.vm) (hh : U'.heap = U.heap) : Ch a A U' := ⟨h.1.mv hal hh, h.2⟩
theorem Ch.keep {a : Addr} {A : Cell} {U U' : State} (h : Ch a A U) (hal : U.vm.Alike U'.vm) (hk : U'.heap[a]? = some A) : Ch a A U' := ⟨h.1.keep hal hk, h.2⟩
/-- what place i of a char[]'s cell holds -/
def cv (A : Cell) (i : Nat) : Int32 := match A.slots[i]? with | some (.int x) => x | _ => 0
theorem Ch.get {a : Addr} {A : Cell} {U : State} (h : Ch a A U) {i : Nat} (hi : i < A.slots.size) : A.slots[i]? = some (.int (cv A i)) := by
  have e := Array.getElem?_eq_getElem hi
  have f := h.2 i _ e
  unfold cv; rw [e]
  generalize A.slots[i] = v at f
  cases v <;> simp [fits] at f ⊢
/-- the byte that i2b leaves of a char -/
def lo8 (x : Int32) : Int32 := x.toInt8.toInt32
theorem fits_lo8 (y : Int32) : fits .byte (.int (lo8 y)) = true := by
  have h1 := y.toInt8.le_toInt
  have h2 := y.toInt8.toInt_lt
  simp only [lo8, fits, Bool.and_eq_true, decide_eq_true_eq, Int32.le_iff_toInt_le, Int8.toInt_toInt32, show (-128 : Int32).toInt = -128 from by decide, show (127 : Int32).toInt = 127 from by decide]
  omega
/-- A' is A but that each place j of lo .. hi - 1 holds f j -/
def Laid (A A' : Cell) (lo hi : Nat) (f : Nat → Value) : Prop := A'.cls = A.cls ∧ A'.vm = A.vm ∧ A'.slots.size = A.slots.size ∧ ∀ i, A'.slots[i]? = if lo ≤ i ∧ i < hi then some (f i) else A.slots[i]?
theorem Laid.zero (A : Cell) (lo : Nat) (f : Nat → Value) : Laid A A lo (lo + 0) f := ⟨rfl, rfl, rfl, fun i => by rw [if_neg (by omega)]⟩
theorem Laid.step {A Ak : Cell} {lo k : Nat} {f : Nat → Value} {v : Value} (h : Laid A Ak lo k f) (hlo : lo ≤ k) (hk : k < Ak.slots.size) (hv : v = f k) : Laid A (Ak.setSlot k v) lo (k + 1) f := by
  refine ⟨h.1, h.2.1, by simpa [Cell.setSlot] using h.2.2.1, fun i => ?_⟩
  by_cases e : k = i
  · subst e; rw [Cell.slots_setSlot_self v hk, if_pos (by omega), hv]
  · rw [Cell.slots_setSlot_ne v e, h.2.2.2 i]
    by_cases q : lo ≤ i ∧ i < k
    · rw [if_pos q, if_pos (by omega)]
    · rw [if_neg q, if_neg (by omega)]
def U16 : String := "java/lang/StringUTF16"
namespace Cmp5
def yN : MethodName := ⟨"java/lang/StringUTF16", "compress", "([CI[BII)I"⟩
abbrev yB : ByteArray := jdk_52_method_21_code
theorem d0 : decode yB 0 = .ok (.iconst 0, 1) := by decide +kernel
theorem d1 : decode yB 1 = .ok (.istore 5, 2) := by decide +kernel
theorem d3 : decode yB 3 = .ok (.iload 5, 2) := by decide +kernel
theorem d5 : decode yB 5 = .ok (.iload 4, 2) := by decide +kernel
theorem d7 : decode yB 7 = .ok (.if_icmp (.ge) 37, 3) := by decide +kernel
theorem d10 : decode yB 10 = .ok (.aload_n 0, 1) := by decide +kernel
theorem d11 : decode yB 11 = .ok (.iload_n 1, 1) := by decide +kernel
theorem d12 : decode yB 12 = .ok (.caload, 1) := by decide +kernel
theorem d13 : decode yB 13 = .ok (.istore 6, 2) := by decide +kernel
theorem d15 : decode yB 15 = .ok (.iload 6, 2) := by decide +kernel
theorem d17 : decode yB 17 = .ok (.sipush 255, 3) := by decide +kernel
theorem d20 : decode yB 20 = .ok (.if_icmp (.le) 6, 3) := by decide +kernel
theorem d26 : decode yB 26 = .ok (.aload_n 2, 1) := by decide +kernel
theorem d27 : decode yB 27 = .ok (.iload_n 3, 1) := by decide +kernel
theorem d28 : decode yB 28 = .ok (.iload 6, 2) := by decide +kernel
theorem d30 : decode yB 30 = .ok (.i2b, 1) := by decide +kernel
theorem d31 : decode yB 31 = .ok (.bastore, 1) := by decide +kernel
theorem d32 : decode yB 32 = .ok (.iinc 1 1, 3) := by decide +kernel
theorem d35 : decode yB 35 = .ok (.iinc 3 1, 3) := by decide +kernel
theorem d38 : decode yB 38 = .ok (.iinc 5 1, 3) := by decide +kernel
theorem d41 : decode yB 41 = .ok (.goto (-38), 3) := by decide +kernel
theorem d44 : decode yB 44 = .ok (.iload 4, 2) := by decide +kernel
theorem d46 : decode yB 46 = .ok (.ireturn, 1) := by decide +kernel
def site : List Cond := []
def tab : Cond := tabOf yN yB 7 (some .int) site
def P (b : Addr) (A : Cell) (d : Addr) (B : Cell) (o q len : Nat) (args : Array Value) (s : State) : Prop := args = #[.ref b, .int (Int32.ofNat o), .ref d, .int (Int32.ofNat q), .int (Int32.ofNat len)] ∧ Ch b A s ∧ Arr .byte d B s ∧ b ≠ d ∧ o + len ≤ A.slots.size ∧ q + len ≤ B.slots.size ∧ ∀ i, i < len → ¬ 255 < cv A (o + i)
def E (b : Addr) (A : Cell) (d : Addr) (B : Cell) (o q len : Nat) (r : Option Value) (s u : State) : Prop := r = some (.int (Int32.ofNat len)) ∧ ∃ B', Put d B' s u ∧ Laid B B' q (q + len) (fun j => Value.int (lo8 (cv A (o + (j - q)))))
/-- no char of the range above 255: len; the places written hold each char's low byte -/
theorem law (l : Launch) (b : Addr) (A : Cell) (d : Addr) (B : Cell) (o q len : Nat) : Law l yN 5 5 0 0 yB 7 (some .int) site (P b A d B o q len) (E b A d B o q len) (copyLocs d q len) 0 0 := by
  refine Law.of_walk (plainFor_of_name (by decide +kernel)) (by decide +kernel) (by decide +kernel) (by decide) (fun _ _ h => by rw [h.1]; rfl) (fun _ U U' hal hh h => ⟨h.1, h.2.1.mv hal hh, h.2.2.1.mv hal hh, h.2.2.2⟩) (fun r U U' V V' h1 hal h2 h => ⟨h.1, h.2.elim fun B' q => ⟨B', q.1.mv h1 h2, q.2⟩⟩) ?_
  intro p e s m args below meth c s₁ X0 hexec hbytes hml hret hlk hnm hown hh0 W hP
  obtain ⟨rfl, hA, hB, hne, l1, l2, hp⟩ := hP
  have c1 : Steps p.tables e below (s₁.setTop (entryFrame m #[.ref b, .int (Int32.ofNat o), .ref d, .int (Int32.ofNat q), .int (Int32.ofNat len)] 7)) (s₁.setTop (mkF m 0 #[.val (.ref b), .val (.int (Int32.ofNat o)), .val (.ref d), .val (.int (Int32.ofNat q)), .val (.int (Int32.ofNat len)), .unset, .unset] [])) := entry rfl
  have hA0 := hA.1.mv X0.warmed.alike hh0
  have hB0 := hB.mv X0.warmed.alike hh0
  have a31 := hA.1.2.2.2
  have c2 : Steps p.tables e below (s₁.setTop (entryFrame m #[.ref b, .int (Int32.ofNat o), .ref d, .int (Int32.ofNat q), .int (Int32.ofNat len)] 7)) (s₁.setTop (mkF m 3 #[.val (.ref b), .val (.int (Int32.ofNat o)), .val (.ref d), .val (.int (Int32.ofNat q)), .val (.int (Int32.ofNat len)), .val (.int 0), .unset] [])) := c1.trans (by
    refine iconstV X0.here hexec rfl 0 (hb hbytes d0) (by decide) ?_
    refine XS.istore X0.here hexec rfl (hb hbytes d1) rfl rfl ?_
    exact Steps.refl _)
  have loop : ∀ (r i : Nat), i + r = len → ∀ (z : Slot), (z = .unset ∨ ∃ w, z = .val w ∧ w.category = 1) → ∀ (Tl : State) (Bk : Cell), Stand p l e { frames := 0, locals := 0, cells := 0, slots := 0 } s m #[.ref b, .int (Int32.ofNat o), .ref d, .int (Int32.ofNat q), .int (Int32.ofNat len)] below meth c Tl ([] ++ copyLocs d q i) 0 0 → Put d Bk s₁ Tl → Laid B Bk q (q + i) (fun j => Value.int (lo8 (cv A (o + (j - q))))) →
      Steps p.tables e below (s₁.setTop (entryFrame m #[.ref b, .int (Int32.ofNat o), .ref d, .int (Int32.ofNat q), .int (Int32.ofNat len)] 7)) (Tl.setTop (mkF m 3 #[.val (.ref b), .val (.int (Int32.ofNat (o + i))), .val (.ref d), .val (.int (Int32.ofNat (q + i))), .val (.int (Int32.ofNat len)), .val (.int (Int32.ofNat i)), z] [])) → ∃ (T' : State) (B' : Cell) (z' : Slot), Stand p l e { frames := 0, locals := 0, cells := 0, slots := 0 } s m #[.ref b, .int (Int32.ofNat o), .ref d, .int (Int32.ofNat q), .int (Int32.ofNat len)] below meth c T' ([] ++ copyLocs d q len) 0 0 ∧ Put d B' s₁ T' ∧ Laid B B' q (q + len) (fun j => Value.int (lo8 (cv A (o + (j - q))))) ∧
      Steps p.tables e below (s₁.setTop (entryFrame m #[.ref b, .int (Int32.ofNat o), .ref d, .int (Int32.ofNat q), .int (Int32.ofNat len)] 7)) (T'.setTop (mkF m 3 #[.val (.ref b), .val (.int (Int32.ofNat (o + len))), .val (.ref d), .val (.int (Int32.ofNat (q + len))), .val (.int (Int32.ofNat len)), .val (.int (Int32.ofNat len)), z'] [])) := by
    intro r
    induction r with
    | zero =>
      intro i hi z hz Tl Bk Xl pl fl cl
      have hil : i = len := by omega
      rw [hil] at Xl fl cl
      exact ⟨Tl, Bk, z, Xl, pl, fl, cl⟩
    | succ r ih =>
      intro i hi z hz Tl Bk Xl pl fl cl
      have all := X0.warmed.alike.symm.trans Xl.warmed.alike
      have hAl := hA0.keep all (pl.other hne hA0.1)
      have hBk := hB0.like all pl.1 fl.1 fl.2.1 fl.2.2.1
      have hlt : q + i < Bk.slots.size := by rw [fl.2.2.1]; omega
      have c3 : Steps p.tables e below (s₁.setTop (entryFrame m #[.ref b, .int (Int32.ofNat o), .ref d, .int (Int32.ofNat q), .int (Int32.ofNat len)] 7)) (Tl.setTop (mkF m 12 #[.val (.ref b), .val (.int (Int32.ofNat (o + i))), .val (.ref d), .val (.int (Int32.ofNat (q + i))), .val (.int (Int32.ofNat len)), .val (.int (Int32.ofNat i)), z] [.int (Int32.ofNat (o + i)), .ref b])) := cl.trans (by
        refine XS.iload Xl.here hexec rfl (hb hbytes d3) rfl ?_
        refine XS.iload Xl.here hexec rfl (hb hbytes d5) rfl ?_
        refine XS.icmpNo Xl.here hexec rfl (hb hbytes d7) rfl (ii_ge_f (lt32 (by omega) (by omega))) ?_
        refine XS.aloadN Xl.here hexec rfl (hb hbytes d10) rfl rfl ?_
        refine XS.iloadN Xl.here hexec rfl (hb hbytes d11) rfl ?_
        exact Steps.refl _)
      have c4 : Steps p.tables e below (s₁.setTop (entryFrame m #[.ref b, .int (Int32.ofNat o), .ref d, .int (Int32.ofNat q), .int (Int32.ofNat len)] 7)) (Tl.setTop (mkF m 13 #[.val (.ref b), .val (.int (Int32.ofNat (o + i))), .val (.ref d), .val (.int (Int32.ofNat (q + i))), .val (.int (Int32.ofNat len)), .val (.int (Int32.ofNat i)), z] [.int (cv A (o + i))])) := c3.trans (by
        refine Xl.aget hexec hAl rfl (hA.get (i := o + i) (by omega)) rfl rfl (hb hbytes d12) ?_
        exact Steps.refl _)
      have c5 : Steps p.tables e below (s₁.setTop (entryFrame m #[.ref b, .int (Int32.ofNat o), .ref d, .int (Int32.ofNat q), .int (Int32.ofNat len)] 7)) (Tl.setTop (mkF m 15 #[.val (.ref b), .val (.int (Int32.ofNat (o + i))), .val (.ref d), .val (.int (Int32.ofNat (q + i))), .val (.int (Int32.ofNat len)), .val (.int (Int32.ofNat i)), .val (.int (cv A (o + i)))] [])) := c4.trans (by
        refine XS.istoreS Xl.here hexec rfl (hb hbytes d13) rfl rfl hz ?_
        exact Steps.refl _)
      have c6 : Steps p.tables e below (s₁.setTop (entryFrame m #[.ref b, .int (Int32.ofNat o), .ref d, .int (Int32.ofNat q), .int (Int32.ofNat len)] 7)) (Tl.setTop (mkF m 31 #[.val (.ref b), .val (.int (Int32.ofNat (o + i))), .val (.ref d), .val (.int (Int32.ofNat (q + i))), .val (.int (Int32.ofNat len)), .val (.int (Int32.ofNat i)), .val (.int (cv A (o + i)))] [.int (lo8 (cv A (o + i))), .int (Int32.ofNat (q + i)), .ref d])) := c5.trans (by
        refine XS.iload Xl.here hexec rfl (hb hbytes d15) rfl ?_
        refine sipushV Xl.here hexec rfl 255 (hb hbytes d17) (by decide) ?_
        refine XS.icmpYes Xl.here hexec rfl (pc0 := 20) rfl (hb hbytes d20) rfl (ii_le_t (hp i (by omega))) (by decide) rfl ?_
        refine XS.aloadN Xl.here hexec rfl (hb hbytes d26) rfl rfl ?_
        refine XS.iloadN Xl.here hexec rfl (hb hbytes d27) rfl ?_
        refine XS.iload Xl.here hexec rfl (hb hbytes d28) rfl ?_
        refine i2b Xl.here hexec rfl (hb hbytes d30) rfl ?_
        exact Steps.refl _)
      obtain ⟨T7, X7, p7, st7⟩ := Xl.aput hexec hBk rfl hlt rfl (fits_lo8 (cv A (o + i))) (g := (mkF m 31 #[.val (.ref b), .val (.int (Int32.ofNat (o + i))), .val (.ref d), .val (.int (Int32.ofNat (q + i))), .val (.int (Int32.ofNat len)), .val (.int (Int32.ofNat i)), .val (.int (cv A (o + i)))] [.int (lo8 (cv A (o + i))), .int (Int32.ofNat (q + i)), .ref d])) rfl (rest := []) rfl (hb hbytes d31)
      have c8 : Steps p.tables e below (s₁.setTop (entryFrame m #[.ref b, .int (Int32.ofNat o), .ref d, .int (Int32.ofNat q), .int (Int32.ofNat len)] 7)) (T7.setTop (mkF m 32 #[.val (.ref b), .val (.int (Int32.ofNat (o + i))), .val (.ref d), .val (.int (Int32.ofNat (q + i))), .val (.int (Int32.ofNat len)), .val (.int (Int32.ofNat i)), .val (.int (cv A (o + i)))] [])) := c6.trans (st7 _ (Steps.refl _))
      have c9 : Steps p.tables e below (s₁.setTop (entryFrame m #[.ref b, .int (Int32.ofNat o), .ref d, .int (Int32.ofNat q), .int (Int32.ofNat len)] 7)) (T7.setTop (mkF m 3 #[.val (.ref b), .val (.int (Int32.ofNat (o + i) + 1)), .val (.ref d), .val (.int (Int32.ofNat (q + i) + 1)), .val (.int (Int32.ofNat len)), .val (.int (Int32.ofNat i + 1)), .val (.int (cv A (o + i)))] [])) := c8.trans (by
        refine iincV X7.here hexec rfl 1 (hb hbytes d32) (by decide) rfl rfl ?_
        refine iincV X7.here hexec rfl 1 (hb hbytes d35) (by decide) rfl rfl ?_
        refine iincV X7.here hexec rfl 1 (hb hbytes d38) (by decide) rfl rfl ?_
        refine XS.goto X7.here hexec rfl (pc0 := 41) rfl (hb hbytes d41) (by decide) rfl ?_
        exact Steps.refl _)
      have c10 : Steps p.tables e below (s₁.setTop (entryFrame m #[.ref b, .int (Int32.ofNat o), .ref d, .int (Int32.ofNat q), .int (Int32.ofNat len)] 7)) (T7.setTop (mkF m 3 #[.val (.ref b), .val (.int (Int32.ofNat (o + (i + 1)))), .val (.ref d), .val (.int (Int32.ofNat (q + (i + 1)))), .val (.int (Int32.ofNat len)), .val (.int (Int32.ofNat (i + 1))), .val (.int (cv A (o + i)))] [])) := by
        have := c9
        rw [succ32, succ32, succ32] at this
        exact this
      exact ih (i + 1) (by omega) _ (Or.inr ⟨_, rfl, rfl⟩) T7 _ (by rw [copyLocs_step, ← List.append_assoc]; exact X7) (pl.trans p7) (fl.step (by omega) hlt (by simp)) c10
  obtain ⟨T9, B9, z9, X9, p9, f9, g9⟩ := loop len 0 (by omega) .unset (Or.inl rfl) s₁ B (by simpa [copyLocs] using X0) ⟨hB0.1, fun _ _ => rfl, rfl⟩ (Laid.zero _ _ _) c2
  have c11 : Steps p.tables e below (s₁.setTop (entryFrame m #[.ref b, .int (Int32.ofNat o), .ref d, .int (Int32.ofNat q), .int (Int32.ofNat len)] 7)) (T9.setTop (mkF m 46 #[.val (.ref b), .val (.int (Int32.ofNat (o + len))), .val (.ref d), .val (.int (Int32.ofNat (q + len))), .val (.int (Int32.ofNat len)), .val (.int (Int32.ofNat len)), z9] [.int (Int32.ofNat len)])) := g9.trans (by
    refine XS.iload X9.here hexec rfl (hb hbytes d3) rfl ?_
    refine XS.iload X9.here hexec rfl (hb hbytes d5) rfl ?_
    refine XS.icmpYes X9.here hexec rfl (pc0 := 7) rfl (hb hbytes d7) rfl (ii_ge_t (nlt32 (by omega) (Nat.le_refl _))) (by decide) rfl ?_
    refine XS.iload X9.here hexec rfl (hb hbytes d44) rfl ?_
    exact Steps.refl _)
  exact ⟨T9, some (.int (Int32.ofNat len)), _, _, _, X9, by simp, rfl, rfl, (fun h => by cases h), ⟨rfl, B9, p9.from hh0, f9⟩, fun fs hl => c11.trans (X9.ireturnOut hexec hret rfl (Or.inl rfl) (hb hbytes d46) hl)⟩
end Cmp5
namespace Cmp3
def yN : MethodName := ⟨"java/lang/StringUTF16", "compress", "([CII)[B"⟩
abbrev yB : ByteArray := jdk_52_method_16_code
theorem d0 : decode yB 0 = .ok (.iload_n 2, 1) := by decide +kernel
theorem d1 : decode yB 1 = .ok (.newarray .byte, 2) := by decide +kernel
theorem d3 : decode yB 3 = .ok (.astore_n 3, 1) := by decide +kernel
theorem d4 : decode yB 4 = .ok (.aload_n 0, 1) := by decide +kernel
theorem d5 : decode yB 5 = .ok (.iload_n 1, 1) := by decide +kernel
theorem d6 : decode yB 6 = .ok (.aload_n 3, 1) := by decide +kernel
theorem d7 : decode yB 7 = .ok (.iconst 0, 1) := by decide +kernel
theorem d8 : decode yB 8 = .ok (.iload_n 2, 1) := by decide +kernel
theorem d9 : decode yB 9 = .ok (.invokestatic 115, 3) := by decide +kernel
theorem d12 : decode yB 12 = .ok (.istore 4, 2) := by decide +kernel
theorem d14 : decode yB 14 = .ok (.iload 4, 2) := by decide +kernel
theorem d16 : decode yB 16 = .ok (.iload_n 2, 1) := by decide +kernel
theorem d17 : decode yB 17 = .ok (.if_icmp (.eq) 40, 3) := by decide +kernel
theorem d57 : decode yB 57 = .ok (.aload_n 3, 1) := by decide +kernel
theorem d58 : decode yB 58 = .ok (.areturn, 1) := by decide +kernel
def site : List Cond := [.arrayClass .byte, Cmp5.tab] ++ staticW U16 115 Cmp5.yN
def tab : Cond := tabOf yN yB 6 (some (.array .byte)) site
def P (b : Addr) (A : Cell) (o len : Nat) (args : Array Value) (s : State) : Prop := args = #[.ref b, .int (Int32.ofNat o), .int (Int32.ofNat len)] ∧ Ch b A s ∧ o + len ≤ A.slots.size ∧ len ≤ 536870912 ∧ ∀ i, i < len → ¬ 255 < cv A (o + i)
def E (b : Addr) (A : Cell) (o len : Nat) (r : Option Value) (s u : State) : Prop := NewArr .byte "[B" len (fun j => .int (lo8 (cv A (o + j)))) r s u ∧ u.heap.size = s.heap.size + 1
/-- no char of the range above 255: a new byte[] of their low bytes -/
theorem law (l : Launch) (b : Addr) (A : Cell) (o len : Nat) : Law l yN 3 3 1 18 yB 6 (some (.array .byte)) site (P b A o len) (E b A o len) [] 1 len := by
  refine Law.of_walk (plainFor_of_name (by decide +kernel)) (by decide +kernel) (by decide +kernel) (by decide) (fun _ _ h => by rw [h.1]; rfl) (fun _ U U' hal hh h => ⟨h.1, h.2.1.mv hal hh, h.2.2⟩) (fun r U U' V V' h1 hal h2 h => ⟨NewArr.mv r U U' V V' h1 hal h2 h.1, by rw [h1, h2]; exact h.2⟩) ?_
  intro p e s m args below meth c s₁ X0 hexec hbytes hml hret hlk hnm hown hh0 W hP
  obtain ⟨rfl, hA, l1, l2, hp⟩ := hP
  have a31 := hA.1.2.2.2
  have c1 : Steps p.tables e below (s₁.setTop (entryFrame m #[.ref b, .int (Int32.ofNat o), .int (Int32.ofNat len)] 6)) (s₁.setTop (mkF m 0 #[.val (.ref b), .val (.int (Int32.ofNat o)), .val (.int (Int32.ofNat len)), .unset, .unset, .unset] [])) := entry rfl
  have c2 : Steps p.tables e below (s₁.setTop (entryFrame m #[.ref b, .int (Int32.ofNat o), .int (Int32.ofNat len)] 6)) (s₁.setTop (mkF m 1 #[.val (.ref b), .val (.int (Int32.ofNat o)), .val (.int (Int32.ofNat len)), .unset, .unset, .unset] [.int (Int32.ofNat len)])) := c1.trans (by
    refine XS.iloadN X0.here hexec rfl (hb hbytes d0) rfl ?_
    exact Steps.refl _)
  obtain ⟨T3, B3, X3, ba3, bs3, bv3, bh3, bf3, st3⟩ := X0.anew hexec (atype := .byte) (wk W (.arrayClass .byte)) rfl (by show len * 1 ≤ _; omega) (by omega) (g := (mkF m 1 #[.val (.ref b), .val (.int (Int32.ofNat o)), .val (.int (Int32.ofNat len)), .unset, .unset, .unset] [.int (Int32.ofNat len)])) rfl (hb hbytes d1) (rest := []) rfl (Nat.le_refl _) (by show 0 + len ≤ len; omega)
  rw [hh0] at ba3 st3
  have kp3 : XT.Kept s T3 := (XT.Kept.of_eq hh0).push bh3
  have hA3 := hA.keep X3.warmed.alike (kp3 _ _ hA.1.1)
  have hne : b ≠ s.heap.size := hA.1.ne
  have c4 : Steps p.tables e below (s₁.setTop (entryFrame m #[.ref b, .int (Int32.ofNat o), .int (Int32.ofNat len)] 6)) (T3.setTop (mkF m 3 #[.val (.ref b), .val (.int (Int32.ofNat o)), .val (.int (Int32.ofNat len)), .unset, .unset, .unset] [.ref s.heap.size])) := c2.trans (st3 _ (Steps.refl _))
  have c5 : Steps p.tables e below (s₁.setTop (entryFrame m #[.ref b, .int (Int32.ofNat o), .int (Int32.ofNat len)] 6)) (T3.setTop (mkF m 9 #[.val (.ref b), .val (.int (Int32.ofNat o)), .val (.int (Int32.ofNat len)), .val (.ref s.heap.size), .unset, .unset] [.int (Int32.ofNat len), .int 0, .ref s.heap.size, .int (Int32.ofNat o), .ref b])) := c4.trans (by
    refine XS.astoreN X3.here hexec rfl (hb hbytes d3) rfl rfl rfl ?_
    refine XS.aloadN X3.here hexec rfl (hb hbytes d4) rfl rfl ?_
    refine XS.iloadN X3.here hexec rfl (hb hbytes d5) rfl ?_
    refine XS.aloadN X3.here hexec rfl (hb hbytes d6) rfl rfl ?_
    refine iconstV X3.here hexec rfl 0 (hb hbytes d7) (by decide) ?_
    refine XS.iloadN X3.here hexec rfl (hb hbytes d8) rfl ?_
    exact Steps.refl _)
  obtain ⟨v6, T6, X6, E6, g6⟩ := X3.callS hexec (Cmp5.law l b A s.heap.size B3 o 0 len) hown (wks W (staticW U16 115 Cmp5.yN)) (wk W Cmp5.tab) (W := 0) (Nat.le_of_ble_eq_true rfl) (Nat.le_of_ble_eq_true rfl) (Nat.le_refl _) (by show 0 + len + 0 ≤ len; omega) (g := (mkF m 9 #[.val (.ref b), .val (.int (Int32.ofNat o)), .val (.int (Int32.ofNat len)), .val (.ref s.heap.size), .unset, .unset] [.int (Int32.ofNat len), .int (Int32.ofNat 0), .ref s.heap.size, .int (Int32.ofNat o), .ref b])) rfl (by rw [hml]; rfl) c5 (argsL := [.ref b, .int (Int32.ofNat o), .ref s.heap.size, .int (Int32.ofNat 0), .int (Int32.ofNat len)]) (rest := []) rfl rfl (by show 2 * 0 + 0 ≤ _; decide) (hb hbytes d9) (⟨rfl, hA3, ba3, hne, l1, by rw [bs3]; simp, hp⟩)
  obtain ⟨rfl, B6, p6, f6⟩ := E6
  have c7 : Steps p.tables e below (s₁.setTop (entryFrame m #[.ref b, .int (Int32.ofNat o), .int (Int32.ofNat len)] 6)) (T6.setTop (mkF m 12 #[.val (.ref b), .val (.int (Int32.ofNat o)), .val (.int (Int32.ofNat len)), .val (.ref s.heap.size), .unset, .unset] [.int (Int32.ofNat len)])) := g6
  have c8 : Steps p.tables e below (s₁.setTop (entryFrame m #[.ref b, .int (Int32.ofNat o), .int (Int32.ofNat len)] 6)) (T6.setTop (mkF m 58 #[.val (.ref b), .val (.int (Int32.ofNat o)), .val (.int (Int32.ofNat len)), .val (.ref s.heap.size), .val (.int (Int32.ofNat len)), .unset] [.ref s.heap.size])) := c7.trans (by
    refine XS.istore X6.here hexec rfl (hb hbytes d12) rfl rfl ?_
    refine XS.iload X6.here hexec rfl (hb hbytes d14) rfl ?_
    refine XS.iloadN X6.here hexec rfl (hb hbytes d16) rfl ?_
    refine XS.icmpYes X6.here hexec rfl (pc0 := 17) rfl (hb hbytes d17) rfl (ii_eq_t rfl) (by decide) rfl ?_
    refine XS.aloadN X6.here hexec rfl (hb hbytes d57) rfl rfl ?_
    exact Steps.refl _)
  have X8 := X6.wide (L' := []) (cells' := 1) (slots' := len) (fun x hx hlt => by
    simp only [List.nil_append, copyLocs, List.mem_map, List.mem_range] at hx
    obtain ⟨i, -, rfl⟩ := hx
    exact absurd hlt (Nat.lt_irrefl _)) (Nat.le_refl _) (by omega)
  exact ⟨T6, some (.ref s.heap.size), _, _, _, X8, rfl, rfl, rfl, (fun h => by cases h), ⟨⟨rfl, B6, ba3.like (X3.warmed.alike.symm.trans X6.warmed.alike) p6.1 f6.1 f6.2.1 f6.2.2.1, f6.2.1.trans bv3, by rw [X6.warmed.alike.findClass, f6.1]; exact bf3, by rw [f6.2.2.1, bs3]; simp, fun j hj => by rw [f6.2.2.2 j, if_pos (by omega)]; rfl, kp3.put p6 (Nat.le_refl _)⟩, by rw [p6.2.2, bh3, hh0]; simp⟩, fun fs hl => c8.trans (X8.areturnOut hexec rfl hret rfl (hb hbytes d58) hl)⟩
end Cmp3
namespace CodL
def yN : MethodName := ⟨"java/lang/StringUTF16", "coderFromArrayLen", "([BI)B"⟩
abbrev yB : ByteArray := jdk_52_method_15_code
theorem d0 : decode yB 0 = .ok (.iload_n 1, 1) := by decide +kernel
theorem d1 : decode yB 1 = .ok (.aload_n 0, 1) := by decide +kernel
theorem d2 : decode yB 2 = .ok (.arraylength, 1) := by decide +kernel
theorem d3 : decode yB 3 = .ok (.isub, 1) := by decide +kernel
theorem d4 : decode yB 4 = .ok (.bipush 31, 2) := by decide +kernel
theorem d6 : decode yB 6 = .ok (.iushr, 1) := by decide +kernel
theorem d7 : decode yB 7 = .ok (.i2b, 1) := by decide +kernel
theorem d8 : decode yB 8 = .ok (.ireturn, 1) := by decide +kernel
def site : List Cond := []
def tab : Cond := tabOf yN yB 2 (some .byte) site
def P (d : Addr) (B : Cell) (args : Array Value) (s : State) : Prop := args = #[.ref d, .int (Int32.ofNat B.slots.size)] ∧ Arr .byte d B s
def E (r : Option Value) (s u : State) : Prop := XT.PureE (some (.int 0)) r s u
/-- an array as long as the number of chars: LATIN1 -/
theorem law (l : Launch) (d : Addr) (B : Cell) : Law l yN 2 2 0 0 yB 2 (some .byte) site (P d B) E [] 0 0 := by
  refine Law.of_walk (plainFor_of_name (by decide +kernel)) (by decide +kernel) (by decide +kernel) (by decide) (fun _ _ h => by rw [h.1]; rfl) (fun _ U U' hal hh h => ⟨h.1, h.2.mv hal hh⟩) (fun r U U' V V' h1 hal h2 h => XT.PureE.mv r U U' V V' h1 hal h2 h) ?_
  intro p e s m args below meth c s₁ X0 hexec hbytes hml hret hlk hnm hown hh0 W hP
  obtain ⟨rfl, hB⟩ := hP
  have hB0 := hB.mv X0.warmed.alike hh0
  have c1 : Steps p.tables e below (s₁.setTop (entryFrame m #[.ref d, .int (Int32.ofNat B.slots.size)] 2)) (s₁.setTop (mkF m 0 #[.val (.ref d), .val (.int (Int32.ofNat B.slots.size))] [])) := entry rfl
  have c2 : Steps p.tables e below (s₁.setTop (entryFrame m #[.ref d, .int (Int32.ofNat B.slots.size)] 2)) (s₁.setTop (mkF m 2 #[.val (.ref d), .val (.int (Int32.ofNat B.slots.size))] [.ref d, .int (Int32.ofNat B.slots.size)])) := c1.trans (by
    refine XS.iloadN X0.here hexec rfl (hb hbytes d0) rfl ?_
    refine XS.aloadN X0.here hexec rfl (hb hbytes d1) rfl rfl ?_
    exact Steps.refl _)
  have c3 : Steps p.tables e below (s₁.setTop (entryFrame m #[.ref d, .int (Int32.ofNat B.slots.size)] 2)) (s₁.setTop (mkF m 8 #[.val (.ref d), .val (.int (Int32.ofNat B.slots.size))] [.int (lo8 (ushr (Int32.ofNat B.slots.size - Int32.ofNat B.slots.size) 31))])) := c2.trans (by
    refine X0.alen hexec hB0 rfl rfl (hb hbytes d2) ?_
    refine XS.isub X0.here hexec rfl (hb hbytes d3) rfl ?_
    refine bipushV X0.here hexec rfl 31 (hb hbytes d4) (by decide) ?_
    refine iushr X0.here hexec rfl (hb hbytes d6) rfl ?_
    refine i2b X0.here hexec rfl (hb hbytes d7) rfl ?_
    exact Steps.refl _)
  have e0 : lo8 (ushr (Int32.ofNat B.slots.size - Int32.ofNat B.slots.size) 31) = 0 := by rw [Int32.sub_self]; decide
  rw [e0] at c3
  exact ⟨s₁, some (.int 0), _, _, _, X0, rfl, rfl, rfl, (fun h => by cases h), ⟨rfl, hh0⟩, fun fs hl => c3.trans (X0.ireturnOut hexec hret rfl (Or.inr (Or.inr (Or.inl rfl))) (hb hbytes d8) hl)⟩
end CodL
/-- the String at a is Latin-1 over a new byte[] (the heap's one new cell): the low bytes of the len chars of A from o on; every cell but a is kept -/
def Got (a : Addr) (D : Cell) (fV fC : Field) (A : Cell) (o len : Nat) (r : Option Value) (s u : State) : Prop := r = none ∧ ∃ D' V : Cell, Blank "java/lang/String" a D' u ∧ Same D D' [fV.slot, fC.slot] ∧ D'.slots[fV.slot]? = some (.ref s.heap.size) ∧ D'.slots[fC.slot]? = some (.int 0) ∧ Arr .byte s.heap.size V u ∧ V.vm = .none ∧ u.vm.findClass "[B" = some V.cls ∧ V.slots.size = len ∧ (∀ j, j < len → V.slots[j]? = some (.int (lo8 (cv A (o + j))))) ∧ (∀ (y : Addr) (c : Cell), y ≠ a → s.heap[y]? = some c → u.heap[y]? = some c) ∧ u.heap.size = s.heap.size + 1
theorem Got.mv {a : Addr} {D A : Cell} {fV fC : Field} {o len : Nat} : ∀ r (U U' V V' : State), U'.heap = U.heap → V.vm.Alike V'.vm → V'.heap = V.heap → Got a D fV fC A o len r U V → Got a D fV fC A o len r U' V' :=
  fun r U U' V V' h1 hal h2 ⟨e0, D', X, a1, a2, a3, a4, a5, a6, a7, a8, a9, a10, a11⟩ => ⟨e0, D', X, a1.mv hal h2, a2, by rw [h1]; exact a3, a4, by rw [h1]; exact a5.mv hal h2, a6, by rw [hal.findClass]; exact a7, a8, a9, by rw [h1, h2]; exact a10, by rw [h1, h2]; exact a11⟩
namespace New4
def yN : MethodName := ⟨"java/lang/String", "<init>", "([CIILjava/lang/Void;)V"⟩
abbrev yB : ByteArray := jdk_42_method_149_code
theorem d0 : decode yB 0 = .ok (.aload_n 0, 1) := by decide +kernel
theorem d1 : decode yB 1 = .ok (.invokespecial 1, 3) := by decide +kernel
theorem d4 : decode yB 4 = .ok (.iload_n 3, 1) := by decide +kernel
theorem d5 : decode yB 5 = .ok (.ifCond (.ne) 22, 3) := by decide +kernel
theorem d27 : decode yB 27 = .ok (.getstatic 38, 3) := by decide +kernel
theorem d30 : decode yB 30 = .ok (.ifCond (.eq) 28, 3) := by decide +kernel
theorem d33 : decode yB 33 = .ok (.aload_n 1, 1) := by decide +kernel
theorem d34 : decode yB 34 = .ok (.iload_n 2, 1) := by decide +kernel
theorem d35 : decode yB 35 = .ok (.iload_n 3, 1) := by decide +kernel
theorem d36 : decode yB 36 = .ok (.invokestatic 177, 3) := by decide +kernel
theorem d39 : decode yB 39 = .ok (.astore 5, 2) := by decide +kernel
theorem d41 : decode yB 41 = .ok (.aload_n 0, 1) := by decide +kernel
theorem d42 : decode yB 42 = .ok (.aload 5, 2) := by decide +kernel
theorem d44 : decode yB 44 = .ok (.iload_n 3, 1) := by decide +kernel
theorem d45 : decode yB 45 = .ok (.invokestatic 47, 3) := by decide +kernel
theorem d48 : decode yB 48 = .ok (.putfield 15, 3) := by decide +kernel
theorem d51 : decode yB 51 = .ok (.aload_n 0, 1) := by decide +kernel
theorem d52 : decode yB 52 = .ok (.aload 5, 2) := by decide +kernel
theorem d54 : decode yB 54 = .ok (.putfield 9, 3) := by decide +kernel
theorem d57 : decode yB 57 = .ok (.return_, 1) := by decide +kernel
def site : List Cond := [.fieldLink "java/lang/String" 38 "java/lang/String" "COMPACT_STRINGS" "Z", Cmp3.tab, CodL.tab, .laysFinal "java/lang/String" "java/lang/String" "value" "[B", .fieldLink "java/lang/String" 9 "java/lang/String" "value" "[B", .laysFinal "java/lang/String" "java/lang/String" "coder" "B", .fieldLink "java/lang/String" 15 "java/lang/String" "coder" "B"] ++ objW "java/lang/String" 1 ++ staticW "java/lang/String" 177 Cmp3.yN ++ staticW "java/lang/String" 47 CodL.yN
def tab : Cond := tabOf yN yB 6 none site
def P (a : Addr) (D : Cell) (fV fC : Field) (b : Addr) (A : Cell) (z : Int32) (o len : Nat) (args : Array Value) (s : State) : Prop := args = #[.ref a, .ref b, .int (Int32.ofNat o), .int (Int32.ofNat len), .null] ∧ Blank "java/lang/String" a D s ∧ Found "java/lang/String" "value" "[B" fV s ∧ Found "java/lang/String" "coder" "B" fC s ∧ Ch b A s ∧ StaticIs s "java/lang/String" "COMPACT_STRINGS" "Z" (.int z) ∧ ¬ z = 0 ∧ 0 < len ∧ o + len ≤ A.slots.size ∧ len ≤ 536870912 ∧ ∀ i, i < len → ¬ 255 < cv A (o + i)
def E (a : Addr) (D : Cell) (fV fC : Field) (A : Cell) (o len : Nat) (r : Option Value) (s u : State) : Prop := Got a D fV fC A o len r s u
/-- len > 0, no char of the range above 255: a Latin-1 String of their low bytes -/
theorem law (l : Launch) (a : Addr) (D : Cell) (fV fC : Field) (b : Addr) (A : Cell) (z : Int32) (o len : Nat) : Law l yN 5 4 2 35 yB 6 none site (P a D fV fC b A z o len) (E a D fV fC A o len) [⟨a, fC.slot⟩, ⟨a, fV.slot⟩] 1 len := by
  refine Law.of_walk (plainFor_of_name (by decide +kernel)) (by decide +kernel) (by decide +kernel) (by decide) (fun _ _ h => by rw [h.1]; rfl) (fun _ U U' hal hh h => ⟨h.1, h.2.1.mv hal hh, h.2.2.1.al hal, h.2.2.2.1.al hal, h.2.2.2.2.1.mv hal hh, h.2.2.2.2.2.1.there hal hh, h.2.2.2.2.2.2⟩) (fun r U U' V V' h1 hal h2 h => Got.mv r U U' V V' h1 hal h2 h) ?_
  intro p e s m args below meth c s₁ X0 hexec hbytes hml hret hlk hnm hown hh0 W hP
  obtain ⟨rfl, hB, f1, f2, hA, s1, hz, l0, l1, l2, hp⟩ := hP
  have a31 := hA.1.2.2.2
  have c1 : Steps p.tables e below (s₁.setTop (entryFrame m #[.ref a, .ref b, .int (Int32.ofNat o), .int (Int32.ofNat len), .null] 6)) (s₁.setTop (mkF m 0 #[.val (.ref a), .val (.ref b), .val (.int (Int32.ofNat o)), .val (.int (Int32.ofNat len)), .val .null, .unset] [])) := entry rfl
  have c2 : Steps p.tables e below (s₁.setTop (entryFrame m #[.ref a, .ref b, .int (Int32.ofNat o), .int (Int32.ofNat len), .null] 6)) (s₁.setTop (mkF m 1 #[.val (.ref a), .val (.ref b), .val (.int (Int32.ofNat o)), .val (.int (Int32.ofNat len)), .val .null, .unset] [.ref a])) := c1.trans (by
    refine XS.aloadN X0.here hexec rfl (hb hbytes d0) rfl rfl ?_
    exact Steps.refl _)
  obtain ⟨T3, X3, q3, st3⟩ := X0.oinit hexec hown (wks W (objW "java/lang/String" 1)) (g := (mkF m 1 #[.val (.ref a), .val (.ref b), .val (.int (Int32.ofNat o)), .val (.int (Int32.ofNat len)), .val .null, .unset] [.ref a])) rfl (by rw [hml]; rfl) (rest := []) rfl (hb hbytes d1) (W := 0) (by show 2 * 0 + 0 ≤ _; decide) (Nat.le_of_ble_eq_true rfl) (Nat.le_of_ble_eq_true rfl)
  have hh3 := q3.trans hh0
  have c4 : Steps p.tables e below (s₁.setTop (entryFrame m #[.ref a, .ref b, .int (Int32.ofNat o), .int (Int32.ofNat len), .null] 6)) (T3.setTop (mkF m 27 #[.val (.ref a), .val (.ref b), .val (.int (Int32.ofNat o)), .val (.int (Int32.ofNat len)), .val .null, .unset] [])) := (c2.trans (st3 _ (Steps.refl _))).trans (by
    refine XS.iloadN X3.here hexec rfl (hb hbytes d4) rfl ?_
    refine XS.ifYes X3.here hexec rfl (pc0 := 5) rfl (hb hbytes d5) rfl (i0_ne_t (nz32 (by omega) l0)) (by decide) rfl ?_
    exact Steps.refl _)
  obtain ⟨T5, X5, q5, st5⟩ := X3.sget hexec hown (wk W (.fieldLink "java/lang/String" 38 "java/lang/String" "COMPACT_STRINGS" "Z")) s1 (fun _ _ h => by rw [hh3]; exact h) (g := (mkF m 27 #[.val (.ref a), .val (.ref b), .val (.int (Int32.ofNat o)), .val (.int (Int32.ofNat len)), .val .null, .unset] [])) rfl (hb hbytes d27)
  have hh5 := q5.trans hh3
  have c6 : Steps p.tables e below (s₁.setTop (entryFrame m #[.ref a, .ref b, .int (Int32.ofNat o), .int (Int32.ofNat len), .null] 6)) (T5.setTop (mkF m 30 #[.val (.ref a), .val (.ref b), .val (.int (Int32.ofNat o)), .val (.int (Int32.ofNat len)), .val .null, .unset] [.int z])) := c4.trans (st5 _ (Steps.refl _))
  have c7 : Steps p.tables e below (s₁.setTop (entryFrame m #[.ref a, .ref b, .int (Int32.ofNat o), .int (Int32.ofNat len), .null] 6)) (T5.setTop (mkF m 36 #[.val (.ref a), .val (.ref b), .val (.int (Int32.ofNat o)), .val (.int (Int32.ofNat len)), .val .null, .unset] [.int (Int32.ofNat len), .int (Int32.ofNat o), .ref b])) := c6.trans (by
    refine XS.ifNo X5.here hexec rfl (hb hbytes d30) rfl (i0_eq_f hz) ?_
    refine XS.aloadN X5.here hexec rfl (hb hbytes d33) rfl rfl ?_
    refine XS.iloadN X5.here hexec rfl (hb hbytes d34) rfl ?_
    refine XS.iloadN X5.here hexec rfl (hb hbytes d35) rfl ?_
    exact Steps.refl _)
  obtain ⟨v8, T8, X8, E8, g8⟩ := X5.callS hexec (Cmp3.law l b A o len) hown (wks W (staticW "java/lang/String" 177 Cmp3.yN)) (wk W Cmp3.tab) (W := 0) (Nat.le_of_ble_eq_true rfl) (Nat.le_of_ble_eq_true rfl) (Nat.le_refl _) (by show 0 + len ≤ len; omega) (g := (mkF m 36 #[.val (.ref a), .val (.ref b), .val (.int (Int32.ofNat o)), .val (.int (Int32.ofNat len)), .val .null, .unset] [.int (Int32.ofNat len), .int (Int32.ofNat o), .ref b])) rfl (by rw [hml]; rfl) c7 (argsL := [.ref b, .int (Int32.ofNat o), .int (Int32.ofNat len)]) (rest := []) rfl rfl (by show 2 * 0 + 0 ≤ _; decide) (hb hbytes d36) (⟨rfl, hA.mv X5.warmed.alike hh5, l1, l2, hp⟩)
  obtain ⟨e8, z8⟩ := E8
  obtain ⟨rfl, N, n1, n2, n3, n4, n5, n6⟩ := NewArr.mv _ T5 s _ _ hh5.symm (Vm.Alike.refl _) rfl e8
  rw [hh5] at z8
  have hB1 := hB.keep X8.warmed.alike (n6 _ _ hB.1)
  have hne : s.heap.size ≠ a := (Nat.ne_of_lt (Array.getElem?_eq_some_iff.mp hB.1).1).symm
  have c9 : Steps p.tables e below (s₁.setTop (entryFrame m #[.ref a, .ref b, .int (Int32.ofNat o), .int (Int32.ofNat len), .null] 6)) (T8.setTop (mkF m 39 #[.val (.ref a), .val (.ref b), .val (.int (Int32.ofNat o)), .val (.int (Int32.ofNat len)), .val .null, .unset] [.ref s.heap.size])) := g8
  have c10 : Steps p.tables e below (s₁.setTop (entryFrame m #[.ref a, .ref b, .int (Int32.ofNat o), .int (Int32.ofNat len), .null] 6)) (T8.setTop (mkF m 45 #[.val (.ref a), .val (.ref b), .val (.int (Int32.ofNat o)), .val (.int (Int32.ofNat len)), .val .null, .val (.ref s.heap.size)] [.int (Int32.ofNat N.slots.size), .ref s.heap.size, .ref a])) := by
    have hc : Steps p.tables e below (s₁.setTop (entryFrame m #[.ref a, .ref b, .int (Int32.ofNat o), .int (Int32.ofNat len), .null] 6)) (T8.setTop (mkF m 45 #[.val (.ref a), .val (.ref b), .val (.int (Int32.ofNat o)), .val (.int (Int32.ofNat len)), .val .null, .val (.ref s.heap.size)] [.int (Int32.ofNat len), .ref s.heap.size, .ref a])) := c9.trans (by
      refine XS.astore X8.here hexec rfl (hb hbytes d39) rfl rfl rfl ?_
      refine XS.aloadN X8.here hexec rfl (hb hbytes d41) rfl rfl ?_
      refine XS.aload X8.here hexec rfl (hb hbytes d42) rfl rfl ?_
      refine XS.iloadN X8.here hexec rfl (hb hbytes d44) rfl ?_
      exact Steps.refl _)
    rw [n4]; exact hc
  obtain ⟨v11, T11, X11, E11, g11⟩ := X8.callS hexec (CodL.law l s.heap.size N) hown (wks W (staticW "java/lang/String" 47 CodL.yN)) (wk W CodL.tab) (W := 1) (Nat.le_of_ble_eq_true rfl) (Nat.le_of_ble_eq_true rfl) (Nat.le_refl _) (by show 0 + len + 0 ≤ len; omega) (g := (mkF m 45 #[.val (.ref a), .val (.ref b), .val (.int (Int32.ofNat o)), .val (.int (Int32.ofNat len)), .val .null, .val (.ref s.heap.size)] [.int (Int32.ofNat N.slots.size), .ref s.heap.size, .ref a])) rfl (by rw [hml]; rfl) c10 (argsL := [.ref s.heap.size, .int (Int32.ofNat N.slots.size)]) (rest := [.ref a]) rfl rfl (by show 2 * 0 + (1 + 0) ≤ _; decide) (hb hbytes d45) (⟨rfl, n1⟩)
  obtain ⟨rfl, q11⟩ := E11
  have hB11 := hB1.mv (X8.warmed.alike.symm.trans X11.warmed.alike) q11
  have c12 : Steps p.tables e below (s₁.setTop (entryFrame m #[.ref a, .ref b, .int (Int32.ofNat o), .int (Int32.ofNat len), .null] 6)) (T11.setTop (mkF m 48 #[.val (.ref a), .val (.ref b), .val (.int (Int32.ofNat o)), .val (.int (Int32.ofNat len)), .val .null, .val (.ref s.heap.size)] [.int 0, .ref a])) := g11
  obtain ⟨T13, X13, p13, bl13, sl13, st13⟩ := X11.finit hexec hown (wk W (.fieldLink "java/lang/String" 15 "java/lang/String" "coder" "B")) (Or.inr ⟨_, (wk W (.laysFinal "java/lang/String" "java/lang/String" "coder" "B"))⟩) (Or.inl ⟨rfl, hnm⟩) f2 (Or.inl rfl) hB11 (t := .byte) (by decide +kernel) rfl (g := (mkF m 48 #[.val (.ref a), .val (.ref b), .val (.int (Int32.ofNat o)), .val (.int (Int32.ofNat len)), .val .null, .val (.ref s.heap.size)] [.int 0, .ref a])) rfl (rest := []) rfl (hb hbytes d48)
  have c14 : Steps p.tables e below (s₁.setTop (entryFrame m #[.ref a, .ref b, .int (Int32.ofNat o), .int (Int32.ofNat len), .null] 6)) (T13.setTop (mkF m 54 #[.val (.ref a), .val (.ref b), .val (.int (Int32.ofNat o)), .val (.int (Int32.ofNat len)), .val .null, .val (.ref s.heap.size)] [.ref s.heap.size, .ref a])) := (c12.trans (st13 _ (Steps.refl _))).trans (by
    refine XS.aloadN X13.here hexec rfl (hb hbytes d51) rfl rfl ?_
    refine XS.aload X13.here hexec rfl (hb hbytes d52) rfl rfl ?_
    exact Steps.refl _)
  obtain ⟨T15, X15, p15, bl15, sl15, st15⟩ := X13.finit hexec hown (wk W (.fieldLink "java/lang/String" 9 "java/lang/String" "value" "[B")) (Or.inr ⟨_, (wk W (.laysFinal "java/lang/String" "java/lang/String" "value" "[B"))⟩) (Or.inl ⟨rfl, hnm⟩) f1 (Or.inl rfl) bl13 (t := (.array .byte)) (by decide +kernel) rfl (g := (mkF m 54 #[.val (.ref a), .val (.ref b), .val (.int (Int32.ofNat o)), .val (.int (Int32.ofNat len)), .val .null, .val (.ref s.heap.size)] [.ref s.heap.size, .ref a])) rfl (rest := []) rfl (hb hbytes d54)
  have c16 : Steps p.tables e below (s₁.setTop (entryFrame m #[.ref a, .ref b, .int (Int32.ofNat o), .int (Int32.ofNat len), .null] 6)) (T15.setTop (mkF m 57 #[.val (.ref a), .val (.ref b), .val (.int (Int32.ofNat o)), .val (.int (Int32.ofNat len)), .val .null, .val (.ref s.heap.size)] [])) := c14.trans (st15 _ (Steps.refl _))
  have ap := apart (Or.inr ⟨_, (wk W (.laysFinal "java/lang/String" "java/lang/String" "value" "[B"))⟩) (Or.inr ⟨_, (wk W (.laysFinal "java/lang/String" "java/lang/String" "coder" "B"))⟩) f1 f2 (t₁ := .array .byte) (t₂ := .byte) (by decide +kernel) (by decide +kernel) (by decide)
  have al := X8.warmed.alike.symm.trans X15.warmed.alike
  have n7 : T11.heap[s.heap.size]? = some N := by rw [q11]; exact n1.1
  exact ⟨T15, none, _, _, _, X15, by simp, rfl, by omega, (fun _ => rfl), ⟨rfl, _, N, bl15, ((Same.refl D _).set _ (by simp)).set _ (by simp), sl15, (Cell.slots_setSlot_ne _ ap).trans sl13, n1.keep al (p15.other hne (p13.other hne n7)), n2, by rw [al.findClass]; exact n3, n4, n5, fun y c h1 h2 => p15.other h1 (p13.other h1 (by rw [q11]; exact n6 y c h2)), by rw [p15.2.2, p13.2.2, q11]; exact z8⟩, fun fs hl => c16.trans (X15.returnOut hexec hret (hb hbytes d57) hl)⟩
end New4
namespace New1
def yN : MethodName := ⟨"java/lang/String", "<init>", "([C)V"⟩
abbrev yB : ByteArray := jdk_42_method_3_code
theorem d0 : decode yB 0 = .ok (.aload_n 0, 1) := by decide +kernel
theorem d1 : decode yB 1 = .ok (.aload_n 1, 1) := by decide +kernel
theorem d2 : decode yB 2 = .ok (.iconst 0, 1) := by decide +kernel
theorem d3 : decode yB 3 = .ok (.aload_n 1, 1) := by decide +kernel
theorem d4 : decode yB 4 = .ok (.arraylength, 1) := by decide +kernel
theorem d5 : decode yB 5 = .ok (.aconst_null, 1) := by decide +kernel
theorem d6 : decode yB 6 = .ok (.invokespecial 27, 3) := by decide +kernel
theorem d9 : decode yB 9 = .ok (.return_, 1) := by decide +kernel
def site : List Cond := [New4.tab] ++ initW "java/lang/String" 27 New4.yN
def tab : Cond := tabOf yN yB 2 none site
def P (a : Addr) (D : Cell) (fV fC : Field) (b : Addr) (A : Cell) (z : Int32) (args : Array Value) (s : State) : Prop := args = #[.ref a, .ref b] ∧ Blank "java/lang/String" a D s ∧ Found "java/lang/String" "value" "[B" fV s ∧ Found "java/lang/String" "coder" "B" fC s ∧ Ch b A s ∧ StaticIs s "java/lang/String" "COMPACT_STRINGS" "Z" (.int z) ∧ ¬ z = 0 ∧ 0 < A.slots.size ∧ A.slots.size ≤ 536870912 ∧ ∀ i, i < A.slots.size → ¬ 255 < cv A i
def E (a : Addr) (D : Cell) (fV fC : Field) (A : Cell) (r : Option Value) (s u : State) : Prop := Got a D fV fC A 0 A.slots.size r s u
/-- new String(chars), not empty, no char above 255: a Latin-1 String of their low bytes -/
theorem law (l : Launch) (a : Addr) (D : Cell) (fV fC : Field) (b : Addr) (A : Cell) (z : Int32) : Law l yN 2 1 3 52 yB 2 none site (P a D fV fC b A z) (E a D fV fC A) [⟨a, fC.slot⟩, ⟨a, fV.slot⟩] 1 A.slots.size := by
  refine Law.of_walk (plainFor_of_name (by decide +kernel)) (by decide +kernel) (by decide +kernel) (by decide) (fun _ _ h => by rw [h.1]; rfl) (fun _ U U' hal hh h => ⟨h.1, h.2.1.mv hal hh, h.2.2.1.al hal, h.2.2.2.1.al hal, h.2.2.2.2.1.mv hal hh, h.2.2.2.2.2.1.there hal hh, h.2.2.2.2.2.2⟩) (fun r U U' V V' h1 hal h2 h => Got.mv r U U' V V' h1 hal h2 h) ?_
  intro p e s m args below meth c s₁ X0 hexec hbytes hml hret hlk hnm hown hh0 W hP
  obtain ⟨rfl, hB, f1, f2, hA, s1, hz, l0, l2, hp⟩ := hP
  have c1 : Steps p.tables e below (s₁.setTop (entryFrame m #[.ref a, .ref b] 2)) (s₁.setTop (mkF m 0 #[.val (.ref a), .val (.ref b)] [])) := entry rfl
  have c2 : Steps p.tables e below (s₁.setTop (entryFrame m #[.ref a, .ref b] 2)) (s₁.setTop (mkF m 6 #[.val (.ref a), .val (.ref b)] [.null, .int (Int32.ofNat A.slots.size), .int 0, .ref b, .ref a])) := c1.trans (by
    refine XS.aloadN X0.here hexec rfl (hb hbytes d0) rfl rfl ?_
    refine XS.aloadN X0.here hexec rfl (hb hbytes d1) rfl rfl ?_
    refine iconstV X0.here hexec rfl 0 (hb hbytes d2) (by decide) ?_
    refine XS.aloadN X0.here hexec rfl (hb hbytes d3) rfl rfl ?_
    refine X0.alen hexec (hA.1.mv X0.warmed.alike hh0) rfl rfl (hb hbytes d4) ?_
    refine XS.aconstNull X0.here hexec rfl (hb hbytes d5) ?_
    exact Steps.refl _)
  obtain ⟨v3, T3, X3, E3, g3⟩ := X0.callN hexec (New4.law l a D fV fC b A z 0 A.slots.size) rfl hown (wks W (initW "java/lang/String" 27 New4.yN)) (W New4.tab (by simp only [site, List.mem_cons, List.mem_append, true_or, or_true])) (W := 0) (Nat.le_of_ble_eq_true rfl) (Nat.le_of_ble_eq_true rfl) (Nat.le_refl _) (by show 0 + A.slots.size ≤ A.slots.size; omega) (g := (mkF m 6 #[.val (.ref a), .val (.ref b)] [.null, .int (Int32.ofNat A.slots.size), .int (Int32.ofNat 0), .ref b, .ref a])) rfl (by rw [hml]; rfl) c2 (argsL := [.ref b, .int (Int32.ofNat 0), .int (Int32.ofNat A.slots.size), .null]) (rest := []) rfl rfl (by show 2 * 0 + 0 ≤ _; decide) (hb hbytes d6) (⟨rfl, hB.mv X0.warmed.alike hh0, f1.al X0.warmed.alike, f2.al X0.warmed.alike, hA.mv X0.warmed.alike hh0, s1.there X0.warmed.alike hh0, hz, l0, by omega, l2, fun i hi => by rw [Nat.zero_add]; exact hp i hi⟩)
  have e0 := Got.mv _ s₁ s _ _ hh0.symm (Vm.Alike.refl _) rfl E3
  obtain rfl := e0.1
  have c4 : Steps p.tables e below (s₁.setTop (entryFrame m #[.ref a, .ref b] 2)) (T3.setTop (mkF m 9 #[.val (.ref a), .val (.ref b)] [])) := g3
  exact ⟨T3, none, _, _, _, X3, by simp, rfl, by omega, (fun _ => rfl), e0, fun fs hl => c4.trans (X3.returnOut hexec hret (hb hbytes d9) hl)⟩
theorem pays {l : Launch} {R : Room} {p : Program} {e : Env} {below : List Frame} {s : State} {sargs : Array Value} {len W : Nat} (a : Addr) (D : Cell) (fV fC : Field) (b : Addr) (A : Cell) (z : Int32) (htab : tab.before sargs s = true) (hfr : 4 ≤ R.frames) (hlo : W + 65 ≤ R.locals) :
    Back l R p e below s sargs yN len W (fun A₁ a₁ => A₁.cells + 1 ≤ R.cells ∧ A₁.slots + A.slots.size ≤ R.slots ∧ P a D fV fC b A z a₁ A₁.U) (fun A₁ _ v₁ B₁ => E a D fV fC A v₁ A₁.U B₁.U ∧ B₁.locs = A₁.locs ++ [⟨a, fC.slot⟩, ⟨a, fV.slot⟩] ∧ B₁.cells = A₁.cells + 1 ∧ B₁.slots = A₁.slots + A.slots.size) :=
  (law l a D fV fC b A z).pays htab hfr (by omega)
end New1
end StrChars
namespace StrChars.Road
open Jvm Sem ClassFile Op Lib Jvm.Stand Jvm.Free Jvm.Free.XT
open Jvm.Lib.Cold (StaticIs)
abbrev ST : String := "java/lang/String"
/-- every table word that New1's law asks, flat -/
abbrev words : List Jvm.Cond := [.code New1.yN New1.yB 2 none, .initialized ST, .methodLink ST 27 New4.yN, .instanceMethod New4.yN,
  .code New4.yN New4.yB 6 none, .fieldLink ST 38 ST "COMPACT_STRINGS" "Z", .laysFinal ST ST "value" "[B", .fieldLink ST 9 ST "value" "[B", .laysFinal ST ST "coder" "B", .fieldLink ST 15 ST "coder" "B",
  .methodLink ST 1 Lib.objectInit, .instanceMethod Lib.objectInit, .code Lib.objectInit ⟨#[0xb1]⟩ 1 none, .methodLink ST 177 Cmp3.yN, .static Cmp3.yN, .methodLink ST 47 CodL.yN, .static CodL.yN,
  .code Cmp3.yN Cmp3.yB 6 (some (.array .byte)), .initialized U16, .arrayClass .byte, .methodLink U16 115 Cmp5.yN, .static Cmp5.yN, .code Cmp5.yN Cmp5.yB 7 (some .int), .code CodL.yN CodL.yB 2 (some .byte)]
theorem tab_of {a : Array Value} {s : State} (h : ∀ w ∈ words, w.before a s = true) : New1.tab.before a s = true := by
  have h5 : Cmp5.tab.before a s = true := unparts (wk h (.code Cmp5.yN Cmp5.yB 7 (some .int))) (wks h (.initialized Cmp5.yN.cls :: Cmp5.site))
  have hc : CodL.tab.before a s = true := unparts (wk h (.code CodL.yN CodL.yB 2 (some .byte))) (wks h (.initialized CodL.yN.cls :: CodL.site))
  have q5 : ∀ w ∈ Cmp5.tab :: words, w.before a s = true := fun w hw => (List.mem_cons.mp hw).elim (fun e => e ▸ h5) (h w)
  have h3 : Cmp3.tab.before a s = true := unparts (wk q5 (.code Cmp3.yN Cmp3.yB 6 (some (.array .byte)))) (wks q5 (.initialized Cmp3.yN.cls :: Cmp3.site))
  have q3 : ∀ w ∈ Cmp3.tab :: CodL.tab :: words, w.before a s = true := fun w hw => (List.mem_cons.mp hw).elim (fun e => e ▸ h3) fun hw => (List.mem_cons.mp hw).elim (fun e => e ▸ hc) (h w)
  have h4 : New4.tab.before a s = true := unparts (wk q3 (.code New4.yN New4.yB 6 none)) (wks q3 (.initialized New4.yN.cls :: New4.site))
  have q4 : ∀ w ∈ New4.tab :: words, w.before a s = true := fun w hw => (List.mem_cons.mp hw).elim (fun e => e ▸ h4) (h w)
  exact unparts (wk q4 (.code New1.yN New1.yB 2 none)) (wks q4 (.initialized New1.yN.cls :: New1.site))
/-- the words ride from the start Z to the walk's own state -/
theorem moved {Z s : State} {a0 args : Array Value} (hZ : Z.Warmed39 s.vm) (hw : ∀ d ∈ words, d.before a0 Z = true) : ∀ d ∈ words, d.before args s = true := fun d hd => by
  have q := hw d hd
  have t : ∀ d ∈ words, d = .arrayClass .byte ∨ (d.onTables && d.keepsFace) = true := by decide +kernel
  rcases t d hd with rfl | t
  · exact RoadKit.mvA hZ q
  · exact RoadKit.mv hZ q t
/-- WHAT COMES BACK, over the tables of the start Z: h the heap at the call, h' behind it -/
def Q (Z : State) (x : Addr) (A : Cell) (h : Heap) (v : Option Value) (h' : Heap) (L : List Loc) : Prop := v = none ∧ (∀ y ∈ L, y.base = x) ∧ RoadKit.Keep h h' [x] ∧ h'.size = h.size + 1 ∧ RoadKit.Exa Z h' x ST ∧ RoadKit.Fld Z h' x ST "value" "[B" (.ref h.size) ∧ RoadKit.Fld Z h' x ST "coder" "B" (.int 0) ∧
  (∃ V : Cell, RoadKit.Arr Z h' h.size V .byte ∧ V.vm = .none ∧ Z.vm.findClass "[B" = some V.cls ∧ V.slots.size = A.slots.size ∧ ∀ j, j < A.slots.size → V.slots[j]? = some (.int (lo8 (cv A j)))) ∧
  ∀ (O n d : String) (w : Value), RoadKit.Fld Z h x O n d w → RoadKit.slotOf Z O n d ≠ RoadKit.slotOf Z ST "value" "[B" → RoadKit.slotOf Z O n d ≠ RoadKit.slotOf Z ST "coder" "B" → RoadKit.Fld Z h' x O n d w
/-- **new String(chars) AT A CALL, IN THE ROAD'S FORM**: for specialBack behind newO: x the fresh String, b the char[] with the cell A -/
theorem back {p : Program} {l : Launch} {e : Env} {R : Room} {s : State} {args : Array Value} {below : List Frame} {len W : Nat} {Z : State} {a0 : Array Value} {h : Heap} (hZ : Z.Warmed39 s.vm) (hw : ∀ d ∈ words, d.before a0 Z = true) {kI : Nat} (wi : (Jvm.Cond.instantiable ST kI).before a0 Z = true)
    {x b : Addr} {A : Cell} {z : Int32} {v0 c0 : Value} (E : RoadKit.Exa Z h x ST) (V : RoadKit.Fld Z h x ST "value" "[B" v0) (C : RoadKit.Fld Z h x ST "coder" "B" c0) (K : RoadKit.Arr Z h b A .char) (hty : Typed .char A) (S : RoadKit.Sta Z h ST "COMPACT_STRINGS" "Z" (.int z)) (hz : ¬ z = 0)
    (l0 : 0 < A.slots.size) (l2 : A.slots.size ≤ 536870912) (hp : ∀ i, i < A.slots.size → ¬ 255 < cv A i) (hfr : 4 ≤ R.frames) (hlo : W + 65 ≤ R.locals) :
    Back l R p e below s args New1.yN len W (fun P a => a = #[.ref x, .ref b] ∧ P.U.heap = h ∧ P.cells + 1 ≤ R.cells ∧ P.slots + A.slots.size ≤ R.slots)
      (fun P _ v B => ∃ L, Q Z x A h v B.U.heap L ∧ B.locs = P.locs ++ L ∧ B.cells = P.cells + 1 ∧ B.slots = P.slots + A.slots.size) := by
  intro m meth c P g ig mk a X hg hsize hdg hW hn hp'
  obtain ⟨rfl, rfl, r1, r2⟩ := hp'
  have al : Z.vm.Alike P.U.vm := hZ.alike.trans X.warmed.alike
  obtain ⟨D, cfV, kV, iV, fV, hD, gV, stV, knV, obV, asV, slV⟩ := id V
  obtain ⟨D', cfC, kC, iC, fC, hD', gC, stC, -, -, asC, slC⟩ := id C
  cases hD.symm.trans hD'
  obtain ⟨D2, kD, e1, e2, e3, e4, e5⟩ := id E
  cases hD.symm.trans e1
  obtain ⟨c2, k2, i1, i2, i3, -⟩ := Cond.instantiable_spec wi
  cases e2.symm.trans i1
  cases e3.symm.trans i2
  obtain ⟨kU, u1, u2⟩ := al.2.2 _ _ e3
  have hB : Blank ST x D P.U := ⟨hD, ⟨knV, fun q hq => by rw [hq] at obV; cases obV⟩, by rw [al.findClass]; exact e2, kU, u1, by rw [u2]; exact i3, by rw [u2]; exact e5 i3⟩
  have F1 : Found ST "value" "[B" fV P.U := ⟨SBG.found_only al ⟨cfV, kV, iV, gV⟩, stV⟩
  have F2 : Found ST "coder" "B" fC P.U := ⟨SBG.found_only al ⟨cfC, kC, iC, gC⟩, stC⟩
  have hA : Ch b A P.U := ⟨⟨K.1, State.isArrayOf_alike al K.2.1, K.2.2, by omega⟩, hty⟩
  have hS : StaticIs P.U ST "COMPACT_STRINGS" "Z" (.int z) := by
    obtain ⟨cfS, iS, kS, fS, st, cS, t1, t2, t3, t4, t5, t6, t7⟩ := S
    exact StaticIs.there (s := { Z with heap := P.U.heap }) ⟨cfS, iS, kS, fS, st, cS, t1, t2, t3, t4, t5, (fun q => by rw [q] at t6; cases t6), t7⟩ al rfl
  obtain ⟨v, B, X', ⟨⟨hv, E', V', q1, q2, q3, q4, q5, q6, q7, q8, q9, q10, q11⟩, hl, hc, hs⟩, st⟩ := New1.pays x D fV fC b A z (tab_of (moved hZ hw)) hfr hlo m meth c P g ig mk _ X hg hsize hdg hW hn ⟨r1, r2, rfl, hB, F1, F2, hA, hS, hz, l0, l2, hp⟩
  have al' : Z.vm.Alike B.U.vm := hZ.alike.trans X'.warmed.alike
  have hsz : E'.slots.size = D.slots.size := by
    obtain ⟨-, -, -, kB, w1, w2, w3⟩ := q1
    obtain ⟨kB', y1, y2⟩ := al'.2.2 _ _ e3
    rw [q2.2.1] at w1
    cases w1.symm.trans y1
    rw [w3, e5 i3, y2]
  refine ⟨v, B, X', ⟨_, ⟨hv, ?_, ⟨by omega, fun y cy hy hn' => q10 y cy (by simpa using hn') hy, fun y cy hy => ?_⟩, q11, ⟨E', _, q1.1, by rw [q2.2.1]; exact e2, by rw [q2.2.1]; exact e3, by rw [q2.1]; exact obV, fun _ => by rw [hsz]; exact e5 i3⟩,
    ⟨E', cfV, kV, iV, fV, q1.1, gV, stV, by rw [q2.1]; exact knV, by rw [q2.1]; exact obV, by rw [q2.2.1]; exact asV, q3⟩, ⟨E', cfC, kC, iC, fC, q1.1, gC, stC, by rw [q2.1]; exact knV, by rw [q2.1]; exact obV, by rw [q2.2.1]; exact asC, q4⟩,
    ⟨V', ⟨q5.1, State.isArrayOf_alike al'.symm q5.2.1, q5.2.2.1⟩, q6, by rw [← al'.findClass]; exact q7, q8, fun j hj => by have := q9 j hj; rwa [Nat.zero_add] at this⟩, fun O n d w F n1 n2 => ?_⟩, hl, hc, hs⟩, st⟩
  · intro y hy
    simp only [List.mem_cons, List.not_mem_nil, or_false] at hy
    rcases hy with rfl | rfl <;> rfl
  · by_cases q : y = x
    · subst q
      cases hD.symm.trans hy
      exact ⟨E', q1.1, q2.2.1, q2.1, hsz⟩
    · exact ⟨cy, q10 y cy q hy, rfl, rfl, rfl⟩
  · obtain ⟨D3, cf, k, i, f, g1, g2, g3, g4, g5, g6, g7⟩ := F
    cases hD.symm.trans g1
    simp only [RoadKit.slotOf, g2, gV, gC, Option.map_some, Option.getD_some] at n1 n2
    exact ⟨E', cf, k, i, f, q1.1, g2, g3, by rw [q2.1]; exact g4, by rw [q2.1]; exact g5, by rw [q2.2.1]; exact g6, by rw [q2.2.2 f.slot (by simp [n1, n2])]; exact g7⟩
end StrChars.Road
namespace StrChars.Road
open Jvm Sem ClassFile Op Lib Jvm.Stand Jvm.Free Jvm.Free.XT
/-- WHAT COMES BACK, the byte[] as a list of values -/
def QA (Z : State) (x : Addr) (zn : Int32) (cs : List Int32) (h : Heap) (v : Option Value) (h' : Heap) (L : List Loc) : Prop := v = none ∧ (∀ y ∈ L, y.base = x) ∧ RoadKit.Keep h h' [x] ∧ h'.size = h.size + 1 ∧ RoadKit.Exa Z h' x ST ∧ RoadKit.Fld Z h' x ST "value" "[B" (.ref h.size) ∧ RoadKit.Fld Z h' x ST "coder" "B" (.int 0) ∧
  (∃ kb, Z.vm.findClass "[B" = some kb ∧ RoadKit.Arv Z h' h.size kb .byte zn (cs.map fun c => .int (lo8 c)) (.int 0)) ∧
  ∀ (O n d : String) (w : Value), RoadKit.Fld Z h x O n d w → RoadKit.slotOf Z O n d ≠ RoadKit.slotOf Z ST "value" "[B" → RoadKit.slotOf Z O n d ≠ RoadKit.slotOf Z ST "coder" "B" → RoadKit.Fld Z h' x O n d w
/-- **new String(chars) AT A CALL, THE ARRAYS AS LISTS**: the char[] at b holds cs, not empty, no char above 255 -/
theorem backArv {p : Program} {l : Launch} {e : Env} {R : Room} {s : State} {args : Array Value} {below : List Frame} {len W : Nat} {Z : State} {a0 : Array Value} {h : Heap} (hZ : Z.Warmed39 s.vm) (hw : ∀ d ∈ words, d.before a0 Z = true) {kI : Nat} (wi : (Jvm.Cond.instantiable ST kI).before a0 Z = true)
    {x b : Addr} {k : ClassId} {zn z : Int32} {cs : List Int32} {dv v0 c0 : Value} (E : RoadKit.Exa Z h x ST) (V : RoadKit.Fld Z h x ST "value" "[B" v0) (C : RoadKit.Fld Z h x ST "coder" "B" c0) (K : RoadKit.Arv Z h b k .char zn (cs.map Value.int) dv) (S : RoadKit.Sta Z h ST "COMPACT_STRINGS" "Z" (.int z)) (hz : ¬ z = 0)
    (hlen : zn.toNatClampNeg = cs.length) (h0 : 0 < cs.length) (hbig : cs.length ≤ 536870912) (hall : ∀ c ∈ cs, ¬ 255 < c) (hfr : 4 ≤ R.frames) (hlo : W + 65 ≤ R.locals) :
    Back l R p e below s args New1.yN len W (fun P a => a = #[.ref x, .ref b] ∧ P.U.heap = h ∧ P.cells + 1 ≤ R.cells ∧ P.slots + cs.length ≤ R.slots)
      (fun P _ v B => ∃ L, QA Z x zn cs h v B.U.heap L ∧ B.locs = P.locs ++ L ∧ B.cells = P.cells + 1 ∧ B.slots = P.slots + cs.length) := by
  obtain ⟨A, K1, K2, K3, K4, K5, K6⟩ := K
  have e : A.slots.size = cs.length := K3.trans hlen
  have hat : ∀ (i : Nat) (hi : i < cs.length), A.slots[i]? = some (.int cs[i]) := fun i hi => by rw [K5 i (by omega)]; simp [List.getD_eq_getElem?_getD, hi]
  have hcv : ∀ (i : Nat) (hi : i < cs.length), cv A i = cs[i] := fun i hi => by unfold cv; rw [hat i hi]
  have hty : Typed .char A := fun i v hv => by
    have hi : i < A.slots.size := (Array.getElem?_eq_some_iff.mp hv).1
    have q := K5 i hi
    rw [hv] at q
    rw [Option.some.inj q]
    exact K6 i hi
  refine Back.mono (back hZ hw wi E V C K1 hty S hz (by omega) (by omega) (fun i hi => by rw [hcv i (by omega)]; exact hall _ (List.getElem_mem _)) hfr hlo) (fun P a hp => ⟨hp.1, hp.2.1, hp.2.2.1, by rw [e]; exact hp.2.2.2⟩) (fun P a v B hp hq => ?_)
  obtain ⟨L, ⟨q1, q2, q3, q4, q5, q6, q7, ⟨V', v1, v2, v3, v4, v5⟩, q9⟩, hl, hc, hs⟩ := hq
  refine ⟨L, ⟨q1, q2, q3, q4, q5, q6, q7, ⟨V'.cls, v3, V', v1, rfl, by rw [v4, e, hlen], K4, fun i hi => ?_, fun i hi => ?_⟩, q9⟩, hl, hc, by rw [hs, e]⟩
  · have hi' : i < cs.length := by omega
    rw [v5 i (by omega), hcv i hi']; simp [List.getD_eq_getElem?_getD, hi']
  · have hi' : i < cs.length := by omega
    simp only [List.getD_eq_getElem?_getD, List.getElem?_map, List.getElem?_eq_getElem hi', Option.map_some, Option.getD_some]
    exact fits_lo8 _
end StrChars.Road
namespace StrChars.Road
open Jvm Sem ClassFile Op Lib Jvm.Stand Jvm.Free Jvm.Free.XT
/-- WHAT COMES BACK, in the writer's own shape -/
def QV (Z : State) (x : Addr) (N : Int32) (bs : List Int32) (h : Heap) (n0 : Nat) (v : Option Value) (h' : Heap) (L : List Loc) : Prop := v = none ∧ RoadKit.Fr n0 L ∧ RoadKit.Keep h h' [x] ∧ RoadKit.Exa Z h' x ST ∧ RoadKit.Fld Z h' x ST "coder" "B" (.int 0) ∧
  ∃ (t : Addr) (kb : ClassId), n0 ≤ t ∧ h.size ≤ t ∧ ¬ t = x ∧ RoadKit.Fld Z h' x ST "value" "[B" (.ref t) ∧ RoadKit.Arv Z h' t kb .byte N (bs.map Value.int) (.int 0)
/-- **new String(chars) AT A CALL, FOR THE WRITER**: a char[] of n known ints, each 0 to 255 -/
theorem backV {p : Program} {l : Launch} {e : Env} {R : Room} {s : State} {args : Array Value} {below : List Frame} {len W : Nat} {Z : State} {a0 : Array Value} {h : Heap} (hZ : Z.Warmed39 s.vm) (hw : ∀ d ∈ words, d.before a0 Z = true) {kI : Nat} (wi : (Jvm.Cond.instantiable ST kI).before a0 Z = true)
    {x b : Addr} {kC : ClassId} {cs bs : List Int32} {d v0 c0 : Value} {z N : Int32} {n n0 : Nat} (hx0 : n0 ≤ x) (hh0 : n0 ≤ h.size) (E : RoadKit.Exa Z h x ST) (V : RoadKit.Fld Z h x ST "value" "[B" v0) (C : RoadKit.Fld Z h x ST "coder" "B" c0) (K : RoadKit.Arv Z h b kC .char N (cs.map Value.int) d) (S : RoadKit.Sta Z h ST "COMPACT_STRINGS" "Z" (.int z)) (hz : ¬ z = 0)
    (hn : cs.length = n) (hN : N = Int32.ofNat n) (l0 : 0 < n) (l2 : n ≤ 4000) (hp : ∀ c ∈ cs, ¬ c < 0 ∧ ¬ (255 : Int32) < c) (hb : bs = cs.map (fun c => c.toInt8.toInt32)) (hfr : 4 ≤ R.frames) (hlo : W + 65 ≤ R.locals) :
    Back l R p e below s args (⟨"java/lang/String", "<init>", "([C)V"⟩ : MethodName) len W (fun P a => a = #[.ref x, .ref b] ∧ P.U.heap = h ∧ P.cells + 1 ≤ R.cells ∧ P.slots + n ≤ R.slots)
      (fun P _ v B => ∃ L, QV Z x N bs h n0 v B.U.heap L ∧ B.locs = P.locs ++ L ∧ B.cells = P.cells + 1 ∧ B.slots = P.slots + n) := by
  subst hn hN hb
  refine Back.mono (backArv hZ hw wi E V C K S hz (n32 (by omega)) l0 (by omega) (fun c hc => (hp c hc).2) hfr hlo) (fun P a hp => hp) (fun P a v B hp hq => ?_)
  obtain ⟨L, ⟨q1, q2, q3, q4, q5, q6, q7, ⟨kb, v1, v2⟩, q9⟩, hl, hc, hs⟩ := hq
  exact ⟨L, ⟨q1, fun y hy => by rw [q2 y hy]; exact hx0, q3, q5, q7, h.size, kb, hh0, Nat.le_refl _, Nat.ne_of_gt E.lt, q6, by rw [List.map_map]; exact v2⟩, hl, hc, hs⟩
end StrChars.Road
end Jvm.Pilot.@@N@@
namespace Jvm.Pilot.@@N@@
open Jvm Jvm.ClassFile Sem Op Lib Jvm.Free Jvm.Stand Jvm.LawKit Jvm.RoadKit Bundle Jvm.OwnGo Jvm.Pilot.@@N@@.Jvm.D
theorem w_0 : (Jvm.Cond.constantLong "com/example/fama/fama/index/NamesOfPinLaw" (7 : Nat) (255 : Int64)) ∈ tables_1 := List.mem_of_getElem? (i := 0) rfl
theorem w_1 : (Jvm.Cond.classLink "com/example/fama/fama/index/NamesOfPinLaw" (9 : Nat) "java/lang/String") ∈ tables_1 := List.mem_of_getElem? (i := 1) rfl
theorem w_2 : (Jvm.Cond.instantiable "java/lang/String" (4 : Nat)) ∈ tables_1 := List.mem_of_getElem? (i := 2) rfl
theorem w_3 : (Jvm.Cond.initialized "java/lang/String") ∈ tables_1 := List.mem_of_getElem? (i := 3) rfl
theorem w_4 : (Jvm.Cond.arrayClass Jvm.ClassFile.FieldType.char) ∈ tables_1 := List.mem_of_getElem? (i := 4) rfl
theorem w_5 : (Jvm.Cond.methodLink "com/example/fama/fama/index/NamesOfPinLaw" (11 : Nat) ({ cls := "java/lang/String", name := "<init>", desc := "([C)V" } : Jvm.MethodName)) ∈ tables_1 := List.mem_of_getElem? (i := 5) rfl
theorem w_6 : (Jvm.Cond.instanceMethod ({ cls := "java/lang/String", name := "<init>", desc := "([C)V" } : Jvm.MethodName)) ∈ tables_1 := List.mem_of_getElem? (i := 6) rfl
theorem w_7 : (Jvm.Cond.code ({ cls := "java/lang/String", name := "<init>", desc := "([C)V" } : Jvm.MethodName) jdk_42_method_3_code (2 : Nat) (Option.none : Option Jvm.ClassFile.FieldType)) ∈ tables_1 := List.mem_of_getElem? (i := 7) rfl
theorem w_13 : (Jvm.Cond.instanceMethod ({ cls := "java/lang/Object", name := "<init>", desc := "()V" } : Jvm.MethodName)) ∈ tables_1 := List.mem_of_getElem? (i := 13) rfl
theorem w_14 : (Jvm.Cond.code ({ cls := "java/lang/Object", name := "<init>", desc := "()V" } : Jvm.MethodName) object_method_1_code (1 : Nat) (Option.none : Option Jvm.ClassFile.FieldType)) ∈ tables_1 := List.mem_of_getElem? (i := 14) rfl
theorem w_28 : (Jvm.Cond.laysFinal "java/lang/String" "java/lang/String" "coder" "B") ∈ tables_1 := List.mem_of_getElem? (i := 28) rfl
theorem w_30 : (Jvm.Cond.laysFinal "java/lang/String" "java/lang/String" "value" "[B") ∈ tables_1 := List.mem_of_getElem? (i := 30) rfl
theorem w_31 : (Jvm.Cond.arrayClass Jvm.ClassFile.FieldType.int) ∈ tables_1 := List.mem_of_getElem? (i := 31) rfl
theorem w_32 : (Jvm.Cond.constant "com/example/fama/fama/index/NamesOfPinLaw" (14 : Nat) (2147483647 : Int32)) ∈ tables_1 := List.mem_of_getElem? (i := 32) rfl
theorem w_33 : (Jvm.Cond.arrayOver (Jvm.ClassFile.FieldType.object "java/lang/String")) ∈ tables_1 := List.mem_of_getElem? (i := 33) rfl
theorem w_34 : (Jvm.Cond.classLink "com/example/fama/fama/index/NamesOfPinLaw" (15 : Nat) "com/example/fama/fama/index/Names") ∈ tables_1 := List.mem_of_getElem? (i := 34) rfl
theorem w_35 : (Jvm.Cond.instantiable "com/example/fama/fama/index/Names" (2 : Nat)) ∈ tables_1 := List.mem_of_getElem? (i := 35) rfl
theorem w_36 : (Jvm.Cond.initialized "com/example/fama/fama/index/Names") ∈ tables_1 := List.mem_of_getElem? (i := 36) rfl
theorem w_37 : (Jvm.Cond.methodLink "com/example/fama/fama/index/NamesOfPinLaw" (17 : Nat) ({ cls := "com/example/fama/fama/index/Names", name := "<init>", desc := "([I[Ljava/lang/String;)V" } : Jvm.MethodName)) ∈ tables_1 := List.mem_of_getElem? (i := 37) rfl
theorem w_38 : (Jvm.Cond.instanceMethod ({ cls := "com/example/fama/fama/index/Names", name := "<init>", desc := "([I[Ljava/lang/String;)V" } : Jvm.MethodName)) ∈ tables_1 := List.mem_of_getElem? (i := 38) rfl
theorem w_39 : (Jvm.Cond.code ({ cls := "com/example/fama/fama/index/Names", name := "<init>", desc := "([I[Ljava/lang/String;)V" } : Jvm.MethodName) prog_55_method_1_code (3 : Nat) (Option.none : Option Jvm.ClassFile.FieldType)) ∈ tables_1 := List.mem_of_getElem? (i := 39) rfl
theorem w_40 : (Jvm.Cond.methodLink "com/example/fama/fama/index/Names" (1 : Nat) ({ cls := "java/lang/Object", name := "<init>", desc := "()V" } : Jvm.MethodName)) ∈ tables_1 := List.mem_of_getElem? (i := 40) rfl
theorem w_41 : (Jvm.Cond.fieldLink "com/example/fama/fama/index/Names" (7 : Nat) "com/example/fama/fama/index/Names" "numbers" "[I") ∈ tables_1 := List.mem_of_getElem? (i := 41) rfl
theorem w_42 : (Jvm.Cond.laysFinal "com/example/fama/fama/index/Names" "com/example/fama/fama/index/Names" "numbers" "[I") ∈ tables_1 := List.mem_of_getElem? (i := 42) rfl
theorem w_43 : (Jvm.Cond.fieldLink "com/example/fama/fama/index/Names" (13 : Nat) "com/example/fama/fama/index/Names" "names" "[Ljava/lang/String;") ∈ tables_1 := List.mem_of_getElem? (i := 43) rfl
theorem w_44 : (Jvm.Cond.laysFinal "com/example/fama/fama/index/Names" "com/example/fama/fama/index/Names" "names" "[Ljava/lang/String;") ∈ tables_1 := List.mem_of_getElem? (i := 44) rfl
theorem w_45 : (Jvm.Cond.methodLink "com/example/fama/fama/index/NamesOfPinLaw" (20 : Nat) ({ cls := "com/example/fama/fama/index/Names", name := "of", desc := "(I)Ljava/lang/String;" } : Jvm.MethodName)) ∈ tables_1 := List.mem_of_getElem? (i := 45) rfl
theorem w_46 : (Jvm.Cond.declares ({ cls := "com/example/fama/fama/index/Names", name := "of", desc := "(I)Ljava/lang/String;" } : Jvm.MethodName)) ∈ tables_1 := List.mem_of_getElem? (i := 46) rfl
theorem w_47 : (Jvm.Cond.instanceMethod ({ cls := "com/example/fama/fama/index/Names", name := "of", desc := "(I)Ljava/lang/String;" } : Jvm.MethodName)) ∈ tables_1 := List.mem_of_getElem? (i := 47) rfl
theorem w_48 : (Jvm.Cond.selects "com/example/fama/fama/index/Names" ({ cls := "com/example/fama/fama/index/Names", name := "of", desc := "(I)Ljava/lang/String;" } : Jvm.MethodName) ({ cls := "com/example/fama/fama/index/Names", name := "of", desc := "(I)Ljava/lang/String;" } : Jvm.MethodName)) ∈ tables_1 := List.mem_of_getElem? (i := 48) rfl
theorem w_49 : (Jvm.Cond.code ({ cls := "com/example/fama/fama/index/Names", name := "of", desc := "(I)Ljava/lang/String;" } : Jvm.MethodName) prog_55_method_5_code (2 : Nat) (Option.some (Jvm.ClassFile.FieldType.object "java/lang/String"))) ∈ tables_1 := List.mem_of_getElem? (i := 49) rfl
theorem w_50 : (Jvm.Cond.methodLink "com/example/fama/fama/index/Names" (17 : Nat) ({ cls := "com/example/fama/fama/index/Names", name := "name", desc := "(I)Ljava/lang/String;" } : Jvm.MethodName)) ∈ tables_1 := List.mem_of_getElem? (i := 50) rfl
theorem w_51 : (Jvm.Cond.declares ({ cls := "com/example/fama/fama/index/Names", name := "name", desc := "(I)Ljava/lang/String;" } : Jvm.MethodName)) ∈ tables_1 := List.mem_of_getElem? (i := 51) rfl
theorem w_52 : (Jvm.Cond.instanceMethod ({ cls := "com/example/fama/fama/index/Names", name := "name", desc := "(I)Ljava/lang/String;" } : Jvm.MethodName)) ∈ tables_1 := List.mem_of_getElem? (i := 52) rfl
theorem w_53 : (Jvm.Cond.selects "com/example/fama/fama/index/Names" ({ cls := "com/example/fama/fama/index/Names", name := "name", desc := "(I)Ljava/lang/String;" } : Jvm.MethodName) ({ cls := "com/example/fama/fama/index/Names", name := "name", desc := "(I)Ljava/lang/String;" } : Jvm.MethodName)) ∈ tables_1 := List.mem_of_getElem? (i := 53) rfl
theorem w_54 : (Jvm.Cond.code ({ cls := "com/example/fama/fama/index/Names", name := "name", desc := "(I)Ljava/lang/String;" } : Jvm.MethodName) prog_55_method_4_code (2 : Nat) (Option.some (Jvm.ClassFile.FieldType.object "java/lang/String"))) ∈ tables_1 := List.mem_of_getElem? (i := 54) rfl
theorem w_55 : (Jvm.Cond.methodLink "com/example/fama/fama/index/NamesOfPinLaw" (24 : Nat) ({ cls := "java/lang/String", name := "equals", desc := "(Ljava/lang/Object;)Z" } : Jvm.MethodName)) ∈ tables_1 := List.mem_of_getElem? (i := 55) rfl
theorem w_56 : (Jvm.Cond.declares ({ cls := "java/lang/String", name := "equals", desc := "(Ljava/lang/Object;)Z" } : Jvm.MethodName)) ∈ tables_1 := List.mem_of_getElem? (i := 56) rfl
theorem w_57 : (Jvm.Cond.instanceMethod ({ cls := "java/lang/String", name := "equals", desc := "(Ljava/lang/Object;)Z" } : Jvm.MethodName)) ∈ tables_1 := List.mem_of_getElem? (i := 57) rfl
theorem w_58 : (Jvm.Cond.selects "java/lang/String" ({ cls := "java/lang/String", name := "equals", desc := "(Ljava/lang/Object;)Z" } : Jvm.MethodName) ({ cls := "java/lang/String", name := "equals", desc := "(Ljava/lang/Object;)Z" } : Jvm.MethodName)) ∈ tables_1 := List.mem_of_getElem? (i := 58) rfl
theorem w_59 : (Jvm.Cond.code ({ cls := "java/lang/String", name := "equals", desc := "(Ljava/lang/Object;)Z" } : Jvm.MethodName) jdk_42_method_66_code (3 : Nat) (Option.some Jvm.ClassFile.FieldType.boolean)) ∈ tables_1 := List.mem_of_getElem? (i := 59) rfl
/-- a char of one byte -/
def Ch8 (c : Int32) : Prop := ¬ c < 0 ∧ ¬ (255 : Int32) < c
theorem ch8_mask (x : Int32) : Ch8 (x &&& 255) := by
  have h : (x &&& 255).toBitVec.toNat < 256 := by
    simp only [Int32.toBitVec_and, BitVec.toNat_and]
    exact Nat.lt_succ_of_le Nat.and_le_right
  have e : (x &&& 255) = Int32.ofNat (x &&& 255).toBitVec.toNat := by
    apply Int32.toBitVec_inj.mp
    show _ = BitVec.ofNat 32 _
    rw [BitVec.ofNat_toNat]; simp
  rw [e]
  exact (by decide +kernel : ∀ k : Fin 256, ¬ Int32.ofNat k.val < 0 ∧ ¬ (255 : Int32) < Int32.ofNat k.val) ⟨_, h⟩
theorem ch8_fin {c : Int32} (h : Ch8 c) : ∃ k : Fin 256, c = Int32.ofNat k.val := by
  obtain ⟨h1, h2⟩ := h
  rw [Int32.lt_iff_toInt_lt] at h1 h2
  have e1 : (0 : Int32).toInt = 0 := (by decide)
  have e2 : (255 : Int32).toInt = 255 := (by decide)
  have e3 : (Int32.ofNat c.toInt.toNat).toInt = (c.toInt.toNat : Int) := Int32.toInt_ofNat_of_lt (by omega)
  refine ⟨⟨c.toInt.toNat, by omega⟩, Int32.toInt_inj.mp ?_⟩
  show c.toInt = (Int32.ofNat c.toInt.toNat).toInt
  rw [e3]
  omega
theorem nar_ch8 {c : Int32} (h : Ch8 c) : nar .char c = c := by
  obtain ⟨k, rfl⟩ := ch8_fin h
  exact (by decide +kernel : ∀ k : Fin 256, nar .char (Int32.ofNat k.val) = Int32.ofNat k.val) k
theorem ch8_i2c (x : Int32) : Ch8 ((x &&& 255).toUInt32.toUInt16.toUInt32.toInt32) := by
  rw [i2c_mask]; exact ch8_mask x
theorem ch8_l2c (x : Int64) : Ch8 ((x &&& 255).toInt32.toUInt32.toUInt16.toUInt32.toInt32) := by
  rw [Int64.toInt32_and]; exact ch8_i2c x.toInt32

theorem ct_newS {l : Launch} {Z : State} {a0 : Array Value} (hw : ∀ d ∈ tables_1, d.before a0 Z = true) {h : Heap} {x b : Addr} {kC : ClassId} {cs : List Int32} {d v0 c0 : Value} {z : Int32} {n n0 : Nat} (E : Exa Z h x "java/lang/String") (V : Fld Z h x "java/lang/String" "value" "[B" v0) (C : Fld Z h x "java/lang/String" "coder" "B" c0) (K : Arv Z h b kC .char (Int32.ofNat n) (cs.map Value.int) d) (S : Sta Z h "java/lang/String" "COMPACT_STRINGS" "Z" (.int z)) (hz : ¬ z = 0) (hn : cs.length = n) (l0 : 0 < n) (l2 : n ≤ 4000) (hp : ∀ c ∈ cs, ¬ c < 0 ∧ ¬ (255 : Int32) < c) :
    Ct l Z (⟨"java/lang/String", "<init>", "([C)V"⟩ : MethodName) 2 ({ frames := 3, cells := 1, slots := n, locals := 52 } : Room) [x] #[.ref x, .ref b] h n0 (nq fun v h' => v = none ∧ Keep h h' [x] ∧ ∃ t kb, h.size ≤ t ∧ t ≠ x ∧ Str Z h' x t kb cs) := by
  have hws : ∀ d ∈ StrChars.Road.words, d.before a0 Z = true := fun d hd => hw d ((by decide +kernel : ∀ d ∈ StrChars.Road.words, d ∈ tables_1) d hd)
  refine ct_back ?_
  intro R p e below s args len W hZ hn0 hfs hf hl
  refine Back.mono (StrChars.Road.backV hZ hws (hw _ w_2) (hfs _ (List.mem_cons_self ..)) hn0 E V C K S hz hn rfl l0 l2 hp rfl hf (by simp only [] at hl; omega)) (fun P a q => q) (fun P a v B hp' hq => ?_)
  obtain ⟨L, ⟨q1, q2, q3, q4, q5, t, kb, r1, r2, r3, r4, r5⟩, hl', hc', hs'⟩ := hq
  exact ⟨L, ⟨⟨q1, q3, t, kb, r2, r3, q4, q5, r4, by rw [hn]; exact r5, by rw [hn]; exact l2, hp⟩, q2⟩, hl', hc', hs'⟩

theorem d_prog_55_method_1_code_0 : decode prog_55_method_1_code 0 = .ok (.aload_n 0, 1) := by decide +kernel
theorem d_prog_55_method_1_code_1 : decode prog_55_method_1_code 1 = .ok (.invokespecial 1, 3) := by decide +kernel
theorem d_prog_55_method_1_code_4 : decode prog_55_method_1_code 4 = .ok (.aload_n 0, 1) := by decide +kernel
theorem d_prog_55_method_1_code_5 : decode prog_55_method_1_code 5 = .ok (.aload_n 1, 1) := by decide +kernel
theorem d_prog_55_method_1_code_6 : decode prog_55_method_1_code 6 = .ok (.putfield 7, 3) := by decide +kernel
theorem d_prog_55_method_1_code_9 : decode prog_55_method_1_code 9 = .ok (.aload_n 0, 1) := by decide +kernel
theorem d_prog_55_method_1_code_10 : decode prog_55_method_1_code 10 = .ok (.aload_n 2, 1) := by decide +kernel
theorem d_prog_55_method_1_code_11 : decode prog_55_method_1_code 11 = .ok (.putfield 13, 3) := by decide +kernel
theorem d_prog_55_method_1_code_14 : decode prog_55_method_1_code 14 = .ok (.return_, 1) := by decide +kernel
theorem pn_com_example_fama_fama_index_Names : plainName "com/example/fama/fama/index/Names" = true := by first | (simp [plainName, overriddenIn]; done) | decide +kernel
set_option maxRecDepth 65536 in
set_option maxHeartbeats 40000000 in
theorem rm_init (l : Launch) (Z : State) (a0 : Array Value) (hw : ∀ d ∈ tables_1, d.before a0 Z = true) {ws : List Jvm.Cond} (a1 a2 a3 : Addr) (h0 : Heap) (n0 : Nat) (E1 : Exa Z h0 a1 "com/example/fama/fama/index/Names") (F1 : Fld Z h0 a1 "com/example/fama/fama/index/Names" "numbers" "[I" .null) (F2 : Fld Z h0 a1 "com/example/fama/fama/index/Names" "names" "[Ljava/lang/String;" .null) :
    Met l Z (⟨"com/example/fama/fama/index/Names", "<init>", "([I[Ljava/lang/String;)V"⟩ : MethodName) prog_55_method_1_code 3 none ws ({ frames := 1, cells := 0, slots := 0, locals := 12 } : Room) [a1] #[(.ref a1), (.ref a2), (.ref a3)] h0 n0 (nq (fun v h => v = none ∧ Keep h0 h [a1] ∧ Exa Z h a1 "com/example/fama/fama/index/Names" ∧ Fld Z h a1 "com/example/fama/fama/index/Names" "numbers" "[I" (.ref a2) ∧ Fld Z h a1 "com/example/fama/fama/index/Names" "names" "[Ljava/lang/String;" (.ref a3))) := by
  refine met_of (plainFor_of_name pn_com_example_fama_fama_index_Names) hw #[.val (.ref a1), .val (.ref a2), .val (.ref a3)] (fun m => by first | rfl | (simp [entryFrame, mkF, argsToLocals, Value.category]; done)) ?_
  intro p e s m below meth c C0
  have C : Cx Z a0 tables_1 p s m meth c "com/example/fama/fama/index/Names" "<init>" prog_55_method_1_code 3 none n0 := C0
  refine g_aloadN C d_prog_55_method_1_code_0 rfl rfl ?_
  refine g_initO C w_40 w_13 w_14 rfl d_prog_55_method_1_code_1 (by decide) 0 (Nat.le_of_eq rfl) (by decide) ?_
  refine g_aloadN C d_prog_55_method_1_code_4 rfl rfl ?_
  refine g_aloadN C d_prog_55_method_1_code_5 rfl rfl ?_
  refine g_putfield C (.array .int) w_41 Via.refl F1 E1 (Or.inr ⟨w_42, rfl, rfl⟩) w_35 (by decide) rfl rfl (List.mem_of_getElem? (i := 0) rfl) d_prog_55_method_1_code_6 ?_
  intro h101 W101 F101
  refine g_aloadN C d_prog_55_method_1_code_9 rfl rfl ?_
  refine g_aloadN C d_prog_55_method_1_code_10 rfl rfl ?_
  have F102 := (F2.other W101 (Or.inr (slot_ne (Or.inr (C.hw w_44)) (Or.inr (C.hw w_42)) (by decide) (t := (.array (.object "java/lang/String"))) (t' := (.array .int)) (by decide) (by decide))))
  have E103 := (E1.wr W101)
  refine g_putfield C (.array (.object "java/lang/String")) w_43 Via.refl F102 E103 (Or.inr ⟨w_44, rfl, rfl⟩) w_35 (by decide) rfl rfl (List.mem_of_getElem? (i := 0) rfl) d_prog_55_method_1_code_11 ?_
  intro h104 W104 F104
  refine g_return C rfl d_prog_55_method_1_code_14 (by decide) (by decide) ?_
  have E105 := (E103.wr W104)
  have F106 := (F101.other W104 (Or.inr (slot_ne (Or.inr (C.hw w_42)) (Or.inr (C.hw w_44)) (by decide) (t := (.array .int)) (t' := (.array (.object "java/lang/String"))) (by decide) (by decide))))
  exact ⟨rfl, ((Keep.refl _ _).wr W101 (Or.inl (List.mem_cons_self ..))).wr W104 (Or.inl (List.mem_cons_self ..)), E105, F106, F104⟩
theorem d_prog_55_method_4_code_0 : decode prog_55_method_4_code 0 = .ok (.aload_n 0, 1) := by decide +kernel
theorem d_prog_55_method_4_code_1 : decode prog_55_method_4_code 1 = .ok (.getfield 13, 3) := by decide +kernel
theorem d_prog_55_method_4_code_4 : decode prog_55_method_4_code 4 = .ok (.iload_n 1, 1) := by decide +kernel
theorem d_prog_55_method_4_code_5 : decode prog_55_method_4_code 5 = .ok (.iconst 1, 1) := by decide +kernel
theorem d_prog_55_method_4_code_6 : decode prog_55_method_4_code 6 = .ok (.isub, 1) := by decide +kernel
theorem d_prog_55_method_4_code_7 : decode prog_55_method_4_code 7 = .ok (.aaload, 1) := by decide +kernel
theorem d_prog_55_method_4_code_8 : decode prog_55_method_4_code 8 = .ok (.areturn, 1) := by decide +kernel
set_option maxRecDepth 65536 in
set_option maxHeartbeats 40000000 in
theorem rm_name (l : Launch) (Z : State) (a0 : Array Value) (hw : ∀ d ∈ tables_1, d.before a0 Z = true) {ws : List Jvm.Cond} (a1 a3 : Addr) (q1 z3 : Int32) (k3 : ClassId) (vs : List Value) (v3 : Value) (h0 : Heap) (n0 : Nat) (F2 : Fld Z h0 a1 "com/example/fama/fama/index/Names" "names" "[Ljava/lang/String;" (.ref a3)) (V3 : Arv Z h0 a3 k3 (.object "java/lang/String") z3 vs .null) (hj : ¬ (q1 - (1 : Int32)) < 0 ∧ (q1 - (1 : Int32)) < z3) (hv : vs.getD (q1 - (1 : Int32)).toNatClampNeg .null = v3) (hr : v3.isRef = true) :
    Met l Z (⟨"com/example/fama/fama/index/Names", "name", "(I)Ljava/lang/String;"⟩ : MethodName) prog_55_method_4_code 2 (some (.object "java/lang/String")) ws ({ frames := 0, cells := 0, slots := 0, locals := 0 } : Room) [] #[(.ref a1), (.int q1)] h0 n0 (nq (fun v h => v = some v3 ∧ h = h0)) := by
  refine met_of (plainFor_of_name pn_com_example_fama_fama_index_Names) hw #[.val (.ref a1), .val (.int q1)] (fun m => by first | rfl | (simp [entryFrame, mkF, argsToLocals, Value.category]; done)) ?_
  intro p e s m below meth c C0
  have C : Cx Z a0 tables_1 p s m meth c "com/example/fama/fama/index/Names" "name" prog_55_method_4_code 2 (some (.object "java/lang/String")) n0 := C0
  refine g_aloadN C d_prog_55_method_4_code_0 rfl rfl ?_
  refine g_getfield C w_43 Via.refl F2 d_prog_55_method_4_code_1 ?_
  refine g_iloadN C d_prog_55_method_4_code_4 rfl ?_
  refine g_iconst C 1 d_prog_55_method_4_code_5 rfl ?_
  refine g_isub C d_prog_55_method_4_code_6 ?_
  refine g_aaload C V3 rfl d_prog_55_method_4_code_7 hj (v := v3) hv ?_
  refine g_areturn C (t := (.object "java/lang/String")) rfl rfl hr d_prog_55_method_4_code_8 (by decide) (by decide) ?_
  exact ⟨rfl, rfl⟩
theorem d_prog_55_method_5_code_0 : decode prog_55_method_5_code 0 = .ok (.aload_n 0, 1) := by decide +kernel
theorem d_prog_55_method_5_code_1 : decode prog_55_method_5_code 1 = .ok (.getfield 7, 3) := by decide +kernel
theorem d_prog_55_method_5_code_4 : decode prog_55_method_5_code 4 = .ok (.iload_n 1, 1) := by decide +kernel
theorem d_prog_55_method_5_code_5 : decode prog_55_method_5_code 5 = .ok (.iaload, 1) := by decide +kernel
theorem d_prog_55_method_5_code_6 : decode prog_55_method_5_code 6 = .ok (.ifCond .ne 7, 3) := by decide +kernel
theorem d_prog_55_method_5_code_9 : decode prog_55_method_5_code 9 = .ok (.aconst_null, 1) := by decide +kernel
theorem d_prog_55_method_5_code_10 : decode prog_55_method_5_code 10 = .ok (.goto 13, 3) := by decide +kernel
theorem d_prog_55_method_5_code_13 : decode prog_55_method_5_code 13 = .ok (.aload_n 0, 1) := by decide +kernel
theorem d_prog_55_method_5_code_14 : decode prog_55_method_5_code 14 = .ok (.aload_n 0, 1) := by decide +kernel
theorem d_prog_55_method_5_code_15 : decode prog_55_method_5_code 15 = .ok (.getfield 7, 3) := by decide +kernel
theorem d_prog_55_method_5_code_18 : decode prog_55_method_5_code 18 = .ok (.iload_n 1, 1) := by decide +kernel
theorem d_prog_55_method_5_code_19 : decode prog_55_method_5_code 19 = .ok (.iaload, 1) := by decide +kernel
theorem d_prog_55_method_5_code_20 : decode prog_55_method_5_code 20 = .ok (.invokevirtual 17, 3) := by decide +kernel
theorem d_prog_55_method_5_code_23 : decode prog_55_method_5_code 23 = .ok (.areturn, 1) := by decide +kernel
theorem pd__I_Ljava_lang_String_ : parseMethodDescriptor "(I)Ljava/lang/String;" = some ⟨[.int], some (.object "java/lang/String")⟩ := by decide +kernel
set_option maxRecDepth 65536 in
set_option maxHeartbeats 40000000 in
theorem rm_of (l : Launch) (Z : State) (a0 : Array Value) (hw : ∀ d ∈ tables_1, d.before a0 Z = true) {ws : List Jvm.Cond} (a1 a2 a3 : Addr) (d1 q1 z2 z3 : Int32) (k2 k3 : ClassId) (us vs : List Value) (v3 : Value) (h0 : Heap) (n0 : Nat) (E1 : Exa Z h0 a1 "com/example/fama/fama/index/Names") (F1 : Fld Z h0 a1 "com/example/fama/fama/index/Names" "numbers" "[I" (.ref a2)) (F2 : Fld Z h0 a1 "com/example/fama/fama/index/Names" "names" "[Ljava/lang/String;" (.ref a3)) (V2 : Arv Z h0 a2 k2 .int z2 us (.int 0)) (V3 : Arv Z h0 a3 k3 (.object "java/lang/String") z3 vs .null) (hd1 : ¬ d1 < 0 ∧ d1 < z2) (hk1 : us.getD d1.toNatClampNeg (.int 0) = .int q1) (hj : ¬ q1 = 0 → ¬ (q1 - (1 : Int32)) < 0 ∧ (q1 - (1 : Int32)) < z3) (hv : ¬ q1 = 0 → vs.getD (q1 - (1 : Int32)).toNatClampNeg .null = v3) (hr : v3.isRef = true) :
    Met l Z (⟨"com/example/fama/fama/index/Names", "of", "(I)Ljava/lang/String;"⟩ : MethodName) prog_55_method_5_code 2 (some (.object "java/lang/String")) ws ({ frames := 1, cells := 0, slots := 0, locals := 13 } : Room) [] #[(.ref a1), (.int d1)] h0 n0 (nq (fun v h => v = some (if q1 = 0 then .null else v3) ∧ h = h0)) := by
  refine met_of (plainFor_of_name pn_com_example_fama_fama_index_Names) hw #[.val (.ref a1), .val (.int d1)] (fun m => by first | rfl | (simp [entryFrame, mkF, argsToLocals, Value.category]; done)) ?_
  intro p e s m below meth c C0
  have C : Cx Z a0 tables_1 p s m meth c "com/example/fama/fama/index/Names" "of" prog_55_method_5_code 2 (some (.object "java/lang/String")) n0 := C0
  refine g_aloadN C d_prog_55_method_5_code_0 rfl rfl ?_
  refine g_getfield C w_41 Via.refl F1 d_prog_55_method_5_code_1 ?_
  refine g_iloadN C d_prog_55_method_5_code_4 rfl ?_
  refine g_iaload C V2 d_prog_55_method_5_code_5 hd1 (v := (.int q1)) hk1 ?_
  by_cases hc107 : q1 = 0
  · refine g_if_f C d_prog_55_method_5_code_6 (XT.i0_ne_f hc107) ?_
    refine g_aconst_null C d_prog_55_method_5_code_9 ?_
    refine g_goto C 23 d_prog_55_method_5_code_10 (by decide) (by decide) ?_
    refine g_areturn C (t := (.object "java/lang/String")) rfl rfl rfl d_prog_55_method_5_code_23 (by decide) (by decide) ?_
    exact ⟨by simp [hc107], rfl⟩
  · refine g_if_t C 13 d_prog_55_method_5_code_6 (XT.i0_ne_t hc107) (by decide) (by decide) ?_
    refine g_aloadN C d_prog_55_method_5_code_13 rfl rfl ?_
    refine g_aloadN C d_prog_55_method_5_code_14 rfl rfl ?_
    refine g_getfield C w_41 Via.refl F1 d_prog_55_method_5_code_15 ?_
    refine g_iloadN C d_prog_55_method_5_code_18 rfl ?_
    refine g_iaload C V2 d_prog_55_method_5_code_19 hd1 (v := (.int q1)) hk1 ?_
    refine g_virtual C E1 w_50 w_51 (fun hZ => nf_sel hw w_53 hZ) w_53 w_52 (by decide) [(.int q1)] (ct_of hw w_54 w_36 (rm_name l Z a0 hw a1 a3 q1 z3 k3 vs v3 h0 n0 F2 V3 (hj hc107) (hv hc107) hr)) all0 (by decide) 0 (by decide) rfl pd__I_Ljava_lang_String_ rfl [] rfl (Nat.le_of_eq rfl) d_prog_55_method_5_code_20 (by decide) (by decide) ?_
    intro v108 h108 Q108
    obtain ⟨rfl, e108⟩ := Q108
    replace e108 := e108.symm
    subst e108
    refine g_areturn C (t := (.object "java/lang/String")) rfl rfl hr d_prog_55_method_5_code_23 (by decide) (by decide) ?_
    exact ⟨by simp [hc107], rfl⟩
theorem d_jdk_42_method_66_code_0 : decode jdk_42_method_66_code 0 = .ok (.aload_n 0, 1) := by decide +kernel
theorem d_jdk_42_method_66_code_1 : decode jdk_42_method_66_code 1 = .ok (.aload_n 1, 1) := by decide +kernel
theorem d_jdk_42_method_66_code_2 : decode jdk_42_method_66_code 2 = .ok (.if_acmp .ne 5, 3) := by decide +kernel
theorem d_jdk_42_method_66_code_5 : decode jdk_42_method_66_code 5 = .ok (.iconst 1, 1) := by decide +kernel
theorem d_jdk_42_method_66_code_6 : decode jdk_42_method_66_code 6 = .ok (.ireturn, 1) := by decide +kernel
theorem pn_java_lang_String : plainName "java/lang/String" = true := by first | (simp [plainName, overriddenIn]; done) | decide +kernel
set_option maxRecDepth 65536 in
set_option maxHeartbeats 40000000 in
theorem rm_eq (l : Launch) (Z : State) (a0 : Array Value) (hw : ∀ d ∈ tables_1, d.before a0 Z = true) {ws : List Jvm.Cond} (a1 : Addr) (h0 : Heap) (n0 : Nat) :
    Met l Z (⟨"java/lang/String", "equals", "(Ljava/lang/Object;)Z"⟩ : MethodName) jdk_42_method_66_code 3 (some .boolean) ws ({ frames := 0, cells := 0, slots := 0, locals := 0 } : Room) [] #[(.ref a1), (.ref a1)] h0 n0 (nq (fun v h => v = some (.int 1) ∧ h = h0)) := by
  refine met_of (plainFor_of_name pn_java_lang_String) hw #[.val (.ref a1), .val (.ref a1), .unset] (fun m => by first | rfl | (simp [entryFrame, mkF, argsToLocals, Value.category]; done)) ?_
  intro p e s m below meth c C0
  have C : Cx Z a0 tables_1 p s m meth c "java/lang/String" "equals" jdk_42_method_66_code 3 (some .boolean) n0 := C0
  refine g_aloadN C d_jdk_42_method_66_code_0 rfl rfl ?_
  refine g_aloadN C d_jdk_42_method_66_code_1 rfl rfl ?_
  refine g_acmp_f C d_jdk_42_method_66_code_2 rfl rfl (XT.aa_ne_f rfl) ?_
  refine g_iconst C 1 d_jdk_42_method_66_code_5 rfl ?_
  refine g_ireturnN C (t := .boolean) rfl (by simp) d_jdk_42_method_66_code_6 (by decide) (by decide) ?_
  exact ⟨rfl, rfl⟩
theorem own_and_nn (x : Int32) : ¬ (x &&& (2147483647 : Int32)) < 0 := by
  rw [XT.and_neg32]; exact fun q => absurd q.2 (by decide)
theorem own_mod (x y : Int32) (hx : ¬ x < 0) (hy : (0 : Int32) < y) : ¬ x % y < 0 ∧ x % y < y := by
  rw [Int32.lt_iff_toInt_lt] at hx hy
  have e0 : (0 : Int32).toInt = 0 := rfl
  simp only [Int32.lt_iff_toInt_lt, Int32.toInt_mod, e0] at *
  have h1 := Int.tmod_nonneg (a := x.toInt) y.toInt (by omega)
  have h2 := Int.tmod_lt_of_pos x.toInt (b := y.toInt) hy
  omega
theorem own_four {q : Int32} (h : ¬ q < 0 ∧ q < 4) : q = 0 ∨ q = 1 ∨ q = 2 ∨ q = 3 := by
  obtain ⟨h1, h2⟩ := h
  rw [Int32.lt_iff_toInt_lt] at h1 h2
  have e0 : (0 : Int32).toInt = 0 := rfl
  have e4 : (4 : Int32).toInt = 4 := rfl
  simp only [← Int32.toInt_inj, e0, show (1 : Int32).toInt = 1 from rfl, show (2 : Int32).toInt = 2 from rfl, show (3 : Int32).toInt = 3 from rfl]
  omega
theorem own_three {q : Int32} (h : ¬ q < 0 ∧ q < 3) : q = 0 ∨ q = 1 ∨ q = 2 := by
  obtain ⟨h1, h2⟩ := h
  rw [Int32.lt_iff_toInt_lt] at h1 h2
  have e0 : (0 : Int32).toInt = 0 := rfl
  have e4 : (3 : Int32).toInt = 3 := rfl
  simp only [← Int32.toInt_inj, e0, show (1 : Int32).toInt = 1 from rfl, show (2 : Int32).toInt = 2 from rfl]
  omega
theorem own_pick {d a b c : Int32} (hd : ¬ d < 0 ∧ d < 3) (ha : ¬ a < 0 ∧ a < 4) (hb : ¬ b < 0 ∧ b < 4) (hc : ¬ c < 0 ∧ c < 4) : ∃ q : Int32, [Value.int a, .int b, .int c].getD d.toNatClampNeg (.int 0) = .int q ∧ (¬ q < 0 ∧ q < 4) := by
  rcases own_three hd with rfl | rfl | rfl
  · exact ⟨a, rfl, ha⟩
  · exact ⟨b, rfl, hb⟩
  · exact ⟨c, rfl, hc⟩
theorem own_name {q : Int32} (h : ¬ q < 0 ∧ q < 4) (hq : ¬ q = 0) : ¬ (q - (1 : Int32)) < 0 ∧ (q - (1 : Int32)) < 3 := by
  rcases own_four h with rfl | rfl | rfl | rfl
  · exact absurd rfl hq
  all_goals decide

theorem own_allc {c : Int32} {cs : List Int32} (h : Ch8 c) (r : ∀ c ∈ cs, ¬ c < 0 ∧ ¬ (255 : Int32) < c) : ∀ x ∈ c :: cs, ¬ x < 0 ∧ ¬ (255 : Int32) < x := fun x hx => (List.mem_cons.mp hx).elim (fun e => e ▸ h) (r x)
theorem pn_com_example_fama_fama_index_NamesOfPinLaw : plainName "com/example/fama/fama/index/NamesOfPinLaw" = true := by first | (simp [plainName, overriddenIn]; done) | decide +kernel
theorem pd__Ljava_lang_Object__Z : parseMethodDescriptor "(Ljava/lang/Object;)Z" = some ⟨[(.object "java/lang/Object")], some .boolean⟩ := by decide +kernel
theorem pd___C_V : parseMethodDescriptor "([C)V" = some ⟨[(.array .char)], none⟩ := by decide +kernel
theorem pd___I_Ljava_lang_String__V : parseMethodDescriptor "([I[Ljava/lang/String;)V" = some ⟨[(.array .int), (.array (.object "java/lang/String"))], none⟩ := by decide +kernel
set_option maxRecDepth 65536 in
set_option maxHeartbeats 40000000 in
theorem rm_law (l : Launch) (Z : State) (a0 : Array Value) (hw : ∀ d ∈ tables_1, d.before a0 Z = true) {ws : List Jvm.Cond} (i1 i2 i3 i4 : Int32) (i5 : Int64) (zc : Int32) (h0 : Heap) (n0 : Nat) (Szc : Sta Z h0 "java/lang/String" "COMPACT_STRINGS" "Z" (.int zc)) (hzc : ¬ (zc = (0 : Int32))) :
    Met l Z x code maxLocals ret ws room_1 [] #[(.int i1), (.int i2), (.int i3), (.int i4), (.long i5)] h0 n0 (nq (fun v _ => v = some (.int 1))) := by
  refine met_of (plainFor_of_name pn_com_example_fama_fama_index_NamesOfPinLaw) hw #[.val (.int i1), .val (.int i2), .val (.int i3), .val (.int i4), .val (.long i5), .second, .unset, .unset, .unset, .unset, .unset, .unset, .unset, .unset, .unset, .unset, .unset, .unset, .unset, .unset, .unset, .unset] (fun m => by first | (simp [entryFrame, mkF, argsToLocals, Value.category, maxLocals]; done) | rfl) ?_
  intro p e s m below meth c C0
  have C : Cx Z a0 tables_1 p s m meth c "com/example/fama/fama/index/NamesOfPinLaw" "law" code maxLocals ret n0 := C0
  refine g_lload C at_0 rfl ?_
  refine g_ldc2L C w_0 at_2 ?_
  refine g_land C at_5 ?_
  refine g_l2i C at_6 ?_
  refine g_i2c C at_7 ?_
  refine g_istore C #[.val (.int i1), .val (.int i2), .val (.int i3), .val (.int i4), .val (.long i5), .second, .val (.int (((i5 &&& (255 : Int64)).toInt32).toUInt32.toUInt16.toUInt32.toInt32)), .unset, .unset, .unset, .unset, .unset, .unset, .unset, .unset, .unset, .unset, .unset, .unset, .unset, .unset, .unset] at_8 rfl ?_
  obtain ⟨c0, e_c0, h_c0⟩ : ∃ z : Int32, (((i5 &&& (255 : Int64)).toInt32).toUInt32.toUInt16.toUInt32.toInt32) = z ∧ Ch8 z := ⟨_, rfl, ch8_l2c _⟩
  rw [e_c0]
  refine g_lload C at_10 rfl ?_
  refine g_bipush C 8 at_12 rfl ?_
  refine g_lushr C at_14 ?_
  refine g_ldc2L C w_0 at_15 ?_
  refine g_land C at_18 ?_
  refine g_l2i C at_19 ?_
  refine g_i2c C at_20 ?_
  refine g_istore C #[.val (.int i1), .val (.int i2), .val (.int i3), .val (.int i4), .val (.long i5), .second, .val (.int c0), .val (.int (((((i5.toUInt64 >>> ((8 : Int32) &&& 0x3f).toInt64.toUInt64).toInt64) &&& (255 : Int64)).toInt32).toUInt32.toUInt16.toUInt32.toInt32)), .unset, .unset, .unset, .unset, .unset, .unset, .unset, .unset, .unset, .unset, .unset, .unset, .unset, .unset] at_21 rfl ?_
  obtain ⟨c1, e_c1, h_c1⟩ : ∃ z : Int32, (((((i5.toUInt64 >>> ((8 : Int32) &&& 0x3f).toInt64.toUInt64).toInt64) &&& (255 : Int64)).toInt32).toUInt32.toUInt16.toUInt32.toInt32) = z ∧ Ch8 z := ⟨_, rfl, ch8_l2c _⟩
  rw [e_c1]
  refine g_lload C at_23 rfl ?_
  refine g_bipush C 16 at_25 rfl ?_
  refine g_lushr C at_27 ?_
  refine g_ldc2L C w_0 at_28 ?_
  refine g_land C at_31 ?_
  refine g_l2i C at_32 ?_
  refine g_i2c C at_33 ?_
  refine g_istore C #[.val (.int i1), .val (.int i2), .val (.int i3), .val (.int i4), .val (.long i5), .second, .val (.int c0), .val (.int c1), .val (.int (((((i5.toUInt64 >>> ((16 : Int32) &&& 0x3f).toInt64.toUInt64).toInt64) &&& (255 : Int64)).toInt32).toUInt32.toUInt16.toUInt32.toInt32)), .unset, .unset, .unset, .unset, .unset, .unset, .unset, .unset, .unset, .unset, .unset, .unset, .unset] at_34 rfl ?_
  obtain ⟨c2, e_c2, h_c2⟩ : ∃ z : Int32, (((((i5.toUInt64 >>> ((16 : Int32) &&& 0x3f).toInt64.toUInt64).toInt64) &&& (255 : Int64)).toInt32).toUInt32.toUInt16.toUInt32.toInt32) = z ∧ Ch8 z := ⟨_, rfl, ch8_l2c _⟩
  rw [e_c2]
  refine g_lload C at_36 rfl ?_
  refine g_bipush C 24 at_38 rfl ?_
  refine g_lushr C at_40 ?_
  refine g_ldc2L C w_0 at_41 ?_
  refine g_land C at_44 ?_
  refine g_l2i C at_45 ?_
  refine g_i2c C at_46 ?_
  refine g_istore C #[.val (.int i1), .val (.int i2), .val (.int i3), .val (.int i4), .val (.long i5), .second, .val (.int c0), .val (.int c1), .val (.int c2), .val (.int (((((i5.toUInt64 >>> ((24 : Int32) &&& 0x3f).toInt64.toUInt64).toInt64) &&& (255 : Int64)).toInt32).toUInt32.toUInt16.toUInt32.toInt32)), .unset, .unset, .unset, .unset, .unset, .unset, .unset, .unset, .unset, .unset, .unset, .unset] at_47 rfl ?_
  obtain ⟨c3, e_c3, h_c3⟩ : ∃ z : Int32, (((((i5.toUInt64 >>> ((24 : Int32) &&& 0x3f).toInt64.toUInt64).toInt64) &&& (255 : Int64)).toInt32).toUInt32.toUInt16.toUInt32.toInt32) = z ∧ Ch8 z := ⟨_, rfl, ch8_l2c _⟩
  rw [e_c3]
  refine g_lload C at_49 rfl ?_
  refine g_bipush C 32 at_51 rfl ?_
  refine g_lushr C at_53 ?_
  refine g_ldc2L C w_0 at_54 ?_
  refine g_land C at_57 ?_
  refine g_l2i C at_58 ?_
  refine g_i2c C at_59 ?_
  refine g_istore C #[.val (.int i1), .val (.int i2), .val (.int i3), .val (.int i4), .val (.long i5), .second, .val (.int c0), .val (.int c1), .val (.int c2), .val (.int c3), .val (.int (((((i5.toUInt64 >>> ((32 : Int32) &&& 0x3f).toInt64.toUInt64).toInt64) &&& (255 : Int64)).toInt32).toUInt32.toUInt16.toUInt32.toInt32)), .unset, .unset, .unset, .unset, .unset, .unset, .unset, .unset, .unset, .unset, .unset] at_60 rfl ?_
  obtain ⟨c4, e_c4, h_c4⟩ : ∃ z : Int32, (((((i5.toUInt64 >>> ((32 : Int32) &&& 0x3f).toInt64.toUInt64).toInt64) &&& (255 : Int64)).toInt32).toUInt32.toUInt16.toUInt32.toInt32) = z ∧ Ch8 z := ⟨_, rfl, ch8_l2c _⟩
  rw [e_c4]
  refine g_lload C at_62 rfl ?_
  refine g_bipush C 40 at_64 rfl ?_
  refine g_lushr C at_66 ?_
  refine g_ldc2L C w_0 at_67 ?_
  refine g_land C at_70 ?_
  refine g_l2i C at_71 ?_
  refine g_i2c C at_72 ?_
  refine g_istore C #[.val (.int i1), .val (.int i2), .val (.int i3), .val (.int i4), .val (.long i5), .second, .val (.int c0), .val (.int c1), .val (.int c2), .val (.int c3), .val (.int c4), .val (.int (((((i5.toUInt64 >>> ((40 : Int32) &&& 0x3f).toInt64.toUInt64).toInt64) &&& (255 : Int64)).toInt32).toUInt32.toUInt16.toUInt32.toInt32)), .unset, .unset, .unset, .unset, .unset, .unset, .unset, .unset, .unset, .unset] at_73 rfl ?_
  obtain ⟨c5, e_c5, h_c5⟩ : ∃ z : Int32, (((((i5.toUInt64 >>> ((40 : Int32) &&& 0x3f).toInt64.toUInt64).toInt64) &&& (255 : Int64)).toInt32).toUInt32.toUInt16.toUInt32.toInt32) = z ∧ Ch8 z := ⟨_, rfl, ch8_l2c _⟩
  rw [e_c5]
  refine g_new C w_1 w_2 w_3 at_75 (by decide) (by decide) ?_
  intro b109 h109 g109 E109 A109 D109
  refine g_dup C at_78 rfl ?_
  refine g_iconst C 1 at_79 rfl ?_
  refine g_newarray C (aty := .char) w_4 at_80 (by decide) 1 (by decide) (by decide) (by decide) (by decide) "[C" rfl ?_
  intro b110 h110 ka110 g110 E110 V110 A110
  replace V110 : Arv Z h110 b110 ka110 .char (1 : Int32) [(.int (0 : Int32))] (.int (0 : Int32)) := V110.pad (pad_rep [] _ 1)
  refine g_dup C at_82 rfl ?_
  refine g_iconst C 0 at_83 rfl ?_
  refine g_iload C at_84 rfl ?_
  refine g_castore C V110 (List.mem_of_getElem? (i := 0) rfl) at_86 ⟨by decide, by decide⟩ 0 rfl (Nat.le_of_ble_eq_true rfl) ?_
  intro h111 W111 V111
  rw [nar_ch8 h_c0] at V111
  replace V111 : Arv Z h111 b110 ka110 .char (1 : Int32) [(.int c0)] (.int (0 : Int32)) := V111
  have K112 : Keep h109 h110 [] := (Keep.refl h109 []).ext E110
  have K113 : Keep h109 h111 [] := K112.wr W111 (Or.inr (Nat.le_of_eq g110.symm))
  have E114 := (A109.keep K113)
  have F115 := ((D109 (Or.inr (C.hw w_30)) (ty := (.array .byte)) (by decide)).keep K113 nin0)
  have F116 := ((D109 (Or.inr (C.hw w_28)) (ty := .byte) (by decide)).keep K113 nin0)
  have K117 : Keep h0 h109 [] := (Keep.refl h0 []).ext E109
  have K118 : Keep h0 h110 [] := K117.ext E110
  have K119 : Keep h0 h111 [] := K118.wr W111 (Or.inr (Nat.le_trans K117.1 (Nat.le_of_eq g110.symm)))
  refine g_special C (a := b109) w_5 w_6 w_7 rfl (by decide) [(.ref b110)] (ct_newS hw (cs := [c0]) (n := 1) E114 F115 F116 V111 (Sta_keep Szc K119) hzc rfl (by decide) (by decide) (own_allc h_c0 (fun _ q => nomatch q))) (allS (List.mem_of_getElem? (i := 1) rfl) all0) (by decide) 1 (by decide) rfl pd___C_V rfl [(.ref b109)] rfl (Nat.le_of_eq rfl) at_87 (by decide) (by decide) ?_
  intro v120 h120 Q120
  obtain ⟨rfl, KC120, t120, kb120, ht120, htx120, S120⟩ := Q120
  refine g_astore C #[.val (.int i1), .val (.int i2), .val (.int i3), .val (.int i4), .val (.long i5), .second, .val (.int c0), .val (.int c1), .val (.int c2), .val (.int c3), .val (.int c4), .val (.int c5), .val (.ref b109), .unset, .unset, .unset, .unset, .unset, .unset, .unset, .unset, .unset] at_90 rfl rfl ?_
  refine g_new C w_1 w_2 w_3 at_92 (by decide) (by decide) ?_
  intro b121 h121 g121 E121 A121 D121
  refine g_dup C at_95 rfl ?_
  refine g_iconst C 2 at_96 rfl ?_
  refine g_newarray C (aty := .char) w_4 at_97 (by decide) 2 (by decide) (by decide) (by decide) (by decide) "[C" rfl ?_
  intro b122 h122 ka122 g122 E122 V122 A122
  replace V122 : Arv Z h122 b122 ka122 .char (2 : Int32) [(.int (0 : Int32)), (.int (0 : Int32))] (.int (0 : Int32)) := V122.pad (pad_rep [] _ 2)
  refine g_dup C at_99 rfl ?_
  refine g_iconst C 0 at_100 rfl ?_
  refine g_iload C at_101 rfl ?_
  refine g_castore C V122 (List.mem_of_getElem? (i := 0) rfl) at_103 ⟨by decide, by decide⟩ 0 rfl (Nat.le_of_ble_eq_true rfl) ?_
  intro h123 W123 V123
  rw [nar_ch8 h_c1] at V123
  replace V123 : Arv Z h123 b122 ka122 .char (2 : Int32) [(.int c1), (.int (0 : Int32))] (.int (0 : Int32)) := V123
  refine g_dup C at_104 rfl ?_
  refine g_iconst C 1 at_105 rfl ?_
  refine g_iload C at_106 rfl ?_
  refine g_castore C V123 (List.mem_of_getElem? (i := 0) rfl) at_108 ⟨by decide, by decide⟩ 1 rfl (Nat.le_of_ble_eq_true rfl) ?_
  intro h124 W124 V124
  rw [nar_ch8 h_c2] at V124
  replace V124 : Arv Z h124 b122 ka122 .char (2 : Int32) [(.int c1), (.int c2)] (.int (0 : Int32)) := V124
  have K125 : Keep h121 h122 [] := (Keep.refl h121 []).ext E122
  have K126 : Keep h121 h123 [] := K125.wr W123 (Or.inr (Nat.le_of_eq g122.symm))
  have K127 : Keep h121 h124 [] := K126.wr W124 (Or.inr (Nat.le_of_eq g122.symm))
  have E128 := (A121.keep K127)
  have F129 := ((D121 (Or.inr (C.hw w_30)) (ty := (.array .byte)) (by decide)).keep K127 nin0)
  have F130 := ((D121 (Or.inr (C.hw w_28)) (ty := .byte) (by decide)).keep K127 nin0)
  have K131 : Keep h0 h120 [] := K119.trans KC120 (allS (Or.inr (Nat.le_of_eq g109.symm)) all0)
  have K132 : Keep h0 h121 [] := K131.ext E121
  have K133 : Keep h0 h122 [] := K132.ext E122
  have K134 : Keep h0 h123 [] := K133.wr W123 (Or.inr (Nat.le_trans K132.1 (Nat.le_of_eq g122.symm)))
  have K135 : Keep h0 h124 [] := K134.wr W124 (Or.inr (Nat.le_trans K132.1 (Nat.le_of_eq g122.symm)))
  refine g_special C (a := b121) w_5 w_6 w_7 rfl (by decide) [(.ref b122)] (ct_newS hw (cs := [c1, c2]) (n := 2) E128 F129 F130 V124 (Sta_keep Szc K135) hzc rfl (by decide) (by decide) (own_allc h_c1 (own_allc h_c2 (fun _ q => nomatch q)))) (allS (List.mem_of_getElem? (i := 1) rfl) all0) (by decide) 1 (by decide) rfl pd___C_V rfl [(.ref b121)] rfl (Nat.le_of_eq rfl) at_109 (by decide) (by decide) ?_
  intro v136 h136 Q136
  obtain ⟨rfl, KC136, t136, kb136, ht136, htx136, S136⟩ := Q136
  refine g_astore C #[.val (.int i1), .val (.int i2), .val (.int i3), .val (.int i4), .val (.long i5), .second, .val (.int c0), .val (.int c1), .val (.int c2), .val (.int c3), .val (.int c4), .val (.int c5), .val (.ref b109), .val (.ref b121), .unset, .unset, .unset, .unset, .unset, .unset, .unset, .unset] at_112 rfl rfl ?_
  refine g_new C w_1 w_2 w_3 at_114 (by decide) (by decide) ?_
  intro b137 h137 g137 E137 A137 D137
  refine g_dup C at_117 rfl ?_
  refine g_iconst C 3 at_118 rfl ?_
  refine g_newarray C (aty := .char) w_4 at_119 (by decide) 3 (by decide) (by decide) (by decide) (by decide) "[C" rfl ?_
  intro b138 h138 ka138 g138 E138 V138 A138
  replace V138 : Arv Z h138 b138 ka138 .char (3 : Int32) [(.int (0 : Int32)), (.int (0 : Int32)), (.int (0 : Int32))] (.int (0 : Int32)) := V138.pad (pad_rep [] _ 3)
  refine g_dup C at_121 rfl ?_
  refine g_iconst C 0 at_122 rfl ?_
  refine g_iload C at_123 rfl ?_
  refine g_castore C V138 (List.mem_of_getElem? (i := 0) rfl) at_125 ⟨by decide, by decide⟩ 0 rfl (Nat.le_of_ble_eq_true rfl) ?_
  intro h139 W139 V139
  rw [nar_ch8 h_c3] at V139
  replace V139 : Arv Z h139 b138 ka138 .char (3 : Int32) [(.int c3), (.int (0 : Int32)), (.int (0 : Int32))] (.int (0 : Int32)) := V139
  refine g_dup C at_126 rfl ?_
  refine g_iconst C 1 at_127 rfl ?_
  refine g_iload C at_128 rfl ?_
  refine g_castore C V139 (List.mem_of_getElem? (i := 0) rfl) at_130 ⟨by decide, by decide⟩ 1 rfl (Nat.le_of_ble_eq_true rfl) ?_
  intro h140 W140 V140
  rw [nar_ch8 h_c4] at V140
  replace V140 : Arv Z h140 b138 ka138 .char (3 : Int32) [(.int c3), (.int c4), (.int (0 : Int32))] (.int (0 : Int32)) := V140
  refine g_dup C at_131 rfl ?_
  refine g_iconst C 2 at_132 rfl ?_
  refine g_iload C at_133 rfl ?_
  refine g_castore C V140 (List.mem_of_getElem? (i := 0) rfl) at_135 ⟨by decide, by decide⟩ 2 rfl (Nat.le_of_ble_eq_true rfl) ?_
  intro h141 W141 V141
  rw [nar_ch8 h_c5] at V141
  replace V141 : Arv Z h141 b138 ka138 .char (3 : Int32) [(.int c3), (.int c4), (.int c5)] (.int (0 : Int32)) := V141
  have K142 : Keep h137 h138 [] := (Keep.refl h137 []).ext E138
  have K143 : Keep h137 h139 [] := K142.wr W139 (Or.inr (Nat.le_of_eq g138.symm))
  have K144 : Keep h137 h140 [] := K143.wr W140 (Or.inr (Nat.le_of_eq g138.symm))
  have K145 : Keep h137 h141 [] := K144.wr W141 (Or.inr (Nat.le_of_eq g138.symm))
  have E146 := (A137.keep K145)
  have F147 := ((D137 (Or.inr (C.hw w_30)) (ty := (.array .byte)) (by decide)).keep K145 nin0)
  have F148 := ((D137 (Or.inr (C.hw w_28)) (ty := .byte) (by decide)).keep K145 nin0)
  have K149 : Keep h0 h136 [] := K135.trans KC136 (allS (Or.inr (Nat.le_trans K131.1 (Nat.le_of_eq g121.symm))) all0)
  have K150 : Keep h0 h137 [] := K149.ext E137
  have K151 : Keep h0 h138 [] := K150.ext E138
  have K152 : Keep h0 h139 [] := K151.wr W139 (Or.inr (Nat.le_trans K150.1 (Nat.le_of_eq g138.symm)))
  have K153 : Keep h0 h140 [] := K152.wr W140 (Or.inr (Nat.le_trans K150.1 (Nat.le_of_eq g138.symm)))
  have K154 : Keep h0 h141 [] := K153.wr W141 (Or.inr (Nat.le_trans K150.1 (Nat.le_of_eq g138.symm)))
  refine g_special C (a := b137) w_5 w_6 w_7 rfl (by decide) [(.ref b138)] (ct_newS hw (cs := [c3, c4, c5]) (n := 3) E146 F147 F148 V141 (Sta_keep Szc K154) hzc rfl (by decide) (by decide) (own_allc h_c3 (own_allc h_c4 (own_allc h_c5 (fun _ q => nomatch q))))) (allS (List.mem_of_getElem? (i := 1) rfl) all0) (by decide) 1 (by decide) rfl pd___C_V rfl [(.ref b137)] rfl (Nat.le_of_eq rfl) at_136 (by decide) (by decide) ?_
  intro v155 h155 Q155
  obtain ⟨rfl, KC155, t155, kb155, ht155, htx155, S155⟩ := Q155
  refine g_astore C #[.val (.int i1), .val (.int i2), .val (.int i3), .val (.int i4), .val (.long i5), .second, .val (.int c0), .val (.int c1), .val (.int c2), .val (.int c3), .val (.int c4), .val (.int c5), .val (.ref b109), .val (.ref b121), .val (.ref b137), .unset, .unset, .unset, .unset, .unset, .unset, .unset] at_139 rfl rfl ?_
  refine g_iconst C 3 at_141 rfl ?_
  refine g_newarray C (aty := .int) w_31 at_142 (by decide) 3 (by decide) (by decide) (by decide) (by decide) "[I" rfl ?_
  intro b156 h156 ka156 g156 E156 V156 A156
  replace V156 : Arv Z h156 b156 ka156 .int (3 : Int32) [(.int (0 : Int32)), (.int (0 : Int32)), (.int (0 : Int32))] (.int (0 : Int32)) := V156.pad (pad_rep [] _ 3)
  refine g_astore C #[.val (.int i1), .val (.int i2), .val (.int i3), .val (.int i4), .val (.long i5), .second, .val (.int c0), .val (.int c1), .val (.int c2), .val (.int c3), .val (.int c4), .val (.int c5), .val (.ref b109), .val (.ref b121), .val (.ref b137), .val (.ref b156), .unset, .unset, .unset, .unset, .unset, .unset] at_144 rfl rfl ?_
  refine g_aload C at_146 rfl rfl ?_
  refine g_iconst C 0 at_148 rfl ?_
  refine g_iloadN C at_149 rfl ?_
  refine g_ldcI C w_32 at_150 ?_
  refine g_iand C at_152 ?_
  refine g_iconst C 4 at_153 rfl ?_
  refine g_irem C at_154 (by decide) ?_
  refine g_iastore C V156 (List.mem_of_getElem? (i := 0) rfl) at_155 ⟨by decide, by decide⟩ 0 rfl (Nat.le_of_ble_eq_true rfl) ?_
  intro h157 W157 V157
  replace V157 : Arv Z h157 b156 ka156 .int (3 : Int32) [(.int ((i1 &&& (2147483647 : Int32)) % (4 : Int32))), (.int (0 : Int32)), (.int (0 : Int32))] (.int (0 : Int32)) := V157
  refine g_aload C at_156 rfl rfl ?_
  refine g_iconst C 1 at_158 rfl ?_
  refine g_iloadN C at_159 rfl ?_
  refine g_ldcI C w_32 at_160 ?_
  refine g_iand C at_162 ?_
  refine g_iconst C 4 at_163 rfl ?_
  refine g_irem C at_164 (by decide) ?_
  refine g_iastore C V157 (List.mem_of_getElem? (i := 0) rfl) at_165 ⟨by decide, by decide⟩ 1 rfl (Nat.le_of_ble_eq_true rfl) ?_
  intro h158 W158 V158
  replace V158 : Arv Z h158 b156 ka156 .int (3 : Int32) [(.int ((i1 &&& (2147483647 : Int32)) % (4 : Int32))), (.int ((i2 &&& (2147483647 : Int32)) % (4 : Int32))), (.int (0 : Int32))] (.int (0 : Int32)) := V158
  refine g_aload C at_166 rfl rfl ?_
  refine g_iconst C 2 at_168 rfl ?_
  refine g_iloadN C at_169 rfl ?_
  refine g_ldcI C w_32 at_170 ?_
  refine g_iand C at_172 ?_
  refine g_iconst C 4 at_173 rfl ?_
  refine g_irem C at_174 (by decide) ?_
  refine g_iastore C V158 (List.mem_of_getElem? (i := 0) rfl) at_175 ⟨by decide, by decide⟩ 2 rfl (Nat.le_of_ble_eq_true rfl) ?_
  intro h159 W159 V159
  replace V159 : Arv Z h159 b156 ka156 .int (3 : Int32) [(.int ((i1 &&& (2147483647 : Int32)) % (4 : Int32))), (.int ((i2 &&& (2147483647 : Int32)) % (4 : Int32))), (.int ((i3 &&& (2147483647 : Int32)) % (4 : Int32)))] (.int (0 : Int32)) := V159
  refine g_iconst C 3 at_176 rfl ?_
  refine g_anewarray C w_1 w_33 at_177 (by decide) 3 (by decide) (by decide) (by decide) (by decide) "[Ljava/lang/String;" rfl ?_
  intro b160 h160 ka160 g160 E160 V160 O160 A160
  replace V160 : Arv Z h160 b160 ka160 (.object "java/lang/String") (3 : Int32) [.null, .null, .null] .null := V160.pad (pad_rep [] _ 3)
  refine g_dup C at_180 rfl ?_
  refine g_iconst C 0 at_181 rfl ?_
  refine g_aload C at_182 rfl rfl ?_
  have K162 : Keep h120 h121 [] := (Keep.refl h120 []).ext E121
  have K163 : Keep h120 h122 [] := K162.ext E122
  have K164 : Keep h120 h123 [] := K163.wr W123 (Or.inr (Nat.le_trans K162.1 (Nat.le_of_eq g122.symm)))
  have K165 : Keep h120 h124 [] := K164.wr W124 (Or.inr (Nat.le_trans K162.1 (Nat.le_of_eq g122.symm)))
  have K166 : Keep h120 h136 [] := K165.trans KC136 (allS (Or.inr (Nat.le_of_eq g121.symm)) all0)
  have K167 : Keep h120 h137 [] := K166.ext E137
  have K168 : Keep h120 h138 [] := K167.ext E138
  have K169 : Keep h120 h139 [] := K168.wr W139 (Or.inr (Nat.le_trans K167.1 (Nat.le_of_eq g138.symm)))
  have K170 : Keep h120 h140 [] := K169.wr W140 (Or.inr (Nat.le_trans K167.1 (Nat.le_of_eq g138.symm)))
  have K171 : Keep h120 h141 [] := K170.wr W141 (Or.inr (Nat.le_trans K167.1 (Nat.le_of_eq g138.symm)))
  have K172 : Keep h120 h155 [] := K171.trans KC155 (allS (Or.inr (Nat.le_trans K166.1 (Nat.le_of_eq g137.symm))) all0)
  have K173 : Keep h120 h156 [] := K172.ext E156
  have K174 : Keep h120 h157 [] := K173.wr W157 (Or.inr (Nat.le_trans K172.1 (Nat.le_of_eq g156.symm)))
  have K175 : Keep h120 h158 [] := K174.wr W158 (Or.inr (Nat.le_trans K172.1 (Nat.le_of_eq g156.symm)))
  have K176 : Keep h120 h159 [] := K175.wr W159 (Or.inr (Nat.le_trans K172.1 (Nat.le_of_eq g156.symm)))
  have K177 : Keep h120 h160 [] := K176.ext E160
  have E178 := (S120.1.keep K177)
  refine g_aastore C V160 rfl rfl (own_sto V160 O160 (Ins.self E178)) (List.mem_of_getElem? (i := 0) rfl) at_184 ⟨by decide, by decide⟩ 0 rfl (Nat.le_of_ble_eq_true rfl) ?_
  intro h161 W161 V161
  replace V161 : Arv Z h161 b160 ka160 (.object "java/lang/String") (3 : Int32) [(.ref b109), .null, .null] .null := V161
  refine g_dup C at_185 rfl ?_
  refine g_iconst C 1 at_186 rfl ?_
  refine g_aload C at_187 rfl rfl ?_
  have K180 : Keep h136 h137 [] := (Keep.refl h136 []).ext E137
  have K181 : Keep h136 h138 [] := K180.ext E138
  have K182 : Keep h136 h139 [] := K181.wr W139 (Or.inr (Nat.le_trans K180.1 (Nat.le_of_eq g138.symm)))
  have K183 : Keep h136 h140 [] := K182.wr W140 (Or.inr (Nat.le_trans K180.1 (Nat.le_of_eq g138.symm)))
  have K184 : Keep h136 h141 [] := K183.wr W141 (Or.inr (Nat.le_trans K180.1 (Nat.le_of_eq g138.symm)))
  have K185 : Keep h136 h155 [] := K184.trans KC155 (allS (Or.inr (Nat.le_of_eq g137.symm)) all0)
  have K186 : Keep h136 h156 [] := K185.ext E156
  have K187 : Keep h136 h157 [] := K186.wr W157 (Or.inr (Nat.le_trans K185.1 (Nat.le_of_eq g156.symm)))
  have K188 : Keep h136 h158 [] := K187.wr W158 (Or.inr (Nat.le_trans K185.1 (Nat.le_of_eq g156.symm)))
  have K189 : Keep h136 h159 [] := K188.wr W159 (Or.inr (Nat.le_trans K185.1 (Nat.le_of_eq g156.symm)))
  have K190 : Keep h136 h160 [] := K189.ext E160
  have K191 : Keep h136 h161 [] := K190.wr W161 (Or.inr (Nat.le_trans K189.1 (Nat.le_of_eq g160.symm)))
  have E192 := (S136.1.keep K191)
  refine g_aastore C V161 rfl rfl (own_sto V161 O160 (Ins.self E192)) (List.mem_of_getElem? (i := 0) rfl) at_189 ⟨by decide, by decide⟩ 1 rfl (Nat.le_of_ble_eq_true rfl) ?_
  intro h179 W179 V179
  replace V179 : Arv Z h179 b160 ka160 (.object "java/lang/String") (3 : Int32) [(.ref b109), (.ref b121), .null] .null := V179
  refine g_dup C at_190 rfl ?_
  refine g_iconst C 2 at_191 rfl ?_
  refine g_aload C at_192 rfl rfl ?_
  have K194 : Keep h155 h156 [] := (Keep.refl h155 []).ext E156
  have K195 : Keep h155 h157 [] := K194.wr W157 (Or.inr (Nat.le_of_eq g156.symm))
  have K196 : Keep h155 h158 [] := K195.wr W158 (Or.inr (Nat.le_of_eq g156.symm))
  have K197 : Keep h155 h159 [] := K196.wr W159 (Or.inr (Nat.le_of_eq g156.symm))
  have K198 : Keep h155 h160 [] := K197.ext E160
  have K199 : Keep h155 h161 [] := K198.wr W161 (Or.inr (Nat.le_trans K197.1 (Nat.le_of_eq g160.symm)))
  have K200 : Keep h155 h179 [] := K199.wr W179 (Or.inr (Nat.le_trans K197.1 (Nat.le_of_eq g160.symm)))
  have E201 := (S155.1.keep K200)
  refine g_aastore C V179 rfl rfl (own_sto V179 O160 (Ins.self E201)) (List.mem_of_getElem? (i := 0) rfl) at_194 ⟨by decide, by decide⟩ 2 rfl (Nat.le_of_ble_eq_true rfl) ?_
  intro h193 W193 V193
  replace V193 : Arv Z h193 b160 ka160 (.object "java/lang/String") (3 : Int32) [(.ref b109), (.ref b121), (.ref b137)] .null := V193
  refine g_astore C #[.val (.int i1), .val (.int i2), .val (.int i3), .val (.int i4), .val (.long i5), .second, .val (.int c0), .val (.int c1), .val (.int c2), .val (.int c3), .val (.int c4), .val (.int c5), .val (.ref b109), .val (.ref b121), .val (.ref b137), .val (.ref b156), .val (.ref b160), .unset, .unset, .unset, .unset, .unset] at_195 rfl rfl ?_
  refine g_new C w_34 w_35 w_36 at_197 (by decide) (by decide) ?_
  intro b202 h202 g202 E202 A202 D202
  refine g_dup C at_200 rfl ?_
  refine g_aload C at_201 rfl rfl ?_
  refine g_aload C at_203 rfl rfl ?_
  refine g_special C (a := b202) w_37 w_38 w_39 rfl (by decide) [(.ref b156), (.ref b160)] (ct_of hw w_39 w_36 (rm_init l Z a0 hw b202 b156 b160 h202 n0 A202 (D202 (Or.inr (C.hw w_42)) (ty := (.array .int)) (by decide)) (D202 (Or.inr (C.hw w_44)) (ty := (.array (.object "java/lang/String"))) (by decide)))) (allS (List.mem_of_getElem? (i := 0) rfl) all0) (by decide) 1 (by decide) rfl pd___I_Ljava_lang_String__V rfl [(.ref b202)] rfl (Nat.le_of_eq rfl) at_205 (by decide) (by decide) ?_
  intro v203 h203 Q203
  obtain ⟨rfl, KC203, X203, G203, J203⟩ := Q203
  refine g_astore C #[.val (.int i1), .val (.int i2), .val (.int i3), .val (.int i4), .val (.long i5), .second, .val (.int c0), .val (.int c1), .val (.int c2), .val (.int c3), .val (.int c4), .val (.int c5), .val (.ref b109), .val (.ref b121), .val (.ref b137), .val (.ref b156), .val (.ref b160), .val (.ref b202), .unset, .unset, .unset, .unset] at_208 rfl rfl ?_
  refine g_iloadN C at_210 rfl ?_
  refine g_ldcI C w_32 at_211 ?_
  refine g_iand C at_213 ?_
  refine g_iconst C 3 at_214 rfl ?_
  refine g_irem C at_215 (by decide) ?_
  refine g_istore C #[.val (.int i1), .val (.int i2), .val (.int i3), .val (.int i4), .val (.long i5), .second, .val (.int c0), .val (.int c1), .val (.int c2), .val (.int c3), .val (.int c4), .val (.int c5), .val (.ref b109), .val (.ref b121), .val (.ref b137), .val (.ref b156), .val (.ref b160), .val (.ref b202), .val (.int ((i4 &&& (2147483647 : Int32)) % (3 : Int32))), .unset, .unset, .unset] at_216 rfl ?_
  obtain ⟨dd, e_dd⟩ : ∃ z : Int32, ((i4 &&& (2147483647 : Int32)) % (3 : Int32)) = z := ⟨_, rfl⟩
  have hdd : ¬ dd < 0 ∧ dd < 3 := e_dd ▸ own_mod _ 3 (own_and_nn _) (by decide)
  rw [e_dd]
  have K204 : Keep h159 h160 [] := (Keep.refl h159 []).ext E160
  have K205 : Keep h159 h161 [] := K204.wr W161 (Or.inr (Nat.le_of_eq g160.symm))
  have K206 : Keep h159 h179 [] := K205.wr W179 (Or.inr (Nat.le_of_eq g160.symm))
  have K207 : Keep h159 h193 [] := K206.wr W193 (Or.inr (Nat.le_of_eq g160.symm))
  have K208 : Keep h159 h202 [] := K207.ext E202
  have K209 : Keep h159 h203 [] := K208.trans KC203 (allS (Or.inr (Nat.le_trans K207.1 (Nat.le_of_eq g202.symm))) all0)
  have V210 := (V159.keep K209 nin0)
  obtain ⟨q4, hk4, hq4⟩ := own_pick hdd (own_mod _ 4 (own_and_nn i1) (by decide)) (own_mod _ 4 (own_and_nn i2) (by decide)) (own_mod _ 4 (own_and_nn i3) (by decide))
  refine g_aload C at_218 rfl rfl ?_
  refine g_iload C at_220 rfl ?_
  refine g_iaload C V210 at_222 hdd (v := (.int q4)) hk4 ?_
  refine g_istore C #[.val (.int i1), .val (.int i2), .val (.int i3), .val (.int i4), .val (.long i5), .second, .val (.int c0), .val (.int c1), .val (.int c2), .val (.int c3), .val (.int c4), .val (.int c5), .val (.ref b109), .val (.ref b121), .val (.ref b137), .val (.ref b156), .val (.ref b160), .val (.ref b202), .val (.int dd), .val (.int q4), .unset, .unset] at_223 rfl ?_
  rcases own_four hq4 with h4 | h4 | h4 | h4
  · refine g_iload C at_225 rfl ?_
    refine g_if_f C at_227 (XT.i0_ne_f h4) ?_
    refine g_aconst_null C at_230 ?_
    refine g_astore C #[.val (.int i1), .val (.int i2), .val (.int i3), .val (.int i4), .val (.long i5), .second, .val (.int c0), .val (.int c1), .val (.int c2), .val (.int c3), .val (.int c4), .val (.int c5), .val (.ref b109), .val (.ref b121), .val (.ref b137), .val (.ref b156), .val (.ref b160), .val (.ref b202), .val (.int dd), .val (.int q4), .val .null, .unset] at_231 rfl rfl ?_
    refine g_goto C 266 at_233 (by decide) (by decide) ?_
    refine g_aload C at_266 rfl rfl ?_
    refine g_iload C at_268 rfl ?_
    have K211 : Keep h193 h202 [] := (Keep.refl h193 []).ext E202
    have K212 : Keep h193 h203 [] := K211.trans KC203 (allS (Or.inr (Nat.le_of_eq g202.symm)) all0)
    have V213 := (V193.keep K212 nin0)
    refine g_virtual C X203 w_45 w_46 (fun hZ => nf_sel hw w_48 hZ) w_48 w_47 (by decide) [(.int dd)] (ct_of hw w_49 w_36 (rm_of l Z a0 hw b202 b156 b160 dd q4 (3 : Int32) (3 : Int32) _ _ _ _ (.ref b109) h203 n0 X203 G203 J203 V210 V213 hdd hk4 (own_name hq4) (fun nz => absurd h4 nz) rfl)) all0 (by decide) 0 (by decide) rfl pd__I_Ljava_lang_String_ rfl [] rfl (Nat.le_of_eq rfl) at_270 (by decide) (by decide) ?_
    intro v214 h214 Q214
    obtain ⟨ev214, e214⟩ := Q214
    replace e214 := e214.symm
    subst e214
    have ew214 : v214 = some .null := by rw [ev214, h4] <;> rfl
    subst ew214
    refine g_astore C #[.val (.int i1), .val (.int i2), .val (.int i3), .val (.int i4), .val (.long i5), .second, .val (.int c0), .val (.int c1), .val (.int c2), .val (.int c3), .val (.int c4), .val (.int c5), .val (.ref b109), .val (.ref b121), .val (.ref b137), .val (.ref b156), .val (.ref b160), .val (.ref b202), .val (.int dd), .val (.int q4), .val .null, .val .null] at_273 rfl rfl ?_
    refine g_aload C at_275 rfl rfl ?_
    refine g_ifnonnull_f C at_277 ?_
    refine g_aload C at_280 rfl rfl ?_
    refine g_ifnonnull_f C at_282 ?_
    refine g_iconst C 1 at_285 rfl ?_
    refine g_goto C 290 at_286 (by decide) (by decide) ?_
    refine g_ireturnN C (t := .boolean) rfl (by simp) at_290 (by decide) (by decide) ?_
    exact rfl
  · refine g_iload C at_225 rfl ?_
    refine g_if_t C 236 at_227 (XT.i0_ne_t (by rw [h4]; decide)) (by decide) (by decide) ?_
    refine g_iload C at_236 rfl ?_
    refine g_iconst C 1 at_238 rfl ?_
    refine g_icmp_f C at_239 (XT.ii_ne_f h4) ?_
    refine g_aload C at_242 rfl rfl ?_
    refine g_astore C #[.val (.int i1), .val (.int i2), .val (.int i3), .val (.int i4), .val (.long i5), .second, .val (.int c0), .val (.int c1), .val (.int c2), .val (.int c3), .val (.int c4), .val (.int c5), .val (.ref b109), .val (.ref b121), .val (.ref b137), .val (.ref b156), .val (.ref b160), .val (.ref b202), .val (.int dd), .val (.int q4), .val (.ref b109), .unset] at_244 rfl rfl ?_
    refine g_goto C 266 at_246 (by decide) (by decide) ?_
    refine g_aload C at_266 rfl rfl ?_
    refine g_iload C at_268 rfl ?_
    have K215 : Keep h193 h202 [] := (Keep.refl h193 []).ext E202
    have K216 : Keep h193 h203 [] := K215.trans KC203 (allS (Or.inr (Nat.le_of_eq g202.symm)) all0)
    have V217 := (V193.keep K216 nin0)
    refine g_virtual C X203 w_45 w_46 (fun hZ => nf_sel hw w_48 hZ) w_48 w_47 (by decide) [(.int dd)] (ct_of hw w_49 w_36 (rm_of l Z a0 hw b202 b156 b160 dd q4 (3 : Int32) (3 : Int32) _ _ _ _ (.ref b109) h203 n0 X203 G203 J203 V210 V217 hdd hk4 (own_name hq4) (fun _ => by rw [h4] <;> rfl) rfl)) all0 (by decide) 0 (by decide) rfl pd__I_Ljava_lang_String_ rfl [] rfl (Nat.le_of_eq rfl) at_270 (by decide) (by decide) ?_
    intro v218 h218 Q218
    obtain ⟨ev218, e218⟩ := Q218
    replace e218 := e218.symm
    subst e218
    have ew218 : v218 = some (.ref b109) := by rw [ev218, h4] <;> rfl
    subst ew218
    refine g_astore C #[.val (.int i1), .val (.int i2), .val (.int i3), .val (.int i4), .val (.long i5), .second, .val (.int c0), .val (.int c1), .val (.int c2), .val (.int c3), .val (.int c4), .val (.int c5), .val (.ref b109), .val (.ref b121), .val (.ref b137), .val (.ref b156), .val (.ref b160), .val (.ref b202), .val (.int dd), .val (.int q4), .val (.ref b109), .val (.ref b109)] at_273 rfl rfl ?_
    refine g_aload C at_275 rfl rfl ?_
    refine g_ifnonnull_t C 291 at_277 (by decide) (by decide) ?_
    refine g_aload C at_291 rfl rfl ?_
    refine g_ifnull_f C at_293 ?_
    refine g_aload C at_296 rfl rfl ?_
    refine g_aload C at_298 rfl rfl ?_
    have E220 := (((((E178.wr W161).wr W179).wr W193).ext E202).keep KC203)
    refine g_virtual C E220 w_55 w_56 (fun hZ => nf_sel hw w_58 hZ) w_58 w_57 (by decide) [(.ref b109)] (ct_of hw w_59 w_3 (rm_eq l Z a0 hw b109 h203 n0)) all0 (by decide) 0 (by decide) rfl pd__Ljava_lang_Object__Z rfl [] rfl (Nat.le_of_eq rfl) at_300 (by decide) (by decide) ?_
    intro v219 h219 Q219
    obtain ⟨rfl, e219⟩ := Q219
    replace e219 := e219.symm
    subst e219
    refine g_if_f C at_303 (XT.i0_eq_f (by decide)) ?_
    refine g_iconst C 1 at_306 rfl ?_
    refine g_goto C 311 at_307 (by decide) (by decide) ?_
    refine g_ireturnN C (t := .boolean) rfl (by simp) at_311 (by decide) (by decide) ?_
    exact rfl
  · refine g_iload C at_225 rfl ?_
    refine g_if_t C 236 at_227 (XT.i0_ne_t (by rw [h4]; decide)) (by decide) (by decide) ?_
    refine g_iload C at_236 rfl ?_
    refine g_iconst C 1 at_238 rfl ?_
    refine g_icmp_t C 249 at_239 (XT.ii_ne_t (by rw [h4]; decide)) (by decide) (by decide) ?_
    refine g_iload C at_249 rfl ?_
    refine g_iconst C 2 at_251 rfl ?_
    refine g_icmp_f C at_252 (XT.ii_ne_f h4) ?_
    refine g_aload C at_255 rfl rfl ?_
    refine g_astore C #[.val (.int i1), .val (.int i2), .val (.int i3), .val (.int i4), .val (.long i5), .second, .val (.int c0), .val (.int c1), .val (.int c2), .val (.int c3), .val (.int c4), .val (.int c5), .val (.ref b109), .val (.ref b121), .val (.ref b137), .val (.ref b156), .val (.ref b160), .val (.ref b202), .val (.int dd), .val (.int q4), .val (.ref b121), .unset] at_257 rfl rfl ?_
    refine g_goto C 266 at_259 (by decide) (by decide) ?_
    refine g_aload C at_266 rfl rfl ?_
    refine g_iload C at_268 rfl ?_
    have K221 : Keep h193 h202 [] := (Keep.refl h193 []).ext E202
    have K222 : Keep h193 h203 [] := K221.trans KC203 (allS (Or.inr (Nat.le_of_eq g202.symm)) all0)
    have V223 := (V193.keep K222 nin0)
    refine g_virtual C X203 w_45 w_46 (fun hZ => nf_sel hw w_48 hZ) w_48 w_47 (by decide) [(.int dd)] (ct_of hw w_49 w_36 (rm_of l Z a0 hw b202 b156 b160 dd q4 (3 : Int32) (3 : Int32) _ _ _ _ (.ref b121) h203 n0 X203 G203 J203 V210 V223 hdd hk4 (own_name hq4) (fun _ => by rw [h4] <;> rfl) rfl)) all0 (by decide) 0 (by decide) rfl pd__I_Ljava_lang_String_ rfl [] rfl (Nat.le_of_eq rfl) at_270 (by decide) (by decide) ?_
    intro v224 h224 Q224
    obtain ⟨ev224, e224⟩ := Q224
    replace e224 := e224.symm
    subst e224
    have ew224 : v224 = some (.ref b121) := by rw [ev224, h4] <;> rfl
    subst ew224
    refine g_astore C #[.val (.int i1), .val (.int i2), .val (.int i3), .val (.int i4), .val (.long i5), .second, .val (.int c0), .val (.int c1), .val (.int c2), .val (.int c3), .val (.int c4), .val (.int c5), .val (.ref b109), .val (.ref b121), .val (.ref b137), .val (.ref b156), .val (.ref b160), .val (.ref b202), .val (.int dd), .val (.int q4), .val (.ref b121), .val (.ref b121)] at_273 rfl rfl ?_
    refine g_aload C at_275 rfl rfl ?_
    refine g_ifnonnull_t C 291 at_277 (by decide) (by decide) ?_
    refine g_aload C at_291 rfl rfl ?_
    refine g_ifnull_f C at_293 ?_
    refine g_aload C at_296 rfl rfl ?_
    refine g_aload C at_298 rfl rfl ?_
    have E226 := ((((E192.wr W179).wr W193).ext E202).keep KC203)
    refine g_virtual C E226 w_55 w_56 (fun hZ => nf_sel hw w_58 hZ) w_58 w_57 (by decide) [(.ref b121)] (ct_of hw w_59 w_3 (rm_eq l Z a0 hw b121 h203 n0)) all0 (by decide) 0 (by decide) rfl pd__Ljava_lang_Object__Z rfl [] rfl (Nat.le_of_eq rfl) at_300 (by decide) (by decide) ?_
    intro v225 h225 Q225
    obtain ⟨rfl, e225⟩ := Q225
    replace e225 := e225.symm
    subst e225
    refine g_if_f C at_303 (XT.i0_eq_f (by decide)) ?_
    refine g_iconst C 1 at_306 rfl ?_
    refine g_goto C 311 at_307 (by decide) (by decide) ?_
    refine g_ireturnN C (t := .boolean) rfl (by simp) at_311 (by decide) (by decide) ?_
    exact rfl
  · refine g_iload C at_225 rfl ?_
    refine g_if_t C 236 at_227 (XT.i0_ne_t (by rw [h4]; decide)) (by decide) (by decide) ?_
    refine g_iload C at_236 rfl ?_
    refine g_iconst C 1 at_238 rfl ?_
    refine g_icmp_t C 249 at_239 (XT.ii_ne_t (by rw [h4]; decide)) (by decide) (by decide) ?_
    refine g_iload C at_249 rfl ?_
    refine g_iconst C 2 at_251 rfl ?_
    refine g_icmp_t C 262 at_252 (XT.ii_ne_t (by rw [h4]; decide)) (by decide) (by decide) ?_
    refine g_aload C at_262 rfl rfl ?_
    refine g_astore C #[.val (.int i1), .val (.int i2), .val (.int i3), .val (.int i4), .val (.long i5), .second, .val (.int c0), .val (.int c1), .val (.int c2), .val (.int c3), .val (.int c4), .val (.int c5), .val (.ref b109), .val (.ref b121), .val (.ref b137), .val (.ref b156), .val (.ref b160), .val (.ref b202), .val (.int dd), .val (.int q4), .val (.ref b137), .unset] at_264 rfl rfl ?_
    refine g_aload C at_266 rfl rfl ?_
    refine g_iload C at_268 rfl ?_
    have K227 : Keep h193 h202 [] := (Keep.refl h193 []).ext E202
    have K228 : Keep h193 h203 [] := K227.trans KC203 (allS (Or.inr (Nat.le_of_eq g202.symm)) all0)
    have V229 := (V193.keep K228 nin0)
    refine g_virtual C X203 w_45 w_46 (fun hZ => nf_sel hw w_48 hZ) w_48 w_47 (by decide) [(.int dd)] (ct_of hw w_49 w_36 (rm_of l Z a0 hw b202 b156 b160 dd q4 (3 : Int32) (3 : Int32) _ _ _ _ (.ref b137) h203 n0 X203 G203 J203 V210 V229 hdd hk4 (own_name hq4) (fun _ => by rw [h4] <;> rfl) rfl)) all0 (by decide) 0 (by decide) rfl pd__I_Ljava_lang_String_ rfl [] rfl (Nat.le_of_eq rfl) at_270 (by decide) (by decide) ?_
    intro v230 h230 Q230
    obtain ⟨ev230, e230⟩ := Q230
    replace e230 := e230.symm
    subst e230
    have ew230 : v230 = some (.ref b137) := by rw [ev230, h4] <;> rfl
    subst ew230
    refine g_astore C #[.val (.int i1), .val (.int i2), .val (.int i3), .val (.int i4), .val (.long i5), .second, .val (.int c0), .val (.int c1), .val (.int c2), .val (.int c3), .val (.int c4), .val (.int c5), .val (.ref b109), .val (.ref b121), .val (.ref b137), .val (.ref b156), .val (.ref b160), .val (.ref b202), .val (.int dd), .val (.int q4), .val (.ref b137), .val (.ref b137)] at_273 rfl rfl ?_
    refine g_aload C at_275 rfl rfl ?_
    refine g_ifnonnull_t C 291 at_277 (by decide) (by decide) ?_
    refine g_aload C at_291 rfl rfl ?_
    refine g_ifnull_f C at_293 ?_
    refine g_aload C at_296 rfl rfl ?_
    refine g_aload C at_298 rfl rfl ?_
    have E232 := (((E201.wr W193).ext E202).keep KC203)
    refine g_virtual C E232 w_55 w_56 (fun hZ => nf_sel hw w_58 hZ) w_58 w_57 (by decide) [(.ref b137)] (ct_of hw w_59 w_3 (rm_eq l Z a0 hw b137 h203 n0)) all0 (by decide) 0 (by decide) rfl pd__Ljava_lang_Object__Z rfl [] rfl (Nat.le_of_eq rfl) at_300 (by decide) (by decide) ?_
    intro v231 h231 Q231
    obtain ⟨rfl, e231⟩ := Q231
    replace e231 := e231.symm
    subst e231
    refine g_if_f C at_303 (XT.i0_eq_f (by decide)) ?_
    refine g_iconst C 1 at_306 rfl ?_
    refine g_goto C 311 at_307 (by decide) (by decide) ?_
    refine g_ireturnN C (t := .boolean) rfl (by simp) at_311 (by decide) (by decide) ?_
    exact rfl
set_option maxRecDepth 65536 in
set_option maxHeartbeats 40000000 in
theorem comes_1 {Post : Tables → Env → Array Value → State → Outcome → State → Prop} (hpost : ∀ tb e args s v u, (limb_1_1.after args s (.returned v) u = true ∧ limb_1_2.after args s (.returned v) u = true ∧ True) → FrameEnd s (.returned v) u (Jvm.fieldLocs frame_1_writes args s ++ Jvm.arrayLocs frame_1_arrays args s ++ Jvm.staticLocs frame_1_statics s) 32 128 → Post tb e args s (.returned v) u) :
    ArmFor flags0 classFile x code maxLocals ret World_1 tables_1 room_1 Calls_1 rest_1 Pre_1 Post := by
  intro l hfl _ _ p e ha hc hk s m args below hf hA hF happ hP
  obtain ⟨hcalls, hrest, hpre⟩ := hP
  obtain ⟨-, -, -, hnamed, -, -, -, hat⟩ := (Spec.applies_iff hf).mp happ
  obtain ⟨hg, hn⟩ := and_e (Cond.before_iff.mp (show (Jvm.Cond.and given_1 narrow_1).before args s = true from hpre))
  obtain ⟨hcount, ga0⟩ := and_e hg
  obtain ⟨gv0, ga1⟩ := and_e ga0
  obtain ⟨gv1, ga2⟩ := and_e ga1
  obtain ⟨gv2, ga3⟩ := and_e ga2
  obtain ⟨gv3, ga4⟩ := and_e ga3
  obtain ⟨w0, w1, w2, w3, w4, rfl⟩ : ∃ w0 w1 w2 w3 w4 : Value, args = #[w0, w1, w2, w3, w4] := by
    have hs : args.size = 5 := by simpa [Cond.value, given_1] using hcount
    obtain ⟨L⟩ := args
    match L, hs with
    | [w0, w1, w2, w3, w4], _ => exact ⟨w0, w1, w2, w3, w4, rfl⟩
  have hw := fun d (hd : d ∈ tables_1) => atoms_spec (ws := Jvm.Cond.code x code maxLocals ret :: tables_1) hat d (List.mem_cons_of_mem _ hd)
  have hfit : Fit s := fun {y c} hc i hi => by
    obtain ⟨ha, rfl⟩ := Array.getElem?_eq_some_iff.mp hc
    have q := List.all_eq_true.mp ((Array.all_eq_true_iff_forall_mem.mp hF) _ (Array.getElem_mem ha)) i (List.mem_range.mpr hi)
    simpa [Array.getElem?_eq_getElem hi] using q
  obtain ⟨hsets, hown0⟩ := atoms_of _ (rest_1_c_eq ▸ (show rest_1_c.before _ s = true from hrest))
  obtain ⟨i0, ei0⟩ := is_v gv0
  obtain rfl : w0 = (.int i0) := Option.some.inj ei0
  obtain ⟨i1, ei1⟩ := is_v gv1
  obtain rfl : w1 = (.int i1) := Option.some.inj ei1
  obtain ⟨i2, ei2⟩ := is_v gv2
  obtain rfl : w2 = (.int i2) := Option.some.inj ei2
  obtain ⟨i3, ei3⟩ := is_v gv3
  obtain rfl : w3 = (.int i3) := Option.some.inj ei3
  obtain ⟨i4, ei4⟩ := isL_v ga4
  obtain rfl : w4 = (.long i4) := Option.some.inj ei4
  have n5 := not_v (Cond.before_iff.mp (hsets _ (List.mem_of_getElem? (i := 2) rfl)))
  obtain ⟨zc, ezc⟩ := is_v (Cond.before_iff.mp (hsets _ (List.mem_of_getElem? (i := 1) rfl)))
  have Szc : Sta s s.heap "java/lang/String" "COMPACT_STRINGS" "Z" (.int zc) := Sta.start ezc (Or.inl (hsets _ (List.mem_of_getElem? (i := 0) rfl)))
  have hzc : ¬ (zc = (0 : Int32)) := gotF (Cond.eq_ints ezc (Term.int_eval (0))) n5
  obtain ⟨n, o, h1, h2, h3, _, L, ns, rfl, ⟨⟨rfl, rfl⟩, N⟩, -, hq⟩ := rm_law l s _ hw (ws := tables_1) i0 i1 i2 i3 i4 zc s.heap s.heap.size Szc hzc ⟨Nat.le_refl _, all0⟩ p e ha hc hk s m _ below hf ((Spec.applies_iff_loose hf).mp happ).1 ⟨rfl, State.Warmed39.refl s, rfl⟩ trivial
  refine ⟨n, _, h1, h2, h3, hpost _ _ _ _ _ _ ⟨Cond.after_iff.mpr rfl, Cond.after_iff.mpr (eq_i res_at (Term.int_eval (1)) rfl), trivial⟩ ⟨hq.1, hq.2.1, (hq.2.2.sift fun y hy => Or.inr (N y hy)).mono (by decide) (by decide)⟩⟩
theorem main_1_1 : Claimed_1_1 := comes_1 fun _ _ _ _ _ _ h hF => ⟨h.1, hF⟩
theorem main_1_2 : Claimed_1_2 := comes_1 fun _ _ _ _ _ _ h hF => ⟨h.2.1, hF⟩

end Jvm.Pilot.@@N@@
namespace Jvm.Pilot.@@N@@
open Jvm Jvm.ClassFile Sem Op Lib Jvm.Free Jvm.Stand Jvm.Pilot.@@N@@.Jvm.D
/-! MADE BY PROGRAM (witnessworld.py) out of the Statement's table words and the real class files: 21 classes; the members and pool entries that the words name. The judged class is class 1, her method 1. -/
namespace start1
open Jvm.ClassFile
def u (s : String) : CpInfo := .utf8 (stringToUtf16 s)
/-- a pool by its gaps: so many unusable entries, then the entry; so many at the end -/
def gap : Nat → List CpInfo → List CpInfo
  | 0, r => r
  | n + 1, r => .unusable :: gap n r
def poolList (es : List (Nat × CpInfo)) (last : Nat) : List CpInfo := es.foldr (fun e r => gap e.1 (e.2 :: r)) (gap last [])
def pool (es : List (Nat × CpInfo)) (last : Nat) : Array CpInfo := ⟨poolList es last⟩
def fileOf (pool : Array CpInfo) (this : Nat) (attrs : Array Attribute := #[]) (ms : Array MethodInfo := #[]) (fl : Nat := 33) (sup : Nat := 0) (ifs : Array Nat := #[]) (fds : Array FieldInfo := #[]) : ClassFile where
  minorVersion := 0
  majorVersion := 65
  constantPool := pool
  accessFlags := fl
  thisClass := this
  superClass := sup
  interfaces := ifs
  fields := fds
  methods := ms
  attributes := attrs
def plain (name : String) (sup : Option ClassId) : Class where
  name := name
  kind := .ordinary
  loader := none
  accessFlags := 33
  super := sup
  interfaces := #[]
  cf := none
  fields := #[]
  methods := #[]
  instanceTypes := #[]
  staticTypes := #[]
  resolved := #[]
  callSites := []
  init := .initialized
  statics := none
  mirror := none

def pool0 : Array CpInfo := pool [(5, u "<init>"), (0, u "()V"), (1, .class_ 10), (1, u "java/lang/Object")] 113

def k0c0 : Code := { maxStack := 0, maxLocals := 1, code := object_method_1_code, exceptionTable := #[], attributes := #[] }
def k0m0 : Method := { name := "<init>", desc := "()V", sig := { parameters := [], returnType := none }, accessFlags := 1, code := some k0c0 }
/-- java/lang/Object -/
def k0 : Class := { plain "java/lang/Object" none with
  accessFlags := 33
  interfaces := #[]
  cf := some (fileOf pool0 8 #[] #[{ accessFlags := 1, nameIndex := 5, descriptorIndex := 6, attributes := #[] }] 33 0 #[] #[])
  fields := #[]
  methods := #[k0m0]
  instanceTypes := #[]
  staticTypes := #[]
  resolved := Array.replicate 124 none
  statics := none }

def pool1 : Array CpInfo := pool [(2, .class_ 4), (1, u "java/lang/Object"), (0, u "<init>"), (0, u "()V"), (0, .long 255), (1, .class_ 10), (0, u "java/lang/String"), (0, .methodref 9 12), (0, .nameAndType 5 13), (0, u "([C)V"), (0, .integer 2147483647), (0, .class_ 16), (0, u "com/example/fama/fama/index/Names"), (0, .methodref 15 18), (0, .nameAndType 5 19), (0, u "([I[Ljava/lang/String;)V"), (0, .methodref 15 21), (0, .nameAndType 22 23), (0, u "of"), (0, u "(I)Ljava/lang/String;"), (0, .methodref 9 25), (0, .nameAndType 26 27), (0, u "equals"), (0, u "(Ljava/lang/Object;)Z"), (0, .class_ 29), (0, u "com/example/fama/fama/index/NamesOfPinLaw"), (2, u "law"), (0, u "(IIIIJ)Z")] 7

def k1m0 : Method := { name := "<init>", desc := "()V", sig := { parameters := [], returnType := none }, accessFlags := 1, code := none }
def k1c1 : Code := { maxStack := 6, maxLocals := 22, code := code, exceptionTable := #[], attributes := #[] }
def k1m1 : Method := { name := "law", desc := "(IIIIJ)Z", sig := { parameters := [.int, .int, .int, .int, .long], returnType := some .boolean }, accessFlags := 9, code := some k1c1 }
/-- com/example/fama/fama/index/NamesOfPinLaw -/
def k1 : Class := { plain "com/example/fama/fama/index/NamesOfPinLaw" (some 0) with
  accessFlags := 49
  interfaces := #[]
  cf := some (fileOf pool1 28 #[] #[{ accessFlags := 1, nameIndex := 5, descriptorIndex := 6, attributes := #[] }, { accessFlags := 9, nameIndex := 32, descriptorIndex := 33, attributes := #[] }] 49 2 #[] #[])
  fields := #[]
  methods := #[k1m0, k1m1]
  instanceTypes := #[]
  staticTypes := #[]
  resolved := Array.replicate 41 none
  statics := none }

def pool2 : Array CpInfo := pool [(1, .class_ 2), (0, u "java/io/Serializable"), (0, .class_ 4), (0, u "java/lang/Object")] 2

/-- java/io/Serializable -/
def k2 : Class := { plain "java/io/Serializable" (some 0) with
  accessFlags := 1537
  interfaces := #[]
  cf := some (fileOf pool2 1 #[] #[] 1537 3 #[] #[])
  fields := #[]
  methods := #[]
  instanceTypes := #[]
  staticTypes := #[]
  resolved := Array.replicate 7 none
  statics := none }

def pool3 : Array CpInfo := pool [(1, .class_ 2), (0, u "java/lang/Comparable"), (0, .class_ 4), (0, u "java/lang/Object")] 7

/-- java/lang/Comparable -/
def k3 : Class := { plain "java/lang/Comparable" (some 0) with
  accessFlags := 1537
  interfaces := #[]
  cf := some (fileOf pool3 1 #[] #[] 1537 3 #[] #[])
  fields := #[]
  methods := #[]
  instanceTypes := #[]
  staticTypes := #[]
  resolved := Array.replicate 12 none
  statics := none }

def pool4 : Array CpInfo := pool [(2, .class_ 4), (1, u "java/lang/CharSequence"), (42, .class_ 48), (0, u "java/lang/CharSequence$1CodePointIterator"), (10, .class_ 60), (0, u "java/lang/CharSequence$1CharIterator"), (5, .class_ 67), (0, u "java/lang/Object")] 63

/-- java/lang/CharSequence -/
def k4 : Class := { plain "java/lang/CharSequence" (some 0) with
  accessFlags := 1537
  interfaces := #[]
  cf := some (fileOf pool4 2 #[.nestMembers #[47, 59]] #[] 1537 66 #[] #[])
  fields := #[]
  methods := #[]
  instanceTypes := #[]
  staticTypes := #[]
  resolved := Array.replicate 131 none
  statics := none }

def pool5 : Array CpInfo := pool [(1, .class_ 2), (0, u "java/lang/constant/Constable"), (0, .class_ 4), (0, u "java/lang/Object")] 6

/-- java/lang/constant/Constable -/
def k5 : Class := { plain "java/lang/constant/Constable" (some 0) with
  accessFlags := 1537
  interfaces := #[]
  cf := some (fileOf pool5 1 #[] #[] 1537 3 #[] #[])
  fields := #[]
  methods := #[]
  instanceTypes := #[]
  staticTypes := #[]
  resolved := Array.replicate 11 none
  statics := none }

def pool6 : Array CpInfo := pool [(1, .class_ 2), (0, u "java/lang/constant/ConstantDesc"), (0, .class_ 4), (0, u "java/lang/Object")] 32

/-- java/lang/constant/ConstantDesc -/
def k6 : Class := { plain "java/lang/constant/ConstantDesc" (some 0) with
  accessFlags := 1537
  interfaces := #[]
  cf := some (fileOf pool6 1 #[] #[] 1537 3 #[] #[])
  fields := #[]
  methods := #[]
  instanceTypes := #[]
  staticTypes := #[]
  resolved := Array.replicate 37 none
  statics := none }

def pool7 : Array CpInfo := pool [(1, .methodref 2 3), (0, .class_ 4), (0, .nameAndType 5 6), (0, u "java/lang/Object"), (0, u "<init>"), (0, u "()V"), (2, .fieldref 10 11), (0, .class_ 12), (0, .nameAndType 13 14), (0, u "java/lang/String"), (0, u "value"), (0, u "[B"), (0, .fieldref 10 16), (0, .nameAndType 17 18), (0, u "coder"), (0, u "B"), (2, u "hash"), (0, u "I"), (2, u "hashIsZero"), (0, u "Z"), (0, .methodref 10 28), (0, .nameAndType 5 29), (0, u "([CIILjava/lang/Void;)V"), (8, .fieldref 10 39), (0, .nameAndType 40 26), (0, u "COMPACT_STRINGS"), (1, .class_ 44), (1, u "java/lang/StringUTF16"), (0, u "compress"), (1, .methodref 42 48), (0, .nameAndType 49 50), (0, u "coderFromArrayLen"), (0, u "([BI)B"), (126, .methodref 42 178), (0, .nameAndType 45 179), (0, u "([CII)[B"), (363, u "equals"), (29, u "(Ljava/lang/Object;)Z"), (1, .class_ 576), (0, u "java/lang/CharSequence"), (22, u "CASE_INSENSITIVE_ORDER"), (0, u "Ljava/util/Comparator;"), (409, u "([C)V"), (90, u "serialPersistentFields"), (0, u "[Ljava/io/ObjectStreamField;"), (0, .class_ 1104), (0, u "java/lang/String$CaseInsensitiveComparator"), (1, .class_ 1107), (0, u "java/io/Serializable"), (0, .class_ 1109), (0, u "java/lang/Comparable"), (0, .class_ 1111), (0, u "java/lang/constant/Constable"), (0, .class_ 1113), (0, u "java/lang/constant/ConstantDesc"), (2, u "serialVersionUID"), (0, u "J"), (3, u "REPL"), (0, u "C"), (2, u "LATIN1"), (1, u "UTF16")] 323

def k7m0 : Method := { name := "<init>", desc := "()V", sig := { parameters := [], returnType := none }, accessFlags := 1, code := none }
def k7c1 : Code := { maxStack := 5, maxLocals := 2, code := jdk_42_method_3_code, exceptionTable := #[], attributes := #[] }
def k7m1 : Method := { name := "<init>", desc := "([C)V", sig := { parameters := [(.array .char)], returnType := none }, accessFlags := 1, code := some k7c1 }
def k7c2 : Code := { maxStack := 2, maxLocals := 3, code := jdk_42_method_66_code, exceptionTable := #[], attributes := #[] }
def k7m2 : Method := { name := "equals", desc := "(Ljava/lang/Object;)Z", sig := { parameters := [(.object "java/lang/Object")], returnType := some .boolean }, accessFlags := 1, code := some k7c2 }
def k7c3 : Code := { maxStack := 4, maxLocals := 6, code := jdk_42_method_149_code, exceptionTable := #[], attributes := #[] }
def k7m3 : Method := { name := "<init>", desc := "([CIILjava/lang/Void;)V", sig := { parameters := [(.array .char), .int, .int, (.object "java/lang/Void")], returnType := none }, accessFlags := 2, code := some k7c3 }
/-- java/lang/String -/
def k7 : Class := { plain "java/lang/String" (some 0) with
  accessFlags := 49
  interfaces := #[2, 3, 4, 5, 6]
  cf := some (fileOf pool7 10 #[.nestMembers #[1103]] #[{ accessFlags := 1, nameIndex := 5, descriptorIndex := 6, attributes := #[] }, { accessFlags := 1, nameIndex := 5, descriptorIndex := 1010, attributes := #[] }, { accessFlags := 1, nameIndex := 543, descriptorIndex := 573, attributes := #[] }, { accessFlags := 2, nameIndex := 5, descriptorIndex := 29, attributes := #[] }] 49 2 #[1106, 1108, 575, 1110, 1112] #[{ accessFlags := 18, nameIndex := 13, descriptorIndex := 14, attributes := #[] }, { accessFlags := 18, nameIndex := 17, descriptorIndex := 18, attributes := #[] }, { accessFlags := 2, nameIndex := 21, descriptorIndex := 22, attributes := #[] }, { accessFlags := 2, nameIndex := 25, descriptorIndex := 26, attributes := #[] }, { accessFlags := 26, nameIndex := 1116, descriptorIndex := 1117, attributes := #[] }, { accessFlags := 24, nameIndex := 40, descriptorIndex := 26, attributes := #[] }, { accessFlags := 26, nameIndex := 1101, descriptorIndex := 1102, attributes := #[] }, { accessFlags := 26, nameIndex := 1121, descriptorIndex := 1122, attributes := #[] }, { accessFlags := 25, nameIndex := 599, descriptorIndex := 600, attributes := #[] }, { accessFlags := 24, nameIndex := 1125, descriptorIndex := 18, attributes := #[] }, { accessFlags := 24, nameIndex := 1127, descriptorIndex := 18, attributes := #[] }])
  fields := #[{ name := "value", type := (.array .byte), accessFlags := 18, slot := 0, constantValue := 0 }, { name := "coder", type := .byte, accessFlags := 18, slot := 1, constantValue := 0 }, { name := "hash", type := .int, accessFlags := 2, slot := 2, constantValue := 0 }, { name := "hashIsZero", type := .boolean, accessFlags := 2, slot := 3, constantValue := 0 }, { name := "serialVersionUID", type := .long, accessFlags := 26, slot := 0, constantValue := 0 }, { name := "COMPACT_STRINGS", type := .boolean, accessFlags := 24, slot := 1, constantValue := 0 }, { name := "serialPersistentFields", type := (.array (.object "java/io/ObjectStreamField")), accessFlags := 26, slot := 2, constantValue := 0 }, { name := "REPL", type := .char, accessFlags := 26, slot := 3, constantValue := 0 }, { name := "CASE_INSENSITIVE_ORDER", type := (.object "java/util/Comparator"), accessFlags := 25, slot := 4, constantValue := 0 }, { name := "LATIN1", type := .byte, accessFlags := 24, slot := 5, constantValue := 0 }, { name := "UTF16", type := .byte, accessFlags := 24, slot := 6, constantValue := 0 }]
  methods := #[k7m0, k7m1, k7m2, k7m3]
  instanceTypes := #[(.array .byte), .byte, .int, .boolean]
  staticTypes := #[.long, .boolean, (.array (.object "java/io/ObjectStreamField")), .char, (.object "java/util/Comparator"), .byte, .byte]
  resolved := Array.replicate 1451 none
  statics := some 0 }

def pool8 : Array CpInfo := pool [(6, .class_ 8), (1, u "java/lang/Object"), (0, u "<init>"), (0, u "()V"), (1, .class_ 14), (1, u "java/lang/StringUTF16"), (31, u "$assertionsDisabled"), (0, u "Z"), (13, u "HI_BYTE_SHIFT"), (0, u "I"), (2, u "LO_BYTE_SHIFT"), (49, .methodref 12 116), (0, .nameAndType 117 118), (0, u "compress"), (0, u "([CI[BII)I"), (3, u "([CII)[B"), (138, u "coderFromArrayLen"), (0, u "([BI)B"), (106, .class_ 371), (1, u "java/lang/StringUTF16$LinesSpliterator"), (58, u "MAX_LENGTH"), (196, .class_ 628), (0, u "java/lang/StringUTF16$CodePointsSpliterator"), (0, .class_ 630), (0, u "java/lang/StringUTF16$CharsSpliterator")] 4

def k8m0 : Method := { name := "<init>", desc := "()V", sig := { parameters := [], returnType := none }, accessFlags := 0, code := none }
def k8c1 : Code := { maxStack := 2, maxLocals := 2, code := jdk_52_method_15_code, exceptionTable := #[], attributes := #[] }
def k8m1 : Method := { name := "coderFromArrayLen", desc := "([BI)B", sig := { parameters := [(.array .byte), .int], returnType := some .byte }, accessFlags := 8, code := some k8c1 }
def k8c2 : Code := { maxStack := 5, maxLocals := 6, code := jdk_52_method_16_code, exceptionTable := #[], attributes := #[] }
def k8m2 : Method := { name := "compress", desc := "([CII)[B", sig := { parameters := [(.array .char), .int, .int], returnType := some (.array .byte) }, accessFlags := 9, code := some k8c2 }
def k8c3 : Code := { maxStack := 3, maxLocals := 7, code := jdk_52_method_21_code, exceptionTable := #[], attributes := #[] }
def k8m3 : Method := { name := "compress", desc := "([CI[BII)I", sig := { parameters := [(.array .char), .int, (.array .byte), .int, .int], returnType := some .int }, accessFlags := 9, code := some k8c3 }
/-- java/lang/StringUTF16 -/
def k8 : Class := { plain "java/lang/StringUTF16" (some 0) with
  accessFlags := 48
  interfaces := #[]
  cf := some (fileOf pool8 12 #[.nestMembers #[627, 629, 369]] #[{ accessFlags := 0, nameIndex := 9, descriptorIndex := 10, attributes := #[] }, { accessFlags := 8, nameIndex := 261, descriptorIndex := 262, attributes := #[] }, { accessFlags := 9, nameIndex := 117, descriptorIndex := 122, attributes := #[] }, { accessFlags := 9, nameIndex := 117, descriptorIndex := 118, attributes := #[] }] 48 6 #[] #[{ accessFlags := 26, nameIndex := 61, descriptorIndex := 62, attributes := #[] }, { accessFlags := 26, nameIndex := 65, descriptorIndex := 62, attributes := #[] }, { accessFlags := 24, nameIndex := 430, descriptorIndex := 62, attributes := #[] }, { accessFlags := 4120, nameIndex := 46, descriptorIndex := 47, attributes := #[] }])
  fields := #[{ name := "HI_BYTE_SHIFT", type := .int, accessFlags := 26, slot := 0, constantValue := 0 }, { name := "LO_BYTE_SHIFT", type := .int, accessFlags := 26, slot := 1, constantValue := 0 }, { name := "MAX_LENGTH", type := .int, accessFlags := 24, slot := 2, constantValue := 0 }, { name := "$assertionsDisabled", type := .boolean, accessFlags := 4120, slot := 3, constantValue := 0 }]
  methods := #[k8m0, k8m1, k8m2, k8m3]
  instanceTypes := #[]
  staticTypes := #[.int, .int, .int, .boolean]
  resolved := Array.replicate 635 none
  statics := none }

def pool9 : Array CpInfo := pool [(1, .methodref 2 3), (0, .class_ 4), (0, .nameAndType 5 6), (0, u "java/lang/Object"), (0, u "<init>"), (0, u "()V"), (0, .fieldref 8 9), (0, .class_ 10), (0, .nameAndType 11 12), (0, u "com/example/fama/fama/index/Names"), (0, u "numbers"), (0, u "[I"), (0, .fieldref 8 14), (0, .nameAndType 15 16), (0, u "names"), (0, u "[Ljava/lang/String;"), (0, .methodref 8 18), (0, .nameAndType 19 20), (0, u "name"), (0, u "(I)Ljava/lang/String;"), (0, u "([I[Ljava/lang/String;)V"), (6, u "of")] 5

def k9c0 : Code := { maxStack := 2, maxLocals := 3, code := prog_55_method_1_code, exceptionTable := #[], attributes := #[] }
def k9m0 : Method := { name := "<init>", desc := "([I[Ljava/lang/String;)V", sig := { parameters := [(.array .int), (.array (.object "java/lang/String"))], returnType := none }, accessFlags := 0, code := some k9c0 }
def k9c1 : Code := { maxStack := 3, maxLocals := 2, code := prog_55_method_4_code, exceptionTable := #[], attributes := #[] }
def k9m1 : Method := { name := "name", desc := "(I)Ljava/lang/String;", sig := { parameters := [.int], returnType := some (.object "java/lang/String") }, accessFlags := 0, code := some k9c1 }
def k9c2 : Code := { maxStack := 3, maxLocals := 2, code := prog_55_method_5_code, exceptionTable := #[], attributes := #[] }
def k9m2 : Method := { name := "of", desc := "(I)Ljava/lang/String;", sig := { parameters := [.int], returnType := some (.object "java/lang/String") }, accessFlags := 0, code := some k9c2 }
/-- com/example/fama/fama/index/Names -/
def k9 : Class := { plain "com/example/fama/fama/index/Names" (some 0) with
  accessFlags := 32
  interfaces := #[]
  cf := some (fileOf pool9 8 #[] #[{ accessFlags := 0, nameIndex := 5, descriptorIndex := 21, attributes := #[] }, { accessFlags := 0, nameIndex := 19, descriptorIndex := 20, attributes := #[] }, { accessFlags := 0, nameIndex := 28, descriptorIndex := 20, attributes := #[] }] 32 2 #[] #[{ accessFlags := 18, nameIndex := 11, descriptorIndex := 12, attributes := #[] }, { accessFlags := 18, nameIndex := 15, descriptorIndex := 16, attributes := #[] }])
  fields := #[{ name := "numbers", type := (.array .int), accessFlags := 18, slot := 0, constantValue := 0 }, { name := "names", type := (.array (.object "java/lang/String")), accessFlags := 18, slot := 1, constantValue := 0 }]
  methods := #[k9m0, k9m1, k9m2]
  instanceTypes := #[(.array .int), (.array (.object "java/lang/String"))]
  staticTypes := #[]
  resolved := Array.replicate 34 none
  statics := none }

def pool10 : Array CpInfo := pool [(4, .class_ 6), (1, u "java/lang/Object"), (0, u "<init>"), (0, u "()V"), (5, .class_ 16), (1, u "java/lang/StringLatin1"), (104, u "$assertionsDisabled"), (0, u "Z"), (98, .class_ 223), (1, u "java/lang/StringLatin1$LinesSpliterator"), (166, .class_ 391), (0, u "java/lang/StringLatin1$CharsSpliterator")] 3

def k10m0 : Method := { name := "<init>", desc := "()V", sig := { parameters := [], returnType := none }, accessFlags := 0, code := none }
/-- java/lang/StringLatin1 -/
def k10 : Class := { plain "java/lang/StringLatin1" (some 0) with
  accessFlags := 48
  interfaces := #[]
  cf := some (fileOf pool10 14 #[.nestMembers #[390, 221]] #[{ accessFlags := 0, nameIndex := 7, descriptorIndex := 8, attributes := #[] }] 48 4 #[] #[{ accessFlags := 4120, nameIndex := 121, descriptorIndex := 122, attributes := #[] }])
  fields := #[{ name := "$assertionsDisabled", type := .boolean, accessFlags := 4120, slot := 0, constantValue := 0 }]
  methods := #[k10m0]
  instanceTypes := #[]
  staticTypes := #[.boolean]
  resolved := Array.replicate 395 none
  statics := none }

def pool11 : Array CpInfo := pool [(2, .class_ 4), (1, u "java/lang/Object"), (0, u "<init>"), (0, u "()V"), (17, .class_ 26), (1, u "jdk/internal/util/Preconditions"), (28, .class_ 56), (0, u "jdk/internal/util/Preconditions$4"), (57, .class_ 115), (0, u "jdk/internal/util/Preconditions$1"), (7, u "SIOOBE_FORMATTER"), (0, u "Ljava/util/function/BiFunction;"), (0, .class_ 126), (0, u "jdk/internal/util/Preconditions$2"), (3, u "AIOOBE_FORMATTER"), (0, .class_ 132), (0, u "jdk/internal/util/Preconditions$3"), (3, u "IOOBE_FORMATTER")] 57

def k11m0 : Method := { name := "<init>", desc := "()V", sig := { parameters := [], returnType := none }, accessFlags := 1, code := none }
/-- jdk/internal/util/Preconditions -/
def k11 : Class := { plain "jdk/internal/util/Preconditions" (some 0) with
  accessFlags := 33
  interfaces := #[]
  cf := some (fileOf pool11 24 #[.nestMembers #[55, 131, 125, 114]] #[{ accessFlags := 1, nameIndex := 5, descriptorIndex := 6, attributes := #[] }] 33 2 #[] #[{ accessFlags := 25, nameIndex := 123, descriptorIndex := 124, attributes := #[] }, { accessFlags := 25, nameIndex := 130, descriptorIndex := 124, attributes := #[] }, { accessFlags := 25, nameIndex := 136, descriptorIndex := 124, attributes := #[] }])
  fields := #[{ name := "SIOOBE_FORMATTER", type := (.object "java/util/function/BiFunction"), accessFlags := 25, slot := 0, constantValue := 0 }, { name := "AIOOBE_FORMATTER", type := (.object "java/util/function/BiFunction"), accessFlags := 25, slot := 1, constantValue := 0 }, { name := "IOOBE_FORMATTER", type := (.object "java/util/function/BiFunction"), accessFlags := 25, slot := 2, constantValue := 0 }]
  methods := #[k11m0]
  instanceTypes := #[]
  staticTypes := #[(.object "java/util/function/BiFunction"), (.object "java/util/function/BiFunction"), (.object "java/util/function/BiFunction")]
  resolved := Array.replicate 194 none
  statics := some 1 }

def pool12 : Array CpInfo := pool [(9, u "<init>"), (6, .class_ 18), (1, u "java/lang/Object"), (0, u "()V"), (1, .class_ 23), (1, u "jdk/internal/util/ArraysSupport"), (0, u "LOG2_ARRAY_LONG_INDEX_SCALE"), (0, u "I"), (2, u "U"), (0, u "Ljdk/internal/misc/Unsafe;"), (8, u "BIG_ENDIAN"), (0, u "Z"), (8, u "LOG2_BYTE_BIT_SIZE"), (4, u "LOG2_ARRAY_INT_INDEX_SCALE"), (54, u "JLA"), (0, u "Ljdk/internal/access/JavaLangAccess;"), (11, u "LOG2_ARRAY_BOOLEAN_INDEX_SCALE"), (9, u "LOG2_ARRAY_BYTE_INDEX_SCALE"), (5, u "LOG2_ARRAY_CHAR_INDEX_SCALE"), (5, u "LOG2_ARRAY_SHORT_INDEX_SCALE"), (18, u "LOG2_ARRAY_FLOAT_INDEX_SCALE"), (24, u "LOG2_ARRAY_DOUBLE_INDEX_SCALE"), (89, u "T_BOOLEAN"), (2, u "T_CHAR"), (1, u "T_FLOAT"), (1, u "T_DOUBLE"), (1, u "T_BYTE"), (1, u "T_SHORT"), (1, u "T_INT"), (1, u "T_LONG"), (1, u "SOFT_MAX_ARRAY_LENGTH")] 83

def k12m0 : Method := { name := "<init>", desc := "()V", sig := { parameters := [], returnType := none }, accessFlags := 2, code := none }
/-- jdk/internal/util/ArraysSupport -/
def k12 : Class := { plain "jdk/internal/util/ArraysSupport" (some 0) with
  accessFlags := 33
  interfaces := #[]
  cf := some (fileOf pool12 21 #[] #[{ accessFlags := 2, nameIndex := 9, descriptorIndex := 19, attributes := #[] }] 33 16 #[] #[{ accessFlags := 24, nameIndex := 28, descriptorIndex := 29, attributes := #[] }, { accessFlags := 26, nameIndex := 38, descriptorIndex := 39, attributes := #[] }, { accessFlags := 25, nameIndex := 121, descriptorIndex := 25, attributes := #[] }, { accessFlags := 25, nameIndex := 131, descriptorIndex := 25, attributes := #[] }, { accessFlags := 25, nameIndex := 137, descriptorIndex := 25, attributes := #[] }, { accessFlags := 25, nameIndex := 143, descriptorIndex := 25, attributes := #[] }, { accessFlags := 25, nameIndex := 53, descriptorIndex := 25, attributes := #[] }, { accessFlags := 25, nameIndex := 24, descriptorIndex := 25, attributes := #[] }, { accessFlags := 25, nameIndex := 162, descriptorIndex := 25, attributes := #[] }, { accessFlags := 25, nameIndex := 187, descriptorIndex := 25, attributes := #[] }, { accessFlags := 26, nameIndex := 48, descriptorIndex := 25, attributes := #[] }, { accessFlags := 25, nameIndex := 277, descriptorIndex := 25, attributes := #[] }, { accessFlags := 25, nameIndex := 280, descriptorIndex := 25, attributes := #[] }, { accessFlags := 25, nameIndex := 282, descriptorIndex := 25, attributes := #[] }, { accessFlags := 25, nameIndex := 284, descriptorIndex := 25, attributes := #[] }, { accessFlags := 25, nameIndex := 286, descriptorIndex := 25, attributes := #[] }, { accessFlags := 25, nameIndex := 288, descriptorIndex := 25, attributes := #[] }, { accessFlags := 25, nameIndex := 290, descriptorIndex := 25, attributes := #[] }, { accessFlags := 25, nameIndex := 292, descriptorIndex := 25, attributes := #[] }, { accessFlags := 26, nameIndex := 108, descriptorIndex := 109, attributes := #[] }, { accessFlags := 25, nameIndex := 294, descriptorIndex := 25, attributes := #[] }])
  fields := #[{ name := "U", type := (.object "jdk/internal/misc/Unsafe"), accessFlags := 24, slot := 0, constantValue := 0 }, { name := "BIG_ENDIAN", type := .boolean, accessFlags := 26, slot := 1, constantValue := 0 }, { name := "LOG2_ARRAY_BOOLEAN_INDEX_SCALE", type := .int, accessFlags := 25, slot := 2, constantValue := 0 }, { name := "LOG2_ARRAY_BYTE_INDEX_SCALE", type := .int, accessFlags := 25, slot := 3, constantValue := 0 }, { name := "LOG2_ARRAY_CHAR_INDEX_SCALE", type := .int, accessFlags := 25, slot := 4, constantValue := 0 }, { name := "LOG2_ARRAY_SHORT_INDEX_SCALE", type := .int, accessFlags := 25, slot := 5, constantValue := 0 }, { name := "LOG2_ARRAY_INT_INDEX_SCALE", type := .int, accessFlags := 25, slot := 6, constantValue := 0 }, { name := "LOG2_ARRAY_LONG_INDEX_SCALE", type := .int, accessFlags := 25, slot := 7, constantValue := 0 }, { name := "LOG2_ARRAY_FLOAT_INDEX_SCALE", type := .int, accessFlags := 25, slot := 8, constantValue := 0 }, { name := "LOG2_ARRAY_DOUBLE_INDEX_SCALE", type := .int, accessFlags := 25, slot := 9, constantValue := 0 }, { name := "LOG2_BYTE_BIT_SIZE", type := .int, accessFlags := 26, slot := 10, constantValue := 0 }, { name := "T_BOOLEAN", type := .int, accessFlags := 25, slot := 11, constantValue := 0 }, { name := "T_CHAR", type := .int, accessFlags := 25, slot := 12, constantValue := 0 }, { name := "T_FLOAT", type := .int, accessFlags := 25, slot := 13, constantValue := 0 }, { name := "T_DOUBLE", type := .int, accessFlags := 25, slot := 14, constantValue := 0 }, { name := "T_BYTE", type := .int, accessFlags := 25, slot := 15, constantValue := 0 }, { name := "T_SHORT", type := .int, accessFlags := 25, slot := 16, constantValue := 0 }, { name := "T_INT", type := .int, accessFlags := 25, slot := 17, constantValue := 0 }, { name := "T_LONG", type := .int, accessFlags := 25, slot := 18, constantValue := 0 }, { name := "JLA", type := (.object "jdk/internal/access/JavaLangAccess"), accessFlags := 26, slot := 19, constantValue := 0 }, { name := "SOFT_MAX_ARRAY_LENGTH", type := .int, accessFlags := 25, slot := 20, constantValue := 0 }]
  methods := #[k12m0]
  instanceTypes := #[]
  staticTypes := #[(.object "jdk/internal/misc/Unsafe"), .boolean, .int, .int, .int, .int, .int, .int, .int, .int, .int, .int, .int, .int, .int, .int, .int, .int, .int, (.object "jdk/internal/access/JavaLangAccess"), .int]
  resolved := Array.replicate 378 none
  statics := none }

def pool13 : Array CpInfo := pool [(1, u "java/lang/Cloneable"), (0, .class_ 1), (0, u "java/lang/Object"), (0, .class_ 3)] 3

/-- java/lang/Cloneable -/
def k13 : Class := { plain "java/lang/Cloneable" (some 0) with
  accessFlags := 1537
  interfaces := #[]
  cf := some (fileOf pool13 2 #[] #[] 1537 4 #[] #[])
  fields := #[]
  methods := #[]
  instanceTypes := #[]
  staticTypes := #[]
  resolved := Array.replicate 8 none
  statics := none }

/-- the primitive byte -/
def k14 : Class := { plain "byte" none with kind := .primitive 'B', accessFlags := 0x411 }
/-- [B -/
def k15 : Class := { plain "[B" (some 0) with kind := .array 14 .byte, interfaces := #[13, 2], accessFlags := 1041 }

/-- the primitive char -/
def k16 : Class := { plain "char" none with kind := .primitive 'C', accessFlags := 0x411 }
/-- [C -/
def k17 : Class := { plain "[C" (some 0) with kind := .array 16 .char, interfaces := #[13, 2], accessFlags := 1041 }

/-- the primitive int -/
def k18 : Class := { plain "int" none with kind := .primitive 'I', accessFlags := 0x411 }
/-- [I -/
def k19 : Class := { plain "[I" (some 0) with kind := .array 18 .int, interfaces := #[13, 2], accessFlags := 1041 }

/-- [Ljava/lang/String; -/
def k20 : Class := { plain "[Ljava/lang/String;" (some 0) with kind := .array 7 (.object "java/lang/String"), interfaces := #[13, 2], accessFlags := 1041 }

def heap : Heap := #[{ cls := 7, slots := #[.long 0, .int 1, .null, .int 0, .null, .int 0, .int 0], vm := .statics 7 },
  { cls := 11, slots := #[.null, .null, .null], vm := .statics 11 }]
def classes : Array Class := #[k0, k1, k2, k3, k4, k5, k6, k7, k8, k9, k10, k11, k12, k13, k14, k15, k16, k17, k18, k19, k20]
def interned : List (Array UInt16 × Addr) := []
def slotsUsed : Nat := 10
def theMethod : MethodId := ⟨1, 1⟩
def args0 : Array Value := #[.int 5, .int 2, .int 3, .int 1, .long 77]
def aboutOver (below : List Frame) : State where
  vm := { classes := classes, interned := interned.toArray }
  heap := heap
  slotsUsed := slotsUsed
  threads := #[{ frames := .invoking theMethod args0 :: below }]
def below0 : List Frame := [.native { method := ⟨0, 0⟩, args := #[] }]
def about1 : State := aboutOver below0
def p0 : Program := .bare "" "" ""
def e0 : Env := launch0.env 0 0 0
theorem w_frames : about1.frames = Frame.invoking theMethod args0 :: below0 := rfl
set_option maxRecDepth 65536 in
theorem w_args : argsFit about1.vm theMethod args0 = true := by decide +kernel
set_option maxRecDepth 65536 in
theorem w_heap : heapFits about1 = true := by decide +kernel
set_option maxRecDepth 65536 in
theorem w_runnable : about1.curStatus? = some .runnable := by decide +kernel
set_option maxRecDepth 65536 in
theorem w_alone : about1.alone = true := by decide +kernel
set_option maxRecDepth 65536 in
theorem w_named : about1.methodNamed? x = some theMethod := by decide +kernel
set_option maxRecDepth 65536 in
theorem w_hears : about1.hears theMethod below0 = true := by decide +kernel
set_option maxRecDepth 65536 in
theorem w_ripe : about1.ripe theMethod args0 below0 = true := by decide +kernel
theorem w_running : about1.status = .running := rfl
set_option maxRecDepth 65536 in
theorem w_room : about1.hasRoom e0.platform room_1 = true :=
  launch0.hasRoom_least _ room_1 (by decide +kernel) (by decide +kernel) (by decide +kernel) (by decide +kernel) (by decide +kernel) (by decide +kernel)
theorem allAtoms_all (ts : List Jvm.Cond) (a : Array Jvm.Value) (st : Jvm.State) : (allAtoms ts).before a st = ts.all (fun c => c.before a st) := by
  induction ts with
  | nil => rfl
  | cons c t ih =>
    show (Jvm.Cond.and c (allAtoms t)).before a st = _
    rw [Jvm.Cond.before_and, ih, List.all_cons]
def words1 : List Jvm.Cond := Jvm.Cond.code x code maxLocals ret :: tables_1
/-- a 'code' word, met by the world's own term for the bytes: nothing is compared byte by byte -/
theorem code_word {y : MethodName} {bytes : ByteArray} {mx : Nat} {rt : Option FieldType} {a : Array Value} {s : State} {m : MethodId} {meth : Method} {c : Code} (h1 : s.methodNamed? y = some m) (h2 : s.vm.method? m = some meth) (h3 : meth.code = some c) (h4 : c.code = bytes)
    (h5 : (c.maxLocals == mx && c.exceptionTable.isEmpty && decide (c.maxStack ≤ mostOperands) && decide (meth.sig.returnType = rt) && !meth.locks && decide (parseMethodDescriptor y.desc = some meth.sig)) = true) : (Jvm.Cond.code y bytes mx rt).before a s = true := by
  simp only [Bool.and_eq_true, beq_iff_eq, Bool.not_eq_true', decide_eq_true_eq] at h5
  obtain ⟨⟨⟨⟨⟨g1, g2⟩, g3⟩, g4⟩, g5⟩, g6⟩ := h5
  simp [Cond.before, Cond.holds, Cond.value, h1, h2, h3, h4, g1, g2, g3, g4, g5, g6]
def isCode : Jvm.Cond → Bool
  | .code _ _ _ _ => true
  | _ => false
theorem all_split {L : List Jvm.Cond} {P : Jvm.Cond → Bool} (h1 : L.all (fun c => isCode c || P c) = true) (h2 : ∀ c ∈ L.filter isCode, P c = true) : L.all P = true := by
  refine List.all_eq_true.mpr fun c hc => ?_
  have h := List.all_eq_true.mp h1 c hc
  rcases Bool.eq_false_or_eq_true (isCode c) with hi | hi
  · exact h2 c (List.mem_filter.mpr ⟨hc, hi⟩)
  · simpa [hi] using h
set_option maxRecDepth 65536 in
theorem w_c0 : (Jvm.Cond.code x code maxLocals ret).before args0 about1 = true := code_word (m := ⟨1, 1⟩) (meth := k1m1) (c := k1c1) (by decide +kernel) rfl rfl rfl (by decide +kernel)
set_option maxRecDepth 65536 in
theorem w_c1 : (Jvm.Cond.code ({ cls := "java/lang/String", name := "<init>", desc := "([C)V" } : Jvm.MethodName) jdk_42_method_3_code (2 : Nat) (Option.none : Option Jvm.ClassFile.FieldType)).before args0 about1 = true := code_word (m := ⟨7, 1⟩) (meth := k7m1) (c := k7c1) (by decide +kernel) rfl rfl rfl (by decide +kernel)
set_option maxRecDepth 65536 in
theorem w_c2 : (Jvm.Cond.code ({ cls := "java/lang/String", name := "<init>", desc := "([CIILjava/lang/Void;)V" } : Jvm.MethodName) jdk_42_method_149_code (6 : Nat) (Option.none : Option Jvm.ClassFile.FieldType)).before args0 about1 = true := code_word (m := ⟨7, 3⟩) (meth := k7m3) (c := k7c3) (by decide +kernel) rfl rfl rfl (by decide +kernel)
set_option maxRecDepth 65536 in
theorem w_c3 : (Jvm.Cond.code ({ cls := "java/lang/Object", name := "<init>", desc := "()V" } : Jvm.MethodName) object_method_1_code (1 : Nat) (Option.none : Option Jvm.ClassFile.FieldType)).before args0 about1 = true := code_word (m := ⟨0, 0⟩) (meth := k0m0) (c := k0c0) (by decide +kernel) rfl rfl rfl (by decide +kernel)
set_option maxRecDepth 65536 in
theorem w_c4 : (Jvm.Cond.code ({ cls := "java/lang/StringUTF16", name := "compress", desc := "([CII)[B" } : Jvm.MethodName) jdk_52_method_16_code (6 : Nat) (Option.some (Jvm.ClassFile.FieldType.array Jvm.ClassFile.FieldType.byte))).before args0 about1 = true := code_word (m := ⟨8, 2⟩) (meth := k8m2) (c := k8c2) (by decide +kernel) rfl rfl rfl (by decide +kernel)
set_option maxRecDepth 65536 in
theorem w_c5 : (Jvm.Cond.code ({ cls := "java/lang/StringUTF16", name := "compress", desc := "([CI[BII)I" } : Jvm.MethodName) jdk_52_method_21_code (7 : Nat) (Option.some Jvm.ClassFile.FieldType.int)).before args0 about1 = true := code_word (m := ⟨8, 3⟩) (meth := k8m3) (c := k8c3) (by decide +kernel) rfl rfl rfl (by decide +kernel)
set_option maxRecDepth 65536 in
theorem w_c6 : (Jvm.Cond.code ({ cls := "java/lang/StringUTF16", name := "coderFromArrayLen", desc := "([BI)B" } : Jvm.MethodName) jdk_52_method_15_code (2 : Nat) (Option.some Jvm.ClassFile.FieldType.byte)).before args0 about1 = true := code_word (m := ⟨8, 1⟩) (meth := k8m1) (c := k8c1) (by decide +kernel) rfl rfl rfl (by decide +kernel)
set_option maxRecDepth 65536 in
theorem w_c7 : (Jvm.Cond.code ({ cls := "com/example/fama/fama/index/Names", name := "<init>", desc := "([I[Ljava/lang/String;)V" } : Jvm.MethodName) prog_55_method_1_code (3 : Nat) (Option.none : Option Jvm.ClassFile.FieldType)).before args0 about1 = true := code_word (m := ⟨9, 0⟩) (meth := k9m0) (c := k9c0) (by decide +kernel) rfl rfl rfl (by decide +kernel)
set_option maxRecDepth 65536 in
theorem w_c8 : (Jvm.Cond.code ({ cls := "com/example/fama/fama/index/Names", name := "of", desc := "(I)Ljava/lang/String;" } : Jvm.MethodName) prog_55_method_5_code (2 : Nat) (Option.some (Jvm.ClassFile.FieldType.object "java/lang/String"))).before args0 about1 = true := code_word (m := ⟨9, 2⟩) (meth := k9m2) (c := k9c2) (by decide +kernel) rfl rfl rfl (by decide +kernel)
set_option maxRecDepth 65536 in
theorem w_c9 : (Jvm.Cond.code ({ cls := "com/example/fama/fama/index/Names", name := "name", desc := "(I)Ljava/lang/String;" } : Jvm.MethodName) prog_55_method_4_code (2 : Nat) (Option.some (Jvm.ClassFile.FieldType.object "java/lang/String"))).before args0 about1 = true := code_word (m := ⟨9, 1⟩) (meth := k9m1) (c := k9c1) (by decide +kernel) rfl rfl rfl (by decide +kernel)
set_option maxRecDepth 65536 in
theorem w_c10 : (Jvm.Cond.code ({ cls := "java/lang/String", name := "equals", desc := "(Ljava/lang/Object;)Z" } : Jvm.MethodName) jdk_42_method_66_code (3 : Nat) (Option.some Jvm.ClassFile.FieldType.boolean)).before args0 about1 = true := code_word (m := ⟨7, 2⟩) (meth := k7m2) (c := k7c2) (by decide +kernel) rfl rfl rfl (by decide +kernel)
def codes1 : List Jvm.Cond := [Jvm.Cond.code x code maxLocals ret, Jvm.Cond.code ({ cls := "java/lang/String", name := "<init>", desc := "([C)V" } : Jvm.MethodName) jdk_42_method_3_code (2 : Nat) (Option.none : Option Jvm.ClassFile.FieldType), Jvm.Cond.code ({ cls := "java/lang/String", name := "<init>", desc := "([CIILjava/lang/Void;)V" } : Jvm.MethodName) jdk_42_method_149_code (6 : Nat) (Option.none : Option Jvm.ClassFile.FieldType), Jvm.Cond.code ({ cls := "java/lang/Object", name := "<init>", desc := "()V" } : Jvm.MethodName) object_method_1_code (1 : Nat) (Option.none : Option Jvm.ClassFile.FieldType), Jvm.Cond.code ({ cls := "java/lang/StringUTF16", name := "compress", desc := "([CII)[B" } : Jvm.MethodName) jdk_52_method_16_code (6 : Nat) (Option.some (Jvm.ClassFile.FieldType.array Jvm.ClassFile.FieldType.byte)), Jvm.Cond.code ({ cls := "java/lang/StringUTF16", name := "compress", desc := "([CI[BII)I" } : Jvm.MethodName) jdk_52_method_21_code (7 : Nat) (Option.some Jvm.ClassFile.FieldType.int), Jvm.Cond.code ({ cls := "java/lang/StringUTF16", name := "coderFromArrayLen", desc := "([BI)B" } : Jvm.MethodName) jdk_52_method_15_code (2 : Nat) (Option.some Jvm.ClassFile.FieldType.byte), Jvm.Cond.code ({ cls := "com/example/fama/fama/index/Names", name := "<init>", desc := "([I[Ljava/lang/String;)V" } : Jvm.MethodName) prog_55_method_1_code (3 : Nat) (Option.none : Option Jvm.ClassFile.FieldType), Jvm.Cond.code ({ cls := "com/example/fama/fama/index/Names", name := "of", desc := "(I)Ljava/lang/String;" } : Jvm.MethodName) prog_55_method_5_code (2 : Nat) (Option.some (Jvm.ClassFile.FieldType.object "java/lang/String")), Jvm.Cond.code ({ cls := "com/example/fama/fama/index/Names", name := "name", desc := "(I)Ljava/lang/String;" } : Jvm.MethodName) prog_55_method_4_code (2 : Nat) (Option.some (Jvm.ClassFile.FieldType.object "java/lang/String")), Jvm.Cond.code ({ cls := "java/lang/String", name := "equals", desc := "(Ljava/lang/Object;)Z" } : Jvm.MethodName) jdk_42_method_66_code (3 : Nat) (Option.some Jvm.ClassFile.FieldType.boolean)]
set_option maxRecDepth 65536 in
theorem codes_eq : words1.filter isCode = codes1 := rfl
theorem w_codes : ∀ c ∈ words1.filter isCode, c.before args0 about1 = true := by
  rw [codes_eq]
  intro c hc
  simp only [codes1, List.mem_cons, List.not_mem_nil, or_false] at hc
  rcases hc with rfl | rfl | rfl | rfl | rfl | rfl | rfl | rfl | rfl | rfl | rfl
  · exact w_c0
  · exact w_c1
  · exact w_c2
  · exact w_c3
  · exact w_c4
  · exact w_c5
  · exact w_c6
  · exact w_c7
  · exact w_c8
  · exact w_c9
  · exact w_c10
set_option maxRecDepth 65536 in
theorem w_t1 : (words1.take 24).all (fun c => isCode c || c.before args0 about1) = true := by decide +kernel
set_option maxRecDepth 65536 in
theorem w_t2 : ((words1.drop 24).take 24).all (fun c => isCode c || c.before args0 about1) = true := by decide +kernel
set_option maxRecDepth 65536 in
theorem w_t3 : ((words1.drop 24).drop 24).all (fun c => isCode c || c.before args0 about1) = true := by decide +kernel
theorem w_tables : (allAtoms (Jvm.Cond.code x code maxLocals ret :: tables_1)).before args0 about1 = true := by
  rw [allAtoms_all]
  show words1.all (fun c => c.before args0 about1) = true
  refine all_split ?_ w_codes
  rw [← List.take_append_drop 24 words1, List.all_append, w_t1, ← List.take_append_drop 24 (words1.drop 24), List.all_append, w_t2, w_t3]
  rfl
set_option maxRecDepth 65536 in
theorem w_rest : rest_1_c.before args0 about1 = true := by decide +kernel
set_option maxRecDepth 65536 in
theorem w_case : (Jvm.Cond.and given_1 narrow_1).before args0 about1 = true := by decide +kernel
theorem w_applies : (headSpec (Jvm.Cond.code x code maxLocals ret :: tables_1) room_1).applies x e0.platform about1 = true :=
  (Spec.applies_iff w_frames).mpr ⟨w_running, w_runnable, w_alone, w_named, w_hears, w_ripe, w_room, w_tables⟩
theorem atStart : AtStart classFile x code maxLocals ret World_1 tables_1 room_1 Calls_1 rest_1 Pre_1 launch0 p0 e0 about1 theMethod args0 below0 :=
  ⟨lists_1, trivial, launch0.admits_env _ _ _, launch0.least_env, fairChoices_fair.cas, fairChoices_fair.clock, w_frames, w_args, w_heap, w_applies, trivial, w_rest, w_case⟩
end start1
theorem witness_1 : WitnessClaimed_1 := ⟨start1.p0, start1.e0, start1.about1, start1.theMethod, start1.args0, start1.below0, start1.atStart⟩
end Jvm.Pilot.@@N@@
