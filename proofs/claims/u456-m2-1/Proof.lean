import JvmDerived
import JvmDerived.Pilot.@@N@@Statement
import JvmDerived.Pilot.@@N@@Code
set_option linter.unusedVariables false
set_option linter.unusedSimpArgs false
namespace Jvm.Own
open Jvm Jvm.ClassFile Sem Op Lib Jvm.Free Jvm.Stand Jvm.LawKit Jvm.RoadKit Bundle
/-- where the run stands inside a body: what is fixed, the heap, the room used -/
def St (p : Program) (l : Launch) (e : Env) (R : Room) (s : State) (m : MethodId) (args : Array Value) (below : List Frame) (meth : Method) (c : Code) (Z : State) (n0 : Nat) (y : MethodName) (code : ByteArray) (maxL : Nat) (ret : Option FieldType) (T : State) (h : Heap) (cells slots : Nat) : Prop :=
  (p.tables.exec = Jvm.exec ∧ Z.Warmed39 s.vm ∧ c.code = code ∧ c.maxLocals = maxL ∧ s.vm.findClass y.cls = some m.cls ∧ meth.name = y.name ∧ meth.sig.returnType = ret ∧ meth.locks = false ∧ n0 ≤ s.heap.size) ∧ T.heap = h ∧ ∃ locs, Stand p l e R s m args below meth c T locs cells slots ∧ Fr n0 locs
/-- from here the body comes to its end with Q -/
def WP (p : Program) (e : Env) (below : List Frame) (s : State) (n0 k n : Nat) (Q : Option Value → Heap → Prop) (T : State) (g : JFrame) : Prop :=
  ∃ s₂ o, Steps p.tables e below (T.setTop g) s₂ ∧ s₂.status = .running ∧ Ended s₂ below o ∧ ∃ v L, o = .returned v ∧ (Q v s₂.heap ∧ Fr n0 L) ∧ FrameEnd s o s₂ L k n
/-- a body's contract -/
def Ct (l : Launch) (Z : State) (y : MethodName) (code : ByteArray) (maxL : Nat) (ret : Option FieldType) (rm : Room) (as : Array Value) (h0 : Heap) (n0 : Nat) (Q : Option Value → Heap → Prop) : Prop :=
  ∀ ws, MetFree l y (head1 (Jvm.Cond.code y code maxL ret :: ws) rm) (fun a U => a = as ∧ Z.Warmed39 U.vm ∧ U.heap = h0) (fun _ _ _ _ _ => True) (fun _ U o U' => ∃ v L, o = .returned v ∧ (Q v U'.heap ∧ Fr n0 L) ∧ FrameEnd U o U' L rm.cells rm.slots)
section Steps
variable {p : Program} {l : Launch} {e : Env} {R : Room} {s : State} {m : MethodId} {args : Array Value} {below : List Frame} {meth : Method} {c : Code} {Z : State} {n0 : Nat} {y : MethodName} {code : ByteArray} {maxL : Nat} {ret : Option FieldType} {T : State} {h : Heap} {cells slots k n : Nat} {Q : Option Value → Heap → Prop} {pc pc' : Nat} {Ls : Array Slot} {S : List Value} {a0 : Array Value}
theorem WP.step {T' : State} {g g' : JFrame} (w : WP p e below s n0 k n Q T' g') (st : ∀ t, Steps p.tables e below (T'.setTop g') t → Steps p.tables e below (T.setTop g) t) : WP p e below s n0 k n Q T g := by
  obtain ⟨s₂, o, h1, r⟩ := w; exact ⟨s₂, o, st _ h1, r⟩
theorem WP.trans {T' : State} {g g' : JFrame} (w : WP p e below s n0 k n Q T' g') (st : Steps p.tables e below (T.setTop g) (T'.setTop g')) : WP p e below s n0 k n Q T g := by
  obtain ⟨s₂, o, h1, r⟩ := w; exact ⟨s₂, o, st.trans h1, r⟩
theorem WP.imp {Q' : Option Value → Heap → Prop} {g : JFrame} (w : WP p e below s n0 k n Q' T g) (hq : ∀ v h, Q' v h → Q v h) : WP p e below s n0 k n Q T g := by
  obtain ⟨s₂, o, h1, h2, h3, v, L, h4, ⟨h5, h6⟩, h7⟩ := w; exact ⟨s₂, o, h1, h2, h3, v, L, h4, ⟨hq _ _ h5, h6⟩, h7⟩
theorem WP.cast {g g' : JFrame} (q : g = g') (w : WP p e below s n0 k n Q T g') : WP p e below s n0 k n Q T g := q ▸ w
theorem Ct.imp {as : Array Value} {rm : Room} {Q' : Option Value → Heap → Prop} (ct : Ct l Z y code maxL ret rm as h n0 Q') (hq : ∀ v h, Q' v h → Q v h) : Ct l Z y code maxL ret rm as h n0 Q := by
  intro ws p e ha hc hk s m args below hf happ hP hK
  obtain ⟨n, o, h1, h2, h3, v, L, h4, ⟨h5, h6⟩, h7⟩ := ct ws p e ha hc hk s m args below hf happ hP hK
  exact ⟨n, o, h1, h2, h3, v, L, h4, ⟨hq _ _ h5, h6⟩, h7⟩
theorem Ct.intro {rm : Room} {as : Array Value} {h0 : Heap} (hpl : plainFor y = true) (Z0 : n0 ≤ h0.size)
    (body : ∀ p e s m below meth c T, St p l e rm s m as below meth c Z n0 y code maxL ret T h0 0 0 → WP p e below s n0 rm.cells rm.slots Q T (entryFrame m as maxL)) : Ct l Z y code maxL ret rm as h0 n0 Q := by
  intro ws
  refine MetFree.of_bodySF hpl hisR ?_
  intro p e s m args below meth c s₁ Bd hml0 hP hK
  obtain ⟨rfl, hZ, hh⟩ := hP
  exact body p e s m below meth c s₁ ⟨⟨Bd.exec, hZ, Bd.bytes, hml0, findClass_of_methodNamed Bd.named, (name_of_methodNamed Bd.named Bd.method).1, Bd.returns, BodyLoose.notSynchronized Bd, hh ▸ Z0⟩, by rw [← hh, Bd.state]; rfl, [], Stand.of_body Bd, Fr.nil n0⟩
theorem St.n0le (X : St p l e R s m args below meth c Z n0 y code maxL ret T h cells slots) : n0 ≤ h.size := by
  obtain ⟨⟨-, -, -, -, -, -, -, -, h0⟩, hT, locs, X, -⟩ := X
  have q : s.heap.size ≤ T.heap.size := X.same.2.1
  rw [hT] at q; exact Nat.le_trans h0 q
theorem St.mono (X : St p l e R s m args below meth c Z n0 y code maxL ret T h cells slots) {cells' slots' : Nat} (hc : cells ≤ cells') (hs : slots ≤ slots') : St p l e R s m args below meth c Z n0 y code maxL ret T h cells' slots' := by
  obtain ⟨h0, hT, locs, X, N⟩ := X
  exact ⟨h0, hT, locs, ⟨X.admits, X.cas, X.clock, X.frames, X.room, X.hears, X.method, X.code, X.here, X.tail, X.warmed, X.limits, X.bytes, X.same.mono hc hs⟩, N⟩
theorem w_nameI {v : Int32} (w : ∀ z, z = v → WP p e below s n0 k n Q T (mkF m pc Ls (.int z :: S))) : WP p e below s n0 k n Q T (mkF m pc Ls (.int v :: S)) := w v rfl
theorem w_nameJ {v : Int64} (w : ∀ z, z = v → WP p e below s n0 k n Q T (mkF m pc Ls (.long z :: S))) : WP p e below s n0 k n Q T (mkF m pc Ls (.long v :: S)) := w v rfl
theorem w_nameR {v : Addr} (w : ∀ z, z = v → WP p e below s n0 k n Q T (mkF m pc Ls (.ref z :: S))) : WP p e below s n0 k n Q T (mkF m pc Ls (.ref v :: S)) := w v rfl
theorem w_iload (X : St p l e R s m args below meth c Z n0 y code maxL ret T h cells slots) {i : Nat} {v : Int32} (hd : decode code pc = .ok (.iload i, 2)) (hl : Ls[i]? = some (.val (.int v))) (hp : pc' = pc + 2) (w : WP p e below s n0 k n Q T (mkF m pc' Ls (.int v :: S))) : WP p e below s n0 k n Q T (mkF m pc Ls (S)) := by
  obtain ⟨⟨hx, hZ, hby, hml, hown, hnm, hret, hlk, h00⟩, hT, locs, X, N⟩ := X
  subst hp
  exact w.step fun t kk => XS.iload X.here hx rfl (hb hby hd) hl kk
theorem w_iloadN (X : St p l e R s m args below meth c Z n0 y code maxL ret T h cells slots) {i : Fin 4} {v : Int32} (hd : decode code pc = .ok (.iload_n i, 1)) (hl : Ls[i.val]? = some (.val (.int v))) (hp : pc' = pc + 1) (w : WP p e below s n0 k n Q T (mkF m pc' Ls (.int v :: S))) : WP p e below s n0 k n Q T (mkF m pc Ls (S)) := by
  obtain ⟨⟨hx, hZ, hby, hml, hown, hnm, hret, hlk, h00⟩, hT, locs, X, N⟩ := X
  subst hp
  exact w.step fun t kk => XS.iloadN X.here hx rfl (hb hby hd) hl kk
theorem w_lload (X : St p l e R s m args below meth c Z n0 y code maxL ret T h cells slots) {i : Nat} {v : Int64} (hd : decode code pc = .ok (.lload i, 2)) (hl : Ls[i]? = some (.val (.long v))) (hp : pc' = pc + 2) (w : WP p e below s n0 k n Q T (mkF m pc' Ls (.long v :: S))) : WP p e below s n0 k n Q T (mkF m pc Ls (S)) := by
  obtain ⟨⟨hx, hZ, hby, hml, hown, hnm, hret, hlk, h00⟩, hT, locs, X, N⟩ := X
  subst hp
  exact w.step fun t kk => XS.lload X.here hx rfl (hb hby hd) hl kk
theorem w_lloadN (X : St p l e R s m args below meth c Z n0 y code maxL ret T h cells slots) {i : Fin 4} {v : Int64} (hd : decode code pc = .ok (.lload_n i, 1)) (hl : Ls[i.val]? = some (.val (.long v))) (hp : pc' = pc + 1) (w : WP p e below s n0 k n Q T (mkF m pc' Ls (.long v :: S))) : WP p e below s n0 k n Q T (mkF m pc Ls (S)) := by
  obtain ⟨⟨hx, hZ, hby, hml, hown, hnm, hret, hlk, h00⟩, hT, locs, X, N⟩ := X
  subst hp
  exact w.step fun t kk => XS.lloadN X.here hx rfl (hb hby hd) hl kk
theorem w_aload (X : St p l e R s m args below meth c Z n0 y code maxL ret T h cells slots) {i : Nat} {v : Value} (hd : decode code pc = .ok (.aload i, 2)) (hl : Ls[i]? = some (.val v)) (hv : v.isRef = true) (hp : pc' = pc + 2) (w : WP p e below s n0 k n Q T (mkF m pc' Ls (v :: S))) : WP p e below s n0 k n Q T (mkF m pc Ls (S)) := by
  obtain ⟨⟨hx, hZ, hby, hml, hown, hnm, hret, hlk, h00⟩, hT, locs, X, N⟩ := X
  subst hp
  exact w.step fun t kk => XS.aload X.here hx rfl (hb hby hd) hl hv kk
theorem w_aloadN (X : St p l e R s m args below meth c Z n0 y code maxL ret T h cells slots) {i : Fin 4} {v : Value} (hd : decode code pc = .ok (.aload_n i, 1)) (hl : Ls[i.val]? = some (.val v)) (hv : v.isRef = true) (hp : pc' = pc + 1) (w : WP p e below s n0 k n Q T (mkF m pc' Ls (v :: S))) : WP p e below s n0 k n Q T (mkF m pc Ls (S)) := by
  obtain ⟨⟨hx, hZ, hby, hml, hown, hnm, hret, hlk, h00⟩, hT, locs, X, N⟩ := X
  subst hp
  exact w.step fun t kk => XS.aloadN X.here hx rfl (hb hby hd) hl hv kk
theorem w_istore (X : St p l e R s m args below meth c Z n0 y code maxL ret T h cells slots) {i : Nat} {v : Int32} {L' : Array Slot} (hd : decode code pc = .ok (.istore i, 2)) (hl : storeLocals Ls i (.int v) = some L') (hp : pc' = pc + 2) (w : WP p e below s n0 k n Q T (mkF m pc' L' (S))) : WP p e below s n0 k n Q T (mkF m pc Ls (.int v :: S)) := by
  obtain ⟨⟨hx, hZ, hby, hml, hown, hnm, hret, hlk, h00⟩, hT, locs, X, N⟩ := X
  subst hp
  exact w.step fun t kk => XS.istore X.here hx rfl (hb hby hd) rfl hl kk
theorem w_istoreN (X : St p l e R s m args below meth c Z n0 y code maxL ret T h cells slots) {i : Fin 4} {v : Int32} {L' : Array Slot} (hd : decode code pc = .ok (.istore_n i, 1)) (hl : storeLocals Ls i.val (.int v) = some L') (hp : pc' = pc + 1) (w : WP p e below s n0 k n Q T (mkF m pc' L' (S))) : WP p e below s n0 k n Q T (mkF m pc Ls (.int v :: S)) := by
  obtain ⟨⟨hx, hZ, hby, hml, hown, hnm, hret, hlk, h00⟩, hT, locs, X, N⟩ := X
  subst hp
  exact w.step fun t kk => XS.istoreN X.here hx rfl (hb hby hd) rfl hl kk
theorem w_lstore (X : St p l e R s m args below meth c Z n0 y code maxL ret T h cells slots) {i : Nat} {v : Int64} {L' : Array Slot} (hd : decode code pc = .ok (.lstore i, 2)) (hl : storeLocals Ls i (.long v) = some L') (hp : pc' = pc + 2) (w : WP p e below s n0 k n Q T (mkF m pc' L' (S))) : WP p e below s n0 k n Q T (mkF m pc Ls (.long v :: S)) := by
  obtain ⟨⟨hx, hZ, hby, hml, hown, hnm, hret, hlk, h00⟩, hT, locs, X, N⟩ := X
  subst hp
  exact w.step fun t kk => XS.lstore X.here hx rfl (hb hby hd) rfl hl kk
theorem w_lstoreN (X : St p l e R s m args below meth c Z n0 y code maxL ret T h cells slots) {i : Fin 4} {v : Int64} {L' : Array Slot} (hd : decode code pc = .ok (.lstore_n i, 1)) (hl : storeLocals Ls i.val (.long v) = some L') (hp : pc' = pc + 1) (w : WP p e below s n0 k n Q T (mkF m pc' L' (S))) : WP p e below s n0 k n Q T (mkF m pc Ls (.long v :: S)) := by
  obtain ⟨⟨hx, hZ, hby, hml, hown, hnm, hret, hlk, h00⟩, hT, locs, X, N⟩ := X
  subst hp
  exact w.step fun t kk => XS.lstoreN X.here hx rfl (hb hby hd) rfl hl kk
theorem w_astore (X : St p l e R s m args below meth c Z n0 y code maxL ret T h cells slots) {i : Nat} {v : Value} {L' : Array Slot} (hd : decode code pc = .ok (.astore i, 2)) (hv : v.isRef = true) (hl : storeLocals Ls i v = some L') (hp : pc' = pc + 2) (w : WP p e below s n0 k n Q T (mkF m pc' L' (S))) : WP p e below s n0 k n Q T (mkF m pc Ls (v :: S)) := by
  obtain ⟨⟨hx, hZ, hby, hml, hown, hnm, hret, hlk, h00⟩, hT, locs, X, N⟩ := X
  subst hp
  exact w.step fun t kk => XS.astore X.here hx rfl (hb hby hd) rfl hv hl kk
theorem w_astoreN (X : St p l e R s m args below meth c Z n0 y code maxL ret T h cells slots) {i : Fin 4} {v : Value} {L' : Array Slot} (hd : decode code pc = .ok (.astore_n i, 1)) (hv : v.isRef = true) (hl : storeLocals Ls i.val v = some L') (hp : pc' = pc + 1) (w : WP p e below s n0 k n Q T (mkF m pc' L' (S))) : WP p e below s n0 k n Q T (mkF m pc Ls (v :: S)) := by
  obtain ⟨⟨hx, hZ, hby, hml, hown, hnm, hret, hlk, h00⟩, hT, locs, X, N⟩ := X
  subst hp
  exact w.step fun t kk => XS.astoreN X.here hx rfl (hb hby hd) rfl hv hl kk
theorem w_iinc (X : St p l e R s m args below meth c Z n0 y code maxL ret T h cells slots) {i : Nat} {d : Int} {v v' : Int32} {L' : Array Slot} (hd : decode code pc = .ok (.iinc i d, 3)) (hl : Ls[i]? = some (.val (.int v))) (hv : v + Int32.ofInt d = v') (hl' : storeLocals Ls i (.int v') = some L') (hp : pc' = pc + 3) (w : WP p e below s n0 k n Q T (mkF m pc' L' (S))) : WP p e below s n0 k n Q T (mkF m pc Ls (S)) := by
  obtain ⟨⟨hx, hZ, hby, hml, hown, hnm, hret, hlk, h00⟩, hT, locs, X, N⟩ := X
  subst hp hv
  exact w.step fun t kk => XS.iinc X.here hx rfl (hb hby hd) hl hl' kk
theorem w_iconst (X : St p l e R s m args below meth c Z n0 y code maxL ret T h cells slots) {i : Int} {v : Int32} (hd : decode code pc = .ok (.iconst i, 1)) (hv : Int32.ofInt i = v) (hp : pc' = pc + 1) (w : WP p e below s n0 k n Q T (mkF m pc' Ls (.int v :: S))) : WP p e below s n0 k n Q T (mkF m pc Ls (S)) := by
  obtain ⟨⟨hx, hZ, hby, hml, hown, hnm, hret, hlk, h00⟩, hT, locs, X, N⟩ := X
  subst hp hv
  exact w.step fun t kk => XS.iconst X.here hx rfl (hb hby hd) kk
theorem w_bipush (X : St p l e R s m args below meth c Z n0 y code maxL ret T h cells slots) {i : Int} {v : Int32} (hd : decode code pc = .ok (.bipush i, 2)) (hv : (Int8.ofInt i).toInt32 = v) (hp : pc' = pc + 2) (w : WP p e below s n0 k n Q T (mkF m pc' Ls (.int v :: S))) : WP p e below s n0 k n Q T (mkF m pc Ls (S)) := by
  obtain ⟨⟨hx, hZ, hby, hml, hown, hnm, hret, hlk, h00⟩, hT, locs, X, N⟩ := X
  subst hp hv
  exact w.step fun t kk => XS.bipush X.here hx rfl (hb hby hd) kk
theorem w_sipush (X : St p l e R s m args below meth c Z n0 y code maxL ret T h cells slots) {i : Int} {v : Int32} (hd : decode code pc = .ok (.sipush i, 3)) (hv : (Int16.ofInt i).toInt32 = v) (hp : pc' = pc + 3) (w : WP p e below s n0 k n Q T (mkF m pc' Ls (.int v :: S))) : WP p e below s n0 k n Q T (mkF m pc Ls (S)) := by
  obtain ⟨⟨hx, hZ, hby, hml, hown, hnm, hret, hlk, h00⟩, hT, locs, X, N⟩ := X
  subst hp hv
  exact w.step fun t kk => XS.sipush X.here hx rfl (hb hby hd) kk
theorem w_lconst (X : St p l e R s m args below meth c Z n0 y code maxL ret T h cells slots) {i : Fin 2} {v : Int64} (hd : decode code pc = .ok (.lconst i, 1)) (hv : Int64.ofNat i = v) (hp : pc' = pc + 1) (w : WP p e below s n0 k n Q T (mkF m pc' Ls (.long v :: S))) : WP p e below s n0 k n Q T (mkF m pc Ls (S)) := by
  obtain ⟨⟨hx, hZ, hby, hml, hown, hnm, hret, hlk, h00⟩, hT, locs, X, N⟩ := X
  subst hp hv
  exact w.step fun t kk => XS.lconst X.here hx rfl (hb hby hd) kk
theorem w_aconst_null (X : St p l e R s m args below meth c Z n0 y code maxL ret T h cells slots)  (hd : decode code pc = .ok (.aconst_null, 1)) (hp : pc' = pc + 1) (w : WP p e below s n0 k n Q T (mkF m pc' Ls (.null :: S))) : WP p e below s n0 k n Q T (mkF m pc Ls (S)) := by
  obtain ⟨⟨hx, hZ, hby, hml, hown, hnm, hret, hlk, h00⟩, hT, locs, X, N⟩ := X
  subst hp
  exact w.step fun t kk => XS.aconstNull X.here hx rfl (hb hby hd) kk
theorem w_ldcI (X : St p l e R s m args below meth c Z n0 y code maxL ret T h cells slots) {i : Nat} {v : Int32} (hd : decode code pc = .ok (.ldc i, 2)) (wc : (Jvm.Cond.constant y.cls i v).before a0 Z = true) (hp : pc' = pc + 2) (w : WP p e below s n0 k n Q T (mkF m pc' Ls (.int v :: S))) : WP p e below s n0 k n Q T (mkF m pc Ls (S)) := by
  obtain ⟨⟨hx, hZ, hby, hml, hown, hnm, hret, hlk, h00⟩, hT, locs, X, N⟩ := X
  subst hp
  exact w.step fun t kk => X.ldcInt hx hown (mvT (d := Jvm.Cond.constant y.cls i v) hZ wc) (g := mkF m pc Ls S) rfl (hb hby hd) t kk
theorem w_ldcWI (X : St p l e R s m args below meth c Z n0 y code maxL ret T h cells slots) {i : Nat} {v : Int32} (hd : decode code pc = .ok (.ldc_w i, 3)) (wc : (Jvm.Cond.constant y.cls i v).before a0 Z = true) (hp : pc' = pc + 3) (w : WP p e below s n0 k n Q T (mkF m pc' Ls (.int v :: S))) : WP p e below s n0 k n Q T (mkF m pc Ls (S)) := by
  obtain ⟨⟨hx, hZ, hby, hml, hown, hnm, hret, hlk, h00⟩, hT, locs, X, N⟩ := X
  subst hp
  exact w.step fun t kk => X.ldcwInt hx hown (mvT (d := Jvm.Cond.constant y.cls i v) hZ wc) (g := mkF m pc Ls S) rfl (hb hby hd) t kk
theorem w_ldcJ (X : St p l e R s m args below meth c Z n0 y code maxL ret T h cells slots) {i : Nat} {v : Int64} (hd : decode code pc = .ok (.ldc2_w i, 3)) (wc : (Jvm.Cond.constantLong y.cls i v).before a0 Z = true) (hp : pc' = pc + 3) (w : WP p e below s n0 k n Q T (mkF m pc' Ls (.long v :: S))) : WP p e below s n0 k n Q T (mkF m pc Ls (S)) := by
  obtain ⟨⟨hx, hZ, hby, hml, hown, hnm, hret, hlk, h00⟩, hT, locs, X, N⟩ := X
  subst hp
  exact w.step fun t kk => X.ldc2Long hx hown (mvT (d := Jvm.Cond.constantLong y.cls i v) hZ wc) (g := mkF m pc Ls S) rfl (hb hby hd) t kk
theorem w_iadd (X : St p l e R s m args below meth c Z n0 y code maxL ret T h cells slots) {x z : Int32} (hd : decode code pc = .ok (.iadd, 1)) (hp : pc' = pc + 1) (w : WP p e below s n0 k n Q T (mkF m pc' Ls (.int (x + z) :: S))) : WP p e below s n0 k n Q T (mkF m pc Ls (.int z :: .int x :: S)) := by
  obtain ⟨⟨hx, hZ, hby, hml, hown, hnm, hret, hlk, h00⟩, hT, locs, X, N⟩ := X
  subst hp
  exact w.step fun t kk => XS.iadd X.here hx rfl (hb hby hd) rfl kk
theorem w_ladd (X : St p l e R s m args below meth c Z n0 y code maxL ret T h cells slots) {x z : Int64} (hd : decode code pc = .ok (.ladd, 1)) (hp : pc' = pc + 1) (w : WP p e below s n0 k n Q T (mkF m pc' Ls (.long (x + z) :: S))) : WP p e below s n0 k n Q T (mkF m pc Ls (.long z :: .long x :: S)) := by
  obtain ⟨⟨hx, hZ, hby, hml, hown, hnm, hret, hlk, h00⟩, hT, locs, X, N⟩ := X
  subst hp
  exact w.step fun t kk => XS.ladd X.here hx rfl (hb hby hd) rfl kk
theorem w_isub (X : St p l e R s m args below meth c Z n0 y code maxL ret T h cells slots) {x z : Int32} (hd : decode code pc = .ok (.isub, 1)) (hp : pc' = pc + 1) (w : WP p e below s n0 k n Q T (mkF m pc' Ls (.int (x - z) :: S))) : WP p e below s n0 k n Q T (mkF m pc Ls (.int z :: .int x :: S)) := by
  obtain ⟨⟨hx, hZ, hby, hml, hown, hnm, hret, hlk, h00⟩, hT, locs, X, N⟩ := X
  subst hp
  exact w.step fun t kk => XS.isub X.here hx rfl (hb hby hd) rfl kk
theorem w_lsub (X : St p l e R s m args below meth c Z n0 y code maxL ret T h cells slots) {x z : Int64} (hd : decode code pc = .ok (.lsub, 1)) (hp : pc' = pc + 1) (w : WP p e below s n0 k n Q T (mkF m pc' Ls (.long (x - z) :: S))) : WP p e below s n0 k n Q T (mkF m pc Ls (.long z :: .long x :: S)) := by
  obtain ⟨⟨hx, hZ, hby, hml, hown, hnm, hret, hlk, h00⟩, hT, locs, X, N⟩ := X
  subst hp
  exact w.step fun t kk => XS.lsub X.here hx rfl (hb hby hd) rfl kk
theorem w_imul (X : St p l e R s m args below meth c Z n0 y code maxL ret T h cells slots) {x z : Int32} (hd : decode code pc = .ok (.imul, 1)) (hp : pc' = pc + 1) (w : WP p e below s n0 k n Q T (mkF m pc' Ls (.int (x * z) :: S))) : WP p e below s n0 k n Q T (mkF m pc Ls (.int z :: .int x :: S)) := by
  obtain ⟨⟨hx, hZ, hby, hml, hown, hnm, hret, hlk, h00⟩, hT, locs, X, N⟩ := X
  subst hp
  exact w.step fun t kk => XS.imul X.here hx rfl (hb hby hd) rfl kk
theorem w_lmul (X : St p l e R s m args below meth c Z n0 y code maxL ret T h cells slots) {x z : Int64} (hd : decode code pc = .ok (.lmul, 1)) (hp : pc' = pc + 1) (w : WP p e below s n0 k n Q T (mkF m pc' Ls (.long (x * z) :: S))) : WP p e below s n0 k n Q T (mkF m pc Ls (.long z :: .long x :: S)) := by
  obtain ⟨⟨hx, hZ, hby, hml, hown, hnm, hret, hlk, h00⟩, hT, locs, X, N⟩ := X
  subst hp
  exact w.step fun t kk => XS.lmul X.here hx rfl (hb hby hd) rfl kk
theorem w_iand (X : St p l e R s m args below meth c Z n0 y code maxL ret T h cells slots) {x z : Int32} (hd : decode code pc = .ok (.iand, 1)) (hp : pc' = pc + 1) (w : WP p e below s n0 k n Q T (mkF m pc' Ls (.int (x &&& z) :: S))) : WP p e below s n0 k n Q T (mkF m pc Ls (.int z :: .int x :: S)) := by
  obtain ⟨⟨hx, hZ, hby, hml, hown, hnm, hret, hlk, h00⟩, hT, locs, X, N⟩ := X
  subst hp
  exact w.step fun t kk => XS.iand X.here hx rfl (hb hby hd) rfl kk
theorem w_land (X : St p l e R s m args below meth c Z n0 y code maxL ret T h cells slots) {x z : Int64} (hd : decode code pc = .ok (.land, 1)) (hp : pc' = pc + 1) (w : WP p e below s n0 k n Q T (mkF m pc' Ls (.long (x &&& z) :: S))) : WP p e below s n0 k n Q T (mkF m pc Ls (.long z :: .long x :: S)) := by
  obtain ⟨⟨hx, hZ, hby, hml, hown, hnm, hret, hlk, h00⟩, hT, locs, X, N⟩ := X
  subst hp
  exact w.step fun t kk => XS.land X.here hx rfl (hb hby hd) rfl kk
theorem w_ior (X : St p l e R s m args below meth c Z n0 y code maxL ret T h cells slots) {x z : Int32} (hd : decode code pc = .ok (.ior, 1)) (hp : pc' = pc + 1) (w : WP p e below s n0 k n Q T (mkF m pc' Ls (.int (x ||| z) :: S))) : WP p e below s n0 k n Q T (mkF m pc Ls (.int z :: .int x :: S)) := by
  obtain ⟨⟨hx, hZ, hby, hml, hown, hnm, hret, hlk, h00⟩, hT, locs, X, N⟩ := X
  subst hp
  exact w.step fun t kk => XS.ior X.here hx rfl (hb hby hd) rfl kk
theorem w_lor (X : St p l e R s m args below meth c Z n0 y code maxL ret T h cells slots) {x z : Int64} (hd : decode code pc = .ok (.lor, 1)) (hp : pc' = pc + 1) (w : WP p e below s n0 k n Q T (mkF m pc' Ls (.long (x ||| z) :: S))) : WP p e below s n0 k n Q T (mkF m pc Ls (.long z :: .long x :: S)) := by
  obtain ⟨⟨hx, hZ, hby, hml, hown, hnm, hret, hlk, h00⟩, hT, locs, X, N⟩ := X
  subst hp
  exact w.step fun t kk => XS.lor X.here hx rfl (hb hby hd) rfl kk
theorem w_ixor (X : St p l e R s m args below meth c Z n0 y code maxL ret T h cells slots) {x z : Int32} (hd : decode code pc = .ok (.ixor, 1)) (hp : pc' = pc + 1) (w : WP p e below s n0 k n Q T (mkF m pc' Ls (.int (x ^^^ z) :: S))) : WP p e below s n0 k n Q T (mkF m pc Ls (.int z :: .int x :: S)) := by
  obtain ⟨⟨hx, hZ, hby, hml, hown, hnm, hret, hlk, h00⟩, hT, locs, X, N⟩ := X
  subst hp
  exact w.step fun t kk => XS.ixor X.here hx rfl (hb hby hd) rfl kk
theorem w_lxor (X : St p l e R s m args below meth c Z n0 y code maxL ret T h cells slots) {x z : Int64} (hd : decode code pc = .ok (.lxor, 1)) (hp : pc' = pc + 1) (w : WP p e below s n0 k n Q T (mkF m pc' Ls (.long (x ^^^ z) :: S))) : WP p e below s n0 k n Q T (mkF m pc Ls (.long z :: .long x :: S)) := by
  obtain ⟨⟨hx, hZ, hby, hml, hown, hnm, hret, hlk, h00⟩, hT, locs, X, N⟩ := X
  subst hp
  exact w.step fun t kk => XS.lxor X.here hx rfl (hb hby hd) rfl kk
theorem w_ineg (X : St p l e R s m args below meth c Z n0 y code maxL ret T h cells slots) {x : Int32} (hd : decode code pc = .ok (.ineg, 1)) (hp : pc' = pc + 1) (w : WP p e below s n0 k n Q T (mkF m pc' Ls (.int (-x) :: S))) : WP p e below s n0 k n Q T (mkF m pc Ls (.int x :: S)) := by
  obtain ⟨⟨hx, hZ, hby, hml, hown, hnm, hret, hlk, h00⟩, hT, locs, X, N⟩ := X
  subst hp
  exact w.step fun t kk => XS.ineg X.here hx rfl (hb hby hd) rfl kk
theorem w_lneg (X : St p l e R s m args below meth c Z n0 y code maxL ret T h cells slots) {x : Int64} (hd : decode code pc = .ok (.lneg, 1)) (hp : pc' = pc + 1) (w : WP p e below s n0 k n Q T (mkF m pc' Ls (.long (-x) :: S))) : WP p e below s n0 k n Q T (mkF m pc Ls (.long x :: S)) := by
  obtain ⟨⟨hx, hZ, hby, hml, hown, hnm, hret, hlk, h00⟩, hT, locs, X, N⟩ := X
  subst hp
  exact w.step fun t kk => XS.lneg X.here hx rfl (hb hby hd) rfl kk
theorem w_idiv (X : St p l e R s m args below meth c Z n0 y code maxL ret T h cells slots) {x z : Int32} (hd : decode code pc = .ok (.idiv, 1)) (hz : z ≠ 0) (hp : pc' = pc + 1) (w : WP p e below s n0 k n Q T (mkF m pc' Ls (.int (x / z) :: S))) : WP p e below s n0 k n Q T (mkF m pc Ls (.int z :: .int x :: S)) := by
  obtain ⟨⟨hx, hZ, hby, hml, hown, hnm, hret, hlk, h00⟩, hT, locs, X, N⟩ := X
  subst hp
  exact w.step fun t kk => XS.idiv X.here hx rfl (hb hby hd) rfl hz kk
theorem w_irem (X : St p l e R s m args below meth c Z n0 y code maxL ret T h cells slots) {x z : Int32} (hd : decode code pc = .ok (.irem, 1)) (hz : z ≠ 0) (hp : pc' = pc + 1) (w : WP p e below s n0 k n Q T (mkF m pc' Ls (.int (x % z) :: S))) : WP p e below s n0 k n Q T (mkF m pc Ls (.int z :: .int x :: S)) := by
  obtain ⟨⟨hx, hZ, hby, hml, hown, hnm, hret, hlk, h00⟩, hT, locs, X, N⟩ := X
  subst hp
  exact w.step fun t kk => iremM X hx rfl (hb hby hd) rfl hz kk
theorem w_ldiv (X : St p l e R s m args below meth c Z n0 y code maxL ret T h cells slots) {x z : Int64} (hd : decode code pc = .ok (.ldiv, 1)) (hz : z ≠ 0) (hp : pc' = pc + 1) (w : WP p e below s n0 k n Q T (mkF m pc' Ls (.long (x / z) :: S))) : WP p e below s n0 k n Q T (mkF m pc Ls (.long z :: .long x :: S)) := by
  obtain ⟨⟨hx, hZ, hby, hml, hown, hnm, hret, hlk, h00⟩, hT, locs, X, N⟩ := X
  subst hp
  exact w.step fun t kk => XS.ldiv X.here hx rfl (hb hby hd) rfl hz kk
theorem w_lrem (X : St p l e R s m args below meth c Z n0 y code maxL ret T h cells slots) {x z : Int64} (hd : decode code pc = .ok (.lrem, 1)) (hz : z ≠ 0) (hp : pc' = pc + 1) (w : WP p e below s n0 k n Q T (mkF m pc' Ls (.long (x % z) :: S))) : WP p e below s n0 k n Q T (mkF m pc Ls (.long z :: .long x :: S)) := by
  obtain ⟨⟨hx, hZ, hby, hml, hown, hnm, hret, hlk, h00⟩, hT, locs, X, N⟩ := X
  subst hp
  exact w.step fun t kk => XS.lrem X.here hx rfl (hb hby hd) rfl hz (by rw [lrem_mod]; exact kk)
theorem w_ishl (X : St p l e R s m args below meth c Z n0 y code maxL ret T h cells slots) {x z : Int32} (hd : decode code pc = .ok (.ishl, 1)) (hp : pc' = pc + 1) (w : WP p e below s n0 k n Q T (mkF m pc' Ls (.int (x <<< (z &&& 31)) :: S))) : WP p e below s n0 k n Q T (mkF m pc Ls (.int z :: .int x :: S)) := by
  obtain ⟨⟨hx, hZ, hby, hml, hown, hnm, hret, hlk, h00⟩, hT, locs, X, N⟩ := X
  subst hp
  exact w.step fun t kk => XS.ishl X.here hx rfl (hb hby hd) rfl kk
theorem w_ishr (X : St p l e R s m args below meth c Z n0 y code maxL ret T h cells slots) {x z : Int32} (hd : decode code pc = .ok (.ishr, 1)) (hp : pc' = pc + 1) (w : WP p e below s n0 k n Q T (mkF m pc' Ls (.int (x >>> (z &&& 31)) :: S))) : WP p e below s n0 k n Q T (mkF m pc Ls (.int z :: .int x :: S)) := by
  obtain ⟨⟨hx, hZ, hby, hml, hown, hnm, hret, hlk, h00⟩, hT, locs, X, N⟩ := X
  subst hp
  exact w.step fun t kk => XS.ishr X.here hx rfl (hb hby hd) rfl kk
theorem w_iushr (X : St p l e R s m args below meth c Z n0 y code maxL ret T h cells slots) {x z : Int32} (hd : decode code pc = .ok (.iushr, 1)) (hp : pc' = pc + 1) (w : WP p e below s n0 k n Q T (mkF m pc' Ls (.int ((x.toUInt32 >>> (z &&& 31).toUInt32).toInt32) :: S))) : WP p e below s n0 k n Q T (mkF m pc Ls (.int z :: .int x :: S)) := by
  obtain ⟨⟨hx, hZ, hby, hml, hown, hnm, hret, hlk, h00⟩, hT, locs, X, N⟩ := X
  subst hp
  exact w.step fun t kk => XS.iushr X.here hx rfl (hb hby hd) rfl kk
theorem w_lshl (X : St p l e R s m args below meth c Z n0 y code maxL ret T h cells slots) {x : Int64} {z : Int32} (hd : decode code pc = .ok (.lshl, 1)) (hp : pc' = pc + 1) (w : WP p e below s n0 k n Q T (mkF m pc' Ls (.long (x <<< (z &&& 0x3f).toInt64) :: S))) : WP p e below s n0 k n Q T (mkF m pc Ls (.int z :: .long x :: S)) := by
  obtain ⟨⟨hx, hZ, hby, hml, hown, hnm, hret, hlk, h00⟩, hT, locs, X, N⟩ := X
  subst hp
  exact w.step fun t kk => XS.lshl X.here hx rfl (hb hby hd) rfl kk
theorem w_lshr (X : St p l e R s m args below meth c Z n0 y code maxL ret T h cells slots) {x : Int64} {z : Int32} (hd : decode code pc = .ok (.lshr, 1)) (hp : pc' = pc + 1) (w : WP p e below s n0 k n Q T (mkF m pc' Ls (.long (x >>> (z &&& 0x3f).toInt64) :: S))) : WP p e below s n0 k n Q T (mkF m pc Ls (.int z :: .long x :: S)) := by
  obtain ⟨⟨hx, hZ, hby, hml, hown, hnm, hret, hlk, h00⟩, hT, locs, X, N⟩ := X
  subst hp
  exact w.step fun t kk => XS.lshr X.here hx rfl (hb hby hd) rfl kk
theorem w_lushr (X : St p l e R s m args below meth c Z n0 y code maxL ret T h cells slots) {x : Int64} {z : Int32} (hd : decode code pc = .ok (.lushr, 1)) (hp : pc' = pc + 1) (w : WP p e below s n0 k n Q T (mkF m pc' Ls (.long ((x.toUInt64 >>> (z &&& 0x3f).toInt64.toUInt64).toInt64) :: S))) : WP p e below s n0 k n Q T (mkF m pc Ls (.int z :: .long x :: S)) := by
  obtain ⟨⟨hx, hZ, hby, hml, hown, hnm, hret, hlk, h00⟩, hT, locs, X, N⟩ := X
  subst hp
  exact w.step fun t kk => XS.lushr X.here hx rfl (hb hby hd) rfl kk
theorem w_i2b (X : St p l e R s m args below meth c Z n0 y code maxL ret T h cells slots) {x : Int32} (hd : decode code pc = .ok (.i2b, 1)) (hp : pc' = pc + 1) (w : WP p e below s n0 k n Q T (mkF m pc' Ls (.int x.toInt8.toInt32 :: S))) : WP p e below s n0 k n Q T (mkF m pc Ls (.int x :: S)) := by
  obtain ⟨⟨hx, hZ, hby, hml, hown, hnm, hret, hlk, h00⟩, hT, locs, X, N⟩ := X
  subst hp
  exact w.step fun t kk => XS.i2b X.here hx rfl (hb hby hd) rfl kk
theorem w_i2c (X : St p l e R s m args below meth c Z n0 y code maxL ret T h cells slots) {x : Int32} (hd : decode code pc = .ok (.i2c, 1)) (hp : pc' = pc + 1) (w : WP p e below s n0 k n Q T (mkF m pc' Ls (.int x.toUInt32.toUInt16.toUInt32.toInt32 :: S))) : WP p e below s n0 k n Q T (mkF m pc Ls (.int x :: S)) := by
  obtain ⟨⟨hx, hZ, hby, hml, hown, hnm, hret, hlk, h00⟩, hT, locs, X, N⟩ := X
  subst hp
  exact w.step fun t kk => XS.i2c X.here hx rfl (hb hby hd) rfl kk
theorem w_i2s (X : St p l e R s m args below meth c Z n0 y code maxL ret T h cells slots) {x : Int32} (hd : decode code pc = .ok (.i2s, 1)) (hp : pc' = pc + 1) (w : WP p e below s n0 k n Q T (mkF m pc' Ls (.int x.toInt16.toInt32 :: S))) : WP p e below s n0 k n Q T (mkF m pc Ls (.int x :: S)) := by
  obtain ⟨⟨hx, hZ, hby, hml, hown, hnm, hret, hlk, h00⟩, hT, locs, X, N⟩ := X
  subst hp
  exact w.step fun t kk => XS.i2s X.here hx rfl (hb hby hd) rfl kk
theorem w_i2l (X : St p l e R s m args below meth c Z n0 y code maxL ret T h cells slots) {x : Int32} (hd : decode code pc = .ok (.i2l, 1)) (hp : pc' = pc + 1) (w : WP p e below s n0 k n Q T (mkF m pc' Ls (.long x.toInt64 :: S))) : WP p e below s n0 k n Q T (mkF m pc Ls (.int x :: S)) := by
  obtain ⟨⟨hx, hZ, hby, hml, hown, hnm, hret, hlk, h00⟩, hT, locs, X, N⟩ := X
  subst hp
  exact w.step fun t kk => XS.i2l X.here hx rfl (hb hby hd) rfl kk
theorem w_l2i (X : St p l e R s m args below meth c Z n0 y code maxL ret T h cells slots) {x : Int64} (hd : decode code pc = .ok (.l2i, 1)) (hp : pc' = pc + 1) (w : WP p e below s n0 k n Q T (mkF m pc' Ls (.int x.toInt32 :: S))) : WP p e below s n0 k n Q T (mkF m pc Ls (.long x :: S)) := by
  obtain ⟨⟨hx, hZ, hby, hml, hown, hnm, hret, hlk, h00⟩, hT, locs, X, N⟩ := X
  subst hp
  exact w.step fun t kk => XS.l2i X.here hx rfl (hb hby hd) rfl kk
theorem w_lcmp (X : St p l e R s m args below meth c Z n0 y code maxL ret T h cells slots) {x z : Int64} (hd : decode code pc = .ok (.lcmp, 1)) (hp : pc' = pc + 1) (w : WP p e below s n0 k n Q T (mkF m pc' Ls (.int (lcmpW x z) :: S))) : WP p e below s n0 k n Q T (mkF m pc Ls (.long z :: .long x :: S)) := by
  obtain ⟨⟨hx, hZ, hby, hml, hown, hnm, hret, hlk, h00⟩, hT, locs, X, N⟩ := X
  subst hp
  exact w.step fun t kk => XS.lcmp X.here hx rfl (hb hby hd) rfl kk
theorem w_dup (X : St p l e R s m args below meth c Z n0 y code maxL ret T h cells slots) {v : Value} (hd : decode code pc = .ok (.dup, 1)) (hv : v.category = 1) (hp : pc' = pc + 1) (w : WP p e below s n0 k n Q T (mkF m pc' Ls (v :: v :: S))) : WP p e below s n0 k n Q T (mkF m pc Ls (v :: S)) := by
  obtain ⟨⟨hx, hZ, hby, hml, hown, hnm, hret, hlk, h00⟩, hT, locs, X, N⟩ := X
  subst hp
  exact w.step fun t kk => XS.dup X.here hx rfl (hb hby hd) rfl hv kk
theorem w_pop (X : St p l e R s m args below meth c Z n0 y code maxL ret T h cells slots) {v : Value} (hd : decode code pc = .ok (.pop, 1)) (hv : v.category = 1) (hp : pc' = pc + 1) (w : WP p e below s n0 k n Q T (mkF m pc' Ls (S))) : WP p e below s n0 k n Q T (mkF m pc Ls (v :: S)) := by
  obtain ⟨⟨hx, hZ, hby, hml, hown, hnm, hret, hlk, h00⟩, hT, locs, X, N⟩ := X
  subst hp
  exact w.step fun t kk => XS.pop X.here hx rfl (hb hby hd) rfl hv kk
theorem w_dup_x1 (X : St p l e R s m args below meth c Z n0 y code maxL ret T h cells slots) {v u : Value} (hd : decode code pc = .ok (.dup_x1, 1)) (hv : v.category = 1) (hu : u.category = 1) (hp : pc' = pc + 1) (w : WP p e below s n0 k n Q T (mkF m pc' Ls (v :: u :: v :: S))) : WP p e below s n0 k n Q T (mkF m pc Ls (v :: u :: S)) := by
  obtain ⟨⟨hx, hZ, hby, hml, hown, hnm, hret, hlk, h00⟩, hT, locs, X, N⟩ := X
  subst hp
  exact w.step fun t kk => XS.dupX1 X.here hx rfl (hb hby hd) rfl hv hu kk
theorem w_dup2 (X : St p l e R s m args below meth c Z n0 y code maxL ret T h cells slots) {j : Int32} {a : Addr} (hd : decode code pc = .ok (.dup2, 1)) (hp : pc' = pc + 1) (w : WP p e below s n0 k n Q T (mkF m pc' Ls (.int j :: .ref a :: .int j :: .ref a :: S))) : WP p e below s n0 k n Q T (mkF m pc Ls (.int j :: .ref a :: S)) := by
  obtain ⟨⟨hx, hZ, hby, hml, hown, hnm, hret, hlk, h00⟩, hT, locs, X, N⟩ := X
  subst hp
  refine w.step fun t kk => ?_
  have hd' := hb hby hd
  jvm_step X.here [X.here.top, hx, hd', Value.category]
  exact kk
theorem w_goto (X : St p l e R s m args below meth c Z n0 y code maxL ret T h cells slots) {o : Int} (hd : decode code pc = .ok (.goto o, 3)) (ho : 0 ≤ (pc : Int) + o) (hp : ((pc : Int) + o).toNat = pc') (w : WP p e below s n0 k n Q T (mkF m pc' Ls S)) : WP p e below s n0 k n Q T (mkF m pc Ls S) := by
  obtain ⟨⟨hx, hZ, hby, hml, hown, hnm, hret, hlk, h00⟩, hT, locs, X, N⟩ := X
  exact w.step fun t kk => XS.goto X.here hx rfl rfl (hb hby hd) ho hp kk
theorem w_icmp_lt (X : St p l e R s m args below meth c Z n0 y code maxL ret T h cells slots) {o : Int} {x z : Int32} {p1 p2 : Nat} (hd : decode code pc = .ok (.if_icmp .lt o, 3)) (ho : 0 ≤ (pc : Int) + o) (h1 : ((pc : Int) + o).toNat = p1) (h2 : p2 = pc + 3) (wt : x < z → WP p e below s n0 k n Q T (mkF m p1 Ls S)) (wf : ¬ x < z → WP p e below s n0 k n Q T (mkF m p2 Ls S)) : WP p e below s n0 k n Q T (mkF m pc Ls (.int z :: .int x :: S)) := by
  obtain ⟨⟨hx, hZ, hby, hml, hown, hnm, hret, hlk, h00⟩, hT, locs, X, N⟩ := X
  subst h2
  by_cases q0 : x < z
  · have q := q0
    exact (wt q).step fun t kk => XS.icmpYes X.here hx rfl rfl (hb hby hd) rfl (tlt q).1 ho h1 kk
  · have q := q0
    exact (wf q).step fun t kk => XS.icmpNo X.here hx rfl (hb hby hd) rfl (flt q).1 kk
theorem w_if_lt (X : St p l e R s m args below meth c Z n0 y code maxL ret T h cells slots) {o : Int} {x : Int32} {p1 p2 : Nat} (hd : decode code pc = .ok (.ifCond .lt o, 3)) (ho : 0 ≤ (pc : Int) + o) (h1 : ((pc : Int) + o).toNat = p1) (h2 : p2 = pc + 3) (wt : x < (0 : Int32) → WP p e below s n0 k n Q T (mkF m p1 Ls S)) (wf : ¬ x < (0 : Int32) → WP p e below s n0 k n Q T (mkF m p2 Ls S)) : WP p e below s n0 k n Q T (mkF m pc Ls (.int x :: S)) := by
  obtain ⟨⟨hx, hZ, hby, hml, hown, hnm, hret, hlk, h00⟩, hT, locs, X, N⟩ := X
  subst h2
  by_cases q0 : x < (0 : Int32)
  · have q := q0
    exact (wt q).step fun t kk => XS.ifYes X.here hx rfl rfl (hb hby hd) rfl ((if0 _ _).trans (tlt q).1) ho h1 kk
  · have q := q0
    exact (wf q).step fun t kk => XS.ifNo X.here hx rfl (hb hby hd) rfl ((if0 _ _).trans (flt q).1) kk
theorem w_lcmp_lt (X : St p l e R s m args below meth c Z n0 y code maxL ret T h cells slots) {o : Int} {x z : Int64} {p0 p1 p2 : Nat} (hd0 : decode code pc = .ok (.lcmp, 1)) (h0 : p0 = pc + 1) (hd : decode code p0 = .ok (.ifCond .lt o, 3)) (ho : 0 ≤ (p0 : Int) + o) (h1 : ((p0 : Int) + o).toNat = p1) (h2 : p2 = p0 + 3) (wt : x < z → WP p e below s n0 k n Q T (mkF m p1 Ls S)) (wf : ¬ x < z → WP p e below s n0 k n Q T (mkF m p2 Ls S)) : WP p e below s n0 k n Q T (mkF m pc Ls (.long z :: .long x :: S)) :=
  w_lcmp X hd0 h0 (w_if_lt X hd ho h1 h2 (fun q => wt ((lw_lt _ _).mp q)) (fun q => wf (fun u => q ((lw_lt _ _).mpr u))))
theorem w_icmp_ge (X : St p l e R s m args below meth c Z n0 y code maxL ret T h cells slots) {o : Int} {x z : Int32} {p1 p2 : Nat} (hd : decode code pc = .ok (.if_icmp .ge o, 3)) (ho : 0 ≤ (pc : Int) + o) (h1 : ((pc : Int) + o).toNat = p1) (h2 : p2 = pc + 3) (wt : ¬ x < z → WP p e below s n0 k n Q T (mkF m p1 Ls S)) (wf : x < z → WP p e below s n0 k n Q T (mkF m p2 Ls S)) : WP p e below s n0 k n Q T (mkF m pc Ls (.int z :: .int x :: S)) := by
  obtain ⟨⟨hx, hZ, hby, hml, hown, hnm, hret, hlk, h00⟩, hT, locs, X, N⟩ := X
  subst h2
  by_cases q0 : x < z
  · have q := q0
    exact (wf q).step fun t kk => XS.icmpNo X.here hx rfl (hb hby hd) rfl (tlt q).2.1 kk
  · have q := q0
    exact (wt q).step fun t kk => XS.icmpYes X.here hx rfl rfl (hb hby hd) rfl (flt q).2.1 ho h1 kk
theorem w_if_ge (X : St p l e R s m args below meth c Z n0 y code maxL ret T h cells slots) {o : Int} {x : Int32} {p1 p2 : Nat} (hd : decode code pc = .ok (.ifCond .ge o, 3)) (ho : 0 ≤ (pc : Int) + o) (h1 : ((pc : Int) + o).toNat = p1) (h2 : p2 = pc + 3) (wt : ¬ x < (0 : Int32) → WP p e below s n0 k n Q T (mkF m p1 Ls S)) (wf : x < (0 : Int32) → WP p e below s n0 k n Q T (mkF m p2 Ls S)) : WP p e below s n0 k n Q T (mkF m pc Ls (.int x :: S)) := by
  obtain ⟨⟨hx, hZ, hby, hml, hown, hnm, hret, hlk, h00⟩, hT, locs, X, N⟩ := X
  subst h2
  by_cases q0 : x < (0 : Int32)
  · have q := q0
    exact (wf q).step fun t kk => XS.ifNo X.here hx rfl (hb hby hd) rfl ((if0 _ _).trans (tlt q).2.1) kk
  · have q := q0
    exact (wt q).step fun t kk => XS.ifYes X.here hx rfl rfl (hb hby hd) rfl ((if0 _ _).trans (flt q).2.1) ho h1 kk
theorem w_lcmp_ge (X : St p l e R s m args below meth c Z n0 y code maxL ret T h cells slots) {o : Int} {x z : Int64} {p0 p1 p2 : Nat} (hd0 : decode code pc = .ok (.lcmp, 1)) (h0 : p0 = pc + 1) (hd : decode code p0 = .ok (.ifCond .ge o, 3)) (ho : 0 ≤ (p0 : Int) + o) (h1 : ((p0 : Int) + o).toNat = p1) (h2 : p2 = p0 + 3) (wt : ¬ x < z → WP p e below s n0 k n Q T (mkF m p1 Ls S)) (wf : x < z → WP p e below s n0 k n Q T (mkF m p2 Ls S)) : WP p e below s n0 k n Q T (mkF m pc Ls (.long z :: .long x :: S)) :=
  w_lcmp X hd0 h0 (w_if_ge X hd ho h1 h2 (fun q => wt (fun u => q ((lw_lt _ _).mpr u))) (fun q => wf ((lw_lt _ _).mp q)))
theorem w_icmp_gt (X : St p l e R s m args below meth c Z n0 y code maxL ret T h cells slots) {o : Int} {x z : Int32} {p1 p2 : Nat} (hd : decode code pc = .ok (.if_icmp .gt o, 3)) (ho : 0 ≤ (pc : Int) + o) (h1 : ((pc : Int) + o).toNat = p1) (h2 : p2 = pc + 3) (wt : z < x → WP p e below s n0 k n Q T (mkF m p1 Ls S)) (wf : ¬ z < x → WP p e below s n0 k n Q T (mkF m p2 Ls S)) : WP p e below s n0 k n Q T (mkF m pc Ls (.int z :: .int x :: S)) := by
  obtain ⟨⟨hx, hZ, hby, hml, hown, hnm, hret, hlk, h00⟩, hT, locs, X, N⟩ := X
  subst h2
  by_cases q0 : z < x
  · have q := q0
    exact (wt q).step fun t kk => XS.icmpYes X.here hx rfl rfl (hb hby hd) rfl (tlt q).2.2.1 ho h1 kk
  · have q := q0
    exact (wf q).step fun t kk => XS.icmpNo X.here hx rfl (hb hby hd) rfl (flt q).2.2.1 kk
theorem w_if_gt (X : St p l e R s m args below meth c Z n0 y code maxL ret T h cells slots) {o : Int} {x : Int32} {p1 p2 : Nat} (hd : decode code pc = .ok (.ifCond .gt o, 3)) (ho : 0 ≤ (pc : Int) + o) (h1 : ((pc : Int) + o).toNat = p1) (h2 : p2 = pc + 3) (wt : (0 : Int32) < x → WP p e below s n0 k n Q T (mkF m p1 Ls S)) (wf : ¬ (0 : Int32) < x → WP p e below s n0 k n Q T (mkF m p2 Ls S)) : WP p e below s n0 k n Q T (mkF m pc Ls (.int x :: S)) := by
  obtain ⟨⟨hx, hZ, hby, hml, hown, hnm, hret, hlk, h00⟩, hT, locs, X, N⟩ := X
  subst h2
  by_cases q0 : (0 : Int32) < x
  · have q := q0
    exact (wt q).step fun t kk => XS.ifYes X.here hx rfl rfl (hb hby hd) rfl ((if0 _ _).trans (tlt q).2.2.1) ho h1 kk
  · have q := q0
    exact (wf q).step fun t kk => XS.ifNo X.here hx rfl (hb hby hd) rfl ((if0 _ _).trans (flt q).2.2.1) kk
theorem w_lcmp_gt (X : St p l e R s m args below meth c Z n0 y code maxL ret T h cells slots) {o : Int} {x z : Int64} {p0 p1 p2 : Nat} (hd0 : decode code pc = .ok (.lcmp, 1)) (h0 : p0 = pc + 1) (hd : decode code p0 = .ok (.ifCond .gt o, 3)) (ho : 0 ≤ (p0 : Int) + o) (h1 : ((p0 : Int) + o).toNat = p1) (h2 : p2 = p0 + 3) (wt : z < x → WP p e below s n0 k n Q T (mkF m p1 Ls S)) (wf : ¬ z < x → WP p e below s n0 k n Q T (mkF m p2 Ls S)) : WP p e below s n0 k n Q T (mkF m pc Ls (.long z :: .long x :: S)) :=
  w_lcmp X hd0 h0 (w_if_gt X hd ho h1 h2 (fun q => wt ((lw_gt _ _).mp q)) (fun q => wf (fun u => q ((lw_gt _ _).mpr u))))
theorem w_icmp_le (X : St p l e R s m args below meth c Z n0 y code maxL ret T h cells slots) {o : Int} {x z : Int32} {p1 p2 : Nat} (hd : decode code pc = .ok (.if_icmp .le o, 3)) (ho : 0 ≤ (pc : Int) + o) (h1 : ((pc : Int) + o).toNat = p1) (h2 : p2 = pc + 3) (wt : ¬ z < x → WP p e below s n0 k n Q T (mkF m p1 Ls S)) (wf : z < x → WP p e below s n0 k n Q T (mkF m p2 Ls S)) : WP p e below s n0 k n Q T (mkF m pc Ls (.int z :: .int x :: S)) := by
  obtain ⟨⟨hx, hZ, hby, hml, hown, hnm, hret, hlk, h00⟩, hT, locs, X, N⟩ := X
  subst h2
  by_cases q0 : z < x
  · have q := q0
    exact (wf q).step fun t kk => XS.icmpNo X.here hx rfl (hb hby hd) rfl (tlt q).2.2.2 kk
  · have q := q0
    exact (wt q).step fun t kk => XS.icmpYes X.here hx rfl rfl (hb hby hd) rfl (flt q).2.2.2 ho h1 kk
theorem w_if_le (X : St p l e R s m args below meth c Z n0 y code maxL ret T h cells slots) {o : Int} {x : Int32} {p1 p2 : Nat} (hd : decode code pc = .ok (.ifCond .le o, 3)) (ho : 0 ≤ (pc : Int) + o) (h1 : ((pc : Int) + o).toNat = p1) (h2 : p2 = pc + 3) (wt : ¬ (0 : Int32) < x → WP p e below s n0 k n Q T (mkF m p1 Ls S)) (wf : (0 : Int32) < x → WP p e below s n0 k n Q T (mkF m p2 Ls S)) : WP p e below s n0 k n Q T (mkF m pc Ls (.int x :: S)) := by
  obtain ⟨⟨hx, hZ, hby, hml, hown, hnm, hret, hlk, h00⟩, hT, locs, X, N⟩ := X
  subst h2
  by_cases q0 : (0 : Int32) < x
  · have q := q0
    exact (wf q).step fun t kk => XS.ifNo X.here hx rfl (hb hby hd) rfl ((if0 _ _).trans (tlt q).2.2.2) kk
  · have q := q0
    exact (wt q).step fun t kk => XS.ifYes X.here hx rfl rfl (hb hby hd) rfl ((if0 _ _).trans (flt q).2.2.2) ho h1 kk
theorem w_lcmp_le (X : St p l e R s m args below meth c Z n0 y code maxL ret T h cells slots) {o : Int} {x z : Int64} {p0 p1 p2 : Nat} (hd0 : decode code pc = .ok (.lcmp, 1)) (h0 : p0 = pc + 1) (hd : decode code p0 = .ok (.ifCond .le o, 3)) (ho : 0 ≤ (p0 : Int) + o) (h1 : ((p0 : Int) + o).toNat = p1) (h2 : p2 = p0 + 3) (wt : ¬ z < x → WP p e below s n0 k n Q T (mkF m p1 Ls S)) (wf : z < x → WP p e below s n0 k n Q T (mkF m p2 Ls S)) : WP p e below s n0 k n Q T (mkF m pc Ls (.long z :: .long x :: S)) :=
  w_lcmp X hd0 h0 (w_if_le X hd ho h1 h2 (fun q => wt (fun u => q ((lw_gt _ _).mpr u))) (fun q => wf ((lw_gt _ _).mp q)))
theorem w_icmp_eq (X : St p l e R s m args below meth c Z n0 y code maxL ret T h cells slots) {o : Int} {x z : Int32} {p1 p2 : Nat} (hd : decode code pc = .ok (.if_icmp .eq o, 3)) (ho : 0 ≤ (pc : Int) + o) (h1 : ((pc : Int) + o).toNat = p1) (h2 : p2 = pc + 3) (wt : x = z → WP p e below s n0 k n Q T (mkF m p1 Ls S)) (wf : ¬ x = z → WP p e below s n0 k n Q T (mkF m p2 Ls S)) : WP p e below s n0 k n Q T (mkF m pc Ls (.int z :: .int x :: S)) := by
  obtain ⟨⟨hx, hZ, hby, hml, hown, hnm, hret, hlk, h00⟩, hT, locs, X, N⟩ := X
  subst h2
  by_cases q0 : x = z
  · have q := q0
    exact (wt q).step fun t kk => XS.icmpYes X.here hx rfl rfl (hb hby hd) rfl (teq q).1 ho h1 kk
  · have q := q0
    exact (wf q).step fun t kk => XS.icmpNo X.here hx rfl (hb hby hd) rfl (feq q).1 kk
theorem w_if_eq (X : St p l e R s m args below meth c Z n0 y code maxL ret T h cells slots) {o : Int} {x : Int32} {p1 p2 : Nat} (hd : decode code pc = .ok (.ifCond .eq o, 3)) (ho : 0 ≤ (pc : Int) + o) (h1 : ((pc : Int) + o).toNat = p1) (h2 : p2 = pc + 3) (wt : x = (0 : Int32) → WP p e below s n0 k n Q T (mkF m p1 Ls S)) (wf : ¬ x = (0 : Int32) → WP p e below s n0 k n Q T (mkF m p2 Ls S)) : WP p e below s n0 k n Q T (mkF m pc Ls (.int x :: S)) := by
  obtain ⟨⟨hx, hZ, hby, hml, hown, hnm, hret, hlk, h00⟩, hT, locs, X, N⟩ := X
  subst h2
  by_cases q0 : x = (0 : Int32)
  · have q := q0
    exact (wt q).step fun t kk => XS.ifYes X.here hx rfl rfl (hb hby hd) rfl ((if0 _ _).trans (teq q).1) ho h1 kk
  · have q := q0
    exact (wf q).step fun t kk => XS.ifNo X.here hx rfl (hb hby hd) rfl ((if0 _ _).trans (feq q).1) kk
theorem w_lcmp_eq (X : St p l e R s m args below meth c Z n0 y code maxL ret T h cells slots) {o : Int} {x z : Int64} {p0 p1 p2 : Nat} (hd0 : decode code pc = .ok (.lcmp, 1)) (h0 : p0 = pc + 1) (hd : decode code p0 = .ok (.ifCond .eq o, 3)) (ho : 0 ≤ (p0 : Int) + o) (h1 : ((p0 : Int) + o).toNat = p1) (h2 : p2 = p0 + 3) (wt : x = z → WP p e below s n0 k n Q T (mkF m p1 Ls S)) (wf : ¬ x = z → WP p e below s n0 k n Q T (mkF m p2 Ls S)) : WP p e below s n0 k n Q T (mkF m pc Ls (.long z :: .long x :: S)) :=
  w_lcmp X hd0 h0 (w_if_eq X hd ho h1 h2 (fun q => wt ((lw_eq _ _).mp q)) (fun q => wf (fun u => q ((lw_eq _ _).mpr u))))
theorem w_icmp_ne (X : St p l e R s m args below meth c Z n0 y code maxL ret T h cells slots) {o : Int} {x z : Int32} {p1 p2 : Nat} (hd : decode code pc = .ok (.if_icmp .ne o, 3)) (ho : 0 ≤ (pc : Int) + o) (h1 : ((pc : Int) + o).toNat = p1) (h2 : p2 = pc + 3) (wt : ¬ x = z → WP p e below s n0 k n Q T (mkF m p1 Ls S)) (wf : x = z → WP p e below s n0 k n Q T (mkF m p2 Ls S)) : WP p e below s n0 k n Q T (mkF m pc Ls (.int z :: .int x :: S)) := by
  obtain ⟨⟨hx, hZ, hby, hml, hown, hnm, hret, hlk, h00⟩, hT, locs, X, N⟩ := X
  subst h2
  by_cases q0 : x = z
  · have q := q0
    exact (wf q).step fun t kk => XS.icmpNo X.here hx rfl (hb hby hd) rfl (teq q).2 kk
  · have q := q0
    exact (wt q).step fun t kk => XS.icmpYes X.here hx rfl rfl (hb hby hd) rfl (feq q).2 ho h1 kk
theorem w_if_ne (X : St p l e R s m args below meth c Z n0 y code maxL ret T h cells slots) {o : Int} {x : Int32} {p1 p2 : Nat} (hd : decode code pc = .ok (.ifCond .ne o, 3)) (ho : 0 ≤ (pc : Int) + o) (h1 : ((pc : Int) + o).toNat = p1) (h2 : p2 = pc + 3) (wt : ¬ x = (0 : Int32) → WP p e below s n0 k n Q T (mkF m p1 Ls S)) (wf : x = (0 : Int32) → WP p e below s n0 k n Q T (mkF m p2 Ls S)) : WP p e below s n0 k n Q T (mkF m pc Ls (.int x :: S)) := by
  obtain ⟨⟨hx, hZ, hby, hml, hown, hnm, hret, hlk, h00⟩, hT, locs, X, N⟩ := X
  subst h2
  by_cases q0 : x = (0 : Int32)
  · have q := q0
    exact (wf q).step fun t kk => XS.ifNo X.here hx rfl (hb hby hd) rfl ((if0 _ _).trans (teq q).2) kk
  · have q := q0
    exact (wt q).step fun t kk => XS.ifYes X.here hx rfl rfl (hb hby hd) rfl ((if0 _ _).trans (feq q).2) ho h1 kk
theorem w_lcmp_ne (X : St p l e R s m args below meth c Z n0 y code maxL ret T h cells slots) {o : Int} {x z : Int64} {p0 p1 p2 : Nat} (hd0 : decode code pc = .ok (.lcmp, 1)) (h0 : p0 = pc + 1) (hd : decode code p0 = .ok (.ifCond .ne o, 3)) (ho : 0 ≤ (p0 : Int) + o) (h1 : ((p0 : Int) + o).toNat = p1) (h2 : p2 = p0 + 3) (wt : ¬ x = z → WP p e below s n0 k n Q T (mkF m p1 Ls S)) (wf : x = z → WP p e below s n0 k n Q T (mkF m p2 Ls S)) : WP p e below s n0 k n Q T (mkF m pc Ls (.long z :: .long x :: S)) :=
  w_lcmp X hd0 h0 (w_if_ne X hd ho h1 h2 (fun q => wt (fun u => q ((lw_eq _ _).mpr u))) (fun q => wf ((lw_eq _ _).mp q)))
theorem w_ifnull_ref (X : St p l e R s m args below meth c Z n0 y code maxL ret T h cells slots) {o : Int} {a : Addr} (hd : decode code pc = .ok (.ifnull o, 3)) (hp : pc' = pc + 3) (w : WP p e below s n0 k n Q T (mkF m pc' Ls S)) : WP p e below s n0 k n Q T (mkF m pc Ls (.ref a :: S)) := by
  obtain ⟨⟨hx, hZ, hby, hml, hown, hnm, hret, hlk, h00⟩, hT, locs, X, N⟩ := X
  subst hp
  exact w.step fun t kk => XS.ifnullNo X.here hx rfl (hb hby hd) rfl kk
theorem w_end (X : St p l e R s m args below meth c Z n0 y code maxL ret T h cells slots) {g : JFrame} {v : Option Value} (hv : ret = none → v = none) (hk : cells ≤ k) (hn : slots ≤ n) (hq : Q v h)
    (st : ∀ (locs : List Loc) (fs : List Frame), p.tables.exec = Jvm.exec → c.code = code → meth.sig.returnType = ret → Stand p l e R s m args below meth c T locs cells slots → (∀ (f : JFrame) (acts : List Action), f.method = m → f.locked = none → f.entered = [] → (doReturn e (T.setTop f) acts v).1 = T.setFrames fs) → Steps p.tables e below (T.setTop g) (T.setFrames fs)) : WP p e below s n0 k n Q T g := by
  obtain ⟨⟨hx, hZ, hby, hml, hown, hnm, hret, hlk, h00⟩, hT, locs, X, N⟩ := X
  obtain ⟨fs, hr, hrun, hended, hW, hsame⟩ := X.leave (v := v) (fun q => hv (hret ▸ q)) hlk
  refine ⟨_, _, st locs fs hx hby hret X hr, hrun, hended, _, _, rfl, ⟨?_, N⟩, ⟨_, rfl⟩, hW, hsame.mono hk hn⟩
  show Q v T.heap
  rw [hT]; exact hq
theorem w_retI (X : St p l e R s m args below meth c Z n0 y code maxL ret T h cells slots) {z : Int32} (hr : ret = some .int) (hd : decode code pc = .ok (.ireturn, 1)) (hk : cells ≤ k) (hn : slots ≤ n) (hq : Q (some (.int z)) h) : WP p e below s n0 k n Q T (mkF m pc Ls (.int z :: S)) :=
  w_end X (v := some (.int z)) (fun q => by rw [hr] at q; cases q) hk hn hq fun locs fs hx hby hret X hl => retOut X hx (hret.trans hr) rfl (Or.inl ⟨rfl, Or.inl rfl, z, rfl⟩) (hb hby hd) hl
theorem w_retJ (X : St p l e R s m args below meth c Z n0 y code maxL ret T h cells slots) {z : Int64} (hr : ret = some .long) (hd : decode code pc = .ok (.lreturn, 1)) (hk : cells ≤ k) (hn : slots ≤ n) (hq : Q (some (.long z)) h) : WP p e below s n0 k n Q T (mkF m pc Ls (.long z :: S)) :=
  w_end X (v := some (.long z)) (fun q => by rw [hr] at q; cases q) hk hn hq fun locs fs hx hby hret X hl => retOut X hx (hret.trans hr) rfl (Or.inr (Or.inl ⟨rfl, rfl, z, rfl⟩)) (hb hby hd) hl
theorem w_retA (X : St p l e R s m args below meth c Z n0 y code maxL ret T h cells slots) {a : Addr} {t : FieldType} (hr : ret = some t) (ht : t.isReference = true) (hnn : narrow t (.ref a) = .ref a) (hd : decode code pc = .ok (.areturn, 1)) (hk : cells ≤ k) (hn : slots ≤ n) (hq : Q (some (.ref a)) h) : WP p e below s n0 k n Q T (mkF m pc Ls (.ref a :: S)) :=
  w_end X (v := some (.ref a)) (fun q => by rw [hr] at q; cases q) hk hn hq fun locs fs hx hby hret X hl => retOut X hx (hret.trans hr) hnn (Or.inr (Or.inr (Or.inr (Or.inr ⟨rfl, ht, rfl⟩)))) (hb hby hd) hl
theorem w_retN (X : St p l e R s m args below meth c Z n0 y code maxL ret T h cells slots) {z z' : Int32} {t : FieldType} (hr : ret = some t) (ht : t = .boolean ∨ t = .byte ∨ t = .char ∨ t = .short) (hd : decode code pc = .ok (.ireturn, 1)) (hz : nar t z = z') (hk : cells ≤ k) (hn : slots ≤ n) (hq : Q (some (.int z')) h) : WP p e below s n0 k n Q T (mkF m pc Ls (.int z :: S)) :=
  w_end X (v := some (.int z')) (fun q => by rw [hr] at q; cases q) hk hn hq fun locs fs hx hby hret X hl => retN X hx (hret.trans hr) ht (hb hby hd) (by rw [hz]; exact hl)
theorem w_retZ (X : St p l e R s m args below meth c Z n0 y code maxL ret T h cells slots) {z : Int32} (hr : ret = some .boolean) (hd : decode code pc = .ok (.ireturn, 1)) (hz : z &&& 1 = z) (hk : cells ≤ k) (hn : slots ≤ n) (hq : Q (some (.int z)) h) : WP p e below s n0 k n Q T (mkF m pc Ls (.int z :: S)) :=
  w_retN X hr (Or.inl rfl) hd hz hk hn hq
theorem w_retV (X : St p l e R s m args below meth c Z n0 y code maxL ret T h cells slots) (hr : ret = none) (hd : decode code pc = .ok (.return_, 1)) (hk : cells ≤ k) (hn : slots ≤ n) (hq : Q none h) : WP p e below s n0 k n Q T (mkF m pc Ls []) :=
  w_end X (v := none) (fun _ => rfl) hk hn hq fun locs fs hx hby hret X hl => X.returnOut hx (hret.trans hr) (hb hby hd) hl
theorem St.of_back (X : St p l e R s m args below meth c Z n0 y code maxL ret T h cells slots) {locs : List Loc} (N : Fr n0 locs) {T' : State} {L' : List Loc} {cells' slots' : Nat} (X' : Stand p l e R s m args below meth c T' (locs ++ L') cells' slots') (N' : Fr n0 L') : St p l e R s m args below meth c Z n0 y code maxL ret T' T'.heap cells' slots' :=
  ⟨X.1, rfl, _, X', N.app N'⟩
theorem w_callS (X : St p l e R s m args below meth c Z n0 y code maxL ret T h cells slots) {z : MethodName} {idx : Nat} {code' : ByteArray} {maxL' : Nat} {ret' : Option FieldType} {rm : Room} (argsL rest : List Value) {Q' : Option Value → Heap → Prop} {ps : List FieldType} {r : Option FieldType} (W : Nat)
    (wl : (Jvm.Cond.methodLink y.cls idx z).before a0 Z = true) (wt : (Jvm.Cond.static z).before a0 Z = true) (wi : (Jvm.Cond.initialized z.cls).before a0 Z = true) (wc : (Jvm.Cond.code z code' maxL' ret').before a0 Z = true)
    (ct : Ct l Z z code' maxL' ret' rm argsL.toArray h n0 Q') (hd : decode code pc = .ok (.invokestatic idx, 3)) (pd : parseMethodDescriptor z.desc = some ⟨ps, r⟩) (hlen : argsL.length = ps.length) (hy : z.cls ≠ "java/lang/invoke/MethodHandle" ∧ z.cls ≠ "java/lang/invoke/VarHandle")
    (hsz : Ls.size = maxL) (hS : S = argsL.reverse ++ rest) (hW : (rest.map fun v => v.category).sum = W) (hfr : rm.frames + 1 ≤ R.frames) (hlo : W + (maxL' + 11) + rm.locals ≤ R.locals) (hc : cells + rm.cells ≤ R.cells) (hs : slots + rm.slots ≤ R.slots) (hp : pc' = pc + 3)
    (w : ∀ T' h' v, St p l e R s m args below meth c Z n0 y code maxL ret T' h' (cells + rm.cells) (slots + rm.slots) → Q' v h' → WP p e below s n0 k n Q T' (mkF m pc' Ls (v.toList ++ rest))) : WP p e below s n0 k n Q T (mkF m pc Ls S) := by
  have X1 := X
  obtain ⟨⟨hx, hZ, hby, hml, hown, hnm, hret, hlk, h00⟩, hT, locs, X, N⟩ := X
  subst hp hS
  obtain ⟨v, _, ⟨T', L', k', n'⟩, -, X', ⟨Lc, hQ, l1, y1, z1⟩, st⟩ := Jvm.LawKit.callS X hx (y := z) hown (mvT hZ wl) (mvT hZ wt) (mvT hZ wi) (mvT hZ wc) hy (backOf (W := W) (Q := fun v h L => Q' v h ∧ Fr n0 L) (ct []) hZ wc wi hfr hlo) (g := mkF m pc Ls (argsL.reverse ++ rest)) rfl (hsz.trans hml.symm) (argsL := argsL) (rest := rest) (lenOf pd hlen) rfl (by show 2 * 0 + _ ≤ _; omega) (hb hby hd) (fun _ _ => ⟨rfl, hT, hc, hs⟩)
  dsimp only [Pt.U, Pt.locs, Pt.cells, Pt.slots] at X' l1 y1 z1 st hQ
  subst l1 y1 z1
  exact (w T' T'.heap v (X1.of_back N X' hQ.2) hQ.1).step fun t kk => st t kk
theorem w_callV (X : St p l e R s m args below meth c Z n0 y code maxL ret T h cells slots) {z : MethodName} {C : String} {idx : Nat} {code' : ByteArray} {maxL' : Nat} {ret' : Option FieldType} {rm : Room} {a : Addr} (argsL rest : List Value) {Q' : Option Value → Heap → Prop} {ps : List FieldType} {r : Option FieldType} (W : Nat)
    (wl : (Jvm.Cond.methodLink y.cls idx z).before a0 Z = true) (wdc : (Jvm.Cond.declares z).before a0 Z = true) (wsel : (Jvm.Cond.selects C z z).before a0 Z = true) (wt : (Jvm.Cond.instanceMethod z).before a0 Z = true) (wi : (Jvm.Cond.initialized z.cls).before a0 Z = true) (wc : (Jvm.Cond.code z code' maxL' ret').before a0 Z = true)
    (E : Exa Z h a C) (ct : Ct l Z z code' maxL' ret' rm (.ref a :: argsL).toArray h n0 Q') (hd : decode code pc = .ok (.invokevirtual idx, 3)) (pd : parseMethodDescriptor z.desc = some ⟨ps, r⟩) (hlen : argsL.length = ps.length) (hy : z.cls ≠ "java/lang/invoke/MethodHandle" ∧ z.cls ≠ "java/lang/invoke/VarHandle")
    (hsz : Ls.size = maxL) (hS : S = argsL.reverse ++ .ref a :: rest) (hW : (rest.map fun v => v.category).sum = W) (hfr : rm.frames + 1 ≤ R.frames) (hlo : W + (maxL' + 11) + rm.locals ≤ R.locals) (hc : cells + rm.cells ≤ R.cells) (hs : slots + rm.slots ≤ R.slots) (hp : pc' = pc + 3)
    (w : ∀ T' h' v, St p l e R s m args below meth c Z n0 y code maxL ret T' h' (cells + rm.cells) (slots + rm.slots) → Q' v h' → WP p e below s n0 k n Q T' (mkF m pc' Ls (v.toList ++ rest))) : WP p e below s n0 k n Q T (mkF m pc Ls S) := by
  have X1 := X
  obtain ⟨⟨hx, hZ, hby, hml, hown, hnm, hret, hlk, h00⟩, hT, locs, X, N⟩ := X
  subst hp hS
  obtain ⟨cq, kq, qa, qb, qc⟩ := isOf hZ hT E
  obtain ⟨v, _, ⟨T', L', k', n'⟩, -, X', ⟨Lc, hQ, l1, y1, z1⟩, st⟩ := X.virtualBack hx (y := z) (z := z) hown (mvT hZ wl) (mvT hZ wdc) (notFace_of_selects (args := #[]) (mvT hZ wsel)) (mvT hZ wsel) (mvT hZ wt) hy (backOf (W := W) (Q := fun v h L => Q' v h ∧ Fr n0 L) (ct []) hZ wc wi hfr hlo) qa qc (g := mkF m pc Ls (argsL.reverse ++ .ref a :: rest)) rfl (hsz.trans hml.symm) (Steps.refl _) (argsL := argsL) (rest := rest) (lenOf pd hlen) rfl (by show 2 * 0 + _ ≤ _; omega) (hb hby hd) (fun _ _ => ⟨rfl, hT, hc, hs⟩)
  dsimp only [Pt.U, Pt.locs, Pt.cells, Pt.slots] at X' l1 y1 z1 st hQ
  subst l1 y1 z1
  exact (w T' T'.heap v (X1.of_back N X' hQ.2) hQ.1).trans st
theorem w_callC (X : St p l e R s m args below meth c Z n0 y code maxL ret T h cells slots) {z : MethodName} {idx : Nat} {code' : ByteArray} {maxL' : Nat} {rm : Room} {a : Addr} (argsL rest : List Value) {Q' : Option Value → Heap → Prop} {ps : List FieldType} {r : Option FieldType} (W : Nat)
    (hi : z.name = "<init>") (wl : (Jvm.Cond.methodLink y.cls idx z).before a0 Z = true) (wt : (Jvm.Cond.instanceMethod z).before a0 Z = true) (wi : (Jvm.Cond.initialized z.cls).before a0 Z = true) (wc : (Jvm.Cond.code z code' maxL' none).before a0 Z = true)
    (ct : Ct l Z z code' maxL' none rm (.ref a :: argsL).toArray h n0 Q') (hd : decode code pc = .ok (.invokespecial idx, 3)) (pd : parseMethodDescriptor z.desc = some ⟨ps, r⟩) (hlen : argsL.length = ps.length) (hy : z.cls ≠ "java/lang/invoke/MethodHandle" ∧ z.cls ≠ "java/lang/invoke/VarHandle")
    (hsz : Ls.size = maxL) (hS : S = argsL.reverse ++ .ref a :: rest) (hW : (rest.map fun v => v.category).sum = W) (hfr : rm.frames + 1 ≤ R.frames) (hlo : W + (maxL' + 11) + rm.locals ≤ R.locals) (hc : cells + rm.cells ≤ R.cells) (hs : slots + rm.slots ≤ R.slots) (hp : pc' = pc + 3)
    (w : ∀ T' h' v, St p l e R s m args below meth c Z n0 y code maxL ret T' h' (cells + rm.cells) (slots + rm.slots) → Q' v h' → WP p e below s n0 k n Q T' (mkF m pc' Ls (v.toList ++ rest))) : WP p e below s n0 k n Q T (mkF m pc Ls S) := by
  have X1 := X
  obtain ⟨⟨hx, hZ, hby, hml, hown, hnm, hret, hlk, h00⟩, hT, locs, X, N⟩ := X
  subst hp hS
  obtain ⟨v, _, ⟨T', L', k', n'⟩, -, X', ⟨Lc, hQ, l1, y1, z1⟩, st⟩ := X.specialBack hx (y := z) hi hown (mvT hZ wl) (mvT hZ wt) (mvT hZ wc) hy (backOf (W := W) (Q := fun v h L => Q' v h ∧ Fr n0 L) (ct []) hZ wc wi hfr hlo) (g := mkF m pc Ls (argsL.reverse ++ .ref a :: rest)) rfl (hsz.trans hml.symm) (Steps.refl _) (a := a) (argsL := argsL) (rest := rest) (lenOf pd hlen) rfl (by show 2 * 0 + _ ≤ _; omega) (hb hby hd) (fun _ _ => ⟨rfl, hT, hc, hs⟩)
  dsimp only [Pt.U, Pt.locs, Pt.cells, Pt.slots] at X' l1 y1 z1 st hQ
  subst l1 y1 z1
  exact (w T' T'.heap v (X1.of_back N X' hQ.2) hQ.1).trans st
theorem w_callP (X : St p l e R s m args below meth c Z n0 y code maxL ret T h cells slots) {z z0 : MethodName} {idx : Nat} {code' : ByteArray} {maxL' : Nat} {ret' : Option FieldType} {rm : Room} {a : Addr} (argsL rest : List Value) {Q' : Option Value → Heap → Prop} {ps : List FieldType} {r : Option FieldType} (W : Nat)
    (wl : (Jvm.Cond.methodLink y.cls idx z).before a0 Z = true) (wt : (Jvm.Cond.instanceMethod z).before a0 Z = true) (wp : (Jvm.Cond.privateMethod z).before a0 Z = true) (wsel : (Jvm.Cond.selects z0.cls z0 z0).before a0 Z = true) (h0 : z0.cls = z.cls) (wi : (Jvm.Cond.initialized z.cls).before a0 Z = true) (wc : (Jvm.Cond.code z code' maxL' ret').before a0 Z = true)
    (E : Exa Z h a z.cls) (ct : Ct l Z z code' maxL' ret' rm (.ref a :: argsL).toArray h n0 Q') (hd : decode code pc = .ok (.invokevirtual idx, 3)) (pd : parseMethodDescriptor z.desc = some ⟨ps, r⟩) (hlen : argsL.length = ps.length) (hy : z.cls ≠ "java/lang/invoke/MethodHandle" ∧ z.cls ≠ "java/lang/invoke/VarHandle")
    (hsz : Ls.size = maxL) (hS : S = argsL.reverse ++ .ref a :: rest) (hW : (rest.map fun v => v.category).sum = W) (hfr : rm.frames + 1 ≤ R.frames) (hlo : W + (maxL' + 11) + rm.locals ≤ R.locals) (hc : cells + rm.cells ≤ R.cells) (hs : slots + rm.slots ≤ R.slots) (hp : pc' = pc + 3)
    (w : ∀ T' h' v, St p l e R s m args below meth c Z n0 y code maxL ret T' h' (cells + rm.cells) (slots + rm.slots) → Q' v h' → WP p e below s n0 k n Q T' (mkF m pc' Ls (v.toList ++ rest))) : WP p e below s n0 k n Q T (mkF m pc Ls S) := by
  have X1 := X
  obtain ⟨⟨hx, hZ, hby, hml, hown, hnm, hret, hlk, h00⟩, hT, locs, X, N⟩ := X
  subst hp hS
  obtain ⟨cq, q, q'⟩ := E.cell
  obtain ⟨c2, r2, m2, e1, e2, e3, e4, kP, hkP, hkPi⟩ := Cond.selects_spec (mvT (args := args) hZ wsel)
  have e5 : s.vm.findClass z.cls = some m2.cls := h0 ▸ findClass_of_methodNamed e3
  have hpr : s.PrivateAt z := Cond.privateMethod_at (mvP hZ wp (args := args))
  have hsel : (Jvm.Cond.selects z.cls z z).before args s = true := selects_self_of_private e5 hkP hkPi hpr (mvT hZ wt) hy
  obtain ⟨v, _, ⟨T', L', k', n'⟩, -, X', ⟨Lc, hQ, l1, y1, z1⟩, st⟩ := X.privateBack hx (y := z) hown (mvT hZ wl) (mvT hZ wt) hsel hpr (mvT hZ wc) hy (backOf (W := W) (Q := fun v h L => Q' v h ∧ Fr n0 L) (ct []) hZ wc wi hfr hlo) (g := mkF m pc Ls (argsL.reverse ++ .ref a :: rest)) rfl (hsz.trans hml.symm) (Steps.refl _) (a := a) (by rw [hT]; exact q) q' (argsL := argsL) (rest := rest) (lenOf pd hlen) rfl (by show 2 * 0 + _ ≤ _; omega) (hb hby hd) (fun _ _ => ⟨rfl, hT, hc, hs⟩)
  dsimp only [Pt.U, Pt.locs, Pt.cells, Pt.slots] at X' l1 y1 z1 st hQ
  subst l1 y1 z1
  exact (w T' T'.heap v (X1.of_back N X' hQ.2) hQ.1).trans st
theorem w_initO (X : St p l e R s m args below meth c Z n0 y code maxL ret T h cells slots) {idx : Nat} {a : Addr} {W : Nat} (w1 : (Jvm.Cond.methodLink y.cls idx Lib.objectInit).before a0 Z = true) (w2 : (Jvm.Cond.instanceMethod Lib.objectInit).before a0 Z = true) (w3 : (Jvm.Cond.code Lib.objectInit ⟨#[0xb1]⟩ 1 none).before a0 Z = true)
    (hd : decode code pc = .ok (.invokespecial idx, 3)) (hsz : Ls.size = maxL) (hf : 1 ≤ R.frames) (hW : (S.map fun v => v.category).sum = W) (hl : W + 12 ≤ R.locals) (hp : pc' = pc + 3)
    (w : ∀ T', St p l e R s m args below meth c Z n0 y code maxL ret T' h cells slots → WP p e below s n0 k n Q T' (mkF m pc' Ls S)) : WP p e below s n0 k n Q T (mkF m pc Ls (.ref a :: S)) := by
  have X1 := X
  obtain ⟨⟨hx, hZ, hby, hml, hown, hnm, hret, hlk, h00⟩, hT, locs, X, N⟩ := X
  subst hp
  obtain ⟨T', X', e', st⟩ := initO X hx hZ hown w1 w2 w3 hT (g := mkF m pc Ls (.ref a :: S)) rfl (hsz.trans hml.symm) rfl (hb hby hd) hf (W := W) (by show 2 * 0 + _ ≤ _; omega) hl
  exact (w T' ⟨X1.1, e', locs, X', N⟩).step st
theorem w_getF (X : St p l e R s m args below meth c Z n0 y code maxL ret T h cells slots) {idx : Nat} {O nm d : String} {a : Addr} {v : Value} (wl : (Jvm.Cond.fieldLink y.cls idx O nm d).before a0 Z = true) (F : Fld Z h a O nm d v) (hd : decode code pc = .ok (.getfield idx, 3)) (hp : pc' = pc + 3)
    (w : ∀ T', St p l e R s m args below meth c Z n0 y code maxL ret T' h cells slots → WP p e below s n0 k n Q T' (mkF m pc' Ls (v :: S))) : WP p e below s n0 k n Q T (mkF m pc Ls (.ref a :: S)) := by
  have X1 := X
  obtain ⟨⟨hx, hZ, hby, hml, hown, hnm, hret, hlk, h00⟩, hT, locs, X, N⟩ := X
  subst hp
  obtain ⟨T', X', e', st⟩ := getF X hx hZ hown (host := "") (Or.inl wl) Via.refl hT F (g := mkF m pc Ls (.ref a :: S)) rfl rfl (hb hby hd)
  exact (w T' ⟨X1.1, e', locs, X', N⟩).step st
theorem w_putF (X : St p l e R s m args below meth c Z n0 y code maxL ret T h cells slots) {idx kk : Nat} {O nm d C : String} {ty : FieldType} {a : Addr} {v v' old : Value} (wl : (Jvm.Cond.fieldLink y.cls idx O nm d).before a0 Z = true) (F : Fld Z h a O nm d old) (E : Exa Z h a C) (L : (Jvm.Cond.lays C O nm d).before a0 Z = true ∨ ((Jvm.Cond.laysFinal C O nm d).before a0 Z = true ∧ y.cls = O ∧ y.name = "<init>")) (wi : (Jvm.Cond.instantiable C kk).before a0 Z = true) (ga : n0 ≤ a)
    (hd : decode code pc = .ok (.putfield idx, 3)) (hty : parseFieldDescriptor d = some ty) (hv : narrow ty v = v') (hf : fits ty v' = true) (hp : pc' = pc + 3)
    (w : ∀ T' h', St p l e R s m args below meth c Z n0 y code maxL ret T' h' cells slots → Wr h h' a (Jvm.RoadKit.slotOf Z O nm d) v' → WP p e below s n0 k n Q T' (mkF m pc' Ls S)) : WP p e below s n0 k n Q T (mkF m pc Ls (v :: .ref a :: S)) := by
  have X1 := X
  obtain ⟨⟨hx, hZ, hby, hml, hown, hnm, hret, hlk, h00⟩, hT, locs, X, N⟩ := X
  subst hp
  obtain ⟨T', h', X', e', W', st⟩ := putFN X hx hZ hown wl Via.refl hT F E (L.imp id fun q => ⟨q.1, q.2.1, hnm.trans q.2.2⟩) wi hty hv hf (g := mkF m pc Ls (v :: .ref a :: S)) rfl rfl (hb hby hd)
  exact (w T' h' ⟨X1.1, e', _, X', Fr.snoc X' N ga⟩ W').step st
theorem w_new (X : St p l e R s m args below meth c Z n0 y code maxL ret T h cells slots) {idx nn : Nat} {C : String} (wl : (Jvm.Cond.classLink y.cls idx C).before a0 Z = true) (wi : (Jvm.Cond.instantiable C nn).before a0 Z = true) (wz : (Jvm.Cond.initialized C).before a0 Z = true) (hd : decode code pc = .ok (.new idx, 3)) (hc : cells + 1 ≤ R.cells) (hl : slots + nn ≤ R.slots) (hp : pc' = pc + 3)
    (w : ∀ T' h' a, St p l e R s m args below meth c Z n0 y code maxL ret T' h' (cells + 1) (slots + nn) → a = h.size → n0 ≤ a → Ext h h' → Exa Z h' a C → (∀ {O f d : String} {ty : FieldType}, Laid Z a0 C O f d → parseFieldDescriptor d = some ty → Fld Z h' a O f d (defaultValue ty)) → WP p e below s n0 k n Q T' (mkF m pc' Ls (.ref a :: S))) : WP p e below s n0 k n Q T (mkF m pc Ls S) := by
  have X1 := X
  obtain ⟨⟨hx, hZ, hby, hml, hown, hnm, hret, hlk, h00⟩, hT, locs, X, N⟩ := X
  subst hp
  obtain ⟨T', h', X', e', E', A', D', -, st⟩ := newO X hx hZ hown wl wi wz hT (g := mkF m pc Ls S) rfl (hb hby hd) hc hl
  exact (w T' h' h.size ⟨X1.1, e', _, X', N⟩ rfl X1.n0le E' A' D').step st
theorem w_newarray (X : St p l e R s m args below meth c Z n0 y code maxL ret T h cells slots) {aty : ArrayType} {sz : Int32} (cap : Nat) (wa : (Jvm.Cond.arrayClass (newarray.typeOf aty)).before a0 Z = true) (hd : decode code pc = .ok (.newarray aty, 2)) (hz : ¬ sz < 0) (hcap : sz.toNatClampNeg ≤ cap) (hbig : cap * 8 ≤ 536870912) (hc : cells + 1 ≤ R.cells) (hl : slots + cap ≤ R.slots) (hp : pc' = pc + 2)
    (w : ∀ T' h' a cA, St p l e R s m args below meth c Z n0 y code maxL ret T' h' (cells + 1) (slots + cap) → a = h.size → n0 ≤ a → Ext h h' → Arr Z h' a (newA cA (newarray.typeOf aty) sz) (newarray.typeOf aty) → WP p e below s n0 k n Q T' (mkF m pc' Ls (.ref a :: S))) : WP p e below s n0 k n Q T (mkF m pc Ls (.int sz :: S)) := by
  have X1 := X
  obtain ⟨⟨hx, hZ, hby, hml, hown, hnm, hret, hlk, h00⟩, hT, locs, X, N⟩ := X
  subst hp
  obtain ⟨T', h', cA, X', e', E', A', st⟩ := newP X hx hZ wa hT (g := mkF m pc Ls (.int sz :: S)) rfl (hb hby hd) rfl hz hcap hbig hc hl
  exact (w T' h' h.size cA ⟨X1.1, e', _, X', N⟩ rfl X1.n0le E' A').step st
/-- the array at a: its kind, its length, what stands at each place -/
def AV (Z : State) (h : Heap) (a : Addr) (ty : FieldType) (n : Nat) (f : Nat → Value) : Prop := ∃ c : Cell, Arr Z h a c ty ∧ c.slots.size = n ∧ n < 2 ^ 31 ∧ ∀ i, i < n → c.slots[i]? = some (f i)
theorem AV.ext {a : Addr} {ty : FieldType} {n : Nat} {f : Nat → Value} {h' : Heap} (A : AV Z h a ty n f) (E : Ext h h') : AV Z h' a ty n f := by
  obtain ⟨c, A, r⟩ := A; exact ⟨c, A.ext E, r⟩
theorem AV.keep {a : Addr} {ty : FieldType} {n : Nat} {f : Nat → Value} {h' : Heap} {ws : List Addr} (A : AV Z h a ty n f) (K : Keep h h' ws) (q : a ∉ ws) : AV Z h' a ty n f := by
  obtain ⟨c, A, r⟩ := A; exact ⟨c, ⟨K.2.1 a c A.1 q, A.2⟩, r⟩
theorem AV.lt {a : Addr} {ty : FieldType} {n : Nat} {f : Nat → Value} (A : AV Z h a ty n f) : a < h.size := by
  obtain ⟨c, A, r⟩ := A; exact A.lt
theorem AV.len {a : Addr} {ty : FieldType} {n : Nat} {f : Nat → Value} (A : AV Z h a ty n f) : n < 2 ^ 31 := by
  obtain ⟨c, A, r⟩ := A; exact r.2.1
theorem AV.congr {a : Addr} {ty : FieldType} {n : Nat} {f g : Nat → Value} (A : AV Z h a ty n f) (q : ∀ i, i < n → f i = g i) : AV Z h a ty n g := by
  obtain ⟨c, A, r1, r2, r3⟩ := A; exact ⟨c, A, r1, r2, fun i hi => by rw [← q i hi]; exact r3 i hi⟩
theorem AV.new {a : Addr} {ty : FieldType} {sz : Int32} {cA : ClassId} {n : Nat} (A : Arr Z h a (newA cA ty sz) ty) (hn : sz.toInt = n) : AV Z h a ty n (fun _ => defaultValue ty) := by
  have q1 : sz.toNatClampNeg = n := by simp only [Int32.toNatClampNeg, hn]; omega
  have q2 := Int32.toInt_lt sz
  refine ⟨_, A, by rw [sz_new, q1], by omega, fun i hi => ?_⟩
  simp [newA, q1, hi]
theorem nat_at {j : Int32} {i : Nat} (hi : j.toInt = i) : j.toNatClampNeg = i := by simp only [Int32.toNatClampNeg, hi]; omega
theorem in_at {j : Int32} {i sz n : Nat} (hi : j.toInt = i) (hz : sz = n) (hlt : i < n) : ¬ (j < 0 ∨ sz ≤ j.toNatClampNeg) := by
  rw [nat_at hi, Int32.lt_iff_toInt_lt, hi]; simp only [Int32.reduceToInt]; omega
theorem AV.set {a : Addr} {ty : FieldType} {n i : Nat} {f : Nat → Value} {h' : Heap} {v : Value} (A : AV Z h a ty n f) (W : Wr h h' a i v) : AV Z h' a ty n (fun q => if q = i then v else f q) := by
  obtain ⟨c, A, r1, r2, r3⟩ := A
  obtain ⟨cell, w1, w2, w3, w4⟩ := id W
  have e1 : cell = c := by have := w1.symm.trans A.1; exact Option.some.inj this
  subst e1
  refine ⟨_, A.same W, by rw [sz_set]; exact r1, r2, fun q hq => ?_⟩
  by_cases e : q = i
  · subst e; simp [Cell.setSlot, w3]
  · have e' : ¬ i = q := fun u => e u.symm
    simp only [e, if_false, Cell.setSlot]
    rw [Array.getElem?_setIfInBounds_ne e']; exact r3 q hq
abbrev AI (Z : State) (h : Heap) (a : Addr) (ty : FieldType) (n : Nat) (g : Nat → Int32) : Prop := AV Z h a ty n (fun q => .int (g q))
abbrev AJ (Z : State) (h : Heap) (a : Addr) (n : Nat) (g : Nat → Int64) : Prop := AV Z h a .long n (fun q => .long (g q))
theorem AI.new {a : Addr} {ty : FieldType} {sz : Int32} {cA : ClassId} {n : Nat} (A : Arr Z h a (newA cA ty sz) ty) (hn : sz.toInt = n) (hd : defaultValue ty = .int 0) : AI Z h a ty n (fun _ => 0) := by
  have q := AV.new A hn; rw [hd] at q; exact q
theorem AJ.new {a : Addr} {sz : Int32} {cA : ClassId} {n : Nat} (A : Arr Z h a (newA cA .long sz) .long) (hn : sz.toInt = n) : AJ Z h a n (fun _ => 0) := AV.new A hn
theorem AI.set {a : Addr} {ty : FieldType} {n i : Nat} {g : Nat → Int32} {h' : Heap} {x : Int32} (A : AI Z h a ty n g) (W : Wr h h' a i (.int x)) : AI Z h' a ty n (fun q => if q = i then x else g q) :=
  (AV.set A W).congr fun q _ => by by_cases e : q = i <;> simp [e]
theorem AJ.set {a : Addr} {n i : Nat} {g : Nat → Int64} {h' : Heap} {x : Int64} (A : AJ Z h a n g) (W : Wr h h' a i (.long x)) : AJ Z h' a n (fun q => if q = i then x else g q) :=
  (AV.set A W).congr fun q _ => by by_cases e : q = i <;> simp [e]
theorem AI.congr {a : Addr} {ty : FieldType} {n : Nat} {f g : Nat → Int32} (A : AI Z h a ty n f) (q : ∀ i, i < n → f i = g i) : AI Z h a ty n g := AV.congr A fun i hi => by rw [q i hi]
theorem AJ.congr {a : Addr} {n : Nat} {f g : Nat → Int64} (A : AJ Z h a n f) (q : ∀ i, i < n → f i = g i) : AJ Z h a n g := AV.congr A fun i hi => by rw [q i hi]
theorem w_iaload (X : St p l e R s m args below meth c Z n0 y code maxL ret T h cells slots) {a : Addr} {N : Nat} {g : Nat → Int32} {j : Int32} {i : Nat} {v : Int32} (A : AI Z h a .int N g) (hd : decode code pc = .ok (.iaload, 1)) (hi : j.toInt = i) (hlt : i < N) (hv : g i = v) (hp : pc' = pc + 1) (w : WP p e below s n0 k n Q T (mkF m pc' Ls (.int v :: S))) : WP p e below s n0 k n Q T (mkF m pc Ls (.int j :: .ref a :: S)) := by
  obtain ⟨⟨hx, hZ, hby, hml, hown, hnm, hret, hlk, h00⟩, hT, locs, X, N⟩ := X
  subst hp hv
  obtain ⟨cl, A, r1, r2, r3⟩ := A
  exact w.step fun t kk => X.iaload hx (j := j) (v := .int (g i)) (by rw [hT]; exact A.1) (State.isArrayOf_alike hZ.alike A.2.1) A.2.2 (in_at hi r1 hlt) (by rw [nat_at hi]; exact r3 i hlt) (g := mkF m pc Ls (.int j :: .ref a :: S)) rfl rfl (hb hby hd) t kk
theorem w_laload (X : St p l e R s m args below meth c Z n0 y code maxL ret T h cells slots) {a : Addr} {N : Nat} {g : Nat → Int64} {j : Int32} {i : Nat} {v : Int64} (A : AJ Z h a N g) (hd : decode code pc = .ok (.laload, 1)) (hi : j.toInt = i) (hlt : i < N) (hv : g i = v) (hp : pc' = pc + 1) (w : WP p e below s n0 k n Q T (mkF m pc' Ls (.long v :: S))) : WP p e below s n0 k n Q T (mkF m pc Ls (.int j :: .ref a :: S)) := by
  obtain ⟨⟨hx, hZ, hby, hml, hown, hnm, hret, hlk, h00⟩, hT, locs, X, N⟩ := X
  subst hp hv
  obtain ⟨cl, A, r1, r2, r3⟩ := A
  exact w.step fun t kk => X.laload hx (j := j) (v := .long (g i)) (by rw [hT]; exact A.1) (State.isArrayOf_alike hZ.alike A.2.1) A.2.2 (in_at hi r1 hlt) (by rw [nat_at hi]; exact r3 i hlt) (g := mkF m pc Ls (.int j :: .ref a :: S)) rfl rfl (hb hby hd) t kk
theorem w_caload (X : St p l e R s m args below meth c Z n0 y code maxL ret T h cells slots) {a : Addr} {N : Nat} {g : Nat → Int32} {j : Int32} {i : Nat} {v : Int32} (A : AI Z h a .char N g) (hd : decode code pc = .ok (.caload, 1)) (hi : j.toInt = i) (hlt : i < N) (hv : g i = v) (hp : pc' = pc + 1) (w : WP p e below s n0 k n Q T (mkF m pc' Ls (.int v :: S))) : WP p e below s n0 k n Q T (mkF m pc Ls (.int j :: .ref a :: S)) := by
  obtain ⟨⟨hx, hZ, hby, hml, hown, hnm, hret, hlk, h00⟩, hT, locs, X, N⟩ := X
  subst hp hv
  obtain ⟨cl, A, r1, r2, r3⟩ := A
  exact w.step fun t kk => X.caload hx (j := j) (v := .int (g i)) (by rw [hT]; exact A.1) (State.isArrayOf_alike hZ.alike A.2.1) A.2.2 (in_at hi r1 hlt) (by rw [nat_at hi]; exact r3 i hlt) (g := mkF m pc Ls (.int j :: .ref a :: S)) rfl rfl (hb hby hd) t kk
theorem w_baload (X : St p l e R s m args below meth c Z n0 y code maxL ret T h cells slots) {a : Addr} {N : Nat} {g : Nat → Int32} {j : Int32} {i : Nat} {v : Int32} (A : AI Z h a .byte N g) (hd : decode code pc = .ok (.baload, 1)) (hi : j.toInt = i) (hlt : i < N) (hv : g i = v) (hp : pc' = pc + 1) (w : WP p e below s n0 k n Q T (mkF m pc' Ls (.int v :: S))) : WP p e below s n0 k n Q T (mkF m pc Ls (.int j :: .ref a :: S)) := by
  obtain ⟨⟨hx, hZ, hby, hml, hown, hnm, hret, hlk, h00⟩, hT, locs, X, N⟩ := X
  subst hp hv
  obtain ⟨cl, A, r1, r2, r3⟩ := A
  exact w.step fun t kk => X.baloadBytes hx (j := j) (v := .int (g i)) (by rw [hT]; exact A.1) (State.isArrayOf_alike hZ.alike A.2.1) A.2.2 (in_at hi r1 hlt) (by rw [nat_at hi]; exact r3 i hlt) (g := mkF m pc Ls (.int j :: .ref a :: S)) rfl rfl (hb hby hd) t kk
theorem w_arraylength (X : St p l e R s m args below meth c Z n0 y code maxL ret T h cells slots) {a : Addr} {ty : FieldType} {N : Nat} {f : Nat → Value} {z : Int32} (A : AV Z h a ty N f) (hd : decode code pc = .ok (.arraylength, 1)) (hz : N.toInt32 = z) (hp : pc' = pc + 1) (w : WP p e below s n0 k n Q T (mkF m pc' Ls (.int z :: S))) : WP p e below s n0 k n Q T (mkF m pc Ls (.ref a :: S)) := by
  obtain ⟨⟨hx, hZ, hby, hml, hown, hnm, hret, hlk, h00⟩, hT, locs, X, N⟩ := X
  subst hp hz
  obtain ⟨cl, A, r1, r2, r3⟩ := A
  refine w.step fun t kk => X.arraylength hx (by rw [hT]; exact A.1) (State.isArrayOf_alike hZ.alike A.2.1) (g := mkF m pc Ls (.ref a :: S)) rfl rfl (hb hby hd) t ?_
  rw [r1]; exact kk
theorem w_iastore (X : St p l e R s m args below meth c Z n0 y code maxL ret T h cells slots) {a : Addr} {N : Nat} {g : Nat → Int32} {j : Int32} {i : Nat} {x x' : Int32} (A : AI Z h a .int N g) (ga : n0 ≤ a) (hd : decode code pc = .ok (.iastore, 1)) (hi : j.toInt = i) (hlt : i < N) (hx' : x = x') (hp : pc' = pc + 1) (w : ∀ T' h', St p l e R s m args below meth c Z n0 y code maxL ret T' h' cells slots → Keep h h' [a] → AI Z h' a .int N (fun q => if q = i then x' else g q) → WP p e below s n0 k n Q T' (mkF m pc' Ls S)) : WP p e below s n0 k n Q T (mkF m pc Ls (.int x :: .int j :: .ref a :: S)) := by
  have X1 := X
  have A1 := A
  obtain ⟨⟨hx, hZ, hby, hml, hown, hnm, hret, hlk, h00⟩, hT, locs, X, N⟩ := X
  subst hp hx'
  obtain ⟨cl, A, r1, r2, r3⟩ := A
  obtain ⟨T', h', X', e', W', st⟩ := stI X hx hZ hT A (j := j) (x := x) (in_at hi r1 hlt) (g := mkF m pc Ls (.int x :: .int j :: .ref a :: S)) rfl rfl (hb hby hd)
  have N' := Fr.snoc X' N ga
  rw [nat_at hi] at W'
  exact (w T' h' ⟨X1.1, e', _, X', N'⟩ (Keep.of_wr W') (AI.set A1 W')).step st
theorem w_lastore (X : St p l e R s m args below meth c Z n0 y code maxL ret T h cells slots) {a : Addr} {N : Nat} {g : Nat → Int64} {j : Int32} {i : Nat} {x x' : Int64} (A : AJ Z h a N g) (ga : n0 ≤ a) (hd : decode code pc = .ok (.lastore, 1)) (hi : j.toInt = i) (hlt : i < N) (hx' : x = x') (hp : pc' = pc + 1) (w : ∀ T' h', St p l e R s m args below meth c Z n0 y code maxL ret T' h' cells slots → Keep h h' [a] → AJ Z h' a N (fun q => if q = i then x' else g q) → WP p e below s n0 k n Q T' (mkF m pc' Ls S)) : WP p e below s n0 k n Q T (mkF m pc Ls (.long x :: .int j :: .ref a :: S)) := by
  have X1 := X
  have A1 := A
  obtain ⟨⟨hx, hZ, hby, hml, hown, hnm, hret, hlk, h00⟩, hT, locs, X, N⟩ := X
  subst hp hx'
  obtain ⟨cl, A, r1, r2, r3⟩ := A
  obtain ⟨T', h', X', e', W', st⟩ := stJ X hx hZ hT A (j := j) (x := x) (in_at hi r1 hlt) (g := mkF m pc Ls (.long x :: .int j :: .ref a :: S)) rfl rfl (hb hby hd)
  have N' := Fr.snoc X' N ga
  rw [nat_at hi] at W'
  exact (w T' h' ⟨X1.1, e', _, X', N'⟩ (Keep.of_wr W') (AJ.set A1 W')).step st
theorem w_castore (X : St p l e R s m args below meth c Z n0 y code maxL ret T h cells slots) {a : Addr} {N : Nat} {g : Nat → Int32} {j : Int32} {i : Nat} {x x' : Int32} (A : AI Z h a .char N g) (ga : n0 ≤ a) (hd : decode code pc = .ok (.castore, 1)) (hi : j.toInt = i) (hlt : i < N) (hx' : nar .char x = x') (hp : pc' = pc + 1) (w : ∀ T' h', St p l e R s m args below meth c Z n0 y code maxL ret T' h' cells slots → Keep h h' [a] → AI Z h' a .char N (fun q => if q = i then x' else g q) → WP p e below s n0 k n Q T' (mkF m pc' Ls S)) : WP p e below s n0 k n Q T (mkF m pc Ls (.int x :: .int j :: .ref a :: S)) := by
  have X1 := X
  have A1 := A
  obtain ⟨⟨hx, hZ, hby, hml, hown, hnm, hret, hlk, h00⟩, hT, locs, X, N⟩ := X
  subst hp hx'
  obtain ⟨cl, A, r1, r2, r3⟩ := A
  obtain ⟨T', h', X', e', W', st⟩ := stC X hx hZ hT A (j := j) (x := x) (in_at hi r1 hlt) (g := mkF m pc Ls (.int x :: .int j :: .ref a :: S)) rfl rfl (hb hby hd)
  have N' := Fr.snoc X' N ga
  rw [nat_at hi] at W'
  exact (w T' h' ⟨X1.1, e', _, X', N'⟩ (Keep.of_wr W') (AI.set A1 W')).step st
theorem w_bastore (X : St p l e R s m args below meth c Z n0 y code maxL ret T h cells slots) {a : Addr} {N : Nat} {g : Nat → Int32} {j : Int32} {i : Nat} {x x' : Int32} (A : AI Z h a .byte N g) (ga : n0 ≤ a) (hd : decode code pc = .ok (.bastore, 1)) (hi : j.toInt = i) (hlt : i < N) (hx' : nar .byte x = x') (hp : pc' = pc + 1) (w : ∀ T' h', St p l e R s m args below meth c Z n0 y code maxL ret T' h' cells slots → Keep h h' [a] → AI Z h' a .byte N (fun q => if q = i then x' else g q) → WP p e below s n0 k n Q T' (mkF m pc' Ls S)) : WP p e below s n0 k n Q T (mkF m pc Ls (.int x :: .int j :: .ref a :: S)) := by
  have X1 := X
  have A1 := A
  obtain ⟨⟨hx, hZ, hby, hml, hown, hnm, hret, hlk, h00⟩, hT, locs, X, N⟩ := X
  subst hp hx'
  obtain ⟨cl, A, r1, r2, r3⟩ := A
  obtain ⟨T', h', X', e', W', st⟩ := stB X hx hZ hT A (j := j) (x := x) (in_at hi r1 hlt) (g := mkF m pc Ls (.int x :: .int j :: .ref a :: S)) rfl rfl (hb hby hd)
  have N' := Fr.snoc X' N ga
  rw [nat_at hi] at W'
  exact (w T' h' ⟨X1.1, e', _, X', N'⟩ (Keep.of_wr W') (AI.set A1 W')).step st
end Steps
end Jvm.Own
namespace Jvm.Pilot.@@N@@
open Jvm Jvm.ClassFile Sem Op Lib Jvm.Free Jvm.Stand Jvm.LawKit Jvm.RoadKit Bundle Jvm.Own Jvm.Pilot.@@N@@.Jvm.D
theorem tw0 {a0 : Array Value} {Z : State} (hw : ∀ d ∈ tables_1, d.before a0 Z = true) : (Jvm.Cond.constant "com/example/varve/varve/json/NumbersIsShortestPinLaw" (21 : Nat) (2147483647 : Int32)).before a0 Z = true := hw _ (List.mem_of_getElem? (i := 0) rfl)
theorem tw1 {a0 : Array Value} {Z : State} (hw : ∀ d ∈ tables_1, d.before a0 Z = true) : (Jvm.Cond.arrayClass Jvm.ClassFile.FieldType.byte).before a0 Z = true := hw _ (List.mem_of_getElem? (i := 1) rfl)
theorem tw2 {a0 : Array Value} {Z : State} (hw : ∀ d ∈ tables_1, d.before a0 Z = true) : (Jvm.Cond.methodLink "com/example/varve/varve/json/NumbersIsShortestPinLaw" (22 : Nat) ({ cls := "com/example/varve/varve/json/NumbersIsShortestPinLaw", name := "at", desc := "(IIIIIJJ)B" } : Jvm.MethodName)).before a0 Z = true := hw _ (List.mem_of_getElem? (i := 2) rfl)
theorem tw3 {a0 : Array Value} {Z : State} (hw : ∀ d ∈ tables_1, d.before a0 Z = true) : (Jvm.Cond.static ({ cls := "com/example/varve/varve/json/NumbersIsShortestPinLaw", name := "at", desc := "(IIIIIJJ)B" } : Jvm.MethodName)).before a0 Z = true := hw _ (List.mem_of_getElem? (i := 3) rfl)
theorem tw4 {a0 : Array Value} {Z : State} (hw : ∀ d ∈ tables_1, d.before a0 Z = true) : (Jvm.Cond.initialized "com/example/varve/varve/json/NumbersIsShortestPinLaw").before a0 Z = true := hw _ (List.mem_of_getElem? (i := 4) rfl)
theorem tw5 {a0 : Array Value} {Z : State} (hw : ∀ d ∈ tables_1, d.before a0 Z = true) : (Jvm.Cond.code ({ cls := "com/example/varve/varve/json/NumbersIsShortestPinLaw", name := "at", desc := "(IIIIIJJ)B" } : Jvm.MethodName) method_4_code (10 : Nat) (Option.some Jvm.ClassFile.FieldType.byte)).before a0 Z = true := hw _ (List.mem_of_getElem? (i := 5) rfl)
theorem tw6 {a0 : Array Value} {Z : State} (hw : ∀ d ∈ tables_1, d.before a0 Z = true) : (Jvm.Cond.methodLink "com/example/varve/varve/json/NumbersIsShortestPinLaw" (11 : Nat) ({ cls := "com/example/varve/varve/json/NumbersIsShortestPinLaw", name := "dig", desc := "(JI)I" } : Jvm.MethodName)).before a0 Z = true := hw _ (List.mem_of_getElem? (i := 6) rfl)
theorem tw7 {a0 : Array Value} {Z : State} (hw : ∀ d ∈ tables_1, d.before a0 Z = true) : (Jvm.Cond.static ({ cls := "com/example/varve/varve/json/NumbersIsShortestPinLaw", name := "dig", desc := "(JI)I" } : Jvm.MethodName)).before a0 Z = true := hw _ (List.mem_of_getElem? (i := 7) rfl)
theorem tw8 {a0 : Array Value} {Z : State} (hw : ∀ d ∈ tables_1, d.before a0 Z = true) : (Jvm.Cond.code ({ cls := "com/example/varve/varve/json/NumbersIsShortestPinLaw", name := "dig", desc := "(JI)I" } : Jvm.MethodName) method_2_code (3 : Nat) (Option.some Jvm.ClassFile.FieldType.int)).before a0 Z = true := hw _ (List.mem_of_getElem? (i := 8) rfl)
theorem tw9 {a0 : Array Value} {Z : State} (hw : ∀ d ∈ tables_1, d.before a0 Z = true) : (Jvm.Cond.constantLong "com/example/varve/varve/json/NumbersIsShortestPinLaw" (7 : Nat) (15 : Int64)).before a0 Z = true := hw _ (List.mem_of_getElem? (i := 9) rfl)
theorem tw10 {a0 : Array Value} {Z : State} (hw : ∀ d ∈ tables_1, d.before a0 Z = true) : (Jvm.Cond.constantLong "com/example/varve/varve/json/NumbersIsShortestPinLaw" (9 : Nat) (10 : Int64)).before a0 Z = true := hw _ (List.mem_of_getElem? (i := 10) rfl)
theorem tw11 {a0 : Array Value} {Z : State} (hw : ∀ d ∈ tables_1, d.before a0 Z = true) : (Jvm.Cond.methodLink "com/example/varve/varve/json/NumbersIsShortestPinLaw" (17 : Nat) ({ cls := "com/example/varve/varve/json/NumbersIsShortestPinLaw", name := "free", desc := "(IJJ)I" } : Jvm.MethodName)).before a0 Z = true := hw _ (List.mem_of_getElem? (i := 11) rfl)
theorem tw12 {a0 : Array Value} {Z : State} (hw : ∀ d ∈ tables_1, d.before a0 Z = true) : (Jvm.Cond.static ({ cls := "com/example/varve/varve/json/NumbersIsShortestPinLaw", name := "free", desc := "(IJJ)I" } : Jvm.MethodName)).before a0 Z = true := hw _ (List.mem_of_getElem? (i := 12) rfl)
theorem tw13 {a0 : Array Value} {Z : State} (hw : ∀ d ∈ tables_1, d.before a0 Z = true) : (Jvm.Cond.code ({ cls := "com/example/varve/varve/json/NumbersIsShortestPinLaw", name := "free", desc := "(IJJ)I" } : Jvm.MethodName) method_3_code (5 : Nat) (Option.some Jvm.ClassFile.FieldType.int)).before a0 Z = true := hw _ (List.mem_of_getElem? (i := 13) rfl)
theorem tw14 {a0 : Array Value} {Z : State} (hw : ∀ d ∈ tables_1, d.before a0 Z = true) : (Jvm.Cond.methodLink "com/example/varve/varve/json/NumbersIsShortestPinLaw" (26 : Nat) ({ cls := "com/example/varve/varve/json/Numbers", name := "isShortest", desc := "([BIIII)Z" } : Jvm.MethodName)).before a0 Z = true := hw _ (List.mem_of_getElem? (i := 14) rfl)
theorem tw15 {a0 : Array Value} {Z : State} (hw : ∀ d ∈ tables_1, d.before a0 Z = true) : (Jvm.Cond.static ({ cls := "com/example/varve/varve/json/Numbers", name := "isShortest", desc := "([BIIII)Z" } : Jvm.MethodName)).before a0 Z = true := hw _ (List.mem_of_getElem? (i := 15) rfl)
theorem tw16 {a0 : Array Value} {Z : State} (hw : ∀ d ∈ tables_1, d.before a0 Z = true) : (Jvm.Cond.initialized "com/example/varve/varve/json/Numbers").before a0 Z = true := hw _ (List.mem_of_getElem? (i := 16) rfl)
theorem tw17 {a0 : Array Value} {Z : State} (hw : ∀ d ∈ tables_1, d.before a0 Z = true) : (Jvm.Cond.code ({ cls := "com/example/varve/varve/json/Numbers", name := "isShortest", desc := "([BIIII)Z" } : Jvm.MethodName) prog_82_method_6_code (6 : Nat) (Option.some Jvm.ClassFile.FieldType.boolean)).before a0 Z = true := hw _ (List.mem_of_getElem? (i := 17) rfl)
theorem d1_0 : decode method_4_code 0 = .ok (.iload_n 0, 1) := by decide +kernel
theorem d1_1 : decode method_4_code 1 = .ok (.ifCond .ge 6, 3) := by decide +kernel
theorem d1_4 : decode method_4_code 4 = .ok (.bipush 45, 2) := by decide +kernel
theorem d1_6 : decode method_4_code 6 = .ok (.ireturn, 1) := by decide +kernel
theorem d1_7 : decode method_4_code 7 = .ok (.iload_n 0, 1) := by decide +kernel
theorem d1_8 : decode method_4_code 8 = .ok (.iload_n 1, 1) := by decide +kernel
theorem d1_9 : decode method_4_code 9 = .ok (.if_icmp .ge 36, 3) := by decide +kernel
theorem d1_12 : decode method_4_code 12 = .ok (.lload 5, 2) := by decide +kernel
theorem d1_14 : decode method_4_code 14 = .ok (.iload_n 0, 1) := by decide +kernel
theorem d1_15 : decode method_4_code 15 = .ok (.invokestatic 11, 3) := by decide +kernel
theorem d1_18 : decode method_4_code 18 = .ok (.istore 9, 2) := by decide +kernel
theorem d1_20 : decode method_4_code 20 = .ok (.iload_n 0, 1) := by decide +kernel
theorem d1_21 : decode method_4_code 21 = .ok (.ifCond .ne 17, 3) := by decide +kernel
theorem d1_24 : decode method_4_code 24 = .ok (.iload_n 1, 1) := by decide +kernel
theorem d1_25 : decode method_4_code 25 = .ok (.iconst 1, 1) := by decide +kernel
theorem d1_26 : decode method_4_code 26 = .ok (.if_icmp .le 12, 3) := by decide +kernel
theorem d1_29 : decode method_4_code 29 = .ok (.iconst 1, 1) := by decide +kernel
theorem d1_30 : decode method_4_code 30 = .ok (.iload 9, 2) := by decide +kernel
theorem d1_32 : decode method_4_code 32 = .ok (.bipush 9, 2) := by decide +kernel
theorem d1_34 : decode method_4_code 34 = .ok (.irem, 1) := by decide +kernel
theorem d1_35 : decode method_4_code 35 = .ok (.iadd, 1) := by decide +kernel
theorem d1_36 : decode method_4_code 36 = .ok (.istore 9, 2) := by decide +kernel
theorem d1_38 : decode method_4_code 38 = .ok (.bipush 48, 2) := by decide +kernel
theorem d1_40 : decode method_4_code 40 = .ok (.iload 9, 2) := by decide +kernel
theorem d1_42 : decode method_4_code 42 = .ok (.iadd, 1) := by decide +kernel
theorem d1_43 : decode method_4_code 43 = .ok (.i2b, 1) := by decide +kernel
theorem d1_44 : decode method_4_code 44 = .ok (.ireturn, 1) := by decide +kernel
theorem d1_45 : decode method_4_code 45 = .ok (.iload_n 0, 1) := by decide +kernel
theorem d1_46 : decode method_4_code 46 = .ok (.iload_n 1, 1) := by decide +kernel
theorem d1_47 : decode method_4_code 47 = .ok (.if_icmp .ne 6, 3) := by decide +kernel
theorem d1_50 : decode method_4_code 50 = .ok (.bipush 46, 2) := by decide +kernel
theorem d1_52 : decode method_4_code 52 = .ok (.ireturn, 1) := by decide +kernel
theorem d1_53 : decode method_4_code 53 = .ok (.iload_n 0, 1) := by decide +kernel
theorem d1_54 : decode method_4_code 54 = .ok (.iload_n 1, 1) := by decide +kernel
theorem d1_55 : decode method_4_code 55 = .ok (.isub, 1) := by decide +kernel
theorem d1_56 : decode method_4_code 56 = .ok (.iconst 1, 1) := by decide +kernel
theorem d1_57 : decode method_4_code 57 = .ok (.isub, 1) := by decide +kernel
theorem d1_58 : decode method_4_code 58 = .ok (.istore 9, 2) := by decide +kernel
theorem d1_60 : decode method_4_code 60 = .ok (.iload 9, 2) := by decide +kernel
theorem d1_62 : decode method_4_code 62 = .ok (.iload_n 3, 1) := by decide +kernel
theorem d1_63 : decode method_4_code 63 = .ok (.if_icmp .ge 6, 3) := by decide +kernel
theorem d1_66 : decode method_4_code 66 = .ok (.bipush 48, 2) := by decide +kernel
theorem d1_68 : decode method_4_code 68 = .ok (.ireturn, 1) := by decide +kernel
theorem d1_69 : decode method_4_code 69 = .ok (.iload 9, 2) := by decide +kernel
theorem d1_71 : decode method_4_code 71 = .ok (.iload_n 3, 1) := by decide +kernel
theorem d1_72 : decode method_4_code 72 = .ok (.if_icmp .ne 10, 3) := by decide +kernel
theorem d1_75 : decode method_4_code 75 = .ok (.bipush 48, 2) := by decide +kernel
theorem d1_77 : decode method_4_code 77 = .ok (.iload 4, 2) := by decide +kernel
theorem d1_79 : decode method_4_code 79 = .ok (.iadd, 1) := by decide +kernel
theorem d1_80 : decode method_4_code 80 = .ok (.i2b, 1) := by decide +kernel
theorem d1_81 : decode method_4_code 81 = .ok (.ireturn, 1) := by decide +kernel
theorem d1_82 : decode method_4_code 82 = .ok (.bipush 48, 2) := by decide +kernel
theorem d1_84 : decode method_4_code 84 = .ok (.iload 9, 2) := by decide +kernel
theorem d1_86 : decode method_4_code 86 = .ok (.lload 5, 2) := by decide +kernel
theorem d1_88 : decode method_4_code 88 = .ok (.lload 7, 2) := by decide +kernel
theorem d1_90 : decode method_4_code 90 = .ok (.invokestatic 17, 3) := by decide +kernel
theorem d1_93 : decode method_4_code 93 = .ok (.iadd, 1) := by decide +kernel
theorem d1_94 : decode method_4_code 94 = .ok (.i2b, 1) := by decide +kernel
theorem d1_95 : decode method_4_code 95 = .ok (.ireturn, 1) := by decide +kernel
theorem d2_0 : decode method_2_code 0 = .ok (.lload_n 0, 1) := by decide +kernel
theorem d2_1 : decode method_2_code 1 = .ok (.iconst 4, 1) := by decide +kernel
theorem d2_2 : decode method_2_code 2 = .ok (.iload_n 2, 1) := by decide +kernel
theorem d2_3 : decode method_2_code 3 = .ok (.imul, 1) := by decide +kernel
theorem d2_4 : decode method_2_code 4 = .ok (.lushr, 1) := by decide +kernel
theorem d2_5 : decode method_2_code 5 = .ok (.ldc2_w 7, 3) := by decide +kernel
theorem d2_8 : decode method_2_code 8 = .ok (.land, 1) := by decide +kernel
theorem d2_9 : decode method_2_code 9 = .ok (.ldc2_w 9, 3) := by decide +kernel
theorem d2_12 : decode method_2_code 12 = .ok (.lrem, 1) := by decide +kernel
theorem d2_13 : decode method_2_code 13 = .ok (.l2i, 1) := by decide +kernel
theorem d2_14 : decode method_2_code 14 = .ok (.ireturn, 1) := by decide +kernel
theorem d3_0 : decode method_3_code 0 = .ok (.iload_n 0, 1) := by decide +kernel
theorem d3_1 : decode method_3_code 1 = .ok (.bipush 16, 2) := by decide +kernel
theorem d3_3 : decode method_3_code 3 = .ok (.if_icmp .ge 9, 3) := by decide +kernel
theorem d3_6 : decode method_3_code 6 = .ok (.lload_n 3, 1) := by decide +kernel
theorem d3_7 : decode method_3_code 7 = .ok (.iload_n 0, 1) := by decide +kernel
theorem d3_8 : decode method_3_code 8 = .ok (.invokestatic 11, 3) := by decide +kernel
theorem d3_11 : decode method_3_code 11 = .ok (.ireturn, 1) := by decide +kernel
theorem d3_12 : decode method_3_code 12 = .ok (.lload_n 1, 1) := by decide +kernel
theorem d3_13 : decode method_3_code 13 = .ok (.iload_n 0, 1) := by decide +kernel
theorem d3_14 : decode method_3_code 14 = .ok (.bipush 8, 2) := by decide +kernel
theorem d3_16 : decode method_3_code 16 = .ok (.isub, 1) := by decide +kernel
theorem d3_17 : decode method_3_code 17 = .ok (.invokestatic 11, 3) := by decide +kernel
theorem d3_20 : decode method_3_code 20 = .ok (.ireturn, 1) := by decide +kernel
theorem d4_0 : decode prog_82_method_6_code 0 = .ok (.iload 4, 2) := by decide +kernel
theorem d4_2 : decode prog_82_method_6_code 2 = .ok (.ifCond .eq 18, 3) := by decide +kernel
theorem d4_5 : decode prog_82_method_6_code 5 = .ok (.iload 4, 2) := by decide +kernel
theorem d4_7 : decode prog_82_method_6_code 7 = .ok (.bipush 15, 2) := by decide +kernel
theorem d4_9 : decode prog_82_method_6_code 9 = .ok (.if_icmp .gt 11, 3) := by decide +kernel
theorem d4_12 : decode prog_82_method_6_code 12 = .ok (.iload_n 2, 1) := by decide +kernel
theorem d4_13 : decode prog_82_method_6_code 13 = .ok (.iload_n 1, 1) := by decide +kernel
theorem d4_14 : decode prog_82_method_6_code 14 = .ok (.isub, 1) := by decide +kernel
theorem d4_15 : decode prog_82_method_6_code 15 = .ok (.bipush 7, 2) := by decide +kernel
theorem d4_17 : decode prog_82_method_6_code 17 = .ok (.if_icmp .le 5, 3) := by decide +kernel
theorem d4_20 : decode prog_82_method_6_code 20 = .ok (.iconst 0, 1) := by decide +kernel
theorem d4_21 : decode prog_82_method_6_code 21 = .ok (.ireturn, 1) := by decide +kernel
theorem d4_22 : decode prog_82_method_6_code 22 = .ok (.iload_n 2, 1) := by decide +kernel
theorem d4_23 : decode prog_82_method_6_code 23 = .ok (.iload_n 1, 1) := by decide +kernel
theorem d4_24 : decode prog_82_method_6_code 24 = .ok (.isub, 1) := by decide +kernel
theorem d4_25 : decode prog_82_method_6_code 25 = .ok (.iconst 1, 1) := by decide +kernel
theorem d4_26 : decode prog_82_method_6_code 26 = .ok (.if_icmp .ne 15, 3) := by decide +kernel
theorem d4_29 : decode prog_82_method_6_code 29 = .ok (.aload_n 0, 1) := by decide +kernel
theorem d4_30 : decode prog_82_method_6_code 30 = .ok (.iload_n 1, 1) := by decide +kernel
theorem d4_31 : decode prog_82_method_6_code 31 = .ok (.baload, 1) := by decide +kernel
theorem d4_32 : decode prog_82_method_6_code 32 = .ok (.bipush 48, 2) := by decide +kernel
theorem d4_34 : decode prog_82_method_6_code 34 = .ok (.if_icmp .ne 7, 3) := by decide +kernel
theorem d4_37 : decode prog_82_method_6_code 37 = .ok (.iconst 1, 1) := by decide +kernel
theorem d4_38 : decode prog_82_method_6_code 38 = .ok (.goto 4, 3) := by decide +kernel
theorem d4_41 : decode prog_82_method_6_code 41 = .ok (.iconst 0, 1) := by decide +kernel
theorem d4_42 : decode prog_82_method_6_code 42 = .ok (.istore 5, 2) := by decide +kernel
theorem d4_44 : decode prog_82_method_6_code 44 = .ok (.aload_n 0, 1) := by decide +kernel
theorem d4_45 : decode prog_82_method_6_code 45 = .ok (.iload_n 3, 1) := by decide +kernel
theorem d4_46 : decode prog_82_method_6_code 46 = .ok (.iconst 1, 1) := by decide +kernel
theorem d4_47 : decode prog_82_method_6_code 47 = .ok (.isub, 1) := by decide +kernel
theorem d4_48 : decode prog_82_method_6_code 48 = .ok (.baload, 1) := by decide +kernel
theorem d4_49 : decode prog_82_method_6_code 49 = .ok (.bipush 48, 2) := by decide +kernel
theorem d4_51 : decode prog_82_method_6_code 51 = .ok (.if_icmp .ne 21, 3) := by decide +kernel
theorem d4_54 : decode prog_82_method_6_code 54 = .ok (.iload_n 3, 1) := by decide +kernel
theorem d4_55 : decode prog_82_method_6_code 55 = .ok (.iload_n 2, 1) := by decide +kernel
theorem d4_56 : decode prog_82_method_6_code 56 = .ok (.isub, 1) := by decide +kernel
theorem d4_57 : decode prog_82_method_6_code 57 = .ok (.iconst 2, 1) := by decide +kernel
theorem d4_58 : decode prog_82_method_6_code 58 = .ok (.if_icmp .ne 12, 3) := by decide +kernel
theorem d4_61 : decode prog_82_method_6_code 61 = .ok (.iload 5, 2) := by decide +kernel
theorem d4_63 : decode prog_82_method_6_code 63 = .ok (.ifCond .ne 7, 3) := by decide +kernel
theorem d4_66 : decode prog_82_method_6_code 66 = .ok (.iconst 1, 1) := by decide +kernel
theorem d4_67 : decode prog_82_method_6_code 67 = .ok (.goto 4, 3) := by decide +kernel
theorem d4_70 : decode prog_82_method_6_code 70 = .ok (.iconst 0, 1) := by decide +kernel
theorem d4_71 : decode prog_82_method_6_code 71 = .ok (.ireturn, 1) := by decide +kernel
theorem d4_72 : decode prog_82_method_6_code 72 = .ok (.iload 5, 2) := by decide +kernel
theorem d4_74 : decode prog_82_method_6_code 74 = .ok (.ifCond .eq 33, 3) := by decide +kernel
theorem d4_77 : decode prog_82_method_6_code 77 = .ok (.aload_n 0, 1) := by decide +kernel
theorem d4_78 : decode prog_82_method_6_code 78 = .ok (.iload_n 2, 1) := by decide +kernel
theorem d4_79 : decode prog_82_method_6_code 79 = .ok (.iconst 1, 1) := by decide +kernel
theorem d4_80 : decode prog_82_method_6_code 80 = .ok (.iadd, 1) := by decide +kernel
theorem d4_81 : decode prog_82_method_6_code 81 = .ok (.baload, 1) := by decide +kernel
theorem d4_82 : decode prog_82_method_6_code 82 = .ok (.bipush 48, 2) := by decide +kernel
theorem d4_84 : decode prog_82_method_6_code 84 = .ok (.if_icmp .ne 23, 3) := by decide +kernel
theorem d4_87 : decode prog_82_method_6_code 87 = .ok (.aload_n 0, 1) := by decide +kernel
theorem d4_88 : decode prog_82_method_6_code 88 = .ok (.iload_n 2, 1) := by decide +kernel
theorem d4_89 : decode prog_82_method_6_code 89 = .ok (.iconst 2, 1) := by decide +kernel
theorem d4_90 : decode prog_82_method_6_code 90 = .ok (.iadd, 1) := by decide +kernel
theorem d4_91 : decode prog_82_method_6_code 91 = .ok (.baload, 1) := by decide +kernel
theorem d4_92 : decode prog_82_method_6_code 92 = .ok (.bipush 48, 2) := by decide +kernel
theorem d4_94 : decode prog_82_method_6_code 94 = .ok (.if_icmp .ne 13, 3) := by decide +kernel
theorem d4_97 : decode prog_82_method_6_code 97 = .ok (.aload_n 0, 1) := by decide +kernel
theorem d4_98 : decode prog_82_method_6_code 98 = .ok (.iload_n 2, 1) := by decide +kernel
theorem d4_99 : decode prog_82_method_6_code 99 = .ok (.iconst 3, 1) := by decide +kernel
theorem d4_100 : decode prog_82_method_6_code 100 = .ok (.iadd, 1) := by decide +kernel
theorem d4_101 : decode prog_82_method_6_code 101 = .ok (.baload, 1) := by decide +kernel
theorem d4_102 : decode prog_82_method_6_code 102 = .ok (.bipush 48, 2) := by decide +kernel
theorem d4_104 : decode prog_82_method_6_code 104 = .ok (.if_icmp .eq 7, 3) := by decide +kernel
theorem d4_107 : decode prog_82_method_6_code 107 = .ok (.iconst 1, 1) := by decide +kernel
theorem d4_108 : decode prog_82_method_6_code 108 = .ok (.goto 4, 3) := by decide +kernel
theorem d4_111 : decode prog_82_method_6_code 111 = .ok (.iconst 0, 1) := by decide +kernel
theorem d4_112 : decode prog_82_method_6_code 112 = .ok (.ireturn, 1) := by decide +kernel
theorem pd0 : parseMethodDescriptor "(JI)I" = some ⟨[.long, .int], some .int⟩ := by decide +kernel
theorem pd1 : parseMethodDescriptor "(IJJ)I" = some ⟨[.int, .long, .long], some .int⟩ := by decide +kernel
theorem pd2 : parseMethodDescriptor "(IIIIIJJ)B" = some ⟨[.int, .int, .int, .int, .int, .long, .long], some .byte⟩ := by decide +kernel
theorem pd3 : parseMethodDescriptor "([BIIII)Z" = some ⟨[(.array .byte), .int, .int, .int, .int], some .boolean⟩ := by decide +kernel
def fDig (v : Int64) (i : Int32) : Int32 :=
  (((((v).toUInt64 >>> (((4 : Int32) * i) &&& 0x3f).toInt64.toUInt64).toInt64 &&& (15 : Int64)) % (10 : Int64))).toInt32
set_option maxRecDepth 65536 in
set_option maxHeartbeats 4000000 in
theorem ct_fDig (l : Launch) (Z : State) (a0 : Array Value) (hw : ∀ d ∈ tables_1, d.before a0 Z = true) (v : Int64) (i : Int32) (h0 : Heap) (n0 : Nat) (Z0 : n0 ≤ h0.size) :
    Ct l Z (⟨"com/example/varve/varve/json/NumbersIsShortestPinLaw", "dig", "(JI)I"⟩ : MethodName) method_2_code 3 (some .int) ({ frames := 0, cells := 0, slots := 0, locals := 0 } : Room) #[(.long v), (.int i)] h0 n0 (fun r_ h_ => r_ = some (.int (fDig v i)) ∧ h_ = h0) := by
  refine Ct.intro (plainFor_of_name (by first | (simp [plainName, overriddenIn]; done) | decide +kernel)) Z0 ?_
  intro p e s m below meth c T X
  refine WP.cast (g' := (mkF m 0 #[.val (.long v), .second, .val (.int i)] [])) (by first | (simp [entryFrame, mkF, argsToLocals, Value.category]; done) | rfl) ?_
  refine w_lloadN X d2_0 rfl (pc' := 1) rfl ?_
  refine w_iconst X d2_1 (v := (4 : Int32)) (by decide) (pc' := 2) rfl ?_
  refine w_iloadN X d2_2 rfl (pc' := 3) rfl ?_
  refine w_imul X d2_3 (pc' := 4) rfl ?_
  refine w_lushr X d2_4 (pc' := 5) rfl ?_
  refine w_ldcJ X d2_5 (tw9 hw) (pc' := 8) rfl ?_
  refine w_land X d2_8 (pc' := 9) rfl ?_
  refine w_ldcJ X d2_9 (tw10 hw) (pc' := 12) rfl ?_
  refine w_lrem X d2_12 (by decide) (pc' := 13) rfl ?_
  refine w_l2i X d2_13 (pc' := 14) rfl ?_
  exact w_retI X rfl d2_14 (by decide) (by decide) ⟨by rw [fDig], rfl⟩
def fFree (j : Int32) (u : Int64) (v : Int64) : Int32 :=
  if j < (16 : Int32) then
    (fDig v j)
  else
    (fDig u (j - (8 : Int32)))
set_option maxRecDepth 65536 in
set_option maxHeartbeats 4000000 in
theorem ct_fFree (l : Launch) (Z : State) (a0 : Array Value) (hw : ∀ d ∈ tables_1, d.before a0 Z = true) (j : Int32) (u : Int64) (v : Int64) (h0 : Heap) (n0 : Nat) (Z0 : n0 ≤ h0.size) :
    Ct l Z (⟨"com/example/varve/varve/json/NumbersIsShortestPinLaw", "free", "(IJJ)I"⟩ : MethodName) method_3_code 5 (some .int) ({ frames := 1, cells := 0, slots := 0, locals := 14 } : Room) #[(.int j), (.long u), (.long v)] h0 n0 (fun r_ h_ => r_ = some (.int (fFree j u v)) ∧ h_ = h0) := by
  refine Ct.intro (plainFor_of_name (by first | (simp [plainName, overriddenIn]; done) | decide +kernel)) Z0 ?_
  intro p e s m below meth c T X
  refine WP.cast (g' := (mkF m 0 #[.val (.int j), .val (.long u), .second, .val (.long v), .second] [])) (by first | (simp [entryFrame, mkF, argsToLocals, Value.category]; done) | rfl) ?_
  refine w_iloadN X d3_0 rfl (pc' := 1) rfl ?_
  refine w_bipush X d3_1 (v := (16 : Int32)) (by decide) (pc' := 3) rfl ?_
  refine w_icmp_ge X d3_3 (by decide) (p1 := 12) (by decide) (p2 := 6) rfl (fun c3 => ?_) (fun c3 => ?_)
  · -- c3 taken
    refine w_lloadN X d3_12 rfl (pc' := 13) rfl ?_
    refine w_iloadN X d3_13 rfl (pc' := 14) rfl ?_
    refine w_bipush X d3_14 (v := (8 : Int32)) (by decide) (pc' := 16) rfl ?_
    refine w_isub X d3_16 (pc' := 17) rfl ?_
    refine w_callS X [(.long u), (.int (j - (8 : Int32)))] [] 0 (tw6 hw) (tw7 hw) (tw4 hw) (tw8 hw) (ct_fDig l Z a0 hw u (j - (8 : Int32)) h0 n0 Z0) d3_17 pd0 rfl (by decide) rfl rfl rfl (by decide) (by decide) (by decide) (by decide) (pc' := 20) rfl ?_
    intro T h1 v X hQ; obtain ⟨rfl, hz1⟩ := hQ; replace hz1 := hz1.symm; subst hz1
    show WP _ _ _ _ _ _ _ _ _ (mkF m 20 #[.val (.int j), .val (.long u), .second, .val (.long v), .second] [(.int (fDig u (j - (8 : Int32))))])
    exact w_retI X rfl d3_20 (by decide) (by decide) ⟨by rw [fFree, if_neg c3], rfl⟩
  · -- c3 not taken
    refine w_lloadN X d3_6 rfl (pc' := 7) rfl ?_
    refine w_iloadN X d3_7 rfl (pc' := 8) rfl ?_
    refine w_callS X [(.long v), (.int j)] [] 0 (tw6 hw) (tw7 hw) (tw4 hw) (tw8 hw) (ct_fDig l Z a0 hw v j h0 n0 Z0) d3_8 pd0 rfl (by decide) rfl rfl rfl (by decide) (by decide) (by decide) (by decide) (pc' := 11) rfl ?_
    intro T h1 v X hQ; obtain ⟨rfl, hz1⟩ := hQ; replace hz1 := hz1.symm; subst hz1
    show WP _ _ _ _ _ _ _ _ _ (mkF m 11 #[.val (.int j), .val (.long u), .second, .val (.long v), .second] [(.int (fDig v j))])
    exact w_retI X rfl d3_11 (by decide) (by decide) ⟨by rw [fFree, if_pos c3], rfl⟩
def fAt (k : Int32) (il : Int32) (fl : Int32) (z : Int32) (n : Int32) (u : Int64) (v : Int64) : Int32 :=
  if k < (0 : Int32) then
    nar .byte (45 : Int32)
  else
    if k < il then
      if k = (0 : Int32) then
        if (1 : Int32) < il then
          nar .byte (((48 : Int32) + ((1 : Int32) + ((fDig u k) % (9 : Int32))))).toInt8.toInt32
        else
          nar .byte (((48 : Int32) + (fDig u k))).toInt8.toInt32
      else
        nar .byte (((48 : Int32) + (fDig u k))).toInt8.toInt32
    else
      if k = il then
        nar .byte (46 : Int32)
      else
        if ((k - il) - (1 : Int32)) < z then
          nar .byte (48 : Int32)
        else
          if ((k - il) - (1 : Int32)) = z then
            nar .byte (((48 : Int32) + n)).toInt8.toInt32
          else
            nar .byte (((48 : Int32) + (fFree ((k - il) - (1 : Int32)) u v))).toInt8.toInt32
set_option maxRecDepth 65536 in
set_option maxHeartbeats 4000000 in
theorem ct_fAt (l : Launch) (Z : State) (a0 : Array Value) (hw : ∀ d ∈ tables_1, d.before a0 Z = true) (k : Int32) (il : Int32) (fl : Int32) (z : Int32) (n : Int32) (u : Int64) (v : Int64) (h0 : Heap) (n0 : Nat) (Z0 : n0 ≤ h0.size) :
    Ct l Z (⟨"com/example/varve/varve/json/NumbersIsShortestPinLaw", "at", "(IIIIIJJ)B"⟩ : MethodName) method_4_code 10 (some .byte) ({ frames := 2, cells := 0, slots := 0, locals := 31 } : Room) #[(.int k), (.int il), (.int fl), (.int z), (.int n), (.long u), (.long v)] h0 n0 (fun r_ h_ => r_ = some (.int (fAt k il fl z n u v)) ∧ h_ = h0) := by
  refine Ct.intro (plainFor_of_name (by first | (simp [plainName, overriddenIn]; done) | decide +kernel)) Z0 ?_
  intro p e s m below meth c T X
  refine WP.cast (g' := (mkF m 0 #[.val (.int k), .val (.int il), .val (.int fl), .val (.int z), .val (.int n), .val (.long u), .second, .val (.long v), .second, .unset] [])) (by first | (simp [entryFrame, mkF, argsToLocals, Value.category]; done) | rfl) ?_
  refine w_iloadN X d1_0 rfl (pc' := 1) rfl ?_
  refine w_if_ge X d1_1 (by decide) (p1 := 7) (by decide) (p2 := 4) rfl (fun c1 => ?_) (fun c1 => ?_)
  · -- c1 taken
    refine w_iloadN X d1_7 rfl (pc' := 8) rfl ?_
    refine w_iloadN X d1_8 rfl (pc' := 9) rfl ?_
    refine w_icmp_ge X d1_9 (by decide) (p1 := 45) (by decide) (p2 := 12) rfl (fun c9 => ?_) (fun c9 => ?_)
    · -- c9 taken
      refine w_iloadN X d1_45 rfl (pc' := 46) rfl ?_
      refine w_iloadN X d1_46 rfl (pc' := 47) rfl ?_
      refine w_icmp_ne X d1_47 (by decide) (p1 := 53) (by decide) (p2 := 50) rfl (fun c47 => ?_) (fun c47 => ?_)
      · -- c47 taken
        refine w_iloadN X d1_53 rfl (pc' := 54) rfl ?_
        refine w_iloadN X d1_54 rfl (pc' := 55) rfl ?_
        refine w_isub X d1_55 (pc' := 56) rfl ?_
        refine w_iconst X d1_56 (v := (1 : Int32)) (by decide) (pc' := 57) rfl ?_
        refine w_isub X d1_57 (pc' := 58) rfl ?_
        refine w_istore X d1_58 (L' := #[.val (.int k), .val (.int il), .val (.int fl), .val (.int z), .val (.int n), .val (.long u), .second, .val (.long v), .second, .val (.int ((k - il) - (1 : Int32)))]) rfl (pc' := 60) rfl ?_
        refine w_iload X d1_60 rfl (pc' := 62) rfl ?_
        refine w_iloadN X d1_62 rfl (pc' := 63) rfl ?_
        refine w_icmp_ge X d1_63 (by decide) (p1 := 69) (by decide) (p2 := 66) rfl (fun c63 => ?_) (fun c63 => ?_)
        · -- c63 taken
          refine w_iload X d1_69 rfl (pc' := 71) rfl ?_
          refine w_iloadN X d1_71 rfl (pc' := 72) rfl ?_
          refine w_icmp_ne X d1_72 (by decide) (p1 := 82) (by decide) (p2 := 75) rfl (fun c72 => ?_) (fun c72 => ?_)
          · -- c72 taken
            refine w_bipush X d1_82 (v := (48 : Int32)) (by decide) (pc' := 84) rfl ?_
            refine w_iload X d1_84 rfl (pc' := 86) rfl ?_
            refine w_lload X d1_86 rfl (pc' := 88) rfl ?_
            refine w_lload X d1_88 rfl (pc' := 90) rfl ?_
            refine w_callS X [(.int ((k - il) - (1 : Int32))), (.long u), (.long v)] [(.int (48 : Int32))] 1 (tw11 hw) (tw12 hw) (tw4 hw) (tw13 hw) (ct_fFree l Z a0 hw ((k - il) - (1 : Int32)) u v h0 n0 Z0) d1_90 pd1 rfl (by decide) rfl rfl rfl (by decide) (by decide) (by decide) (by decide) (pc' := 93) rfl ?_
            intro T h1 v X hQ; obtain ⟨rfl, hz1⟩ := hQ; replace hz1 := hz1.symm; subst hz1
            show WP _ _ _ _ _ _ _ _ _ (mkF m 93 #[.val (.int k), .val (.int il), .val (.int fl), .val (.int z), .val (.int n), .val (.long u), .second, .val (.long v), .second, .val (.int ((k - il) - (1 : Int32)))] [(.int (fFree ((k - il) - (1 : Int32)) u v)), (.int (48 : Int32))])
            refine w_iadd X d1_93 (pc' := 94) rfl ?_
            refine w_i2b X d1_94 (pc' := 95) rfl ?_
            exact w_retN X rfl (by simp) d1_95 rfl (by decide) (by decide) ⟨by rw [fAt, if_neg c1, if_neg c9, if_neg c47, if_neg c63, if_neg c72], rfl⟩
          · -- c72 not taken
            refine w_bipush X d1_75 (v := (48 : Int32)) (by decide) (pc' := 77) rfl ?_
            refine w_iload X d1_77 rfl (pc' := 79) rfl ?_
            refine w_iadd X d1_79 (pc' := 80) rfl ?_
            refine w_i2b X d1_80 (pc' := 81) rfl ?_
            exact w_retN X rfl (by simp) d1_81 rfl (by decide) (by decide) ⟨by rw [fAt, if_neg c1, if_neg c9, if_neg c47, if_neg c63, if_pos c72], rfl⟩
        · -- c63 not taken
          refine w_bipush X d1_66 (v := (48 : Int32)) (by decide) (pc' := 68) rfl ?_
          exact w_retN X rfl (by simp) d1_68 rfl (by decide) (by decide) ⟨by rw [fAt, if_neg c1, if_neg c9, if_neg c47, if_pos c63], rfl⟩
      · -- c47 not taken
        refine w_bipush X d1_50 (v := (46 : Int32)) (by decide) (pc' := 52) rfl ?_
        exact w_retN X rfl (by simp) d1_52 rfl (by decide) (by decide) ⟨by rw [fAt, if_neg c1, if_neg c9, if_pos c47], rfl⟩
    · -- c9 not taken
      refine w_lload X d1_12 rfl (pc' := 14) rfl ?_
      refine w_iloadN X d1_14 rfl (pc' := 15) rfl ?_
      refine w_callS X [(.long u), (.int k)] [] 0 (tw6 hw) (tw7 hw) (tw4 hw) (tw8 hw) (ct_fDig l Z a0 hw u k h0 n0 Z0) d1_15 pd0 rfl (by decide) rfl rfl rfl (by decide) (by decide) (by decide) (by decide) (pc' := 18) rfl ?_
      intro T h1 v X hQ; obtain ⟨rfl, hz1⟩ := hQ; replace hz1 := hz1.symm; subst hz1
      show WP _ _ _ _ _ _ _ _ _ (mkF m 18 #[.val (.int k), .val (.int il), .val (.int fl), .val (.int z), .val (.int n), .val (.long u), .second, .val (.long v), .second, .unset] [(.int (fDig u k))])
      refine w_istore X d1_18 (L' := #[.val (.int k), .val (.int il), .val (.int fl), .val (.int z), .val (.int n), .val (.long u), .second, .val (.long v), .second, .val (.int (fDig u k))]) rfl (pc' := 20) rfl ?_
      refine w_iloadN X d1_20 rfl (pc' := 21) rfl ?_
      refine w_if_ne X d1_21 (by decide) (p1 := 38) (by decide) (p2 := 24) rfl (fun c21 => ?_) (fun c21 => ?_)
      · -- c21 taken
        refine w_bipush X d1_38 (v := (48 : Int32)) (by decide) (pc' := 40) rfl ?_
        refine w_iload X d1_40 rfl (pc' := 42) rfl ?_
        refine w_iadd X d1_42 (pc' := 43) rfl ?_
        refine w_i2b X d1_43 (pc' := 44) rfl ?_
        exact w_retN X rfl (by simp) d1_44 rfl (by decide) (by decide) ⟨by rw [fAt, if_neg c1, if_pos c9, if_neg c21], rfl⟩
      · -- c21 not taken
        refine w_iloadN X d1_24 rfl (pc' := 25) rfl ?_
        refine w_iconst X d1_25 (v := (1 : Int32)) (by decide) (pc' := 26) rfl ?_
        refine w_icmp_le X d1_26 (by decide) (p1 := 38) (by decide) (p2 := 29) rfl (fun c26 => ?_) (fun c26 => ?_)
        · -- c26 taken
          refine w_bipush X d1_38 (v := (48 : Int32)) (by decide) (pc' := 40) rfl ?_
          refine w_iload X d1_40 rfl (pc' := 42) rfl ?_
          refine w_iadd X d1_42 (pc' := 43) rfl ?_
          refine w_i2b X d1_43 (pc' := 44) rfl ?_
          exact w_retN X rfl (by simp) d1_44 rfl (by decide) (by decide) ⟨by rw [fAt, if_neg c1, if_pos c9, if_pos c21, if_neg c26], rfl⟩
        · -- c26 not taken
          refine w_iconst X d1_29 (v := (1 : Int32)) (by decide) (pc' := 30) rfl ?_
          refine w_iload X d1_30 rfl (pc' := 32) rfl ?_
          refine w_bipush X d1_32 (v := (9 : Int32)) (by decide) (pc' := 34) rfl ?_
          refine w_irem X d1_34 (by decide) (pc' := 35) rfl ?_
          refine w_iadd X d1_35 (pc' := 36) rfl ?_
          refine w_istore X d1_36 (L' := #[.val (.int k), .val (.int il), .val (.int fl), .val (.int z), .val (.int n), .val (.long u), .second, .val (.long v), .second, .val (.int ((1 : Int32) + ((fDig u k) % (9 : Int32))))]) rfl (pc' := 38) rfl ?_
          refine w_bipush X d1_38 (v := (48 : Int32)) (by decide) (pc' := 40) rfl ?_
          refine w_iload X d1_40 rfl (pc' := 42) rfl ?_
          refine w_iadd X d1_42 (pc' := 43) rfl ?_
          refine w_i2b X d1_43 (pc' := 44) rfl ?_
          exact w_retN X rfl (by simp) d1_44 rfl (by decide) (by decide) ⟨by rw [fAt, if_neg c1, if_pos c9, if_pos c21, if_pos c26], rfl⟩
  · -- c1 not taken
    refine w_bipush X d1_4 (v := (45 : Int32)) (by decide) (pc' := 6) rfl ?_
    exact w_retN X rfl (by simp) d1_6 rfl (by decide) (by decide) ⟨by rw [fAt, if_pos c1], rfl⟩
def fBo (g : Nat → Int32) (i1 : Nat) (fi po : Int32) : Int32 := if po - fi = 1 then (if g i1 = 48 then 1 else 0) else 0
def fSh (g : Nat → Int32) (i1 ie p1 p2 p3 : Nat) (fi po en sg : Int32) : Int32 :=
  if sg = 0 then 0 else if 15 < sg then 0 else if 7 < po - fi then 0 else
    (if g ie = 48 then (if en - po = 2 then (if fBo g i1 fi po = 0 then 1 else 0) else 0)
     else (if fBo g i1 fi po = 0 then 1 else (if g p1 = 48 then (if g p2 = 48 then (if g p3 = 48 then 0 else 1) else 1) else 1)))
set_option maxRecDepth 65536 in
set_option maxHeartbeats 4000000 in
theorem ct_sh (l : Launch) (Z : State) (a0 : Array Value) (hw : ∀ d ∈ tables_1, d.before a0 Z = true) (a : Addr) (fi po en sg : Int32) (N i1 ie p1 p2 p3 : Nat) (g : Nat → Int32) (h0 : Heap) (n0 : Nat) (Z0 : n0 ≤ h0.size) (V : AI Z h0 a .byte N g) (h1 : fi.toInt = i1) (l1 : i1 < N) (he : (en - 1).toInt = ie) (le : ie < N) (hp1 : (po + 1).toInt = p1) (lp1 : p1 < N) (hp2 : (po + 2).toInt = p2) (lp2 : p2 < N) (hp3 : (po + 3).toInt = p3) (lp3 : p3 < N) :
    Ct l Z (⟨"com/example/varve/varve/json/Numbers", "isShortest", "([BIIII)Z"⟩ : MethodName) prog_82_method_6_code 6 (some .boolean) ({ frames := 0, cells := 0, slots := 0, locals := 0 } : Room) #[(.ref a), (.int fi), (.int po), (.int en), (.int sg)] h0 n0 (fun r h => r = some (.int (fSh g i1 ie p1 p2 p3 fi po en sg)) ∧ h = h0) := by
  refine Ct.intro (plainFor_of_name (by first | (simp [plainName, overriddenIn]; done) | decide +kernel)) Z0 ?_
  intro p e s m below meth c T X
  refine WP.cast (g' := (mkF m 0 #[.val (.ref a), .val (.int fi), .val (.int po), .val (.int en), .val (.int sg), .unset] [])) (by first | (simp [entryFrame, mkF, argsToLocals, Value.category]; done) | rfl) ?_
  refine w_iload X d4_0 rfl (pc' := 2) rfl ?_
  refine w_if_eq X d4_2 (by decide) (p1 := 20) (by decide) (p2 := 5) rfl (fun c2 => ?_) (fun c2 => ?_)
  · -- c2 taken
    refine w_iconst X d4_20 (v := (0 : Int32)) (by decide) (pc' := 21) rfl ?_
    exact w_retZ X rfl d4_21 (by decide) (by decide) (by decide) ⟨by simp only [fSh, if_pos c2], rfl⟩
  · -- c2 not taken
    refine w_iload X d4_5 rfl (pc' := 7) rfl ?_
    refine w_bipush X d4_7 (v := (15 : Int32)) (by decide) (pc' := 9) rfl ?_
    refine w_icmp_gt X d4_9 (by decide) (p1 := 20) (by decide) (p2 := 12) rfl (fun c9 => ?_) (fun c9 => ?_)
    · -- c9 taken
      refine w_iconst X d4_20 (v := (0 : Int32)) (by decide) (pc' := 21) rfl ?_
      exact w_retZ X rfl d4_21 (by decide) (by decide) (by decide) ⟨by simp only [fSh, if_neg c2, if_pos c9], rfl⟩
    · -- c9 not taken
      refine w_iloadN X d4_12 rfl (pc' := 13) rfl ?_
      refine w_iloadN X d4_13 rfl (pc' := 14) rfl ?_
      refine w_isub X d4_14 (pc' := 15) rfl ?_
      refine w_bipush X d4_15 (v := (7 : Int32)) (by decide) (pc' := 17) rfl ?_
      refine w_icmp_le X d4_17 (by decide) (p1 := 22) (by decide) (p2 := 20) rfl (fun c17 => ?_) (fun c17 => ?_)
      · -- c17 taken
        have J1 : ∀ T, St p l e ({ frames := 0, cells := 0, slots := 0, locals := 0 } : Room) s m #[(.ref a), (.int fi), (.int po), (.int en), (.int sg)] below meth c Z n0 (⟨"com/example/varve/varve/json/Numbers", "isShortest", "([BIIII)Z"⟩ : MethodName) prog_82_method_6_code 6 (some .boolean) T h0 0 0 → ∀ (bo : Int32), (fBo g i1 fi po = bo) → WP p e below s n0 ({ frames := 0, cells := 0, slots := 0, locals := 0 } : Room).cells ({ frames := 0, cells := 0, slots := 0, locals := 0 } : Room).slots (fun r h => r = some (.int (fSh g i1 ie p1 p2 p3 fi po en sg)) ∧ h = h0) T (mkF m 42 #[.val (.ref a), .val (.int fi), .val (.int po), .val (.int en), .val (.int sg), .unset] [(.int bo)]) := by
          intro T X bo hbo
          refine w_istore X d4_42 (L' := #[.val (.ref a), .val (.int fi), .val (.int po), .val (.int en), .val (.int sg), .val (.int bo)]) rfl (pc' := 44) rfl ?_
          refine w_aloadN X d4_44 rfl rfl (pc' := 45) rfl ?_
          refine w_iloadN X d4_45 rfl (pc' := 46) rfl ?_
          refine w_iconst X d4_46 (v := (1 : Int32)) (by decide) (pc' := 47) rfl ?_
          refine w_isub X d4_47 (pc' := 48) rfl ?_
          refine w_baload X (i := ie) V d4_48 he le rfl (pc' := 49) rfl ?_
          refine w_bipush X d4_49 (v := (48 : Int32)) (by decide) (pc' := 51) rfl ?_
          refine w_icmp_ne X d4_51 (by decide) (p1 := 72) (by decide) (p2 := 54) rfl (fun c51 => ?_) (fun c51 => ?_)
          · -- c51 taken
            refine w_iload X d4_72 rfl (pc' := 74) rfl ?_
            refine w_if_eq X d4_74 (by decide) (p1 := 107) (by decide) (p2 := 77) rfl (fun c74 => ?_) (fun c74 => ?_)
            · -- c74 taken
              refine w_iconst X d4_107 (v := (1 : Int32)) (by decide) (pc' := 108) rfl ?_
              refine w_goto X d4_108 (by decide) (pc' := 112) (by decide) ?_
              exact w_retZ X rfl d4_112 (by decide) (by decide) (by decide) ⟨by simp only [fSh, hbo, if_neg c2, if_neg c9, if_neg c17, if_neg c51, if_pos c74], rfl⟩
            · -- c74 not taken
              refine w_aloadN X d4_77 rfl rfl (pc' := 78) rfl ?_
              refine w_iloadN X d4_78 rfl (pc' := 79) rfl ?_
              refine w_iconst X d4_79 (v := (1 : Int32)) (by decide) (pc' := 80) rfl ?_
              refine w_iadd X d4_80 (pc' := 81) rfl ?_
              refine w_baload X (i := p1) V d4_81 hp1 lp1 rfl (pc' := 82) rfl ?_
              refine w_bipush X d4_82 (v := (48 : Int32)) (by decide) (pc' := 84) rfl ?_
              refine w_icmp_ne X d4_84 (by decide) (p1 := 107) (by decide) (p2 := 87) rfl (fun c84 => ?_) (fun c84 => ?_)
              · -- c84 taken
                refine w_iconst X d4_107 (v := (1 : Int32)) (by decide) (pc' := 108) rfl ?_
                refine w_goto X d4_108 (by decide) (pc' := 112) (by decide) ?_
                exact w_retZ X rfl d4_112 (by decide) (by decide) (by decide) ⟨by simp only [fSh, hbo, if_neg c2, if_neg c9, if_neg c17, if_neg c51, if_neg c74, if_neg c84], rfl⟩
              · -- c84 not taken
                refine w_aloadN X d4_87 rfl rfl (pc' := 88) rfl ?_
                refine w_iloadN X d4_88 rfl (pc' := 89) rfl ?_
                refine w_iconst X d4_89 (v := (2 : Int32)) (by decide) (pc' := 90) rfl ?_
                refine w_iadd X d4_90 (pc' := 91) rfl ?_
                refine w_baload X (i := p2) V d4_91 hp2 lp2 rfl (pc' := 92) rfl ?_
                refine w_bipush X d4_92 (v := (48 : Int32)) (by decide) (pc' := 94) rfl ?_
                refine w_icmp_ne X d4_94 (by decide) (p1 := 107) (by decide) (p2 := 97) rfl (fun c94 => ?_) (fun c94 => ?_)
                · -- c94 taken
                  refine w_iconst X d4_107 (v := (1 : Int32)) (by decide) (pc' := 108) rfl ?_
                  refine w_goto X d4_108 (by decide) (pc' := 112) (by decide) ?_
                  exact w_retZ X rfl d4_112 (by decide) (by decide) (by decide) ⟨by simp only [fSh, hbo, if_neg c2, if_neg c9, if_neg c17, if_neg c51, if_neg c74, if_pos c84, if_neg c94], rfl⟩
                · -- c94 not taken
                  refine w_aloadN X d4_97 rfl rfl (pc' := 98) rfl ?_
                  refine w_iloadN X d4_98 rfl (pc' := 99) rfl ?_
                  refine w_iconst X d4_99 (v := (3 : Int32)) (by decide) (pc' := 100) rfl ?_
                  refine w_iadd X d4_100 (pc' := 101) rfl ?_
                  refine w_baload X (i := p3) V d4_101 hp3 lp3 rfl (pc' := 102) rfl ?_
                  refine w_bipush X d4_102 (v := (48 : Int32)) (by decide) (pc' := 104) rfl ?_
                  refine w_icmp_eq X d4_104 (by decide) (p1 := 111) (by decide) (p2 := 107) rfl (fun c104 => ?_) (fun c104 => ?_)
                  · -- c104 taken
                    refine w_iconst X d4_111 (v := (0 : Int32)) (by decide) (pc' := 112) rfl ?_
                    exact w_retZ X rfl d4_112 (by decide) (by decide) (by decide) ⟨by simp only [fSh, hbo, if_neg c2, if_neg c9, if_neg c17, if_neg c51, if_neg c74, if_pos c84, if_pos c94, if_pos c104], rfl⟩
                  · -- c104 not taken
                    refine w_iconst X d4_107 (v := (1 : Int32)) (by decide) (pc' := 108) rfl ?_
                    refine w_goto X d4_108 (by decide) (pc' := 112) (by decide) ?_
                    exact w_retZ X rfl d4_112 (by decide) (by decide) (by decide) ⟨by simp only [fSh, hbo, if_neg c2, if_neg c9, if_neg c17, if_neg c51, if_neg c74, if_pos c84, if_pos c94, if_neg c104], rfl⟩
          · -- c51 not taken
            refine w_iloadN X d4_54 rfl (pc' := 55) rfl ?_
            refine w_iloadN X d4_55 rfl (pc' := 56) rfl ?_
            refine w_isub X d4_56 (pc' := 57) rfl ?_
            refine w_iconst X d4_57 (v := (2 : Int32)) (by decide) (pc' := 58) rfl ?_
            refine w_icmp_ne X d4_58 (by decide) (p1 := 70) (by decide) (p2 := 61) rfl (fun c58 => ?_) (fun c58 => ?_)
            · -- c58 taken
              refine w_iconst X d4_70 (v := (0 : Int32)) (by decide) (pc' := 71) rfl ?_
              exact w_retZ X rfl d4_71 (by decide) (by decide) (by decide) ⟨by simp only [fSh, hbo, if_neg c2, if_neg c9, if_neg c17, if_pos c51, if_neg c58], rfl⟩
            · -- c58 not taken
              refine w_iload X d4_61 rfl (pc' := 63) rfl ?_
              refine w_if_ne X d4_63 (by decide) (p1 := 70) (by decide) (p2 := 66) rfl (fun c63 => ?_) (fun c63 => ?_)
              · -- c63 taken
                refine w_iconst X d4_70 (v := (0 : Int32)) (by decide) (pc' := 71) rfl ?_
                exact w_retZ X rfl d4_71 (by decide) (by decide) (by decide) ⟨by simp only [fSh, hbo, if_neg c2, if_neg c9, if_neg c17, if_pos c51, if_pos c58, if_neg c63], rfl⟩
              · -- c63 not taken
                refine w_iconst X d4_66 (v := (1 : Int32)) (by decide) (pc' := 67) rfl ?_
                refine w_goto X d4_67 (by decide) (pc' := 71) (by decide) ?_
                exact w_retZ X rfl d4_71 (by decide) (by decide) (by decide) ⟨by simp only [fSh, hbo, if_neg c2, if_neg c9, if_neg c17, if_pos c51, if_pos c58, if_pos c63], rfl⟩
        refine w_iloadN X d4_22 rfl (pc' := 23) rfl ?_
        refine w_iloadN X d4_23 rfl (pc' := 24) rfl ?_
        refine w_isub X d4_24 (pc' := 25) rfl ?_
        refine w_iconst X d4_25 (v := (1 : Int32)) (by decide) (pc' := 26) rfl ?_
        refine w_icmp_ne X d4_26 (by decide) (p1 := 41) (by decide) (p2 := 29) rfl (fun c26 => ?_) (fun c26 => ?_)
        · -- c26 taken
          refine w_iconst X d4_41 (v := (0 : Int32)) (by decide) (pc' := 42) rfl ?_
          exact J1 T X (0 : Int32) (by simp only [fBo, if_neg c26])
        · -- c26 not taken
          refine w_aloadN X d4_29 rfl rfl (pc' := 30) rfl ?_
          refine w_iloadN X d4_30 rfl (pc' := 31) rfl ?_
          refine w_baload X (i := i1) V d4_31 h1 l1 rfl (pc' := 32) rfl ?_
          refine w_bipush X d4_32 (v := (48 : Int32)) (by decide) (pc' := 34) rfl ?_
          refine w_icmp_ne X d4_34 (by decide) (p1 := 41) (by decide) (p2 := 37) rfl (fun c34 => ?_) (fun c34 => ?_)
          · -- c34 taken
            refine w_iconst X d4_41 (v := (0 : Int32)) (by decide) (pc' := 42) rfl ?_
            exact J1 T X (0 : Int32) (by simp only [fBo, if_pos c26, if_neg c34])
          · -- c34 not taken
            refine w_iconst X d4_37 (v := (1 : Int32)) (by decide) (pc' := 38) rfl ?_
            refine w_goto X d4_38 (by decide) (pc' := 42) (by decide) ?_
            exact J1 T X (1 : Int32) (by simp only [fBo, if_pos c26, if_pos c34])
      · -- c17 not taken
        refine w_iconst X d4_20 (v := (0 : Int32)) (by decide) (pc' := 21) rfl ?_
        exact w_retZ X rfl d4_21 (by decide) (by decide) (by decide) ⟨by simp only [fSh, if_neg c2, if_neg c9, if_pos c17], rfl⟩
def FA (fi il fl z n : Int32) (u v : Int64) (k : Nat) : Int32 := fAt (Int32.ofNat k - fi) il fl z n u v
theorem nar2 (q : Int32) : nar .byte (nar .byte q) = nar .byte q := by simp [nar]
theorem fAt_nar (k il fl z n : Int32) (u v : Int64) : nar .byte (fAt k il fl z n u v) = fAt k il fl z n u v := by
  unfold fAt
  repeat' split
  all_goals exact nar2 _
theorem fill_step {Z : State} {h : Heap} {a : Addr} {g F : Nat → Int32} {i : Nat} {v : Int32} (A : AI Z h a .byte 27 (fun q => if q = i then v else g q)) (H : ∀ k, k < i → g k = F k) (hv : v = F i) : ∃ g', AI Z h a .byte 27 g' ∧ ∀ k, k < i + 1 → g' k = F k :=
  ⟨_, A, fun k hk => by
    by_cases e : k = i
    · subst e; simp [hv]
    · simp only [e, if_false]; exact H k (by omega)⟩
def fEx (sg il zi z ln wh fl : Int32) : Int32 :=
  if sg < 1 then 0 else if 15 < sg then 0 else if 7 < il then 0 else if zi = 0 then (if ln = 0 then (if wh = 0 then 0 else if fl = 1 then 1 else 0) else 1) else if z < 3 then (if ln = 0 then (if wh = 0 then 0 else if fl = 1 then 1 else 0) else 1) else 0
theorem fi_ok {fi fg : Int32} (h : fi = fg &&& 1) : 0 ≤ fi.toInt ∧ fi.toInt ≤ 1 := by
  have h1 := c_mask fg 1 1 (by decide) (by decide)
  rw [← h] at h1; omega
theorem il_ok {il a : Int32} (h : il = 1 + (a &&& 7)) : 1 ≤ il.toInt ∧ il.toInt ≤ 8 := by
  have h1 := c_mask a 7 3 (by decide) (by decide)
  have h2 := c_iadd 1 (a &&& 7)
  have r := rng32 il
  rw [← h, show (1 : Int32).toInt = 1 from rfl] at h2; omega
theorem fl_ok {fl b : Int32} (h : fl = 1 + (b &&& 2147483647) % 17) : 1 ≤ fl.toInt ∧ fl.toInt ≤ 17 := by
  have h1 := c_mask b 2147483647 31 (by decide) (by decide)
  have h2 := (c_irem (b &&& 2147483647) 17 17 (by decide)).1 (by omega)
  have h3 := c_iadd 1 ((b &&& 2147483647) % 17)
  have r := rng32 fl
  rw [← h, show (1 : Int32).toInt = 1 from rfl] at h3; omega
theorem fl_suc {fl : Int32} (h : 1 ≤ fl.toInt ∧ fl.toInt ≤ 17) : (fl + 1).toInt = fl.toInt + 1 := by
  have h2 := c_iadd fl 1
  have r := rng32 (fl + 1)
  rw [show (1 : Int32).toInt = 1 from rfl] at h2; omega
theorem fl1_ok {fl b : Int32} (h : fl = 1 + (b &&& 2147483647) % 17) : fl + 1 ≠ 0 := fun q => by
  have h1 := fl_ok h
  have h2 := fl_suc h1
  rw [q, show (0 : Int32).toInt = 0 from rfl] at h2; omega
theorem z_ok {fl b z d : Int32} (h : fl = 1 + (b &&& 2147483647) % 17) (hz : z = (d &&& 2147483647) % (fl + 1)) : 0 ≤ z.toInt ∧ z.toInt ≤ fl.toInt := by
  have h1 := fl_ok h
  have h2 := fl_suc h1
  have h3 := c_mask d 2147483647 31 (by decide) (by decide)
  have h4 := (c_irem (d &&& 2147483647) (fl + 1) (fl + 1).toInt rfl).1 (by omega)
  rw [← hz] at h4
  have h6 := Int.emod_nonneg (d &&& 2147483647).toInt (show (fl + 1).toInt ≠ 0 by omega)
  have h7 := Int.emod_lt_of_pos (d &&& 2147483647).toInt (show 0 < (fl + 1).toInt by omega)
  omega
theorem n_ok {n fg : Int32} (h : n = 1 + (fg.toUInt32 >>> ((1 : Int32) &&& 31).toUInt32).toInt32 % 9) : 1 ≤ n.toInt ∧ n.toInt ≤ 9 := by
  have h1 := c_iushr fg 1 1 (by decide) (by decide)
  have r0 := rng32 fg
  rw [show ((2 ^ 1 : Nat) : Int) = 2 from rfl] at h1
  have h2 := (c_irem ((fg.toUInt32 >>> ((1 : Int32) &&& 31).toUInt32).toInt32) 9 9 (by decide)).1 (by omega)
  have h3 := c_iadd 1 ((fg.toUInt32 >>> ((1 : Int32) &&& 31).toUInt32).toInt32 % 9)
  have r := rng32 n
  rw [← h, show (1 : Int32).toInt = 1 from rfl] at h3; omega
theorem idxs {fi il fl po en : Int32} (hF : 0 ≤ fi.toInt ∧ fi.toInt ≤ 1) (hI : 1 ≤ il.toInt ∧ il.toInt ≤ 8) (hL : 1 ≤ fl.toInt ∧ fl.toInt ≤ 17) (hp : po = fi + il) (he : en = po + 1 + fl) :
    ∃ i1 ie p1 p2 p3 : Nat, fi.toInt = i1 ∧ i1 < 27 ∧ (en - 1).toInt = ie ∧ ie < 27 ∧ (po + 1).toInt = p1 ∧ p1 < 27 ∧ (po + 2).toInt = p2 ∧ p2 < 27 ∧ (po + 3).toInt = p3 ∧ p3 < 27 ∧ True ∧ True ∧ True := by
  have a1 := c_iadd fi il; rw [← hp] at a1
  have a2 := c_iadd (po + 1) fl; rw [← he] at a2
  have a3 := c_iadd po 1; have a4 := c_iadd po 2; have a5 := c_iadd po 3; have a6 := c_isub en 1
  rw [show (1 : Int32).toInt = 1 from rfl] at a3 a6
  rw [show (2 : Int32).toInt = 2 from rfl] at a4
  rw [show (3 : Int32).toInt = 3 from rfl] at a5
  have r1 := rng32 po; have r2 := rng32 en; have r3 := rng32 (po + 1); have r4 := rng32 (po + 2); have r5 := rng32 (po + 3); have r6 := rng32 (en - 1)
  refine ⟨fi.toInt.toNat, (en - 1).toInt.toNat, (po + 1).toInt.toNat, (po + 2).toInt.toNat, (po + 3).toInt.toNat, ?_, ?_, ?_, ?_, ?_, ?_, ?_, ?_, ?_, ?_, trivial, trivial, trivial⟩ <;> omega
theorem dig_ok (u : Int64) (i : Int32) : 0 ≤ (fDig u i).toInt ∧ (fDig u i).toInt ≤ 9 := by
  unfold fDig
  generalize ((u).toUInt64 >>> (((4 : Int32) * i) &&& 0x3f).toInt64.toUInt64).toInt64 = w
  have h1 := c_maskL w 15 4 (by decide) (by decide)
  have h2 : ((w &&& 15) % 10).toInt = (w &&& 15).toInt % 10 := by
    rw [Int64.toInt_mod]; exact (tr _ _).1 (by omega)
  have h3 := c_l2i ((w &&& 15) % 10)
  have r := rng32 ((w &&& 15) % 10).toInt32
  omega
theorem free_ok (j : Int32) (u v : Int64) : 0 ≤ (fFree j u v).toInt ∧ (fFree j u v).toInt ≤ 9 := by
  unfold fFree
  split
  · exact dig_ok _ _
  · exact dig_ok _ _
theorem byte48 {d : Int32} (h : 0 ≤ d.toInt ∧ d.toInt ≤ 9) : (nar .byte ((48 : Int32) + d).toInt8.toInt32).toInt = 48 + d.toInt := by
  show (((48 : Int32) + d).toInt8.toInt32.toInt8.toInt32).toInt = _
  have h1 := c_iadd 48 d; rw [show (48 : Int32).toInt = 48 from rfl] at h1
  have h2 := c_i2b ((48 : Int32) + d)
  have h3 := c_i2b (((48 : Int32) + d).toInt8.toInt32)
  have r := rng32 ((48 : Int32) + d)
  omega
theorem is48 {d : Int32} (h : 0 ≤ d.toInt ∧ d.toInt ≤ 9) : (nar .byte ((48 : Int32) + d).toInt8.toInt32) = 48 ↔ d = 0 := by
  have h1 := byte48 h
  rw [← Int32.toInt_inj, ← Int32.toInt_inj, h1, show (48 : Int32).toInt = 48 from rfl, show (0 : Int32).toInt = 0 from rfl]
  omega
theorem ofNat_sub {k : Nat} {fi : Int32} (hk : k < 27) (hF : 0 ≤ fi.toInt ∧ fi.toInt ≤ 1) : (Int32.ofNat k - fi).toInt = k - fi.toInt := by
  have h1 := c_isub (Int32.ofNat k) fi
  have h2 : (Int32.ofNat k).toInt = k := Int32.toInt_ofNat_small (by omega)
  have r := rng32 (Int32.ofNat k - fi)
  omega
/-- what stands behind the point -/
theorem at_frac {k il fl z n : Int32} {u v : Int64} {t : Int32} (hI : 1 ≤ il.toInt ∧ il.toInt ≤ 8) (ht : 0 ≤ t.toInt ∧ t.toInt ≤ 17) (hk : k.toInt = il.toInt + 1 + t.toInt) (hn : 1 ≤ n.toInt ∧ n.toInt ≤ 9) :
    (fAt k il fl z n u v = 48) ↔ (t.toInt < z.toInt ∨ (z.toInt < t.toInt ∧ fFree t u v = 0)) := by
  have z0 : (0 : Int32).toInt = 0 := rfl
  have e : k - il - 1 = t := by
    apply Int32.toInt_inj.mp
    have a1 := c_isub k il; have a2 := c_isub (k - il) 1; have r1 := rng32 (k - il); have r2 := rng32 (k - il - 1)
    rw [show (1 : Int32).toInt = 1 from rfl] at a2
    omega
  unfold fAt
  rw [if_neg (by rw [Int32.lt_iff_toInt_lt, z0]; omega), if_neg (by rw [Int32.lt_iff_toInt_lt]; omega), if_neg (by rw [← Int32.toInt_inj]; omega), e]
  by_cases c1 : t < z
  · rw [if_pos c1]
    rw [Int32.lt_iff_toInt_lt] at c1
    exact ⟨fun _ => Or.inl c1, fun _ => by decide⟩
  · rw [if_neg c1]
    rw [Int32.lt_iff_toInt_lt] at c1
    by_cases c2 : t = z
    · rw [if_pos c2, is48 ⟨by omega, hn.2⟩]
      constructor
      · intro q; rw [q, z0] at hn; omega
      · intro q; rw [c2] at q; omega
    · rw [if_neg c2, is48 (free_ok _ _ _)]
      have c3 : ¬ t.toInt = z.toInt := fun q => c2 (Int32.toInt_inj.mp q)
      constructor
      · intro q; exact Or.inr ⟨by omega, q⟩
      · intro q; rcases q with q | q
        · omega
        · exact q.2
set_option maxHeartbeats 4000000 in
theorem same {g : Nat → Int32} {fi il fl z n po en sg wh zi ln ex : Int32} {u v : Int64} {i1 ie p1 p2 p3 : Nat} (HH : ∀ k, k < 26 + 1 → g k = FA fi il fl z n u v k) (hF : 0 ≤ fi.toInt ∧ fi.toInt ≤ 1) (hI : 1 ≤ il.toInt ∧ il.toInt ≤ 8) (hL : 1 ≤ fl.toInt ∧ fl.toInt ≤ 17) (hZ : 0 ≤ z.toInt ∧ z.toInt ≤ fl.toInt) (hN : 1 ≤ n.toInt ∧ n.toInt ≤ 9)
    (hwh : (if z = fl then (1 : Int32) else 0) = wh) (hzi : (if il = 1 then (if fDig u 0 = 0 then (1 : Int32) else 0) else 0) = zi) (hsg : (if zi = 0 then il + fl else fl - z) = sg) (hln : (if wh = 0 then (if z = fl - 1 then (1 : Int32) else if fFree (fl - 1) u v = 0 then 0 else 1) else 0) = ln) (hex : fEx sg il zi z ln wh fl = ex)
    (h1 : fi.toInt = i1) (he : (en - 1).toInt = ie) (hp1 : (po + 1).toInt = p1) (hp2 : (po + 2).toInt = p2) (hp3 : (po + 3).toInt = p3) (hpo : po = fi + il) (hen : en = po + 1 + fl) : fSh g i1 ie p1 p2 p3 fi po en sg = ex := by
  have z0 : (0 : Int32).toInt = 0 := rfl
  have z1 : (1 : Int32).toInt = 1 := rfl
  have z2 : (2 : Int32).toInt = 2 := rfl
  have z3 : (3 : Int32).toInt = 3 := rfl
  have z7 : (7 : Int32).toInt = 7 := rfl
  have a1 := c_iadd fi il; rw [← hpo] at a1
  have a2 := c_iadd (po + 1) fl; rw [← hen] at a2
  have a3 := c_iadd po 1; have a4 := c_iadd po 2; have a5 := c_iadd po 3; have a6 := c_isub en 1; have a7 := c_isub po fi; have a8 := c_isub en po; have a9 := c_isub fl 1; have a10 := c_isub fl z; have a11 := c_iadd il fl
  rw [z1] at a3 a6 a9; rw [z2] at a4; rw [z3] at a5
  have r1 := rng32 po; have r2 := rng32 en; have r3 := rng32 (po + 1); have r4 := rng32 (po + 2); have r5 := rng32 (po + 3); have r6 := rng32 (en - 1); have r7 := rng32 (po - fi); have r8 := rng32 (en - po); have r9 := rng32 (fl - 1); have r10 := rng32 (fl - z); have r11 := rng32 (il + fl)
  have b1 : (po - fi).toInt = il.toInt := by omega
  have b2 : (en - po).toInt = fl.toInt + 1 := by omega
  have b3 : (fl - 1).toInt = fl.toInt - 1 := by omega
  have b4 : (fl - z).toInt = fl.toInt - z.toInt := by omega
  have b5 : (il + fl).toInt = il.toInt + fl.toInt := by omega
  have k1 : i1 < 26 + 1 := by omega
  have ke : ie < 26 + 1 := by omega
  have kp1 : p1 < 26 + 1 := by omega
  have kp2 : p2 < 26 + 1 := by omega
  have kp3 : p3 < 26 + 1 := by omega
  have ge : g ie = 48 ↔ ((fl - 1).toInt < z.toInt ∨ (z.toInt < (fl - 1).toInt ∧ fFree (fl - 1) u v = 0)) := by
    rw [HH _ ke, FA]
    exact at_frac hI ⟨by omega, by omega⟩ (by rw [ofNat_sub ke hF]; omega) hN
  have g1 : g p1 = 48 ↔ ((0 : Int32).toInt < z.toInt ∨ (z.toInt < (0 : Int32).toInt ∧ fFree 0 u v = 0)) := by
    rw [HH _ kp1, FA]
    exact at_frac hI (by decide) (by rw [ofNat_sub kp1 hF]; omega) hN
  have g2 : g p2 = 48 ↔ ((1 : Int32).toInt < z.toInt ∨ (z.toInt < (1 : Int32).toInt ∧ fFree 1 u v = 0)) := by
    rw [HH _ kp2, FA]
    exact at_frac hI (by decide) (by rw [ofNat_sub kp2 hF]; omega) hN
  have g3 : g p3 = 48 ↔ ((2 : Int32).toInt < z.toInt ∨ (z.toInt < (2 : Int32).toInt ∧ fFree 2 u v = 0)) := by
    rw [HH _ kp3, FA]
    exact at_frac hI (by decide) (by rw [ofNat_sub kp3 hF]; omega) hN
  rw [z0] at g1; rw [z1] at g2; rw [z2] at g3
  have bo : fBo g i1 fi po = zi := by
    rw [← hzi, fBo]
    by_cases c : il = 1
    · have c' : po - fi = 1 := Int32.toInt_inj.mp (by rw [b1, c])
      rw [if_pos c, if_pos c']
      have q : g i1 = 48 ↔ fDig u 0 = 0 := by
        have e : Int32.ofNat i1 - fi = 0 := Int32.toInt_inj.mp (by rw [ofNat_sub k1 hF, z0]; omega)
        rw [HH _ k1, FA, e, fAt]
        have c2 : (0 : Int32) < il := by rw [c]; decide
        have c3 : ¬ (1 : Int32) < il := by rw [c]; decide
        rw [if_neg (by decide), if_pos c2, if_pos rfl, if_neg c3]
        exact is48 (dig_ok _ _)
      by_cases q2 : fDig u 0 = 0
      · rw [if_pos q2, if_pos (q.mpr q2)]
      · rw [if_neg q2, if_neg (fun w => q2 (q.mp w))]
    · have c' : ¬ po - fi = 1 := fun w => c (Int32.toInt_inj.mp (by rw [← b1, w]))
      rw [if_neg c, if_neg c']
  rw [← hex, fSh, fEx, bo]
  have e7 : ((7 : Int32) < po - fi) ↔ (7 : Int32) < il := by rw [Int32.lt_iff_toInt_lt, Int32.lt_iff_toInt_lt, b1]
  have e2 : (en - po = 2) ↔ fl = 1 := by rw [← Int32.toInt_inj, ← Int32.toInt_inj, b2, z2, z1]; omega
  have es : (sg = 0) ↔ sg < 1 := by
    rw [Int32.lt_iff_toInt_lt, ← Int32.toInt_inj, z0, z1]
    have : 0 ≤ sg.toInt := by rw [← hsg]; split <;> omega
    omega
  by_cases c1 : sg = 0
  · rw [if_pos c1, if_pos (es.mp c1)]
  rw [if_neg c1, if_neg (fun q => c1 (es.mpr q))]
  by_cases c2 : (15 : Int32) < sg
  · rw [if_pos c2, if_pos c2]
  rw [if_neg c2, if_neg c2]
  by_cases c3 : (7 : Int32) < il
  · rw [if_pos c3, if_pos (e7.mpr c3)]
  rw [if_neg c3, if_neg (fun q => c3 (e7.mp q))]
  have ezf : (z = fl) ↔ z.toInt = fl.toInt := Int32.toInt_inj.symm
  have ez1 : (z = fl - 1) ↔ z.toInt = fl.toInt - 1 := by rw [← Int32.toInt_inj, b3]
  have ef1 : (fl = 1) ↔ fl.toInt = 1 := by rw [← Int32.toInt_inj, z1]
  have ez3 : (z < 3) ↔ z.toInt < 3 := by rw [Int32.lt_iff_toInt_lt, z3]
  by_cases w0 : z = fl
  · -- a whole number
    rw [if_pos w0] at hwh
    have gy : g ie = 48 := ge.mpr (Or.inl (by have := ezf.mp w0; omega))
    rw [if_pos gy, ← hwh]
    rw [← hwh, if_neg (by decide)] at hln
    by_cases y : zi = 0
    · rw [if_pos y, if_pos y, ← hln, if_pos rfl, if_neg (show ¬ (1 : Int32) = 0 by decide)]
      by_cases f1 : fl = 1
      · rw [if_pos f1, if_pos (e2.mpr f1)]
      · rw [if_neg f1, if_neg (fun q => f1 (e2.mp q))]
    · exfalso
      rw [if_neg y] at hsg
      exact c1 (Int32.toInt_inj.mp (by rw [← hsg, b4, z0]; have := ezf.mp w0; omega))
  · rw [if_neg w0] at hwh
    have w1 : ¬ z.toInt = fl.toInt := fun q => w0 (ezf.mpr q)
    rw [← hwh, if_pos rfl] at hln
    have rest : ∀ (hl : ln = 1) (gn : ¬ g ie = 48), (if g ie = 48 then (if en - po = 2 then (if zi = 0 then (1 : Int32) else 0) else 0) else (if zi = 0 then 1 else (if g p1 = 48 then (if g p2 = 48 then (if g p3 = 48 then 0 else 1) else 1) else 1))) = (if zi = 0 then (if ln = 0 then (if wh = 0 then 0 else if fl = 1 then 1 else 0) else 1) else if z < 3 then (if ln = 0 then (if wh = 0 then 0 else if fl = 1 then 1 else 0) else 1) else 0) := by
      intro hl gn
      rw [if_neg gn, hl, if_neg (show ¬ (1 : Int32) = 0 by decide)]
      by_cases y : zi = 0
      · rw [if_pos y, if_pos y]
      · rw [if_neg y, if_neg y]
        by_cases t0 : 0 < z.toInt
        · rw [if_pos (g1.mpr (Or.inl t0))]
          by_cases t1 : 1 < z.toInt
          · rw [if_pos (g2.mpr (Or.inl t1))]
            by_cases t2 : 2 < z.toInt
            · rw [if_pos (g3.mpr (Or.inl t2)), if_neg (fun q => by have := ez3.mp q; omega)]
            · rw [if_neg (fun q => by rcases g3.mp q with q | q <;> omega), if_pos (ez3.mpr (by omega))]
          · rw [if_neg (fun q => by rcases g2.mp q with q | q <;> omega), if_pos (ez3.mpr (by omega))]
        · rw [if_neg (fun q => by rcases g1.mp q with q | q <;> omega), if_pos (ez3.mpr (by omega))]
    by_cases x1 : z = fl - 1
    · rw [if_pos x1] at hln
      exact rest hln.symm (fun q => by have := ez1.mp x1; rcases ge.mp q with q | q <;> omega)
    · rw [if_neg x1] at hln
      have x2 : ¬ z.toInt = fl.toInt - 1 := fun q => x1 (ez1.mpr q)
      by_cases x3 : fFree (fl - 1) u v = 0
      · rw [if_pos x3] at hln
        have gy : g ie = 48 := ge.mpr (Or.inr ⟨by omega, x3⟩)
        have nf : ¬ fl = 1 := fun q => by have := ef1.mp q; omega
        rw [if_pos gy, if_neg (fun q => nf (e2.mp q)), ← hln, ← hwh]
        simp
      · rw [if_neg x3] at hln
        exact rest hln.symm (fun q => by rcases ge.mp q with q | q
                                         · omega
                                         · exact x3 q.2)

set_option maxRecDepth 65536 in
set_option maxHeartbeats 4000000 in
theorem ct_law (l : Launch) (Z : State) (a0 : Array Value) (hw : ∀ d ∈ tables_1, d.before a0 Z = true) (a b d : Int32) (u v : Int64) (fg : Int32) (h0 : Heap) (n0 : Nat) (Z0 : n0 ≤ h0.size) :
    Ct l Z x code maxLocals ret room_1 #[(.int a), (.int b), (.int d), (.long u), (.long v), (.int fg)] h0 n0 (fun r _ => r = some (.int 1)) := by
  refine Ct.intro (plainFor_of_name (by first | (simp [plainName, overriddenIn, x]; done) | decide +kernel)) Z0 ?_
  intro p e s m below meth c T X
  refine WP.cast (g' := (mkF m 0 #[.val (.int a), .val (.int b), .val (.int d), .val (.long u), .second, .val (.long v), .second, .val (.int fg), .unset, .unset, .unset, .unset, .unset, .unset, .unset, .unset, .unset, .unset, .unset, .unset, .unset, .unset] [])) (by first | (simp [entryFrame, mkF, argsToLocals, Value.category, maxLocals]; done) | rfl) ?_
  refine w_iload X at_0 rfl (pc' := 2) rfl ?_
  refine w_iconst X at_2 (v := (1 : Int32)) (by decide) (pc' := 3) rfl ?_
  refine w_iand X at_3 (pc' := 4) rfl ?_
  refine w_nameI ?_; intro fi h_fi
  refine w_istore X at_4 (L' := #[.val (.int a), .val (.int b), .val (.int d), .val (.long u), .second, .val (.long v), .second, .val (.int fg), .val (.int fi), .unset, .unset, .unset, .unset, .unset, .unset, .unset, .unset, .unset, .unset, .unset, .unset, .unset]) rfl (pc' := 6) rfl ?_
  refine w_iconst X at_6 (v := (1 : Int32)) (by decide) (pc' := 7) rfl ?_
  refine w_iloadN X at_7 rfl (pc' := 8) rfl ?_
  refine w_bipush X at_8 (v := (7 : Int32)) (by decide) (pc' := 10) rfl ?_
  refine w_iand X at_10 (pc' := 11) rfl ?_
  refine w_iadd X at_11 (pc' := 12) rfl ?_
  refine w_nameI ?_; intro il h_il
  refine w_istore X at_12 (L' := #[.val (.int a), .val (.int b), .val (.int d), .val (.long u), .second, .val (.long v), .second, .val (.int fg), .val (.int fi), .val (.int il), .unset, .unset, .unset, .unset, .unset, .unset, .unset, .unset, .unset, .unset, .unset, .unset]) rfl (pc' := 14) rfl ?_
  refine w_iconst X at_14 (v := (1 : Int32)) (by decide) (pc' := 15) rfl ?_
  refine w_iloadN X at_15 rfl (pc' := 16) rfl ?_
  refine w_ldcI X at_16 (tw0 hw) (pc' := 18) rfl ?_
  refine w_iand X at_18 (pc' := 19) rfl ?_
  refine w_bipush X at_19 (v := (17 : Int32)) (by decide) (pc' := 21) rfl ?_
  refine w_irem X at_21 (by decide) (pc' := 22) rfl ?_
  refine w_iadd X at_22 (pc' := 23) rfl ?_
  refine w_nameI ?_; intro fl h_fl
  refine w_istore X at_23 (L' := #[.val (.int a), .val (.int b), .val (.int d), .val (.long u), .second, .val (.long v), .second, .val (.int fg), .val (.int fi), .val (.int il), .val (.int fl), .unset, .unset, .unset, .unset, .unset, .unset, .unset, .unset, .unset, .unset, .unset]) rfl (pc' := 25) rfl ?_
  refine w_iloadN X at_25 rfl (pc' := 26) rfl ?_
  refine w_ldcI X at_26 (tw0 hw) (pc' := 28) rfl ?_
  refine w_iand X at_28 (pc' := 29) rfl ?_
  refine w_iload X at_29 rfl (pc' := 31) rfl ?_
  refine w_iconst X at_31 (v := (1 : Int32)) (by decide) (pc' := 32) rfl ?_
  refine w_iadd X at_32 (pc' := 33) rfl ?_
  refine w_irem X at_33 (fl1_ok h_fl) (pc' := 34) rfl ?_
  refine w_nameI ?_; intro z h_z
  refine w_istore X at_34 (L' := #[.val (.int a), .val (.int b), .val (.int d), .val (.long u), .second, .val (.long v), .second, .val (.int fg), .val (.int fi), .val (.int il), .val (.int fl), .val (.int z), .unset, .unset, .unset, .unset, .unset, .unset, .unset, .unset, .unset, .unset]) rfl (pc' := 36) rfl ?_
  refine w_iconst X at_36 (v := (1 : Int32)) (by decide) (pc' := 37) rfl ?_
  refine w_iload X at_37 rfl (pc' := 39) rfl ?_
  refine w_iconst X at_39 (v := (1 : Int32)) (by decide) (pc' := 40) rfl ?_
  refine w_iushr X at_40 (pc' := 41) rfl ?_
  refine w_bipush X at_41 (v := (9 : Int32)) (by decide) (pc' := 43) rfl ?_
  refine w_irem X at_43 (by decide) (pc' := 44) rfl ?_
  refine w_iadd X at_44 (pc' := 45) rfl ?_
  refine w_nameI ?_; intro n h_n
  refine w_istore X at_45 (L' := #[.val (.int a), .val (.int b), .val (.int d), .val (.long u), .second, .val (.long v), .second, .val (.int fg), .val (.int fi), .val (.int il), .val (.int fl), .val (.int z), .val (.int n), .unset, .unset, .unset, .unset, .unset, .unset, .unset, .unset, .unset]) rfl (pc' := 47) rfl ?_
  have hF := fi_ok h_fi
  have hI := il_ok h_il
  have hL := fl_ok h_fl
  have hZ2 := z_ok h_fl h_z
  have hN := n_ok h_n
  refine w_bipush X at_47 (v := (27 : Int32)) (by decide) (pc' := 49) rfl ?_
  refine w_newarray X (aty := .byte) 27 (tw1 hw) at_49 (by decide) (by decide) (by decide) (by decide) (by decide) (pc' := 51) rfl ?_; intro T h1 b1 cA1 X eq1 ga1 E1 A1
  have O2 : AI Z h1 b1 .byte 27 (fun _ => 0) := AI.new A1 (by decide) rfl
  refine w_astore X at_51 (L' := #[.val (.int a), .val (.int b), .val (.int d), .val (.long u), .second, .val (.long v), .second, .val (.int fg), .val (.int fi), .val (.int il), .val (.int fl), .val (.int z), .val (.int n), .val (.ref b1), .unset, .unset, .unset, .unset, .unset, .unset, .unset, .unset]) rfl rfl (pc' := 53) rfl ?_
  refine w_aload X at_53 rfl rfl (pc' := 55) rfl ?_
  refine w_iconst X at_55 (v := (0 : Int32)) (by decide) (pc' := 56) rfl ?_
  refine w_iconst X at_56 (v := (0 : Int32)) (by decide) (pc' := 57) rfl ?_
  refine w_iload X at_57 rfl (pc' := 59) rfl ?_
  refine w_isub X at_59 (pc' := 60) rfl ?_
  refine w_iload X at_60 rfl (pc' := 62) rfl ?_
  refine w_iload X at_62 rfl (pc' := 64) rfl ?_
  refine w_iload X at_64 rfl (pc' := 66) rfl ?_
  refine w_iload X at_66 rfl (pc' := 68) rfl ?_
  refine w_lloadN X at_68 rfl (pc' := 69) rfl ?_
  refine w_lload X at_69 rfl (pc' := 71) rfl ?_
  refine w_callS X [(.int ((0 : Int32) - fi)), (.int il), (.int fl), (.int z), (.int n), (.long u), (.long v)] [(.int (0 : Int32)), (.ref b1)] 2 (tw2 hw) (tw3 hw) (tw4 hw) (tw5 hw) (ct_fAt l Z a0 hw ((0 : Int32) - fi) il fl z n u v h1 n0 X.n0le) at_71 pd2 rfl (by decide) rfl rfl rfl (by decide) (by decide) (by decide) (by decide) (pc' := 74) rfl ?_
  intro T hz v X hQ
  obtain ⟨rfl, hz1⟩ := hQ; replace hz1 := hz1.symm; subst hz1
  show WP _ _ _ _ _ _ _ _ _ (mkF m 74 #[.val (.int a), .val (.int b), .val (.int d), .val (.long u), .second, .val (.long v), .second, .val (.int fg), .val (.int fi), .val (.int il), .val (.int fl), .val (.int z), .val (.int n), .val (.ref b1), .unset, .unset, .unset, .unset, .unset, .unset, .unset, .unset] [(.int (fAt ((0 : Int32) - fi) il fl z n u v)), (.int (0 : Int32)), (.ref b1)])
  refine w_bastore X (i := 0) (x' := (fAt ((0 : Int32) - fi) il fl z n u v)) O2 ga1 at_74 (by decide) (by decide) (fAt_nar _ _ _ _ _ _ _) (pc' := 75) rfl ?_; intro T h3 X K4 O5
  obtain ⟨g6, O7, H8⟩ := fill_step (F := FA fi il fl z n u v) O5 (fun k hk => absurd hk (Nat.not_lt_zero k)) rfl
  refine w_aload X at_75 rfl rfl (pc' := 77) rfl ?_
  refine w_iconst X at_77 (v := (1 : Int32)) (by decide) (pc' := 78) rfl ?_
  refine w_iconst X at_78 (v := (1 : Int32)) (by decide) (pc' := 79) rfl ?_
  refine w_iload X at_79 rfl (pc' := 81) rfl ?_
  refine w_isub X at_81 (pc' := 82) rfl ?_
  refine w_iload X at_82 rfl (pc' := 84) rfl ?_
  refine w_iload X at_84 rfl (pc' := 86) rfl ?_
  refine w_iload X at_86 rfl (pc' := 88) rfl ?_
  refine w_iload X at_88 rfl (pc' := 90) rfl ?_
  refine w_lloadN X at_90 rfl (pc' := 91) rfl ?_
  refine w_lload X at_91 rfl (pc' := 93) rfl ?_
  refine w_callS X [(.int ((1 : Int32) - fi)), (.int il), (.int fl), (.int z), (.int n), (.long u), (.long v)] [(.int (1 : Int32)), (.ref b1)] 2 (tw2 hw) (tw3 hw) (tw4 hw) (tw5 hw) (ct_fAt l Z a0 hw ((1 : Int32) - fi) il fl z n u v h3 n0 X.n0le) at_93 pd2 rfl (by decide) rfl rfl rfl (by decide) (by decide) (by decide) (by decide) (pc' := 96) rfl ?_
  intro T hz v X hQ
  obtain ⟨rfl, hz1⟩ := hQ; replace hz1 := hz1.symm; subst hz1
  show WP _ _ _ _ _ _ _ _ _ (mkF m 96 #[.val (.int a), .val (.int b), .val (.int d), .val (.long u), .second, .val (.long v), .second, .val (.int fg), .val (.int fi), .val (.int il), .val (.int fl), .val (.int z), .val (.int n), .val (.ref b1), .unset, .unset, .unset, .unset, .unset, .unset, .unset, .unset] [(.int (fAt ((1 : Int32) - fi) il fl z n u v)), (.int (1 : Int32)), (.ref b1)])
  refine w_bastore X (i := 1) (x' := (fAt ((1 : Int32) - fi) il fl z n u v)) O7 ga1 at_96 (by decide) (by decide) (fAt_nar _ _ _ _ _ _ _) (pc' := 97) rfl ?_; intro T h9 X K10 O11
  obtain ⟨g12, O13, H14⟩ := fill_step (F := FA fi il fl z n u v) O11 H8 rfl
  refine w_aload X at_97 rfl rfl (pc' := 99) rfl ?_
  refine w_iconst X at_99 (v := (2 : Int32)) (by decide) (pc' := 100) rfl ?_
  refine w_iconst X at_100 (v := (2 : Int32)) (by decide) (pc' := 101) rfl ?_
  refine w_iload X at_101 rfl (pc' := 103) rfl ?_
  refine w_isub X at_103 (pc' := 104) rfl ?_
  refine w_iload X at_104 rfl (pc' := 106) rfl ?_
  refine w_iload X at_106 rfl (pc' := 108) rfl ?_
  refine w_iload X at_108 rfl (pc' := 110) rfl ?_
  refine w_iload X at_110 rfl (pc' := 112) rfl ?_
  refine w_lloadN X at_112 rfl (pc' := 113) rfl ?_
  refine w_lload X at_113 rfl (pc' := 115) rfl ?_
  refine w_callS X [(.int ((2 : Int32) - fi)), (.int il), (.int fl), (.int z), (.int n), (.long u), (.long v)] [(.int (2 : Int32)), (.ref b1)] 2 (tw2 hw) (tw3 hw) (tw4 hw) (tw5 hw) (ct_fAt l Z a0 hw ((2 : Int32) - fi) il fl z n u v h9 n0 X.n0le) at_115 pd2 rfl (by decide) rfl rfl rfl (by decide) (by decide) (by decide) (by decide) (pc' := 118) rfl ?_
  intro T hz v X hQ
  obtain ⟨rfl, hz1⟩ := hQ; replace hz1 := hz1.symm; subst hz1
  show WP _ _ _ _ _ _ _ _ _ (mkF m 118 #[.val (.int a), .val (.int b), .val (.int d), .val (.long u), .second, .val (.long v), .second, .val (.int fg), .val (.int fi), .val (.int il), .val (.int fl), .val (.int z), .val (.int n), .val (.ref b1), .unset, .unset, .unset, .unset, .unset, .unset, .unset, .unset] [(.int (fAt ((2 : Int32) - fi) il fl z n u v)), (.int (2 : Int32)), (.ref b1)])
  refine w_bastore X (i := 2) (x' := (fAt ((2 : Int32) - fi) il fl z n u v)) O13 ga1 at_118 (by decide) (by decide) (fAt_nar _ _ _ _ _ _ _) (pc' := 119) rfl ?_; intro T h15 X K16 O17
  obtain ⟨g18, O19, H20⟩ := fill_step (F := FA fi il fl z n u v) O17 H14 rfl
  refine w_aload X at_119 rfl rfl (pc' := 121) rfl ?_
  refine w_iconst X at_121 (v := (3 : Int32)) (by decide) (pc' := 122) rfl ?_
  refine w_iconst X at_122 (v := (3 : Int32)) (by decide) (pc' := 123) rfl ?_
  refine w_iload X at_123 rfl (pc' := 125) rfl ?_
  refine w_isub X at_125 (pc' := 126) rfl ?_
  refine w_iload X at_126 rfl (pc' := 128) rfl ?_
  refine w_iload X at_128 rfl (pc' := 130) rfl ?_
  refine w_iload X at_130 rfl (pc' := 132) rfl ?_
  refine w_iload X at_132 rfl (pc' := 134) rfl ?_
  refine w_lloadN X at_134 rfl (pc' := 135) rfl ?_
  refine w_lload X at_135 rfl (pc' := 137) rfl ?_
  refine w_callS X [(.int ((3 : Int32) - fi)), (.int il), (.int fl), (.int z), (.int n), (.long u), (.long v)] [(.int (3 : Int32)), (.ref b1)] 2 (tw2 hw) (tw3 hw) (tw4 hw) (tw5 hw) (ct_fAt l Z a0 hw ((3 : Int32) - fi) il fl z n u v h15 n0 X.n0le) at_137 pd2 rfl (by decide) rfl rfl rfl (by decide) (by decide) (by decide) (by decide) (pc' := 140) rfl ?_
  intro T hz v X hQ
  obtain ⟨rfl, hz1⟩ := hQ; replace hz1 := hz1.symm; subst hz1
  show WP _ _ _ _ _ _ _ _ _ (mkF m 140 #[.val (.int a), .val (.int b), .val (.int d), .val (.long u), .second, .val (.long v), .second, .val (.int fg), .val (.int fi), .val (.int il), .val (.int fl), .val (.int z), .val (.int n), .val (.ref b1), .unset, .unset, .unset, .unset, .unset, .unset, .unset, .unset] [(.int (fAt ((3 : Int32) - fi) il fl z n u v)), (.int (3 : Int32)), (.ref b1)])
  refine w_bastore X (i := 3) (x' := (fAt ((3 : Int32) - fi) il fl z n u v)) O19 ga1 at_140 (by decide) (by decide) (fAt_nar _ _ _ _ _ _ _) (pc' := 141) rfl ?_; intro T h21 X K22 O23
  obtain ⟨g24, O25, H26⟩ := fill_step (F := FA fi il fl z n u v) O23 H20 rfl
  refine w_aload X at_141 rfl rfl (pc' := 143) rfl ?_
  refine w_iconst X at_143 (v := (4 : Int32)) (by decide) (pc' := 144) rfl ?_
  refine w_iconst X at_144 (v := (4 : Int32)) (by decide) (pc' := 145) rfl ?_
  refine w_iload X at_145 rfl (pc' := 147) rfl ?_
  refine w_isub X at_147 (pc' := 148) rfl ?_
  refine w_iload X at_148 rfl (pc' := 150) rfl ?_
  refine w_iload X at_150 rfl (pc' := 152) rfl ?_
  refine w_iload X at_152 rfl (pc' := 154) rfl ?_
  refine w_iload X at_154 rfl (pc' := 156) rfl ?_
  refine w_lloadN X at_156 rfl (pc' := 157) rfl ?_
  refine w_lload X at_157 rfl (pc' := 159) rfl ?_
  refine w_callS X [(.int ((4 : Int32) - fi)), (.int il), (.int fl), (.int z), (.int n), (.long u), (.long v)] [(.int (4 : Int32)), (.ref b1)] 2 (tw2 hw) (tw3 hw) (tw4 hw) (tw5 hw) (ct_fAt l Z a0 hw ((4 : Int32) - fi) il fl z n u v h21 n0 X.n0le) at_159 pd2 rfl (by decide) rfl rfl rfl (by decide) (by decide) (by decide) (by decide) (pc' := 162) rfl ?_
  intro T hz v X hQ
  obtain ⟨rfl, hz1⟩ := hQ; replace hz1 := hz1.symm; subst hz1
  show WP _ _ _ _ _ _ _ _ _ (mkF m 162 #[.val (.int a), .val (.int b), .val (.int d), .val (.long u), .second, .val (.long v), .second, .val (.int fg), .val (.int fi), .val (.int il), .val (.int fl), .val (.int z), .val (.int n), .val (.ref b1), .unset, .unset, .unset, .unset, .unset, .unset, .unset, .unset] [(.int (fAt ((4 : Int32) - fi) il fl z n u v)), (.int (4 : Int32)), (.ref b1)])
  refine w_bastore X (i := 4) (x' := (fAt ((4 : Int32) - fi) il fl z n u v)) O25 ga1 at_162 (by decide) (by decide) (fAt_nar _ _ _ _ _ _ _) (pc' := 163) rfl ?_; intro T h27 X K28 O29
  obtain ⟨g30, O31, H32⟩ := fill_step (F := FA fi il fl z n u v) O29 H26 rfl
  refine w_aload X at_163 rfl rfl (pc' := 165) rfl ?_
  refine w_iconst X at_165 (v := (5 : Int32)) (by decide) (pc' := 166) rfl ?_
  refine w_iconst X at_166 (v := (5 : Int32)) (by decide) (pc' := 167) rfl ?_
  refine w_iload X at_167 rfl (pc' := 169) rfl ?_
  refine w_isub X at_169 (pc' := 170) rfl ?_
  refine w_iload X at_170 rfl (pc' := 172) rfl ?_
  refine w_iload X at_172 rfl (pc' := 174) rfl ?_
  refine w_iload X at_174 rfl (pc' := 176) rfl ?_
  refine w_iload X at_176 rfl (pc' := 178) rfl ?_
  refine w_lloadN X at_178 rfl (pc' := 179) rfl ?_
  refine w_lload X at_179 rfl (pc' := 181) rfl ?_
  refine w_callS X [(.int ((5 : Int32) - fi)), (.int il), (.int fl), (.int z), (.int n), (.long u), (.long v)] [(.int (5 : Int32)), (.ref b1)] 2 (tw2 hw) (tw3 hw) (tw4 hw) (tw5 hw) (ct_fAt l Z a0 hw ((5 : Int32) - fi) il fl z n u v h27 n0 X.n0le) at_181 pd2 rfl (by decide) rfl rfl rfl (by decide) (by decide) (by decide) (by decide) (pc' := 184) rfl ?_
  intro T hz v X hQ
  obtain ⟨rfl, hz1⟩ := hQ; replace hz1 := hz1.symm; subst hz1
  show WP _ _ _ _ _ _ _ _ _ (mkF m 184 #[.val (.int a), .val (.int b), .val (.int d), .val (.long u), .second, .val (.long v), .second, .val (.int fg), .val (.int fi), .val (.int il), .val (.int fl), .val (.int z), .val (.int n), .val (.ref b1), .unset, .unset, .unset, .unset, .unset, .unset, .unset, .unset] [(.int (fAt ((5 : Int32) - fi) il fl z n u v)), (.int (5 : Int32)), (.ref b1)])
  refine w_bastore X (i := 5) (x' := (fAt ((5 : Int32) - fi) il fl z n u v)) O31 ga1 at_184 (by decide) (by decide) (fAt_nar _ _ _ _ _ _ _) (pc' := 185) rfl ?_; intro T h33 X K34 O35
  obtain ⟨g36, O37, H38⟩ := fill_step (F := FA fi il fl z n u v) O35 H32 rfl
  refine w_aload X at_185 rfl rfl (pc' := 187) rfl ?_
  refine w_bipush X at_187 (v := (6 : Int32)) (by decide) (pc' := 189) rfl ?_
  refine w_bipush X at_189 (v := (6 : Int32)) (by decide) (pc' := 191) rfl ?_
  refine w_iload X at_191 rfl (pc' := 193) rfl ?_
  refine w_isub X at_193 (pc' := 194) rfl ?_
  refine w_iload X at_194 rfl (pc' := 196) rfl ?_
  refine w_iload X at_196 rfl (pc' := 198) rfl ?_
  refine w_iload X at_198 rfl (pc' := 200) rfl ?_
  refine w_iload X at_200 rfl (pc' := 202) rfl ?_
  refine w_lloadN X at_202 rfl (pc' := 203) rfl ?_
  refine w_lload X at_203 rfl (pc' := 205) rfl ?_
  refine w_callS X [(.int ((6 : Int32) - fi)), (.int il), (.int fl), (.int z), (.int n), (.long u), (.long v)] [(.int (6 : Int32)), (.ref b1)] 2 (tw2 hw) (tw3 hw) (tw4 hw) (tw5 hw) (ct_fAt l Z a0 hw ((6 : Int32) - fi) il fl z n u v h33 n0 X.n0le) at_205 pd2 rfl (by decide) rfl rfl rfl (by decide) (by decide) (by decide) (by decide) (pc' := 208) rfl ?_
  intro T hz v X hQ
  obtain ⟨rfl, hz1⟩ := hQ; replace hz1 := hz1.symm; subst hz1
  show WP _ _ _ _ _ _ _ _ _ (mkF m 208 #[.val (.int a), .val (.int b), .val (.int d), .val (.long u), .second, .val (.long v), .second, .val (.int fg), .val (.int fi), .val (.int il), .val (.int fl), .val (.int z), .val (.int n), .val (.ref b1), .unset, .unset, .unset, .unset, .unset, .unset, .unset, .unset] [(.int (fAt ((6 : Int32) - fi) il fl z n u v)), (.int (6 : Int32)), (.ref b1)])
  refine w_bastore X (i := 6) (x' := (fAt ((6 : Int32) - fi) il fl z n u v)) O37 ga1 at_208 (by decide) (by decide) (fAt_nar _ _ _ _ _ _ _) (pc' := 209) rfl ?_; intro T h39 X K40 O41
  obtain ⟨g42, O43, H44⟩ := fill_step (F := FA fi il fl z n u v) O41 H38 rfl
  refine w_aload X at_209 rfl rfl (pc' := 211) rfl ?_
  refine w_bipush X at_211 (v := (7 : Int32)) (by decide) (pc' := 213) rfl ?_
  refine w_bipush X at_213 (v := (7 : Int32)) (by decide) (pc' := 215) rfl ?_
  refine w_iload X at_215 rfl (pc' := 217) rfl ?_
  refine w_isub X at_217 (pc' := 218) rfl ?_
  refine w_iload X at_218 rfl (pc' := 220) rfl ?_
  refine w_iload X at_220 rfl (pc' := 222) rfl ?_
  refine w_iload X at_222 rfl (pc' := 224) rfl ?_
  refine w_iload X at_224 rfl (pc' := 226) rfl ?_
  refine w_lloadN X at_226 rfl (pc' := 227) rfl ?_
  refine w_lload X at_227 rfl (pc' := 229) rfl ?_
  refine w_callS X [(.int ((7 : Int32) - fi)), (.int il), (.int fl), (.int z), (.int n), (.long u), (.long v)] [(.int (7 : Int32)), (.ref b1)] 2 (tw2 hw) (tw3 hw) (tw4 hw) (tw5 hw) (ct_fAt l Z a0 hw ((7 : Int32) - fi) il fl z n u v h39 n0 X.n0le) at_229 pd2 rfl (by decide) rfl rfl rfl (by decide) (by decide) (by decide) (by decide) (pc' := 232) rfl ?_
  intro T hz v X hQ
  obtain ⟨rfl, hz1⟩ := hQ; replace hz1 := hz1.symm; subst hz1
  show WP _ _ _ _ _ _ _ _ _ (mkF m 232 #[.val (.int a), .val (.int b), .val (.int d), .val (.long u), .second, .val (.long v), .second, .val (.int fg), .val (.int fi), .val (.int il), .val (.int fl), .val (.int z), .val (.int n), .val (.ref b1), .unset, .unset, .unset, .unset, .unset, .unset, .unset, .unset] [(.int (fAt ((7 : Int32) - fi) il fl z n u v)), (.int (7 : Int32)), (.ref b1)])
  refine w_bastore X (i := 7) (x' := (fAt ((7 : Int32) - fi) il fl z n u v)) O43 ga1 at_232 (by decide) (by decide) (fAt_nar _ _ _ _ _ _ _) (pc' := 233) rfl ?_; intro T h45 X K46 O47
  obtain ⟨g48, O49, H50⟩ := fill_step (F := FA fi il fl z n u v) O47 H44 rfl
  refine w_aload X at_233 rfl rfl (pc' := 235) rfl ?_
  refine w_bipush X at_235 (v := (8 : Int32)) (by decide) (pc' := 237) rfl ?_
  refine w_bipush X at_237 (v := (8 : Int32)) (by decide) (pc' := 239) rfl ?_
  refine w_iload X at_239 rfl (pc' := 241) rfl ?_
  refine w_isub X at_241 (pc' := 242) rfl ?_
  refine w_iload X at_242 rfl (pc' := 244) rfl ?_
  refine w_iload X at_244 rfl (pc' := 246) rfl ?_
  refine w_iload X at_246 rfl (pc' := 248) rfl ?_
  refine w_iload X at_248 rfl (pc' := 250) rfl ?_
  refine w_lloadN X at_250 rfl (pc' := 251) rfl ?_
  refine w_lload X at_251 rfl (pc' := 253) rfl ?_
  refine w_callS X [(.int ((8 : Int32) - fi)), (.int il), (.int fl), (.int z), (.int n), (.long u), (.long v)] [(.int (8 : Int32)), (.ref b1)] 2 (tw2 hw) (tw3 hw) (tw4 hw) (tw5 hw) (ct_fAt l Z a0 hw ((8 : Int32) - fi) il fl z n u v h45 n0 X.n0le) at_253 pd2 rfl (by decide) rfl rfl rfl (by decide) (by decide) (by decide) (by decide) (pc' := 256) rfl ?_
  intro T hz v X hQ
  obtain ⟨rfl, hz1⟩ := hQ; replace hz1 := hz1.symm; subst hz1
  show WP _ _ _ _ _ _ _ _ _ (mkF m 256 #[.val (.int a), .val (.int b), .val (.int d), .val (.long u), .second, .val (.long v), .second, .val (.int fg), .val (.int fi), .val (.int il), .val (.int fl), .val (.int z), .val (.int n), .val (.ref b1), .unset, .unset, .unset, .unset, .unset, .unset, .unset, .unset] [(.int (fAt ((8 : Int32) - fi) il fl z n u v)), (.int (8 : Int32)), (.ref b1)])
  refine w_bastore X (i := 8) (x' := (fAt ((8 : Int32) - fi) il fl z n u v)) O49 ga1 at_256 (by decide) (by decide) (fAt_nar _ _ _ _ _ _ _) (pc' := 257) rfl ?_; intro T h51 X K52 O53
  obtain ⟨g54, O55, H56⟩ := fill_step (F := FA fi il fl z n u v) O53 H50 rfl
  refine w_aload X at_257 rfl rfl (pc' := 259) rfl ?_
  refine w_bipush X at_259 (v := (9 : Int32)) (by decide) (pc' := 261) rfl ?_
  refine w_bipush X at_261 (v := (9 : Int32)) (by decide) (pc' := 263) rfl ?_
  refine w_iload X at_263 rfl (pc' := 265) rfl ?_
  refine w_isub X at_265 (pc' := 266) rfl ?_
  refine w_iload X at_266 rfl (pc' := 268) rfl ?_
  refine w_iload X at_268 rfl (pc' := 270) rfl ?_
  refine w_iload X at_270 rfl (pc' := 272) rfl ?_
  refine w_iload X at_272 rfl (pc' := 274) rfl ?_
  refine w_lloadN X at_274 rfl (pc' := 275) rfl ?_
  refine w_lload X at_275 rfl (pc' := 277) rfl ?_
  refine w_callS X [(.int ((9 : Int32) - fi)), (.int il), (.int fl), (.int z), (.int n), (.long u), (.long v)] [(.int (9 : Int32)), (.ref b1)] 2 (tw2 hw) (tw3 hw) (tw4 hw) (tw5 hw) (ct_fAt l Z a0 hw ((9 : Int32) - fi) il fl z n u v h51 n0 X.n0le) at_277 pd2 rfl (by decide) rfl rfl rfl (by decide) (by decide) (by decide) (by decide) (pc' := 280) rfl ?_
  intro T hz v X hQ
  obtain ⟨rfl, hz1⟩ := hQ; replace hz1 := hz1.symm; subst hz1
  show WP _ _ _ _ _ _ _ _ _ (mkF m 280 #[.val (.int a), .val (.int b), .val (.int d), .val (.long u), .second, .val (.long v), .second, .val (.int fg), .val (.int fi), .val (.int il), .val (.int fl), .val (.int z), .val (.int n), .val (.ref b1), .unset, .unset, .unset, .unset, .unset, .unset, .unset, .unset] [(.int (fAt ((9 : Int32) - fi) il fl z n u v)), (.int (9 : Int32)), (.ref b1)])
  refine w_bastore X (i := 9) (x' := (fAt ((9 : Int32) - fi) il fl z n u v)) O55 ga1 at_280 (by decide) (by decide) (fAt_nar _ _ _ _ _ _ _) (pc' := 281) rfl ?_; intro T h57 X K58 O59
  obtain ⟨g60, O61, H62⟩ := fill_step (F := FA fi il fl z n u v) O59 H56 rfl
  refine w_aload X at_281 rfl rfl (pc' := 283) rfl ?_
  refine w_bipush X at_283 (v := (10 : Int32)) (by decide) (pc' := 285) rfl ?_
  refine w_bipush X at_285 (v := (10 : Int32)) (by decide) (pc' := 287) rfl ?_
  refine w_iload X at_287 rfl (pc' := 289) rfl ?_
  refine w_isub X at_289 (pc' := 290) rfl ?_
  refine w_iload X at_290 rfl (pc' := 292) rfl ?_
  refine w_iload X at_292 rfl (pc' := 294) rfl ?_
  refine w_iload X at_294 rfl (pc' := 296) rfl ?_
  refine w_iload X at_296 rfl (pc' := 298) rfl ?_
  refine w_lloadN X at_298 rfl (pc' := 299) rfl ?_
  refine w_lload X at_299 rfl (pc' := 301) rfl ?_
  refine w_callS X [(.int ((10 : Int32) - fi)), (.int il), (.int fl), (.int z), (.int n), (.long u), (.long v)] [(.int (10 : Int32)), (.ref b1)] 2 (tw2 hw) (tw3 hw) (tw4 hw) (tw5 hw) (ct_fAt l Z a0 hw ((10 : Int32) - fi) il fl z n u v h57 n0 X.n0le) at_301 pd2 rfl (by decide) rfl rfl rfl (by decide) (by decide) (by decide) (by decide) (pc' := 304) rfl ?_
  intro T hz v X hQ
  obtain ⟨rfl, hz1⟩ := hQ; replace hz1 := hz1.symm; subst hz1
  show WP _ _ _ _ _ _ _ _ _ (mkF m 304 #[.val (.int a), .val (.int b), .val (.int d), .val (.long u), .second, .val (.long v), .second, .val (.int fg), .val (.int fi), .val (.int il), .val (.int fl), .val (.int z), .val (.int n), .val (.ref b1), .unset, .unset, .unset, .unset, .unset, .unset, .unset, .unset] [(.int (fAt ((10 : Int32) - fi) il fl z n u v)), (.int (10 : Int32)), (.ref b1)])
  refine w_bastore X (i := 10) (x' := (fAt ((10 : Int32) - fi) il fl z n u v)) O61 ga1 at_304 (by decide) (by decide) (fAt_nar _ _ _ _ _ _ _) (pc' := 305) rfl ?_; intro T h63 X K64 O65
  obtain ⟨g66, O67, H68⟩ := fill_step (F := FA fi il fl z n u v) O65 H62 rfl
  refine w_aload X at_305 rfl rfl (pc' := 307) rfl ?_
  refine w_bipush X at_307 (v := (11 : Int32)) (by decide) (pc' := 309) rfl ?_
  refine w_bipush X at_309 (v := (11 : Int32)) (by decide) (pc' := 311) rfl ?_
  refine w_iload X at_311 rfl (pc' := 313) rfl ?_
  refine w_isub X at_313 (pc' := 314) rfl ?_
  refine w_iload X at_314 rfl (pc' := 316) rfl ?_
  refine w_iload X at_316 rfl (pc' := 318) rfl ?_
  refine w_iload X at_318 rfl (pc' := 320) rfl ?_
  refine w_iload X at_320 rfl (pc' := 322) rfl ?_
  refine w_lloadN X at_322 rfl (pc' := 323) rfl ?_
  refine w_lload X at_323 rfl (pc' := 325) rfl ?_
  refine w_callS X [(.int ((11 : Int32) - fi)), (.int il), (.int fl), (.int z), (.int n), (.long u), (.long v)] [(.int (11 : Int32)), (.ref b1)] 2 (tw2 hw) (tw3 hw) (tw4 hw) (tw5 hw) (ct_fAt l Z a0 hw ((11 : Int32) - fi) il fl z n u v h63 n0 X.n0le) at_325 pd2 rfl (by decide) rfl rfl rfl (by decide) (by decide) (by decide) (by decide) (pc' := 328) rfl ?_
  intro T hz v X hQ
  obtain ⟨rfl, hz1⟩ := hQ; replace hz1 := hz1.symm; subst hz1
  show WP _ _ _ _ _ _ _ _ _ (mkF m 328 #[.val (.int a), .val (.int b), .val (.int d), .val (.long u), .second, .val (.long v), .second, .val (.int fg), .val (.int fi), .val (.int il), .val (.int fl), .val (.int z), .val (.int n), .val (.ref b1), .unset, .unset, .unset, .unset, .unset, .unset, .unset, .unset] [(.int (fAt ((11 : Int32) - fi) il fl z n u v)), (.int (11 : Int32)), (.ref b1)])
  refine w_bastore X (i := 11) (x' := (fAt ((11 : Int32) - fi) il fl z n u v)) O67 ga1 at_328 (by decide) (by decide) (fAt_nar _ _ _ _ _ _ _) (pc' := 329) rfl ?_; intro T h69 X K70 O71
  obtain ⟨g72, O73, H74⟩ := fill_step (F := FA fi il fl z n u v) O71 H68 rfl
  refine w_aload X at_329 rfl rfl (pc' := 331) rfl ?_
  refine w_bipush X at_331 (v := (12 : Int32)) (by decide) (pc' := 333) rfl ?_
  refine w_bipush X at_333 (v := (12 : Int32)) (by decide) (pc' := 335) rfl ?_
  refine w_iload X at_335 rfl (pc' := 337) rfl ?_
  refine w_isub X at_337 (pc' := 338) rfl ?_
  refine w_iload X at_338 rfl (pc' := 340) rfl ?_
  refine w_iload X at_340 rfl (pc' := 342) rfl ?_
  refine w_iload X at_342 rfl (pc' := 344) rfl ?_
  refine w_iload X at_344 rfl (pc' := 346) rfl ?_
  refine w_lloadN X at_346 rfl (pc' := 347) rfl ?_
  refine w_lload X at_347 rfl (pc' := 349) rfl ?_
  refine w_callS X [(.int ((12 : Int32) - fi)), (.int il), (.int fl), (.int z), (.int n), (.long u), (.long v)] [(.int (12 : Int32)), (.ref b1)] 2 (tw2 hw) (tw3 hw) (tw4 hw) (tw5 hw) (ct_fAt l Z a0 hw ((12 : Int32) - fi) il fl z n u v h69 n0 X.n0le) at_349 pd2 rfl (by decide) rfl rfl rfl (by decide) (by decide) (by decide) (by decide) (pc' := 352) rfl ?_
  intro T hz v X hQ
  obtain ⟨rfl, hz1⟩ := hQ; replace hz1 := hz1.symm; subst hz1
  show WP _ _ _ _ _ _ _ _ _ (mkF m 352 #[.val (.int a), .val (.int b), .val (.int d), .val (.long u), .second, .val (.long v), .second, .val (.int fg), .val (.int fi), .val (.int il), .val (.int fl), .val (.int z), .val (.int n), .val (.ref b1), .unset, .unset, .unset, .unset, .unset, .unset, .unset, .unset] [(.int (fAt ((12 : Int32) - fi) il fl z n u v)), (.int (12 : Int32)), (.ref b1)])
  refine w_bastore X (i := 12) (x' := (fAt ((12 : Int32) - fi) il fl z n u v)) O73 ga1 at_352 (by decide) (by decide) (fAt_nar _ _ _ _ _ _ _) (pc' := 353) rfl ?_; intro T h75 X K76 O77
  obtain ⟨g78, O79, H80⟩ := fill_step (F := FA fi il fl z n u v) O77 H74 rfl
  refine w_aload X at_353 rfl rfl (pc' := 355) rfl ?_
  refine w_bipush X at_355 (v := (13 : Int32)) (by decide) (pc' := 357) rfl ?_
  refine w_bipush X at_357 (v := (13 : Int32)) (by decide) (pc' := 359) rfl ?_
  refine w_iload X at_359 rfl (pc' := 361) rfl ?_
  refine w_isub X at_361 (pc' := 362) rfl ?_
  refine w_iload X at_362 rfl (pc' := 364) rfl ?_
  refine w_iload X at_364 rfl (pc' := 366) rfl ?_
  refine w_iload X at_366 rfl (pc' := 368) rfl ?_
  refine w_iload X at_368 rfl (pc' := 370) rfl ?_
  refine w_lloadN X at_370 rfl (pc' := 371) rfl ?_
  refine w_lload X at_371 rfl (pc' := 373) rfl ?_
  refine w_callS X [(.int ((13 : Int32) - fi)), (.int il), (.int fl), (.int z), (.int n), (.long u), (.long v)] [(.int (13 : Int32)), (.ref b1)] 2 (tw2 hw) (tw3 hw) (tw4 hw) (tw5 hw) (ct_fAt l Z a0 hw ((13 : Int32) - fi) il fl z n u v h75 n0 X.n0le) at_373 pd2 rfl (by decide) rfl rfl rfl (by decide) (by decide) (by decide) (by decide) (pc' := 376) rfl ?_
  intro T hz v X hQ
  obtain ⟨rfl, hz1⟩ := hQ; replace hz1 := hz1.symm; subst hz1
  show WP _ _ _ _ _ _ _ _ _ (mkF m 376 #[.val (.int a), .val (.int b), .val (.int d), .val (.long u), .second, .val (.long v), .second, .val (.int fg), .val (.int fi), .val (.int il), .val (.int fl), .val (.int z), .val (.int n), .val (.ref b1), .unset, .unset, .unset, .unset, .unset, .unset, .unset, .unset] [(.int (fAt ((13 : Int32) - fi) il fl z n u v)), (.int (13 : Int32)), (.ref b1)])
  refine w_bastore X (i := 13) (x' := (fAt ((13 : Int32) - fi) il fl z n u v)) O79 ga1 at_376 (by decide) (by decide) (fAt_nar _ _ _ _ _ _ _) (pc' := 377) rfl ?_; intro T h81 X K82 O83
  obtain ⟨g84, O85, H86⟩ := fill_step (F := FA fi il fl z n u v) O83 H80 rfl
  refine w_aload X at_377 rfl rfl (pc' := 379) rfl ?_
  refine w_bipush X at_379 (v := (14 : Int32)) (by decide) (pc' := 381) rfl ?_
  refine w_bipush X at_381 (v := (14 : Int32)) (by decide) (pc' := 383) rfl ?_
  refine w_iload X at_383 rfl (pc' := 385) rfl ?_
  refine w_isub X at_385 (pc' := 386) rfl ?_
  refine w_iload X at_386 rfl (pc' := 388) rfl ?_
  refine w_iload X at_388 rfl (pc' := 390) rfl ?_
  refine w_iload X at_390 rfl (pc' := 392) rfl ?_
  refine w_iload X at_392 rfl (pc' := 394) rfl ?_
  refine w_lloadN X at_394 rfl (pc' := 395) rfl ?_
  refine w_lload X at_395 rfl (pc' := 397) rfl ?_
  refine w_callS X [(.int ((14 : Int32) - fi)), (.int il), (.int fl), (.int z), (.int n), (.long u), (.long v)] [(.int (14 : Int32)), (.ref b1)] 2 (tw2 hw) (tw3 hw) (tw4 hw) (tw5 hw) (ct_fAt l Z a0 hw ((14 : Int32) - fi) il fl z n u v h81 n0 X.n0le) at_397 pd2 rfl (by decide) rfl rfl rfl (by decide) (by decide) (by decide) (by decide) (pc' := 400) rfl ?_
  intro T hz v X hQ
  obtain ⟨rfl, hz1⟩ := hQ; replace hz1 := hz1.symm; subst hz1
  show WP _ _ _ _ _ _ _ _ _ (mkF m 400 #[.val (.int a), .val (.int b), .val (.int d), .val (.long u), .second, .val (.long v), .second, .val (.int fg), .val (.int fi), .val (.int il), .val (.int fl), .val (.int z), .val (.int n), .val (.ref b1), .unset, .unset, .unset, .unset, .unset, .unset, .unset, .unset] [(.int (fAt ((14 : Int32) - fi) il fl z n u v)), (.int (14 : Int32)), (.ref b1)])
  refine w_bastore X (i := 14) (x' := (fAt ((14 : Int32) - fi) il fl z n u v)) O85 ga1 at_400 (by decide) (by decide) (fAt_nar _ _ _ _ _ _ _) (pc' := 401) rfl ?_; intro T h87 X K88 O89
  obtain ⟨g90, O91, H92⟩ := fill_step (F := FA fi il fl z n u v) O89 H86 rfl
  refine w_aload X at_401 rfl rfl (pc' := 403) rfl ?_
  refine w_bipush X at_403 (v := (15 : Int32)) (by decide) (pc' := 405) rfl ?_
  refine w_bipush X at_405 (v := (15 : Int32)) (by decide) (pc' := 407) rfl ?_
  refine w_iload X at_407 rfl (pc' := 409) rfl ?_
  refine w_isub X at_409 (pc' := 410) rfl ?_
  refine w_iload X at_410 rfl (pc' := 412) rfl ?_
  refine w_iload X at_412 rfl (pc' := 414) rfl ?_
  refine w_iload X at_414 rfl (pc' := 416) rfl ?_
  refine w_iload X at_416 rfl (pc' := 418) rfl ?_
  refine w_lloadN X at_418 rfl (pc' := 419) rfl ?_
  refine w_lload X at_419 rfl (pc' := 421) rfl ?_
  refine w_callS X [(.int ((15 : Int32) - fi)), (.int il), (.int fl), (.int z), (.int n), (.long u), (.long v)] [(.int (15 : Int32)), (.ref b1)] 2 (tw2 hw) (tw3 hw) (tw4 hw) (tw5 hw) (ct_fAt l Z a0 hw ((15 : Int32) - fi) il fl z n u v h87 n0 X.n0le) at_421 pd2 rfl (by decide) rfl rfl rfl (by decide) (by decide) (by decide) (by decide) (pc' := 424) rfl ?_
  intro T hz v X hQ
  obtain ⟨rfl, hz1⟩ := hQ; replace hz1 := hz1.symm; subst hz1
  show WP _ _ _ _ _ _ _ _ _ (mkF m 424 #[.val (.int a), .val (.int b), .val (.int d), .val (.long u), .second, .val (.long v), .second, .val (.int fg), .val (.int fi), .val (.int il), .val (.int fl), .val (.int z), .val (.int n), .val (.ref b1), .unset, .unset, .unset, .unset, .unset, .unset, .unset, .unset] [(.int (fAt ((15 : Int32) - fi) il fl z n u v)), (.int (15 : Int32)), (.ref b1)])
  refine w_bastore X (i := 15) (x' := (fAt ((15 : Int32) - fi) il fl z n u v)) O91 ga1 at_424 (by decide) (by decide) (fAt_nar _ _ _ _ _ _ _) (pc' := 425) rfl ?_; intro T h93 X K94 O95
  obtain ⟨g96, O97, H98⟩ := fill_step (F := FA fi il fl z n u v) O95 H92 rfl
  refine w_aload X at_425 rfl rfl (pc' := 427) rfl ?_
  refine w_bipush X at_427 (v := (16 : Int32)) (by decide) (pc' := 429) rfl ?_
  refine w_bipush X at_429 (v := (16 : Int32)) (by decide) (pc' := 431) rfl ?_
  refine w_iload X at_431 rfl (pc' := 433) rfl ?_
  refine w_isub X at_433 (pc' := 434) rfl ?_
  refine w_iload X at_434 rfl (pc' := 436) rfl ?_
  refine w_iload X at_436 rfl (pc' := 438) rfl ?_
  refine w_iload X at_438 rfl (pc' := 440) rfl ?_
  refine w_iload X at_440 rfl (pc' := 442) rfl ?_
  refine w_lloadN X at_442 rfl (pc' := 443) rfl ?_
  refine w_lload X at_443 rfl (pc' := 445) rfl ?_
  refine w_callS X [(.int ((16 : Int32) - fi)), (.int il), (.int fl), (.int z), (.int n), (.long u), (.long v)] [(.int (16 : Int32)), (.ref b1)] 2 (tw2 hw) (tw3 hw) (tw4 hw) (tw5 hw) (ct_fAt l Z a0 hw ((16 : Int32) - fi) il fl z n u v h93 n0 X.n0le) at_445 pd2 rfl (by decide) rfl rfl rfl (by decide) (by decide) (by decide) (by decide) (pc' := 448) rfl ?_
  intro T hz v X hQ
  obtain ⟨rfl, hz1⟩ := hQ; replace hz1 := hz1.symm; subst hz1
  show WP _ _ _ _ _ _ _ _ _ (mkF m 448 #[.val (.int a), .val (.int b), .val (.int d), .val (.long u), .second, .val (.long v), .second, .val (.int fg), .val (.int fi), .val (.int il), .val (.int fl), .val (.int z), .val (.int n), .val (.ref b1), .unset, .unset, .unset, .unset, .unset, .unset, .unset, .unset] [(.int (fAt ((16 : Int32) - fi) il fl z n u v)), (.int (16 : Int32)), (.ref b1)])
  refine w_bastore X (i := 16) (x' := (fAt ((16 : Int32) - fi) il fl z n u v)) O97 ga1 at_448 (by decide) (by decide) (fAt_nar _ _ _ _ _ _ _) (pc' := 449) rfl ?_; intro T h99 X K100 O101
  obtain ⟨g102, O103, H104⟩ := fill_step (F := FA fi il fl z n u v) O101 H98 rfl
  refine w_aload X at_449 rfl rfl (pc' := 451) rfl ?_
  refine w_bipush X at_451 (v := (17 : Int32)) (by decide) (pc' := 453) rfl ?_
  refine w_bipush X at_453 (v := (17 : Int32)) (by decide) (pc' := 455) rfl ?_
  refine w_iload X at_455 rfl (pc' := 457) rfl ?_
  refine w_isub X at_457 (pc' := 458) rfl ?_
  refine w_iload X at_458 rfl (pc' := 460) rfl ?_
  refine w_iload X at_460 rfl (pc' := 462) rfl ?_
  refine w_iload X at_462 rfl (pc' := 464) rfl ?_
  refine w_iload X at_464 rfl (pc' := 466) rfl ?_
  refine w_lloadN X at_466 rfl (pc' := 467) rfl ?_
  refine w_lload X at_467 rfl (pc' := 469) rfl ?_
  refine w_callS X [(.int ((17 : Int32) - fi)), (.int il), (.int fl), (.int z), (.int n), (.long u), (.long v)] [(.int (17 : Int32)), (.ref b1)] 2 (tw2 hw) (tw3 hw) (tw4 hw) (tw5 hw) (ct_fAt l Z a0 hw ((17 : Int32) - fi) il fl z n u v h99 n0 X.n0le) at_469 pd2 rfl (by decide) rfl rfl rfl (by decide) (by decide) (by decide) (by decide) (pc' := 472) rfl ?_
  intro T hz v X hQ
  obtain ⟨rfl, hz1⟩ := hQ; replace hz1 := hz1.symm; subst hz1
  show WP _ _ _ _ _ _ _ _ _ (mkF m 472 #[.val (.int a), .val (.int b), .val (.int d), .val (.long u), .second, .val (.long v), .second, .val (.int fg), .val (.int fi), .val (.int il), .val (.int fl), .val (.int z), .val (.int n), .val (.ref b1), .unset, .unset, .unset, .unset, .unset, .unset, .unset, .unset] [(.int (fAt ((17 : Int32) - fi) il fl z n u v)), (.int (17 : Int32)), (.ref b1)])
  refine w_bastore X (i := 17) (x' := (fAt ((17 : Int32) - fi) il fl z n u v)) O103 ga1 at_472 (by decide) (by decide) (fAt_nar _ _ _ _ _ _ _) (pc' := 473) rfl ?_; intro T h105 X K106 O107
  obtain ⟨g108, O109, H110⟩ := fill_step (F := FA fi il fl z n u v) O107 H104 rfl
  refine w_aload X at_473 rfl rfl (pc' := 475) rfl ?_
  refine w_bipush X at_475 (v := (18 : Int32)) (by decide) (pc' := 477) rfl ?_
  refine w_bipush X at_477 (v := (18 : Int32)) (by decide) (pc' := 479) rfl ?_
  refine w_iload X at_479 rfl (pc' := 481) rfl ?_
  refine w_isub X at_481 (pc' := 482) rfl ?_
  refine w_iload X at_482 rfl (pc' := 484) rfl ?_
  refine w_iload X at_484 rfl (pc' := 486) rfl ?_
  refine w_iload X at_486 rfl (pc' := 488) rfl ?_
  refine w_iload X at_488 rfl (pc' := 490) rfl ?_
  refine w_lloadN X at_490 rfl (pc' := 491) rfl ?_
  refine w_lload X at_491 rfl (pc' := 493) rfl ?_
  refine w_callS X [(.int ((18 : Int32) - fi)), (.int il), (.int fl), (.int z), (.int n), (.long u), (.long v)] [(.int (18 : Int32)), (.ref b1)] 2 (tw2 hw) (tw3 hw) (tw4 hw) (tw5 hw) (ct_fAt l Z a0 hw ((18 : Int32) - fi) il fl z n u v h105 n0 X.n0le) at_493 pd2 rfl (by decide) rfl rfl rfl (by decide) (by decide) (by decide) (by decide) (pc' := 496) rfl ?_
  intro T hz v X hQ
  obtain ⟨rfl, hz1⟩ := hQ; replace hz1 := hz1.symm; subst hz1
  show WP _ _ _ _ _ _ _ _ _ (mkF m 496 #[.val (.int a), .val (.int b), .val (.int d), .val (.long u), .second, .val (.long v), .second, .val (.int fg), .val (.int fi), .val (.int il), .val (.int fl), .val (.int z), .val (.int n), .val (.ref b1), .unset, .unset, .unset, .unset, .unset, .unset, .unset, .unset] [(.int (fAt ((18 : Int32) - fi) il fl z n u v)), (.int (18 : Int32)), (.ref b1)])
  refine w_bastore X (i := 18) (x' := (fAt ((18 : Int32) - fi) il fl z n u v)) O109 ga1 at_496 (by decide) (by decide) (fAt_nar _ _ _ _ _ _ _) (pc' := 497) rfl ?_; intro T h111 X K112 O113
  obtain ⟨g114, O115, H116⟩ := fill_step (F := FA fi il fl z n u v) O113 H110 rfl
  refine w_aload X at_497 rfl rfl (pc' := 499) rfl ?_
  refine w_bipush X at_499 (v := (19 : Int32)) (by decide) (pc' := 501) rfl ?_
  refine w_bipush X at_501 (v := (19 : Int32)) (by decide) (pc' := 503) rfl ?_
  refine w_iload X at_503 rfl (pc' := 505) rfl ?_
  refine w_isub X at_505 (pc' := 506) rfl ?_
  refine w_iload X at_506 rfl (pc' := 508) rfl ?_
  refine w_iload X at_508 rfl (pc' := 510) rfl ?_
  refine w_iload X at_510 rfl (pc' := 512) rfl ?_
  refine w_iload X at_512 rfl (pc' := 514) rfl ?_
  refine w_lloadN X at_514 rfl (pc' := 515) rfl ?_
  refine w_lload X at_515 rfl (pc' := 517) rfl ?_
  refine w_callS X [(.int ((19 : Int32) - fi)), (.int il), (.int fl), (.int z), (.int n), (.long u), (.long v)] [(.int (19 : Int32)), (.ref b1)] 2 (tw2 hw) (tw3 hw) (tw4 hw) (tw5 hw) (ct_fAt l Z a0 hw ((19 : Int32) - fi) il fl z n u v h111 n0 X.n0le) at_517 pd2 rfl (by decide) rfl rfl rfl (by decide) (by decide) (by decide) (by decide) (pc' := 520) rfl ?_
  intro T hz v X hQ
  obtain ⟨rfl, hz1⟩ := hQ; replace hz1 := hz1.symm; subst hz1
  show WP _ _ _ _ _ _ _ _ _ (mkF m 520 #[.val (.int a), .val (.int b), .val (.int d), .val (.long u), .second, .val (.long v), .second, .val (.int fg), .val (.int fi), .val (.int il), .val (.int fl), .val (.int z), .val (.int n), .val (.ref b1), .unset, .unset, .unset, .unset, .unset, .unset, .unset, .unset] [(.int (fAt ((19 : Int32) - fi) il fl z n u v)), (.int (19 : Int32)), (.ref b1)])
  refine w_bastore X (i := 19) (x' := (fAt ((19 : Int32) - fi) il fl z n u v)) O115 ga1 at_520 (by decide) (by decide) (fAt_nar _ _ _ _ _ _ _) (pc' := 521) rfl ?_; intro T h117 X K118 O119
  obtain ⟨g120, O121, H122⟩ := fill_step (F := FA fi il fl z n u v) O119 H116 rfl
  refine w_aload X at_521 rfl rfl (pc' := 523) rfl ?_
  refine w_bipush X at_523 (v := (20 : Int32)) (by decide) (pc' := 525) rfl ?_
  refine w_bipush X at_525 (v := (20 : Int32)) (by decide) (pc' := 527) rfl ?_
  refine w_iload X at_527 rfl (pc' := 529) rfl ?_
  refine w_isub X at_529 (pc' := 530) rfl ?_
  refine w_iload X at_530 rfl (pc' := 532) rfl ?_
  refine w_iload X at_532 rfl (pc' := 534) rfl ?_
  refine w_iload X at_534 rfl (pc' := 536) rfl ?_
  refine w_iload X at_536 rfl (pc' := 538) rfl ?_
  refine w_lloadN X at_538 rfl (pc' := 539) rfl ?_
  refine w_lload X at_539 rfl (pc' := 541) rfl ?_
  refine w_callS X [(.int ((20 : Int32) - fi)), (.int il), (.int fl), (.int z), (.int n), (.long u), (.long v)] [(.int (20 : Int32)), (.ref b1)] 2 (tw2 hw) (tw3 hw) (tw4 hw) (tw5 hw) (ct_fAt l Z a0 hw ((20 : Int32) - fi) il fl z n u v h117 n0 X.n0le) at_541 pd2 rfl (by decide) rfl rfl rfl (by decide) (by decide) (by decide) (by decide) (pc' := 544) rfl ?_
  intro T hz v X hQ
  obtain ⟨rfl, hz1⟩ := hQ; replace hz1 := hz1.symm; subst hz1
  show WP _ _ _ _ _ _ _ _ _ (mkF m 544 #[.val (.int a), .val (.int b), .val (.int d), .val (.long u), .second, .val (.long v), .second, .val (.int fg), .val (.int fi), .val (.int il), .val (.int fl), .val (.int z), .val (.int n), .val (.ref b1), .unset, .unset, .unset, .unset, .unset, .unset, .unset, .unset] [(.int (fAt ((20 : Int32) - fi) il fl z n u v)), (.int (20 : Int32)), (.ref b1)])
  refine w_bastore X (i := 20) (x' := (fAt ((20 : Int32) - fi) il fl z n u v)) O121 ga1 at_544 (by decide) (by decide) (fAt_nar _ _ _ _ _ _ _) (pc' := 545) rfl ?_; intro T h123 X K124 O125
  obtain ⟨g126, O127, H128⟩ := fill_step (F := FA fi il fl z n u v) O125 H122 rfl
  refine w_aload X at_545 rfl rfl (pc' := 547) rfl ?_
  refine w_bipush X at_547 (v := (21 : Int32)) (by decide) (pc' := 549) rfl ?_
  refine w_bipush X at_549 (v := (21 : Int32)) (by decide) (pc' := 551) rfl ?_
  refine w_iload X at_551 rfl (pc' := 553) rfl ?_
  refine w_isub X at_553 (pc' := 554) rfl ?_
  refine w_iload X at_554 rfl (pc' := 556) rfl ?_
  refine w_iload X at_556 rfl (pc' := 558) rfl ?_
  refine w_iload X at_558 rfl (pc' := 560) rfl ?_
  refine w_iload X at_560 rfl (pc' := 562) rfl ?_
  refine w_lloadN X at_562 rfl (pc' := 563) rfl ?_
  refine w_lload X at_563 rfl (pc' := 565) rfl ?_
  refine w_callS X [(.int ((21 : Int32) - fi)), (.int il), (.int fl), (.int z), (.int n), (.long u), (.long v)] [(.int (21 : Int32)), (.ref b1)] 2 (tw2 hw) (tw3 hw) (tw4 hw) (tw5 hw) (ct_fAt l Z a0 hw ((21 : Int32) - fi) il fl z n u v h123 n0 X.n0le) at_565 pd2 rfl (by decide) rfl rfl rfl (by decide) (by decide) (by decide) (by decide) (pc' := 568) rfl ?_
  intro T hz v X hQ
  obtain ⟨rfl, hz1⟩ := hQ; replace hz1 := hz1.symm; subst hz1
  show WP _ _ _ _ _ _ _ _ _ (mkF m 568 #[.val (.int a), .val (.int b), .val (.int d), .val (.long u), .second, .val (.long v), .second, .val (.int fg), .val (.int fi), .val (.int il), .val (.int fl), .val (.int z), .val (.int n), .val (.ref b1), .unset, .unset, .unset, .unset, .unset, .unset, .unset, .unset] [(.int (fAt ((21 : Int32) - fi) il fl z n u v)), (.int (21 : Int32)), (.ref b1)])
  refine w_bastore X (i := 21) (x' := (fAt ((21 : Int32) - fi) il fl z n u v)) O127 ga1 at_568 (by decide) (by decide) (fAt_nar _ _ _ _ _ _ _) (pc' := 569) rfl ?_; intro T h129 X K130 O131
  obtain ⟨g132, O133, H134⟩ := fill_step (F := FA fi il fl z n u v) O131 H128 rfl
  refine w_aload X at_569 rfl rfl (pc' := 571) rfl ?_
  refine w_bipush X at_571 (v := (22 : Int32)) (by decide) (pc' := 573) rfl ?_
  refine w_bipush X at_573 (v := (22 : Int32)) (by decide) (pc' := 575) rfl ?_
  refine w_iload X at_575 rfl (pc' := 577) rfl ?_
  refine w_isub X at_577 (pc' := 578) rfl ?_
  refine w_iload X at_578 rfl (pc' := 580) rfl ?_
  refine w_iload X at_580 rfl (pc' := 582) rfl ?_
  refine w_iload X at_582 rfl (pc' := 584) rfl ?_
  refine w_iload X at_584 rfl (pc' := 586) rfl ?_
  refine w_lloadN X at_586 rfl (pc' := 587) rfl ?_
  refine w_lload X at_587 rfl (pc' := 589) rfl ?_
  refine w_callS X [(.int ((22 : Int32) - fi)), (.int il), (.int fl), (.int z), (.int n), (.long u), (.long v)] [(.int (22 : Int32)), (.ref b1)] 2 (tw2 hw) (tw3 hw) (tw4 hw) (tw5 hw) (ct_fAt l Z a0 hw ((22 : Int32) - fi) il fl z n u v h129 n0 X.n0le) at_589 pd2 rfl (by decide) rfl rfl rfl (by decide) (by decide) (by decide) (by decide) (pc' := 592) rfl ?_
  intro T hz v X hQ
  obtain ⟨rfl, hz1⟩ := hQ; replace hz1 := hz1.symm; subst hz1
  show WP _ _ _ _ _ _ _ _ _ (mkF m 592 #[.val (.int a), .val (.int b), .val (.int d), .val (.long u), .second, .val (.long v), .second, .val (.int fg), .val (.int fi), .val (.int il), .val (.int fl), .val (.int z), .val (.int n), .val (.ref b1), .unset, .unset, .unset, .unset, .unset, .unset, .unset, .unset] [(.int (fAt ((22 : Int32) - fi) il fl z n u v)), (.int (22 : Int32)), (.ref b1)])
  refine w_bastore X (i := 22) (x' := (fAt ((22 : Int32) - fi) il fl z n u v)) O133 ga1 at_592 (by decide) (by decide) (fAt_nar _ _ _ _ _ _ _) (pc' := 593) rfl ?_; intro T h135 X K136 O137
  obtain ⟨g138, O139, H140⟩ := fill_step (F := FA fi il fl z n u v) O137 H134 rfl
  refine w_aload X at_593 rfl rfl (pc' := 595) rfl ?_
  refine w_bipush X at_595 (v := (23 : Int32)) (by decide) (pc' := 597) rfl ?_
  refine w_bipush X at_597 (v := (23 : Int32)) (by decide) (pc' := 599) rfl ?_
  refine w_iload X at_599 rfl (pc' := 601) rfl ?_
  refine w_isub X at_601 (pc' := 602) rfl ?_
  refine w_iload X at_602 rfl (pc' := 604) rfl ?_
  refine w_iload X at_604 rfl (pc' := 606) rfl ?_
  refine w_iload X at_606 rfl (pc' := 608) rfl ?_
  refine w_iload X at_608 rfl (pc' := 610) rfl ?_
  refine w_lloadN X at_610 rfl (pc' := 611) rfl ?_
  refine w_lload X at_611 rfl (pc' := 613) rfl ?_
  refine w_callS X [(.int ((23 : Int32) - fi)), (.int il), (.int fl), (.int z), (.int n), (.long u), (.long v)] [(.int (23 : Int32)), (.ref b1)] 2 (tw2 hw) (tw3 hw) (tw4 hw) (tw5 hw) (ct_fAt l Z a0 hw ((23 : Int32) - fi) il fl z n u v h135 n0 X.n0le) at_613 pd2 rfl (by decide) rfl rfl rfl (by decide) (by decide) (by decide) (by decide) (pc' := 616) rfl ?_
  intro T hz v X hQ
  obtain ⟨rfl, hz1⟩ := hQ; replace hz1 := hz1.symm; subst hz1
  show WP _ _ _ _ _ _ _ _ _ (mkF m 616 #[.val (.int a), .val (.int b), .val (.int d), .val (.long u), .second, .val (.long v), .second, .val (.int fg), .val (.int fi), .val (.int il), .val (.int fl), .val (.int z), .val (.int n), .val (.ref b1), .unset, .unset, .unset, .unset, .unset, .unset, .unset, .unset] [(.int (fAt ((23 : Int32) - fi) il fl z n u v)), (.int (23 : Int32)), (.ref b1)])
  refine w_bastore X (i := 23) (x' := (fAt ((23 : Int32) - fi) il fl z n u v)) O139 ga1 at_616 (by decide) (by decide) (fAt_nar _ _ _ _ _ _ _) (pc' := 617) rfl ?_; intro T h141 X K142 O143
  obtain ⟨g144, O145, H146⟩ := fill_step (F := FA fi il fl z n u v) O143 H140 rfl
  refine w_aload X at_617 rfl rfl (pc' := 619) rfl ?_
  refine w_bipush X at_619 (v := (24 : Int32)) (by decide) (pc' := 621) rfl ?_
  refine w_bipush X at_621 (v := (24 : Int32)) (by decide) (pc' := 623) rfl ?_
  refine w_iload X at_623 rfl (pc' := 625) rfl ?_
  refine w_isub X at_625 (pc' := 626) rfl ?_
  refine w_iload X at_626 rfl (pc' := 628) rfl ?_
  refine w_iload X at_628 rfl (pc' := 630) rfl ?_
  refine w_iload X at_630 rfl (pc' := 632) rfl ?_
  refine w_iload X at_632 rfl (pc' := 634) rfl ?_
  refine w_lloadN X at_634 rfl (pc' := 635) rfl ?_
  refine w_lload X at_635 rfl (pc' := 637) rfl ?_
  refine w_callS X [(.int ((24 : Int32) - fi)), (.int il), (.int fl), (.int z), (.int n), (.long u), (.long v)] [(.int (24 : Int32)), (.ref b1)] 2 (tw2 hw) (tw3 hw) (tw4 hw) (tw5 hw) (ct_fAt l Z a0 hw ((24 : Int32) - fi) il fl z n u v h141 n0 X.n0le) at_637 pd2 rfl (by decide) rfl rfl rfl (by decide) (by decide) (by decide) (by decide) (pc' := 640) rfl ?_
  intro T hz v X hQ
  obtain ⟨rfl, hz1⟩ := hQ; replace hz1 := hz1.symm; subst hz1
  show WP _ _ _ _ _ _ _ _ _ (mkF m 640 #[.val (.int a), .val (.int b), .val (.int d), .val (.long u), .second, .val (.long v), .second, .val (.int fg), .val (.int fi), .val (.int il), .val (.int fl), .val (.int z), .val (.int n), .val (.ref b1), .unset, .unset, .unset, .unset, .unset, .unset, .unset, .unset] [(.int (fAt ((24 : Int32) - fi) il fl z n u v)), (.int (24 : Int32)), (.ref b1)])
  refine w_bastore X (i := 24) (x' := (fAt ((24 : Int32) - fi) il fl z n u v)) O145 ga1 at_640 (by decide) (by decide) (fAt_nar _ _ _ _ _ _ _) (pc' := 641) rfl ?_; intro T h147 X K148 O149
  obtain ⟨g150, O151, H152⟩ := fill_step (F := FA fi il fl z n u v) O149 H146 rfl
  refine w_aload X at_641 rfl rfl (pc' := 643) rfl ?_
  refine w_bipush X at_643 (v := (25 : Int32)) (by decide) (pc' := 645) rfl ?_
  refine w_bipush X at_645 (v := (25 : Int32)) (by decide) (pc' := 647) rfl ?_
  refine w_iload X at_647 rfl (pc' := 649) rfl ?_
  refine w_isub X at_649 (pc' := 650) rfl ?_
  refine w_iload X at_650 rfl (pc' := 652) rfl ?_
  refine w_iload X at_652 rfl (pc' := 654) rfl ?_
  refine w_iload X at_654 rfl (pc' := 656) rfl ?_
  refine w_iload X at_656 rfl (pc' := 658) rfl ?_
  refine w_lloadN X at_658 rfl (pc' := 659) rfl ?_
  refine w_lload X at_659 rfl (pc' := 661) rfl ?_
  refine w_callS X [(.int ((25 : Int32) - fi)), (.int il), (.int fl), (.int z), (.int n), (.long u), (.long v)] [(.int (25 : Int32)), (.ref b1)] 2 (tw2 hw) (tw3 hw) (tw4 hw) (tw5 hw) (ct_fAt l Z a0 hw ((25 : Int32) - fi) il fl z n u v h147 n0 X.n0le) at_661 pd2 rfl (by decide) rfl rfl rfl (by decide) (by decide) (by decide) (by decide) (pc' := 664) rfl ?_
  intro T hz v X hQ
  obtain ⟨rfl, hz1⟩ := hQ; replace hz1 := hz1.symm; subst hz1
  show WP _ _ _ _ _ _ _ _ _ (mkF m 664 #[.val (.int a), .val (.int b), .val (.int d), .val (.long u), .second, .val (.long v), .second, .val (.int fg), .val (.int fi), .val (.int il), .val (.int fl), .val (.int z), .val (.int n), .val (.ref b1), .unset, .unset, .unset, .unset, .unset, .unset, .unset, .unset] [(.int (fAt ((25 : Int32) - fi) il fl z n u v)), (.int (25 : Int32)), (.ref b1)])
  refine w_bastore X (i := 25) (x' := (fAt ((25 : Int32) - fi) il fl z n u v)) O151 ga1 at_664 (by decide) (by decide) (fAt_nar _ _ _ _ _ _ _) (pc' := 665) rfl ?_; intro T h153 X K154 O155
  obtain ⟨g156, O157, H158⟩ := fill_step (F := FA fi il fl z n u v) O155 H152 rfl
  refine w_aload X at_665 rfl rfl (pc' := 667) rfl ?_
  refine w_bipush X at_667 (v := (26 : Int32)) (by decide) (pc' := 669) rfl ?_
  refine w_bipush X at_669 (v := (26 : Int32)) (by decide) (pc' := 671) rfl ?_
  refine w_iload X at_671 rfl (pc' := 673) rfl ?_
  refine w_isub X at_673 (pc' := 674) rfl ?_
  refine w_iload X at_674 rfl (pc' := 676) rfl ?_
  refine w_iload X at_676 rfl (pc' := 678) rfl ?_
  refine w_iload X at_678 rfl (pc' := 680) rfl ?_
  refine w_iload X at_680 rfl (pc' := 682) rfl ?_
  refine w_lloadN X at_682 rfl (pc' := 683) rfl ?_
  refine w_lload X at_683 rfl (pc' := 685) rfl ?_
  refine w_callS X [(.int ((26 : Int32) - fi)), (.int il), (.int fl), (.int z), (.int n), (.long u), (.long v)] [(.int (26 : Int32)), (.ref b1)] 2 (tw2 hw) (tw3 hw) (tw4 hw) (tw5 hw) (ct_fAt l Z a0 hw ((26 : Int32) - fi) il fl z n u v h153 n0 X.n0le) at_685 pd2 rfl (by decide) rfl rfl rfl (by decide) (by decide) (by decide) (by decide) (pc' := 688) rfl ?_
  intro T hz v X hQ
  obtain ⟨rfl, hz1⟩ := hQ; replace hz1 := hz1.symm; subst hz1
  show WP _ _ _ _ _ _ _ _ _ (mkF m 688 #[.val (.int a), .val (.int b), .val (.int d), .val (.long u), .second, .val (.long v), .second, .val (.int fg), .val (.int fi), .val (.int il), .val (.int fl), .val (.int z), .val (.int n), .val (.ref b1), .unset, .unset, .unset, .unset, .unset, .unset, .unset, .unset] [(.int (fAt ((26 : Int32) - fi) il fl z n u v)), (.int (26 : Int32)), (.ref b1)])
  refine w_bastore X (i := 26) (x' := (fAt ((26 : Int32) - fi) il fl z n u v)) O157 ga1 at_688 (by decide) (by decide) (fAt_nar _ _ _ _ _ _ _) (pc' := 689) rfl ?_; intro T h159 X K160 O161
  obtain ⟨g162, O163, H164⟩ := fill_step (F := FA fi il fl z n u v) O161 H158 rfl
  have HH := H164
  refine w_iload X at_689 rfl (pc' := 691) rfl ?_
  refine w_iload X at_691 rfl (pc' := 693) rfl ?_
  refine w_iadd X at_693 (pc' := 694) rfl ?_
  refine w_nameI ?_; intro po h_po
  refine w_istore X at_694 (L' := #[.val (.int a), .val (.int b), .val (.int d), .val (.long u), .second, .val (.long v), .second, .val (.int fg), .val (.int fi), .val (.int il), .val (.int fl), .val (.int z), .val (.int n), .val (.ref b1), .val (.int po), .unset, .unset, .unset, .unset, .unset, .unset, .unset]) rfl (pc' := 696) rfl ?_
  refine w_iload X at_696 rfl (pc' := 698) rfl ?_
  refine w_iconst X at_698 (v := (1 : Int32)) (by decide) (pc' := 699) rfl ?_
  refine w_iadd X at_699 (pc' := 700) rfl ?_
  refine w_iload X at_700 rfl (pc' := 702) rfl ?_
  refine w_iadd X at_702 (pc' := 703) rfl ?_
  refine w_nameI ?_; intro en h_en
  refine w_istore X at_703 (L' := #[.val (.int a), .val (.int b), .val (.int d), .val (.long u), .second, .val (.long v), .second, .val (.int fg), .val (.int fi), .val (.int il), .val (.int fl), .val (.int z), .val (.int n), .val (.ref b1), .val (.int po), .val (.int en), .unset, .unset, .unset, .unset, .unset, .unset]) rfl (pc' := 705) rfl ?_
  have J165 : ∀ T, St p l e room_1 s m #[(.int a), (.int b), (.int d), (.long u), (.long v), (.int fg)] below meth c Z n0 x code maxLocals ret T h159 ((((((((((((((((((((((((((((0 + 1) + 0) + 0) + 0) + 0) + 0) + 0) + 0) + 0) + 0) + 0) + 0) + 0) + 0) + 0) + 0) + 0) + 0) + 0) + 0) + 0) + 0) + 0) + 0) + 0) + 0) + 0) + 0) ((((((((((((((((((((((((((((0 + 27) + 0) + 0) + 0) + 0) + 0) + 0) + 0) + 0) + 0) + 0) + 0) + 0) + 0) + 0) + 0) + 0) + 0) + 0) + 0) + 0) + 0) + 0) + 0) + 0) + 0) + 0) + 0) → ∀ (wh : Int32), ((if z = fl then (1 : Int32) else 0) = wh) → WP p e below s n0 room_1.cells room_1.slots (fun r _ => r = some (.int 1)) T (mkF m 717 #[.val (.int a), .val (.int b), .val (.int d), .val (.long u), .second, .val (.long v), .second, .val (.int fg), .val (.int fi), .val (.int il), .val (.int fl), .val (.int z), .val (.int n), .val (.ref b1), .val (.int po), .val (.int en), .unset, .unset, .unset, .unset, .unset, .unset] [(.int wh)]) := by
    intro T X wh hwh
    refine w_istore X at_717 (L' := #[.val (.int a), .val (.int b), .val (.int d), .val (.long u), .second, .val (.long v), .second, .val (.int fg), .val (.int fi), .val (.int il), .val (.int fl), .val (.int z), .val (.int n), .val (.ref b1), .val (.int po), .val (.int en), .val (.int wh), .unset, .unset, .unset, .unset, .unset]) rfl (pc' := 719) rfl ?_
    have J166 : ∀ T, St p l e room_1 s m #[(.int a), (.int b), (.int d), (.long u), (.long v), (.int fg)] below meth c Z n0 x code maxLocals ret T h159 ((((((((((((((((((((((((((((0 + 1) + 0) + 0) + 0) + 0) + 0) + 0) + 0) + 0) + 0) + 0) + 0) + 0) + 0) + 0) + 0) + 0) + 0) + 0) + 0) + 0) + 0) + 0) + 0) + 0) + 0) + 0) + 0) ((((((((((((((((((((((((((((0 + 27) + 0) + 0) + 0) + 0) + 0) + 0) + 0) + 0) + 0) + 0) + 0) + 0) + 0) + 0) + 0) + 0) + 0) + 0) + 0) + 0) + 0) + 0) + 0) + 0) + 0) + 0) + 0) → ∀ (zi : Int32), ((if il = 1 then (if fDig u 0 = 0 then (1 : Int32) else 0) else 0) = zi) → WP p e below s n0 room_1.cells room_1.slots (fun r _ => r = some (.int 1)) T (mkF m 738 #[.val (.int a), .val (.int b), .val (.int d), .val (.long u), .second, .val (.long v), .second, .val (.int fg), .val (.int fi), .val (.int il), .val (.int fl), .val (.int z), .val (.int n), .val (.ref b1), .val (.int po), .val (.int en), .val (.int wh), .unset, .unset, .unset, .unset, .unset] [(.int zi)]) := by
      intro T X zi hzi
      refine w_istore X at_738 (L' := #[.val (.int a), .val (.int b), .val (.int d), .val (.long u), .second, .val (.long v), .second, .val (.int fg), .val (.int fi), .val (.int il), .val (.int fl), .val (.int z), .val (.int n), .val (.ref b1), .val (.int po), .val (.int en), .val (.int wh), .val (.int zi), .unset, .unset, .unset, .unset]) rfl (pc' := 740) rfl ?_
      have J167 : ∀ T, St p l e room_1 s m #[(.int a), (.int b), (.int d), (.long u), (.long v), (.int fg)] below meth c Z n0 x code maxLocals ret T h159 ((((((((((((((((((((((((((((0 + 1) + 0) + 0) + 0) + 0) + 0) + 0) + 0) + 0) + 0) + 0) + 0) + 0) + 0) + 0) + 0) + 0) + 0) + 0) + 0) + 0) + 0) + 0) + 0) + 0) + 0) + 0) + 0) ((((((((((((((((((((((((((((0 + 27) + 0) + 0) + 0) + 0) + 0) + 0) + 0) + 0) + 0) + 0) + 0) + 0) + 0) + 0) + 0) + 0) + 0) + 0) + 0) + 0) + 0) + 0) + 0) + 0) + 0) + 0) + 0) → ∀ (sg : Int32), ((if zi = 0 then il + fl else fl - z) = sg) → WP p e below s n0 room_1.cells room_1.slots (fun r _ => r = some (.int 1)) T (mkF m 758 #[.val (.int a), .val (.int b), .val (.int d), .val (.long u), .second, .val (.long v), .second, .val (.int fg), .val (.int fi), .val (.int il), .val (.int fl), .val (.int z), .val (.int n), .val (.ref b1), .val (.int po), .val (.int en), .val (.int wh), .val (.int zi), .unset, .unset, .unset, .unset] [(.int sg)]) := by
        intro T X sg hsg
        refine w_istore X at_758 (L' := #[.val (.int a), .val (.int b), .val (.int d), .val (.long u), .second, .val (.long v), .second, .val (.int fg), .val (.int fi), .val (.int il), .val (.int fl), .val (.int z), .val (.int n), .val (.ref b1), .val (.int po), .val (.int en), .val (.int wh), .val (.int zi), .val (.int sg), .unset, .unset, .unset]) rfl (pc' := 760) rfl ?_
        have J168 : ∀ T, St p l e room_1 s m #[(.int a), (.int b), (.int d), (.long u), (.long v), (.int fg)] below meth c Z n0 x code maxLocals ret T h159 ((((((((((((((((((((((((((((0 + 1) + 0) + 0) + 0) + 0) + 0) + 0) + 0) + 0) + 0) + 0) + 0) + 0) + 0) + 0) + 0) + 0) + 0) + 0) + 0) + 0) + 0) + 0) + 0) + 0) + 0) + 0) + 0) ((((((((((((((((((((((((((((0 + 27) + 0) + 0) + 0) + 0) + 0) + 0) + 0) + 0) + 0) + 0) + 0) + 0) + 0) + 0) + 0) + 0) + 0) + 0) + 0) + 0) + 0) + 0) + 0) + 0) + 0) + 0) + 0) → ∀ (ln : Int32), ((if wh = 0 then (if z = fl - 1 then (1 : Int32) else if fFree (fl - 1) u v = 0 then 0 else 1) else 0) = ln) → WP p e below s n0 room_1.cells room_1.slots (fun r _ => r = some (.int 1)) T (mkF m 792 #[.val (.int a), .val (.int b), .val (.int d), .val (.long u), .second, .val (.long v), .second, .val (.int fg), .val (.int fi), .val (.int il), .val (.int fl), .val (.int z), .val (.int n), .val (.ref b1), .val (.int po), .val (.int en), .val (.int wh), .val (.int zi), .val (.int sg), .unset, .unset, .unset] [(.int ln)]) := by
          intro T X ln hln
          refine w_istore X at_792 (L' := #[.val (.int a), .val (.int b), .val (.int d), .val (.long u), .second, .val (.long v), .second, .val (.int fg), .val (.int fi), .val (.int il), .val (.int fl), .val (.int z), .val (.int n), .val (.ref b1), .val (.int po), .val (.int en), .val (.int wh), .val (.int zi), .val (.int sg), .val (.int ln), .unset, .unset]) rfl (pc' := 794) rfl ?_
          have J169 : ∀ T, St p l e room_1 s m #[(.int a), (.int b), (.int d), (.long u), (.long v), (.int fg)] below meth c Z n0 x code maxLocals ret T h159 ((((((((((((((((((((((((((((0 + 1) + 0) + 0) + 0) + 0) + 0) + 0) + 0) + 0) + 0) + 0) + 0) + 0) + 0) + 0) + 0) + 0) + 0) + 0) + 0) + 0) + 0) + 0) + 0) + 0) + 0) + 0) + 0) ((((((((((((((((((((((((((((0 + 27) + 0) + 0) + 0) + 0) + 0) + 0) + 0) + 0) + 0) + 0) + 0) + 0) + 0) + 0) + 0) + 0) + 0) + 0) + 0) + 0) + 0) + 0) + 0) + 0) + 0) + 0) + 0) → ∀ (ex : Int32), (fEx sg il zi z ln wh fl = ex) → WP p e below s n0 room_1.cells room_1.slots (fun r _ => r = some (.int 1)) T (mkF m 846 #[.val (.int a), .val (.int b), .val (.int d), .val (.long u), .second, .val (.long v), .second, .val (.int fg), .val (.int fi), .val (.int il), .val (.int fl), .val (.int z), .val (.int n), .val (.ref b1), .val (.int po), .val (.int en), .val (.int wh), .val (.int zi), .val (.int sg), .val (.int ln), .unset, .unset] [(.int ex)]) := by
            intro T X ex hex
            refine w_istore X at_846 (L' := #[.val (.int a), .val (.int b), .val (.int d), .val (.long u), .second, .val (.long v), .second, .val (.int fg), .val (.int fi), .val (.int il), .val (.int fl), .val (.int z), .val (.int n), .val (.ref b1), .val (.int po), .val (.int en), .val (.int wh), .val (.int zi), .val (.int sg), .val (.int ln), .val (.int ex), .unset]) rfl (pc' := 848) rfl ?_
            refine w_aload X at_848 rfl rfl (pc' := 850) rfl ?_
            refine w_iload X at_850 rfl (pc' := 852) rfl ?_
            refine w_iload X at_852 rfl (pc' := 854) rfl ?_
            refine w_iload X at_854 rfl (pc' := 856) rfl ?_
            refine w_iload X at_856 rfl (pc' := 858) rfl ?_
            obtain ⟨i1, ie, p1, p2, p3, h1, l1, he, le, hp1, lp1, hp2, lp2, hp3, lp3, i1e, iee, p1e⟩ := idxs hF hI hL h_po h_en
            refine w_callS X [(.ref b1), (.int fi), (.int po), (.int en), (.int sg)] [] 0 (tw14 hw) (tw15 hw) (tw16 hw) (tw17 hw) (ct_sh l Z a0 hw b1 fi po en sg 27 i1 ie p1 p2 p3 g162 h159 n0 X.n0le O163 h1 l1 he le hp1 lp1 hp2 lp2 hp3 lp3) at_858 pd3 rfl (by decide) rfl rfl rfl (by decide) (by decide) (by decide) (by decide) (pc' := 861) rfl ?_
            intro T hz v X hQ
            obtain ⟨rfl, hz1⟩ := hQ; replace hz1 := hz1.symm; subst hz1
            show WP _ _ _ _ _ _ _ _ _ (mkF m 861 #[.val (.int a), .val (.int b), .val (.int d), .val (.long u), .second, .val (.long v), .second, .val (.int fg), .val (.int fi), .val (.int il), .val (.int fl), .val (.int z), .val (.int n), .val (.ref b1), .val (.int po), .val (.int en), .val (.int wh), .val (.int zi), .val (.int sg), .val (.int ln), .val (.int ex), .unset] [(.int (fSh g162 i1 ie p1 p2 p3 fi po en sg))])
            refine w_istore X at_861 (L' := #[.val (.int a), .val (.int b), .val (.int d), .val (.long u), .second, .val (.long v), .second, .val (.int fg), .val (.int fi), .val (.int il), .val (.int fl), .val (.int z), .val (.int n), .val (.ref b1), .val (.int po), .val (.int en), .val (.int wh), .val (.int zi), .val (.int sg), .val (.int ln), .val (.int ex), .val (.int (fSh g162 i1 ie p1 p2 p3 fi po en sg))]) rfl (pc' := 863) rfl ?_
            refine w_iload X at_863 rfl (pc' := 865) rfl ?_
            refine w_iload X at_865 rfl (pc' := 867) rfl ?_
            refine w_icmp_ne X at_867 (by decide) (p1 := 874) (by decide) (p2 := 870) rfl (fun c867 => False.elim (c867 (same HH hF hI hL hZ2 hN hwh hzi hsg hln hex h1 he hp1 hp2 hp3 h_po h_en))) (fun c867 => ?_)
            refine w_iconst X at_870 (v := (1 : Int32)) (by decide) (pc' := 871) rfl ?_
            refine w_goto X at_871 (by decide) (pc' := 875) (by decide) ?_
            exact w_retZ X rfl at_875 (by decide) (by decide) (by decide) rfl
          refine w_iload X at_794 rfl (pc' := 796) rfl ?_
          refine w_iconst X at_796 (v := (1 : Int32)) (by decide) (pc' := 797) rfl ?_
          refine w_icmp_lt X at_797 (by decide) (p1 := 845) (by decide) (p2 := 800) rfl (fun c797 => ?_) (fun c797 => ?_)
          · -- c797 taken
            refine w_iconst X at_845 (v := (0 : Int32)) (by decide) (pc' := 846) rfl ?_
            exact J169 T X (0 : Int32) (by simp only [fEx, if_pos c797])
          · -- c797 not taken
            refine w_iload X at_800 rfl (pc' := 802) rfl ?_
            refine w_bipush X at_802 (v := (15 : Int32)) (by decide) (pc' := 804) rfl ?_
            refine w_icmp_gt X at_804 (by decide) (p1 := 845) (by decide) (p2 := 807) rfl (fun c804 => ?_) (fun c804 => ?_)
            · -- c804 taken
              refine w_iconst X at_845 (v := (0 : Int32)) (by decide) (pc' := 846) rfl ?_
              exact J169 T X (0 : Int32) (by simp only [fEx, if_neg c797, if_pos c804])
            · -- c804 not taken
              refine w_iload X at_807 rfl (pc' := 809) rfl ?_
              refine w_bipush X at_809 (v := (7 : Int32)) (by decide) (pc' := 811) rfl ?_
              refine w_icmp_gt X at_811 (by decide) (p1 := 845) (by decide) (p2 := 814) rfl (fun c811 => ?_) (fun c811 => ?_)
              · -- c811 taken
                refine w_iconst X at_845 (v := (0 : Int32)) (by decide) (pc' := 846) rfl ?_
                exact J169 T X (0 : Int32) (by simp only [fEx, if_neg c797, if_neg c804, if_pos c811])
              · -- c811 not taken
                refine w_iload X at_814 rfl (pc' := 816) rfl ?_
                refine w_if_eq X at_816 (by decide) (p1 := 825) (by decide) (p2 := 819) rfl (fun c816 => ?_) (fun c816 => ?_)
                · -- c816 taken
                  refine w_iload X at_825 rfl (pc' := 827) rfl ?_
                  refine w_if_ne X at_827 (by decide) (p1 := 841) (by decide) (p2 := 830) rfl (fun c827 => ?_) (fun c827 => ?_)
                  · -- c827 taken
                    refine w_iconst X at_841 (v := (1 : Int32)) (by decide) (pc' := 842) rfl ?_
                    refine w_goto X at_842 (by decide) (pc' := 846) (by decide) ?_
                    exact J169 T X (1 : Int32) (by simp only [fEx, if_neg c797, if_neg c804, if_neg c811, if_pos c816, if_neg c827])
                  · -- c827 not taken
                    refine w_iload X at_830 rfl (pc' := 832) rfl ?_
                    refine w_if_eq X at_832 (by decide) (p1 := 845) (by decide) (p2 := 835) rfl (fun c832 => ?_) (fun c832 => ?_)
                    · -- c832 taken
                      refine w_iconst X at_845 (v := (0 : Int32)) (by decide) (pc' := 846) rfl ?_
                      exact J169 T X (0 : Int32) (by simp only [fEx, if_neg c797, if_neg c804, if_neg c811, if_pos c816, if_pos c827, if_pos c832])
                    · -- c832 not taken
                      refine w_iload X at_835 rfl (pc' := 837) rfl ?_
                      refine w_iconst X at_837 (v := (1 : Int32)) (by decide) (pc' := 838) rfl ?_
                      refine w_icmp_ne X at_838 (by decide) (p1 := 845) (by decide) (p2 := 841) rfl (fun c838 => ?_) (fun c838 => ?_)
                      · -- c838 taken
                        refine w_iconst X at_845 (v := (0 : Int32)) (by decide) (pc' := 846) rfl ?_
                        exact J169 T X (0 : Int32) (by simp only [fEx, if_neg c797, if_neg c804, if_neg c811, if_pos c816, if_pos c827, if_neg c832, if_neg c838])
                      · -- c838 not taken
                        refine w_iconst X at_841 (v := (1 : Int32)) (by decide) (pc' := 842) rfl ?_
                        refine w_goto X at_842 (by decide) (pc' := 846) (by decide) ?_
                        exact J169 T X (1 : Int32) (by simp only [fEx, if_neg c797, if_neg c804, if_neg c811, if_pos c816, if_pos c827, if_neg c832, if_pos c838])
                · -- c816 not taken
                  refine w_iload X at_819 rfl (pc' := 821) rfl ?_
                  refine w_iconst X at_821 (v := (3 : Int32)) (by decide) (pc' := 822) rfl ?_
                  refine w_icmp_ge X at_822 (by decide) (p1 := 845) (by decide) (p2 := 825) rfl (fun c822 => ?_) (fun c822 => ?_)
                  · -- c822 taken
                    refine w_iconst X at_845 (v := (0 : Int32)) (by decide) (pc' := 846) rfl ?_
                    exact J169 T X (0 : Int32) (by simp only [fEx, if_neg c797, if_neg c804, if_neg c811, if_neg c816, if_neg c822])
                  · -- c822 not taken
                    refine w_iload X at_825 rfl (pc' := 827) rfl ?_
                    refine w_if_ne X at_827 (by decide) (p1 := 841) (by decide) (p2 := 830) rfl (fun c827 => ?_) (fun c827 => ?_)
                    · -- c827 taken
                      refine w_iconst X at_841 (v := (1 : Int32)) (by decide) (pc' := 842) rfl ?_
                      refine w_goto X at_842 (by decide) (pc' := 846) (by decide) ?_
                      exact J169 T X (1 : Int32) (by simp only [fEx, if_neg c797, if_neg c804, if_neg c811, if_neg c816, if_pos c822, if_neg c827])
                    · -- c827 not taken
                      refine w_iload X at_830 rfl (pc' := 832) rfl ?_
                      refine w_if_eq X at_832 (by decide) (p1 := 845) (by decide) (p2 := 835) rfl (fun c832 => ?_) (fun c832 => ?_)
                      · -- c832 taken
                        refine w_iconst X at_845 (v := (0 : Int32)) (by decide) (pc' := 846) rfl ?_
                        exact J169 T X (0 : Int32) (by simp only [fEx, if_neg c797, if_neg c804, if_neg c811, if_neg c816, if_pos c822, if_pos c827, if_pos c832])
                      · -- c832 not taken
                        refine w_iload X at_835 rfl (pc' := 837) rfl ?_
                        refine w_iconst X at_837 (v := (1 : Int32)) (by decide) (pc' := 838) rfl ?_
                        refine w_icmp_ne X at_838 (by decide) (p1 := 845) (by decide) (p2 := 841) rfl (fun c838 => ?_) (fun c838 => ?_)
                        · -- c838 taken
                          refine w_iconst X at_845 (v := (0 : Int32)) (by decide) (pc' := 846) rfl ?_
                          exact J169 T X (0 : Int32) (by simp only [fEx, if_neg c797, if_neg c804, if_neg c811, if_neg c816, if_pos c822, if_pos c827, if_neg c832, if_neg c838])
                        · -- c838 not taken
                          refine w_iconst X at_841 (v := (1 : Int32)) (by decide) (pc' := 842) rfl ?_
                          refine w_goto X at_842 (by decide) (pc' := 846) (by decide) ?_
                          exact J169 T X (1 : Int32) (by simp only [fEx, if_neg c797, if_neg c804, if_neg c811, if_neg c816, if_pos c822, if_pos c827, if_neg c832, if_pos c838])
        refine w_iload X at_760 rfl (pc' := 762) rfl ?_
        refine w_if_ne X at_762 (by decide) (p1 := 791) (by decide) (p2 := 765) rfl (fun c762 => ?_) (fun c762 => ?_)
        · -- c762 taken
          refine w_iconst X at_791 (v := (0 : Int32)) (by decide) (pc' := 792) rfl ?_
          exact J168 T X (0 : Int32) (by simp only [if_neg c762])
        · -- c762 not taken
          refine w_iload X at_765 rfl (pc' := 767) rfl ?_
          refine w_iload X at_767 rfl (pc' := 769) rfl ?_
          refine w_iconst X at_769 (v := (1 : Int32)) (by decide) (pc' := 770) rfl ?_
          refine w_isub X at_770 (pc' := 771) rfl ?_
          refine w_icmp_eq X at_771 (by decide) (p1 := 787) (by decide) (p2 := 774) rfl (fun c771 => ?_) (fun c771 => ?_)
          · -- c771 taken
            refine w_iconst X at_787 (v := (1 : Int32)) (by decide) (pc' := 788) rfl ?_
            refine w_goto X at_788 (by decide) (pc' := 792) (by decide) ?_
            exact J168 T X (1 : Int32) (by simp only [if_pos c762, if_pos c771])
          · -- c771 not taken
            refine w_iload X at_774 rfl (pc' := 776) rfl ?_
            refine w_iconst X at_776 (v := (1 : Int32)) (by decide) (pc' := 777) rfl ?_
            refine w_isub X at_777 (pc' := 778) rfl ?_
            refine w_lloadN X at_778 rfl (pc' := 779) rfl ?_
            refine w_lload X at_779 rfl (pc' := 781) rfl ?_
            refine w_callS X [(.int (fl - (1 : Int32))), (.long u), (.long v)] [] 0 (tw11 hw) (tw12 hw) (tw4 hw) (tw13 hw) (ct_fFree l Z a0 hw (fl - (1 : Int32)) u v h159 n0 X.n0le) at_781 pd1 rfl (by decide) rfl rfl rfl (by decide) (by decide) (by decide) (by decide) (pc' := 784) rfl ?_
            intro T hz v X hQ
            obtain ⟨rfl, hz1⟩ := hQ; replace hz1 := hz1.symm; subst hz1
            show WP _ _ _ _ _ _ _ _ _ (mkF m 784 #[.val (.int a), .val (.int b), .val (.int d), .val (.long u), .second, .val (.long v), .second, .val (.int fg), .val (.int fi), .val (.int il), .val (.int fl), .val (.int z), .val (.int n), .val (.ref b1), .val (.int po), .val (.int en), .val (.int wh), .val (.int zi), .val (.int sg), .unset, .unset, .unset] [(.int (fFree (fl - (1 : Int32)) u v))])
            refine w_if_eq X at_784 (by decide) (p1 := 791) (by decide) (p2 := 787) rfl (fun c784 => ?_) (fun c784 => ?_)
            · -- c784 taken
              refine w_iconst X at_791 (v := (0 : Int32)) (by decide) (pc' := 792) rfl ?_
              exact J168 T X (0 : Int32) (by simp only [if_pos c762, if_neg c771, if_pos c784])
            · -- c784 not taken
              refine w_iconst X at_787 (v := (1 : Int32)) (by decide) (pc' := 788) rfl ?_
              refine w_goto X at_788 (by decide) (pc' := 792) (by decide) ?_
              exact J168 T X (1 : Int32) (by simp only [if_pos c762, if_neg c771, if_neg c784])
      refine w_iload X at_740 rfl (pc' := 742) rfl ?_
      refine w_if_eq X at_742 (by decide) (p1 := 753) (by decide) (p2 := 745) rfl (fun c742 => ?_) (fun c742 => ?_)
      · -- c742 taken
        refine w_iload X at_753 rfl (pc' := 755) rfl ?_
        refine w_iload X at_755 rfl (pc' := 757) rfl ?_
        refine w_iadd X at_757 (pc' := 758) rfl ?_
        exact J167 T X (il + fl) (by simp only [if_pos c742])
      · -- c742 not taken
        refine w_iload X at_745 rfl (pc' := 747) rfl ?_
        refine w_iload X at_747 rfl (pc' := 749) rfl ?_
        refine w_isub X at_749 (pc' := 750) rfl ?_
        refine w_goto X at_750 (by decide) (pc' := 758) (by decide) ?_
        exact J167 T X (fl - z) (by simp only [if_neg c742])
    refine w_iload X at_719 rfl (pc' := 721) rfl ?_
    refine w_iconst X at_721 (v := (1 : Int32)) (by decide) (pc' := 722) rfl ?_
    refine w_icmp_ne X at_722 (by decide) (p1 := 737) (by decide) (p2 := 725) rfl (fun c722 => ?_) (fun c722 => ?_)
    · -- c722 taken
      refine w_iconst X at_737 (v := (0 : Int32)) (by decide) (pc' := 738) rfl ?_
      exact J166 T X (0 : Int32) (by simp only [if_neg c722])
    · -- c722 not taken
      refine w_lloadN X at_725 rfl (pc' := 726) rfl ?_
      refine w_iconst X at_726 (v := (0 : Int32)) (by decide) (pc' := 727) rfl ?_
      refine w_callS X [(.long u), (.int (0 : Int32))] [] 0 (tw6 hw) (tw7 hw) (tw4 hw) (tw8 hw) (ct_fDig l Z a0 hw u (0 : Int32) h159 n0 X.n0le) at_727 pd0 rfl (by decide) rfl rfl rfl (by decide) (by decide) (by decide) (by decide) (pc' := 730) rfl ?_
      intro T hz v X hQ
      obtain ⟨rfl, hz1⟩ := hQ; replace hz1 := hz1.symm; subst hz1
      show WP _ _ _ _ _ _ _ _ _ (mkF m 730 #[.val (.int a), .val (.int b), .val (.int d), .val (.long u), .second, .val (.long v), .second, .val (.int fg), .val (.int fi), .val (.int il), .val (.int fl), .val (.int z), .val (.int n), .val (.ref b1), .val (.int po), .val (.int en), .val (.int wh), .unset, .unset, .unset, .unset, .unset] [(.int (fDig u (0 : Int32)))])
      refine w_if_ne X at_730 (by decide) (p1 := 737) (by decide) (p2 := 733) rfl (fun c730 => ?_) (fun c730 => ?_)
      · -- c730 taken
        refine w_iconst X at_737 (v := (0 : Int32)) (by decide) (pc' := 738) rfl ?_
        exact J166 T X (0 : Int32) (by simp only [if_pos c722, if_neg c730])
      · -- c730 not taken
        refine w_iconst X at_733 (v := (1 : Int32)) (by decide) (pc' := 734) rfl ?_
        refine w_goto X at_734 (by decide) (pc' := 738) (by decide) ?_
        exact J166 T X (1 : Int32) (by simp only [if_pos c722, if_pos c730])
  refine w_iload X at_705 rfl (pc' := 707) rfl ?_
  refine w_iload X at_707 rfl (pc' := 709) rfl ?_
  refine w_icmp_ne X at_709 (by decide) (p1 := 716) (by decide) (p2 := 712) rfl (fun c709 => ?_) (fun c709 => ?_)
  · -- c709 taken
    refine w_iconst X at_716 (v := (0 : Int32)) (by decide) (pc' := 717) rfl ?_
    exact J165 T X (0 : Int32) (by simp only [if_neg c709])
  · -- c709 not taken
    refine w_iconst X at_712 (v := (1 : Int32)) (by decide) (pc' := 713) rfl ?_
    refine w_goto X at_713 (by decide) (pc' := 717) (by decide) ?_
    exact J165 T X (1 : Int32) (by simp only [if_pos c709])
set_option maxRecDepth 65536 in
set_option maxHeartbeats 4000000 in
theorem comes_1 {Post : Tables → Env → Array Value → State → Outcome → State → Prop} (hpost : ∀ tb e args s v u, (limb_1_1.after args s (.returned v) u = true ∧ limb_1_2.after args s (.returned v) u = true ∧ True) → FrameEnd s (.returned v) u (Jvm.fieldLocs frame_1_writes args s ++ Jvm.arrayLocs frame_1_arrays args s ++ Jvm.staticLocs frame_1_statics s) 16 128 → Post tb e args s (.returned v) u) :
    ArmFor flags0 classFile x code maxLocals ret World_1 tables_1 room_1 Calls_1 rest_1 Pre_1 Post := by
  intro l hfl _ _ p e ha hc hk s m args below hf hA hF happ hP
  obtain ⟨hcalls, hrest, hpre⟩ := hP
  obtain ⟨-, -, -, hnamed, -, -, -, hat⟩ := (Spec.applies_iff hf).mp happ
  obtain ⟨hg, hn⟩ := and_e (Cond.before_iff.mp (show (Jvm.Cond.and given_1 narrow_1).before args s = true from hpre))
  obtain ⟨g1a, g1b⟩ := and_e hg
  obtain ⟨g2a, g2b⟩ := and_e g1b
  obtain ⟨g3a, g3b⟩ := and_e g2b
  obtain ⟨g4a, g4b⟩ := and_e g3b
  obtain ⟨g5a, g5b⟩ := and_e g4b
  obtain ⟨g6a, g6b⟩ := and_e g5b
  obtain ⟨w0, w1, w2, w3, w4, w5, rfl⟩ : ∃ w0 w1 w2 w3 w4 w5 : Value, args = #[w0, w1, w2, w3, w4, w5] := by
    have hs : args.size = 6 := by simpa [Cond.value, given_1] using g1a
    obtain ⟨L⟩ := args
    match L, hs with
    | [w0, w1, w2, w3, w4, w5], _ => exact ⟨w0, w1, w2, w3, w4, w5, rfl⟩
  have hw := fun d (hd : d ∈ tables_1) => atoms_spec (ws := Jvm.Cond.code x code maxLocals ret :: tables_1) hat d (List.mem_cons_of_mem _ hd)
  obtain ⟨i0, ei0⟩ := is_v g2a
  obtain rfl : w0 = (.int i0) := Option.some.inj ei0
  obtain ⟨i1, ei1⟩ := is_v g3a
  obtain rfl : w1 = (.int i1) := Option.some.inj ei1
  obtain ⟨i2, ei2⟩ := is_v g4a
  obtain rfl : w2 = (.int i2) := Option.some.inj ei2
  obtain ⟨i3, ei3⟩ := isL_v g5a
  obtain rfl : w3 = (.long i3) := Option.some.inj ei3
  obtain ⟨i4, ei4⟩ := isL_v g6a
  obtain rfl : w4 = (.long i4) := Option.some.inj ei4
  obtain ⟨i5, ei5⟩ := is_v g6b
  obtain rfl : w5 = (.int i5) := Option.some.inj ei5
  obtain ⟨n, o, h1, h2, h3, _, L, rfl, ⟨rfl, N⟩, hq⟩ := ct_law l s _ hw i0 i1 i2 i3 i4 i5 s.heap s.heap.size (Nat.le_refl _) tables_1 p e ha hc hk s m _ below hf ((Spec.applies_iff_loose hf).mp happ).1 ⟨rfl, State.Warmed39.refl s, rfl⟩ trivial
  exact ⟨n, _, h1, h2, h3, hpost _ _ _ _ _ _ ⟨Cond.after_iff.mpr rfl, Cond.after_iff.mpr (eq_i res_at (Term.int_eval (1)) rfl), trivial⟩ ⟨hq.1, hq.2.1, (hq.2.2.sift fun y hy => Or.inr (N y hy)).mono (by decide) (by decide)⟩⟩
theorem main_1_1 : Claimed_1_1 := comes_1 fun _ _ _ _ _ _ h hF => ⟨h.1, hF⟩
theorem main_1_2 : Claimed_1_2 := comes_1 fun _ _ _ _ _ _ h hF => ⟨h.2.1, hF⟩
end Jvm.Pilot.@@N@@
namespace Jvm.Pilot.@@N@@
open Jvm Jvm.ClassFile Sem Op Lib Jvm.Free Jvm.Stand Jvm.Pilot.@@N@@.Jvm.D
/-! MADE BY PROGRAM (witnessworld.py) out of the Statement's table words and the real class files: 9 classes; the members and pool entries that the words name. The judged class is class 1, her method 4. -/
namespace start1
open Jvm.ClassFile
def u (s : String) : CpInfo := .utf8 (stringToUtf16 s)
/-- a pool by its gaps: so many unusable entries, then the entry; so many at the end -/
def gap : Nat → List CpInfo → List CpInfo
  | 0, r => r
  | n + 1, r => .unusable :: gap n r
def poolList (es : List (Nat × CpInfo)) (last : Nat) : List CpInfo := es.foldr (fun e r => gap e.1 (e.2 :: r)) (gap last [])
def pool (es : List (Nat × CpInfo)) (last : Nat) : Array CpInfo := ⟨poolList es last⟩
def fileOf (pool : Array CpInfo) (this : Nat) (attrs : Array Attribute := #[]) (ms : Array MethodInfo := #[]) (fl : Nat := 33) (sup : Nat := 0) (ifs : Array Nat := #[]) (fds : Array FieldInfo := #[]) : ClassFile where
  minorVersion := 0
  majorVersion := 65
  constantPool := pool
  accessFlags := fl
  thisClass := this
  superClass := sup
  interfaces := ifs
  fields := fds
  methods := ms
  attributes := attrs
def plain (name : String) (sup : Option ClassId) : Class where
  name := name
  kind := .ordinary
  loader := none
  accessFlags := 33
  super := sup
  interfaces := #[]
  cf := none
  fields := #[]
  methods := #[]
  instanceTypes := #[]
  staticTypes := #[]
  resolved := #[]
  callSites := []
  init := .initialized
  statics := none
  mirror := none

def pool0 : Array CpInfo := pool [(5, u "<init>"), (0, u "()V"), (1, .class_ 10), (1, u "java/lang/Object")] 113

def k0m0 : Method := { name := "<init>", desc := "()V", sig := { parameters := [], returnType := none }, accessFlags := 1, code := none }
/-- java/lang/Object -/
def k0 : Class := { plain "java/lang/Object" none with
  accessFlags := 33
  interfaces := #[]
  cf := some (fileOf pool0 8 #[] #[{ accessFlags := 1, nameIndex := 5, descriptorIndex := 6, attributes := #[] }] 33 0 #[] #[])
  fields := #[]
  methods := #[k0m0]
  instanceTypes := #[]
  staticTypes := #[]
  resolved := Array.replicate 124 none
  statics := none }

def pool1 : Array CpInfo := pool [(2, .class_ 4), (1, u "java/lang/Object"), (0, u "<init>"), (0, u "()V"), (0, .long 15), (1, .long 10), (1, .methodref 12 13), (0, .class_ 14), (0, .nameAndType 15 16), (0, u "com/example/varve/varve/json/NumbersIsShortestPinLaw"), (0, u "dig"), (0, u "(JI)I"), (0, .methodref 12 18), (0, .nameAndType 19 20), (0, u "free"), (0, u "(IJJ)I"), (0, .integer 2147483647), (0, .methodref 12 23), (0, .nameAndType 24 25), (0, u "at"), (0, u "(IIIIIJJ)B"), (0, .methodref 27 28), (0, .class_ 29), (0, .nameAndType 30 31), (0, u "com/example/varve/varve/json/Numbers"), (0, u "isShortest"), (0, u "([BIIII)Z"), (3, u "law"), (0, u "(IIIJJI)Z")] 4

def k1m0 : Method := { name := "<init>", desc := "()V", sig := { parameters := [], returnType := none }, accessFlags := 2, code := none }
def k1c1 : Code := { maxStack := 4, maxLocals := 3, code := method_2_code, exceptionTable := #[], attributes := #[] }
def k1m1 : Method := { name := "dig", desc := "(JI)I", sig := { parameters := [.long, .int], returnType := some .int }, accessFlags := 10, code := some k1c1 }
def k1c2 : Code := { maxStack := 4, maxLocals := 5, code := method_3_code, exceptionTable := #[], attributes := #[] }
def k1m2 : Method := { name := "free", desc := "(IJJ)I", sig := { parameters := [.int, .long, .long], returnType := some .int }, accessFlags := 10, code := some k1c2 }
def k1c3 : Code := { maxStack := 6, maxLocals := 10, code := method_4_code, exceptionTable := #[], attributes := #[] }
def k1m3 : Method := { name := "at", desc := "(IIIIIJJ)B", sig := { parameters := [.int, .int, .int, .int, .int, .long, .long], returnType := some .byte }, accessFlags := 10, code := some k1c3 }
def k1c4 : Code := { maxStack := 11, maxLocals := 22, code := code, exceptionTable := #[], attributes := #[] }
def k1m4 : Method := { name := "law", desc := "(IIIJJI)Z", sig := { parameters := [.int, .int, .int, .long, .long, .int], returnType := some .boolean }, accessFlags := 9, code := some k1c4 }
/-- com/example/varve/varve/json/NumbersIsShortestPinLaw -/
def k1 : Class := { plain "com/example/varve/varve/json/NumbersIsShortestPinLaw" (some 0) with
  accessFlags := 49
  interfaces := #[]
  cf := some (fileOf pool1 12 #[] #[{ accessFlags := 2, nameIndex := 5, descriptorIndex := 6, attributes := #[] }, { accessFlags := 10, nameIndex := 15, descriptorIndex := 16, attributes := #[] }, { accessFlags := 10, nameIndex := 19, descriptorIndex := 20, attributes := #[] }, { accessFlags := 10, nameIndex := 24, descriptorIndex := 25, attributes := #[] }, { accessFlags := 9, nameIndex := 35, descriptorIndex := 36, attributes := #[] }] 49 2 #[] #[])
  fields := #[]
  methods := #[k1m0, k1m1, k1m2, k1m3, k1m4]
  instanceTypes := #[]
  staticTypes := #[]
  resolved := Array.replicate 41 none
  statics := none }

def pool2 : Array CpInfo := pool [(2, .class_ 4), (1, u "java/lang/Object"), (0, u "<init>"), (0, u "()V"), (19, .class_ 27), (0, u "com/example/varve/varve/json/Numbers"), (8, u "EXACT_POWERS"), (0, u "[D"), (8, u "EXACT_DIGITS"), (0, u "I"), (2, u "EXPONENT_DIGITS"), (11, u "isShortest"), (0, u "([BIIII)Z")] 3

def k2m0 : Method := { name := "<init>", desc := "()V", sig := { parameters := [], returnType := none }, accessFlags := 2, code := none }
def k2c1 : Code := { maxStack := 3, maxLocals := 6, code := prog_82_method_6_code, exceptionTable := #[], attributes := #[] }
def k2m1 : Method := { name := "isShortest", desc := "([BIIII)Z", sig := { parameters := [(.array .byte), .int, .int, .int, .int], returnType := some .boolean }, accessFlags := 8, code := some k2c1 }
/-- com/example/varve/varve/json/Numbers -/
def k2 : Class := { plain "com/example/varve/varve/json/Numbers" (some 0) with
  accessFlags := 48
  interfaces := #[]
  cf := some (fileOf pool2 26 #[] #[{ accessFlags := 2, nameIndex := 5, descriptorIndex := 6, attributes := #[] }, { accessFlags := 8, nameIndex := 62, descriptorIndex := 63, attributes := #[] }] 48 2 #[] #[{ accessFlags := 26, nameIndex := 36, descriptorIndex := 37, attributes := #[] }, { accessFlags := 26, nameIndex := 46, descriptorIndex := 47, attributes := #[] }, { accessFlags := 26, nameIndex := 50, descriptorIndex := 47, attributes := #[] }])
  fields := #[{ name := "EXACT_POWERS", type := (.array .double), accessFlags := 26, slot := 0, constantValue := 0 }, { name := "EXACT_DIGITS", type := .int, accessFlags := 26, slot := 1, constantValue := 0 }, { name := "EXPONENT_DIGITS", type := .int, accessFlags := 26, slot := 2, constantValue := 0 }]
  methods := #[k2m0, k2m1]
  instanceTypes := #[]
  staticTypes := #[(.array .double), .int, .int]
  resolved := Array.replicate 67 none
  statics := none }

def pool3 : Array CpInfo := pool [(1, u "java/lang/Cloneable"), (0, .class_ 1), (0, u "java/lang/Object"), (0, .class_ 3)] 3

/-- java/lang/Cloneable -/
def k3 : Class := { plain "java/lang/Cloneable" (some 0) with
  accessFlags := 1537
  interfaces := #[]
  cf := some (fileOf pool3 2 #[] #[] 1537 4 #[] #[])
  fields := #[]
  methods := #[]
  instanceTypes := #[]
  staticTypes := #[]
  resolved := Array.replicate 8 none
  statics := none }

def pool4 : Array CpInfo := pool [(1, u "java/io/Serializable"), (0, .class_ 1), (0, u "java/lang/Object"), (0, .class_ 3)] 3

/-- java/io/Serializable -/
def k4 : Class := { plain "java/io/Serializable" (some 0) with
  accessFlags := 1537
  interfaces := #[]
  cf := some (fileOf pool4 2 #[] #[] 1537 4 #[] #[])
  fields := #[]
  methods := #[]
  instanceTypes := #[]
  staticTypes := #[]
  resolved := Array.replicate 8 none
  statics := none }

/-- the primitive byte -/
def k5 : Class := { plain "byte" none with kind := .primitive 'B', accessFlags := 0x411 }
/-- [B -/
def k6 : Class := { plain "[B" (some 0) with kind := .array 5 .byte, interfaces := #[3, 4], accessFlags := 1041 }

/-- the primitive int -/
def k7 : Class := { plain "int" none with kind := .primitive 'I', accessFlags := 0x411 }
/-- [I -/
def k8 : Class := { plain "[I" (some 0) with kind := .array 7 .int, interfaces := #[3, 4], accessFlags := 1041 }

def heap : Heap := #[]
def classes : Array Class := #[k0, k1, k2, k3, k4, k5, k6, k7, k8]
def interned : List (Array UInt16 × Addr) := []
def slotsUsed : Nat := 0
def theMethod : MethodId := ⟨1, 4⟩
def args0 : Array Value := #[.int 5, .int 7, .int 9, .long 123456, .long 98765, .int 3]
def aboutOver (below : List Frame) : State where
  vm := { classes := classes, interned := interned.toArray }
  heap := heap
  slotsUsed := slotsUsed
  threads := #[{ frames := .invoking theMethod args0 :: below }]
def below0 : List Frame := [.native { method := ⟨0, 0⟩, args := #[] }]
def about1 : State := aboutOver below0
def p0 : Program := .bare "" "" ""
def e0 : Env := launch0.env 0 0 0
theorem w_frames : about1.frames = Frame.invoking theMethod args0 :: below0 := rfl
set_option maxRecDepth 65536 in
theorem w_args : argsFit about1.vm theMethod args0 = true := by decide +kernel
set_option maxRecDepth 65536 in
theorem w_heap : heapFits about1 = true := by decide +kernel
set_option maxRecDepth 65536 in
theorem w_runnable : about1.curStatus? = some .runnable := by decide +kernel
set_option maxRecDepth 65536 in
theorem w_alone : about1.alone = true := by decide +kernel
set_option maxRecDepth 65536 in
theorem w_named : about1.methodNamed? x = some theMethod := by decide +kernel
set_option maxRecDepth 65536 in
theorem w_hears : about1.hears theMethod below0 = true := by decide +kernel
set_option maxRecDepth 65536 in
theorem w_ripe : about1.ripe theMethod args0 below0 = true := by decide +kernel
theorem w_running : about1.status = .running := rfl
set_option maxRecDepth 65536 in
theorem w_room : about1.hasRoom e0.platform room_1 = true :=
  launch0.hasRoom_least _ room_1 (by decide +kernel) (by decide +kernel) (by decide +kernel) (by decide +kernel) (by decide +kernel) (by decide +kernel)
theorem allAtoms_all (ts : List Jvm.Cond) (a : Array Jvm.Value) (st : Jvm.State) : (allAtoms ts).before a st = ts.all (fun c => c.before a st) := by
  induction ts with
  | nil => rfl
  | cons c t ih =>
    show (Jvm.Cond.and c (allAtoms t)).before a st = _
    rw [Jvm.Cond.before_and, ih, List.all_cons]
def words1 : List Jvm.Cond := Jvm.Cond.code x code maxLocals ret :: tables_1
/-- a 'code' word, met by the world's own term for the bytes: nothing is compared byte by byte -/
theorem code_word {y : MethodName} {bytes : ByteArray} {mx : Nat} {rt : Option FieldType} {a : Array Value} {s : State} {m : MethodId} {meth : Method} {c : Code} (h1 : s.methodNamed? y = some m) (h2 : s.vm.method? m = some meth) (h3 : meth.code = some c) (h4 : c.code = bytes)
    (h5 : (c.maxLocals == mx && c.exceptionTable.isEmpty && decide (c.maxStack ≤ mostOperands) && decide (meth.sig.returnType = rt) && !meth.locks && decide (parseMethodDescriptor y.desc = some meth.sig)) = true) : (Jvm.Cond.code y bytes mx rt).before a s = true := by
  simp only [Bool.and_eq_true, beq_iff_eq, Bool.not_eq_true', decide_eq_true_eq] at h5
  obtain ⟨⟨⟨⟨⟨g1, g2⟩, g3⟩, g4⟩, g5⟩, g6⟩ := h5
  simp [Cond.before, Cond.holds, Cond.value, h1, h2, h3, h4, g1, g2, g3, g4, g5, g6]
def isCode : Jvm.Cond → Bool
  | .code _ _ _ _ => true
  | _ => false
theorem all_split {L : List Jvm.Cond} {P : Jvm.Cond → Bool} (h1 : L.all (fun c => isCode c || P c) = true) (h2 : ∀ c ∈ L.filter isCode, P c = true) : L.all P = true := by
  refine List.all_eq_true.mpr fun c hc => ?_
  have h := List.all_eq_true.mp h1 c hc
  rcases Bool.eq_false_or_eq_true (isCode c) with hi | hi
  · exact h2 c (List.mem_filter.mpr ⟨hc, hi⟩)
  · simpa [hi] using h
set_option maxRecDepth 65536 in
theorem w_c0 : (Jvm.Cond.code x code maxLocals ret).before args0 about1 = true := code_word (m := ⟨1, 4⟩) (meth := k1m4) (c := k1c4) (by decide +kernel) rfl rfl rfl (by decide +kernel)
set_option maxRecDepth 65536 in
theorem w_c1 : (Jvm.Cond.code ({ cls := "com/example/varve/varve/json/NumbersIsShortestPinLaw", name := "at", desc := "(IIIIIJJ)B" } : Jvm.MethodName) method_4_code (10 : Nat) (Option.some Jvm.ClassFile.FieldType.byte)).before args0 about1 = true := code_word (m := ⟨1, 3⟩) (meth := k1m3) (c := k1c3) (by decide +kernel) rfl rfl rfl (by decide +kernel)
set_option maxRecDepth 65536 in
theorem w_c2 : (Jvm.Cond.code ({ cls := "com/example/varve/varve/json/NumbersIsShortestPinLaw", name := "dig", desc := "(JI)I" } : Jvm.MethodName) method_2_code (3 : Nat) (Option.some Jvm.ClassFile.FieldType.int)).before args0 about1 = true := code_word (m := ⟨1, 1⟩) (meth := k1m1) (c := k1c1) (by decide +kernel) rfl rfl rfl (by decide +kernel)
set_option maxRecDepth 65536 in
theorem w_c3 : (Jvm.Cond.code ({ cls := "com/example/varve/varve/json/NumbersIsShortestPinLaw", name := "free", desc := "(IJJ)I" } : Jvm.MethodName) method_3_code (5 : Nat) (Option.some Jvm.ClassFile.FieldType.int)).before args0 about1 = true := code_word (m := ⟨1, 2⟩) (meth := k1m2) (c := k1c2) (by decide +kernel) rfl rfl rfl (by decide +kernel)
set_option maxRecDepth 65536 in
theorem w_c4 : (Jvm.Cond.code ({ cls := "com/example/varve/varve/json/Numbers", name := "isShortest", desc := "([BIIII)Z" } : Jvm.MethodName) prog_82_method_6_code (6 : Nat) (Option.some Jvm.ClassFile.FieldType.boolean)).before args0 about1 = true := code_word (m := ⟨2, 1⟩) (meth := k2m1) (c := k2c1) (by decide +kernel) rfl rfl rfl (by decide +kernel)
def codes1 : List Jvm.Cond := [Jvm.Cond.code x code maxLocals ret, Jvm.Cond.code ({ cls := "com/example/varve/varve/json/NumbersIsShortestPinLaw", name := "at", desc := "(IIIIIJJ)B" } : Jvm.MethodName) method_4_code (10 : Nat) (Option.some Jvm.ClassFile.FieldType.byte), Jvm.Cond.code ({ cls := "com/example/varve/varve/json/NumbersIsShortestPinLaw", name := "dig", desc := "(JI)I" } : Jvm.MethodName) method_2_code (3 : Nat) (Option.some Jvm.ClassFile.FieldType.int), Jvm.Cond.code ({ cls := "com/example/varve/varve/json/NumbersIsShortestPinLaw", name := "free", desc := "(IJJ)I" } : Jvm.MethodName) method_3_code (5 : Nat) (Option.some Jvm.ClassFile.FieldType.int), Jvm.Cond.code ({ cls := "com/example/varve/varve/json/Numbers", name := "isShortest", desc := "([BIIII)Z" } : Jvm.MethodName) prog_82_method_6_code (6 : Nat) (Option.some Jvm.ClassFile.FieldType.boolean)]
set_option maxRecDepth 65536 in
theorem codes_eq : words1.filter isCode = codes1 := rfl
theorem w_codes : ∀ c ∈ words1.filter isCode, c.before args0 about1 = true := by
  rw [codes_eq]
  intro c hc
  simp only [codes1, List.mem_cons, List.not_mem_nil, or_false] at hc
  rcases hc with rfl | rfl | rfl | rfl | rfl
  · exact w_c0
  · exact w_c1
  · exact w_c2
  · exact w_c3
  · exact w_c4
set_option maxRecDepth 65536 in
theorem w_t1 : words1.all (fun c => isCode c || c.before args0 about1) = true := by decide +kernel
theorem w_tables : (allAtoms (Jvm.Cond.code x code maxLocals ret :: tables_1)).before args0 about1 = true := by
  rw [allAtoms_all]
  show words1.all (fun c => c.before args0 about1) = true
  refine all_split ?_ w_codes
  rw [w_t1]
set_option maxRecDepth 65536 in
theorem w_case : (Jvm.Cond.and given_1 narrow_1).before args0 about1 = true := by decide +kernel
theorem w_applies : (headSpec (Jvm.Cond.code x code maxLocals ret :: tables_1) room_1).applies x e0.platform about1 = true :=
  (Spec.applies_iff w_frames).mpr ⟨w_running, w_runnable, w_alone, w_named, w_hears, w_ripe, w_room, w_tables⟩
theorem atStart : AtStart classFile x code maxLocals ret World_1 tables_1 room_1 Calls_1 rest_1 Pre_1 launch0 p0 e0 about1 theMethod args0 below0 :=
  ⟨lists_1, trivial, launch0.admits_env _ _ _, launch0.least_env, fairChoices_fair.cas, fairChoices_fair.clock, w_frames, w_args, w_heap, w_applies, trivial, trivial, w_case⟩
end start1
theorem witness_1 : WitnessClaimed_1 := ⟨start1.p0, start1.e0, start1.about1, start1.theMethod, start1.args0, start1.below0, start1.atStart⟩
end Jvm.Pilot.@@N@@
