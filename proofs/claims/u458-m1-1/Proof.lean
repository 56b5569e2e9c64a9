import JvmDerived
import JvmDerived.Pilot.@@N@@Statement
import JvmDerived.Pilot.@@N@@Code
set_option linter.unusedVariables false
set_option linter.unusedSimpArgs false
namespace Jvm.Own
open Jvm Jvm.ClassFile Sem Op Lib Jvm.Free Jvm.Stand Jvm.LawKit Jvm.RoadKit Bundle
/-- where the run stands inside a body: what is fixed, the heap, the room used -/
def St (p : Program) (l : Launch) (e : Env) (R : Room) (s : State) (m : MethodId) (args : Array Value) (below : List Frame) (meth : Method) (c : Code) (Z : State) (n0 : Nat) (y : MethodName) (code : ByteArray) (maxL : Nat) (ret : Option FieldType) (T : State) (h : Heap) (cells slots : Nat) : Prop :=
  (p.tables.exec = Jvm.exec ∧ Z.Warmed39 s.vm ∧ c.code = code ∧ c.maxLocals = maxL ∧ s.vm.findClass y.cls = some m.cls ∧ meth.name = y.name ∧ meth.sig.returnType = ret ∧ meth.locks = false ∧ n0 ≤ s.heap.size) ∧ T.heap = h ∧ ∃ locs, Stand p l e R s m args below meth c T locs cells slots ∧ Fr n0 locs
/-- from here the body comes to its end with Q -/
def WP (p : Program) (e : Env) (below : List Frame) (s : State) (n0 k n : Nat) (Q : Option Value → Heap → Prop) (T : State) (g : JFrame) : Prop :=
  ∃ s₂ o, Steps p.tables e below (T.setTop g) s₂ ∧ s₂.status = .running ∧ Ended s₂ below o ∧ ∃ v L, o = .returned v ∧ (Q v s₂.heap ∧ Fr n0 L) ∧ FrameEnd s o s₂ L k n
/-- a body's contract -/
def Ct (l : Launch) (Z : State) (y : MethodName) (code : ByteArray) (maxL : Nat) (ret : Option FieldType) (rm : Room) (as : Array Value) (h0 : Heap) (n0 : Nat) (Q : Option Value → Heap → Prop) : Prop :=
  ∀ ws, MetFree l y (head1 (Jvm.Cond.code y code maxL ret :: ws) rm) (fun a U => a = as ∧ Z.Warmed39 U.vm ∧ U.heap = h0) (fun _ _ _ _ _ => True) (fun _ U o U' => ∃ v L, o = .returned v ∧ (Q v U'.heap ∧ Fr n0 L) ∧ FrameEnd U o U' L rm.cells rm.slots)
section Steps
variable {p : Program} {l : Launch} {e : Env} {R : Room} {s : State} {m : MethodId} {args : Array Value} {below : List Frame} {meth : Method} {c : Code} {Z : State} {n0 : Nat} {y : MethodName} {code : ByteArray} {maxL : Nat} {ret : Option FieldType} {T : State} {h : Heap} {cells slots k n : Nat} {Q : Option Value → Heap → Prop} {pc pc' : Nat} {Ls : Array Slot} {S : List Value} {a0 : Array Value}
theorem WP.step {T' : State} {g g' : JFrame} (w : WP p e below s n0 k n Q T' g') (st : ∀ t, Steps p.tables e below (T'.setTop g') t → Steps p.tables e below (T.setTop g) t) : WP p e below s n0 k n Q T g := by
  obtain ⟨s₂, o, h1, r⟩ := w; exact ⟨s₂, o, st _ h1, r⟩
theorem WP.trans {T' : State} {g g' : JFrame} (w : WP p e below s n0 k n Q T' g') (st : Steps p.tables e below (T.setTop g) (T'.setTop g')) : WP p e below s n0 k n Q T g := by
  obtain ⟨s₂, o, h1, r⟩ := w; exact ⟨s₂, o, st.trans h1, r⟩
theorem WP.imp {Q' : Option Value → Heap → Prop} {g : JFrame} (w : WP p e below s n0 k n Q' T g) (hq : ∀ v h, Q' v h → Q v h) : WP p e below s n0 k n Q T g := by
  obtain ⟨s₂, o, h1, h2, h3, v, L, h4, ⟨h5, h6⟩, h7⟩ := w; exact ⟨s₂, o, h1, h2, h3, v, L, h4, ⟨hq _ _ h5, h6⟩, h7⟩
theorem WP.cast {g g' : JFrame} (q : g = g') (w : WP p e below s n0 k n Q T g') : WP p e below s n0 k n Q T g := q ▸ w
theorem Ct.imp {as : Array Value} {rm : Room} {Q' : Option Value → Heap → Prop} (ct : Ct l Z y code maxL ret rm as h n0 Q') (hq : ∀ v h, Q' v h → Q v h) : Ct l Z y code maxL ret rm as h n0 Q := by
  intro ws p e ha hc hk s m args below hf happ hP hK
  obtain ⟨n, o, h1, h2, h3, v, L, h4, ⟨h5, h6⟩, h7⟩ := ct ws p e ha hc hk s m args below hf happ hP hK
  exact ⟨n, o, h1, h2, h3, v, L, h4, ⟨hq _ _ h5, h6⟩, h7⟩
theorem Ct.intro {rm : Room} {as : Array Value} {h0 : Heap} (hpl : plainFor y = true) (Z0 : n0 ≤ h0.size)
    (body : ∀ p e s m below meth c T, St p l e rm s m as below meth c Z n0 y code maxL ret T h0 0 0 → WP p e below s n0 rm.cells rm.slots Q T (entryFrame m as maxL)) : Ct l Z y code maxL ret rm as h0 n0 Q := by
  intro ws
  refine MetFree.of_bodySF hpl hisR ?_
  intro p e s m args below meth c s₁ Bd hml0 hP hK
  obtain ⟨rfl, hZ, hh⟩ := hP
  exact body p e s m below meth c s₁ ⟨⟨Bd.exec, hZ, Bd.bytes, hml0, findClass_of_methodNamed Bd.named, (name_of_methodNamed Bd.named Bd.method).1, Bd.returns, BodyLoose.notSynchronized Bd, hh ▸ Z0⟩, by rw [← hh, Bd.state]; rfl, [], Stand.of_body Bd, Fr.nil n0⟩
theorem St.n0le (X : St p l e R s m args below meth c Z n0 y code maxL ret T h cells slots) : n0 ≤ h.size := by
  obtain ⟨⟨-, -, -, -, -, -, -, -, h0⟩, hT, locs, X, -⟩ := X
  have q : s.heap.size ≤ T.heap.size := X.same.2.1
  rw [hT] at q; exact Nat.le_trans h0 q
theorem St.mono (X : St p l e R s m args below meth c Z n0 y code maxL ret T h cells slots) {cells' slots' : Nat} (hc : cells ≤ cells') (hs : slots ≤ slots') : St p l e R s m args below meth c Z n0 y code maxL ret T h cells' slots' := by
  obtain ⟨h0, hT, locs, X, N⟩ := X
  exact ⟨h0, hT, locs, ⟨X.admits, X.cas, X.clock, X.frames, X.room, X.hears, X.method, X.code, X.here, X.tail, X.warmed, X.limits, X.bytes, X.same.mono hc hs⟩, N⟩
theorem w_nameI {v : Int32} (w : ∀ z, z = v → WP p e below s n0 k n Q T (mkF m pc Ls (.int z :: S))) : WP p e below s n0 k n Q T (mkF m pc Ls (.int v :: S)) := w v rfl
theorem w_nameJ {v : Int64} (w : ∀ z, z = v → WP p e below s n0 k n Q T (mkF m pc Ls (.long z :: S))) : WP p e below s n0 k n Q T (mkF m pc Ls (.long v :: S)) := w v rfl
theorem w_nameR {v : Addr} (w : ∀ z, z = v → WP p e below s n0 k n Q T (mkF m pc Ls (.ref z :: S))) : WP p e below s n0 k n Q T (mkF m pc Ls (.ref v :: S)) := w v rfl
theorem w_iload (X : St p l e R s m args below meth c Z n0 y code maxL ret T h cells slots) {i : Nat} {v : Int32} (hd : decode code pc = .ok (.iload i, 2)) (hl : Ls[i]? = some (.val (.int v))) (hp : pc' = pc + 2) (w : WP p e below s n0 k n Q T (mkF m pc' Ls (.int v :: S))) : WP p e below s n0 k n Q T (mkF m pc Ls (S)) := by
  obtain ⟨⟨hx, hZ, hby, hml, hown, hnm, hret, hlk, h00⟩, hT, locs, X, N⟩ := X
  subst hp
  exact w.step fun t kk => XS.iload X.here hx rfl (hb hby hd) hl kk
theorem w_iloadN (X : St p l e R s m args below meth c Z n0 y code maxL ret T h cells slots) {i : Fin 4} {v : Int32} (hd : decode code pc = .ok (.iload_n i, 1)) (hl : Ls[i.val]? = some (.val (.int v))) (hp : pc' = pc + 1) (w : WP p e below s n0 k n Q T (mkF m pc' Ls (.int v :: S))) : WP p e below s n0 k n Q T (mkF m pc Ls (S)) := by
  obtain ⟨⟨hx, hZ, hby, hml, hown, hnm, hret, hlk, h00⟩, hT, locs, X, N⟩ := X
  subst hp
  exact w.step fun t kk => XS.iloadN X.here hx rfl (hb hby hd) hl kk
theorem w_lload (X : St p l e R s m args below meth c Z n0 y code maxL ret T h cells slots) {i : Nat} {v : Int64} (hd : decode code pc = .ok (.lload i, 2)) (hl : Ls[i]? = some (.val (.long v))) (hp : pc' = pc + 2) (w : WP p e below s n0 k n Q T (mkF m pc' Ls (.long v :: S))) : WP p e below s n0 k n Q T (mkF m pc Ls (S)) := by
  obtain ⟨⟨hx, hZ, hby, hml, hown, hnm, hret, hlk, h00⟩, hT, locs, X, N⟩ := X
  subst hp
  exact w.step fun t kk => XS.lload X.here hx rfl (hb hby hd) hl kk
theorem w_lloadN (X : St p l e R s m args below meth c Z n0 y code maxL ret T h cells slots) {i : Fin 4} {v : Int64} (hd : decode code pc = .ok (.lload_n i, 1)) (hl : Ls[i.val]? = some (.val (.long v))) (hp : pc' = pc + 1) (w : WP p e below s n0 k n Q T (mkF m pc' Ls (.long v :: S))) : WP p e below s n0 k n Q T (mkF m pc Ls (S)) := by
  obtain ⟨⟨hx, hZ, hby, hml, hown, hnm, hret, hlk, h00⟩, hT, locs, X, N⟩ := X
  subst hp
  exact w.step fun t kk => XS.lloadN X.here hx rfl (hb hby hd) hl kk
theorem w_aload (X : St p l e R s m args below meth c Z n0 y code maxL ret T h cells slots) {i : Nat} {v : Value} (hd : decode code pc = .ok (.aload i, 2)) (hl : Ls[i]? = some (.val v)) (hv : v.isRef = true) (hp : pc' = pc + 2) (w : WP p e below s n0 k n Q T (mkF m pc' Ls (v :: S))) : WP p e below s n0 k n Q T (mkF m pc Ls (S)) := by
  obtain ⟨⟨hx, hZ, hby, hml, hown, hnm, hret, hlk, h00⟩, hT, locs, X, N⟩ := X
  subst hp
  exact w.step fun t kk => XS.aload X.here hx rfl (hb hby hd) hl hv kk
theorem w_aloadN (X : St p l e R s m args below meth c Z n0 y code maxL ret T h cells slots) {i : Fin 4} {v : Value} (hd : decode code pc = .ok (.aload_n i, 1)) (hl : Ls[i.val]? = some (.val v)) (hv : v.isRef = true) (hp : pc' = pc + 1) (w : WP p e below s n0 k n Q T (mkF m pc' Ls (v :: S))) : WP p e below s n0 k n Q T (mkF m pc Ls (S)) := by
  obtain ⟨⟨hx, hZ, hby, hml, hown, hnm, hret, hlk, h00⟩, hT, locs, X, N⟩ := X
  subst hp
  exact w.step fun t kk => XS.aloadN X.here hx rfl (hb hby hd) hl hv kk
theorem w_istore (X : St p l e R s m args below meth c Z n0 y code maxL ret T h cells slots) {i : Nat} {v : Int32} {L' : Array Slot} (hd : decode code pc = .ok (.istore i, 2)) (hl : storeLocals Ls i (.int v) = some L') (hp : pc' = pc + 2) (w : WP p e below s n0 k n Q T (mkF m pc' L' (S))) : WP p e below s n0 k n Q T (mkF m pc Ls (.int v :: S)) := by
  obtain ⟨⟨hx, hZ, hby, hml, hown, hnm, hret, hlk, h00⟩, hT, locs, X, N⟩ := X
  subst hp
  exact w.step fun t kk => XS.istore X.here hx rfl (hb hby hd) rfl hl kk
theorem w_istoreN (X : St p l e R s m args below meth c Z n0 y code maxL ret T h cells slots) {i : Fin 4} {v : Int32} {L' : Array Slot} (hd : decode code pc = .ok (.istore_n i, 1)) (hl : storeLocals Ls i.val (.int v) = some L') (hp : pc' = pc + 1) (w : WP p e below s n0 k n Q T (mkF m pc' L' (S))) : WP p e below s n0 k n Q T (mkF m pc Ls (.int v :: S)) := by
  obtain ⟨⟨hx, hZ, hby, hml, hown, hnm, hret, hlk, h00⟩, hT, locs, X, N⟩ := X
  subst hp
  exact w.step fun t kk => XS.istoreN X.here hx rfl (hb hby hd) rfl hl kk
theorem w_lstore (X : St p l e R s m args below meth c Z n0 y code maxL ret T h cells slots) {i : Nat} {v : Int64} {L' : Array Slot} (hd : decode code pc = .ok (.lstore i, 2)) (hl : storeLocals Ls i (.long v) = some L') (hp : pc' = pc + 2) (w : WP p e below s n0 k n Q T (mkF m pc' L' (S))) : WP p e below s n0 k n Q T (mkF m pc Ls (.long v :: S)) := by
  obtain ⟨⟨hx, hZ, hby, hml, hown, hnm, hret, hlk, h00⟩, hT, locs, X, N⟩ := X
  subst hp
  exact w.step fun t kk => XS.lstore X.here hx rfl (hb hby hd) rfl hl kk
theorem w_lstoreN (X : St p l e R s m args below meth c Z n0 y code maxL ret T h cells slots) {i : Fin 4} {v : Int64} {L' : Array Slot} (hd : decode code pc = .ok (.lstore_n i, 1)) (hl : storeLocals Ls i.val (.long v) = some L') (hp : pc' = pc + 1) (w : WP p e below s n0 k n Q T (mkF m pc' L' (S))) : WP p e below s n0 k n Q T (mkF m pc Ls (.long v :: S)) := by
  obtain ⟨⟨hx, hZ, hby, hml, hown, hnm, hret, hlk, h00⟩, hT, locs, X, N⟩ := X
  subst hp
  exact w.step fun t kk => XS.lstoreN X.here hx rfl (hb hby hd) rfl hl kk
theorem w_astore (X : St p l e R s m args below meth c Z n0 y code maxL ret T h cells slots) {i : Nat} {v : Value} {L' : Array Slot} (hd : decode code pc = .ok (.astore i, 2)) (hv : v.isRef = true) (hl : storeLocals Ls i v = some L') (hp : pc' = pc + 2) (w : WP p e below s n0 k n Q T (mkF m pc' L' (S))) : WP p e below s n0 k n Q T (mkF m pc Ls (v :: S)) := by
  obtain ⟨⟨hx, hZ, hby, hml, hown, hnm, hret, hlk, h00⟩, hT, locs, X, N⟩ := X
  subst hp
  exact w.step fun t kk => XS.astore X.here hx rfl (hb hby hd) rfl hv hl kk
theorem w_astoreN (X : St p l e R s m args below meth c Z n0 y code maxL ret T h cells slots) {i : Fin 4} {v : Value} {L' : Array Slot} (hd : decode code pc = .ok (.astore_n i, 1)) (hv : v.isRef = true) (hl : storeLocals Ls i.val v = some L') (hp : pc' = pc + 1) (w : WP p e below s n0 k n Q T (mkF m pc' L' (S))) : WP p e below s n0 k n Q T (mkF m pc Ls (v :: S)) := by
  obtain ⟨⟨hx, hZ, hby, hml, hown, hnm, hret, hlk, h00⟩, hT, locs, X, N⟩ := X
  subst hp
  exact w.step fun t kk => XS.astoreN X.here hx rfl (hb hby hd) rfl hv hl kk
theorem w_iinc (X : St p l e R s m args below meth c Z n0 y code maxL ret T h cells slots) {i : Nat} {d : Int} {v v' : Int32} {L' : Array Slot} (hd : decode code pc = .ok (.iinc i d, 3)) (hl : Ls[i]? = some (.val (.int v))) (hv : v + Int32.ofInt d = v') (hl' : storeLocals Ls i (.int v') = some L') (hp : pc' = pc + 3) (w : WP p e below s n0 k n Q T (mkF m pc' L' (S))) : WP p e below s n0 k n Q T (mkF m pc Ls (S)) := by
  obtain ⟨⟨hx, hZ, hby, hml, hown, hnm, hret, hlk, h00⟩, hT, locs, X, N⟩ := X
  subst hp hv
  exact w.step fun t kk => XS.iinc X.here hx rfl (hb hby hd) hl hl' kk
theorem w_iconst (X : St p l e R s m args below meth c Z n0 y code maxL ret T h cells slots) {i : Int} {v : Int32} (hd : decode code pc = .ok (.iconst i, 1)) (hv : Int32.ofInt i = v) (hp : pc' = pc + 1) (w : WP p e below s n0 k n Q T (mkF m pc' Ls (.int v :: S))) : WP p e below s n0 k n Q T (mkF m pc Ls (S)) := by
  obtain ⟨⟨hx, hZ, hby, hml, hown, hnm, hret, hlk, h00⟩, hT, locs, X, N⟩ := X
  subst hp hv
  exact w.step fun t kk => XS.iconst X.here hx rfl (hb hby hd) kk
theorem w_bipush (X : St p l e R s m args below meth c Z n0 y code maxL ret T h cells slots) {i : Int} {v : Int32} (hd : decode code pc = .ok (.bipush i, 2)) (hv : (Int8.ofInt i).toInt32 = v) (hp : pc' = pc + 2) (w : WP p e below s n0 k n Q T (mkF m pc' Ls (.int v :: S))) : WP p e below s n0 k n Q T (mkF m pc Ls (S)) := by
  obtain ⟨⟨hx, hZ, hby, hml, hown, hnm, hret, hlk, h00⟩, hT, locs, X, N⟩ := X
  subst hp hv
  exact w.step fun t kk => XS.bipush X.here hx rfl (hb hby hd) kk
theorem w_sipush (X : St p l e R s m args below meth c Z n0 y code maxL ret T h cells slots) {i : Int} {v : Int32} (hd : decode code pc = .ok (.sipush i, 3)) (hv : (Int16.ofInt i).toInt32 = v) (hp : pc' = pc + 3) (w : WP p e below s n0 k n Q T (mkF m pc' Ls (.int v :: S))) : WP p e below s n0 k n Q T (mkF m pc Ls (S)) := by
  obtain ⟨⟨hx, hZ, hby, hml, hown, hnm, hret, hlk, h00⟩, hT, locs, X, N⟩ := X
  subst hp hv
  exact w.step fun t kk => XS.sipush X.here hx rfl (hb hby hd) kk
theorem w_lconst (X : St p l e R s m args below meth c Z n0 y code maxL ret T h cells slots) {i : Fin 2} {v : Int64} (hd : decode code pc = .ok (.lconst i, 1)) (hv : Int64.ofNat i = v) (hp : pc' = pc + 1) (w : WP p e below s n0 k n Q T (mkF m pc' Ls (.long v :: S))) : WP p e below s n0 k n Q T (mkF m pc Ls (S)) := by
  obtain ⟨⟨hx, hZ, hby, hml, hown, hnm, hret, hlk, h00⟩, hT, locs, X, N⟩ := X
  subst hp hv
  exact w.step fun t kk => XS.lconst X.here hx rfl (hb hby hd) kk
theorem w_aconst_null (X : St p l e R s m args below meth c Z n0 y code maxL ret T h cells slots)  (hd : decode code pc = .ok (.aconst_null, 1)) (hp : pc' = pc + 1) (w : WP p e below s n0 k n Q T (mkF m pc' Ls (.null :: S))) : WP p e below s n0 k n Q T (mkF m pc Ls (S)) := by
  obtain ⟨⟨hx, hZ, hby, hml, hown, hnm, hret, hlk, h00⟩, hT, locs, X, N⟩ := X
  subst hp
  exact w.step fun t kk => XS.aconstNull X.here hx rfl (hb hby hd) kk
theorem w_ldcI (X : St p l e R s m args below meth c Z n0 y code maxL ret T h cells slots) {i : Nat} {v : Int32} (hd : decode code pc = .ok (.ldc i, 2)) (wc : (Jvm.Cond.constant y.cls i v).before a0 Z = true) (hp : pc' = pc + 2) (w : WP p e below s n0 k n Q T (mkF m pc' Ls (.int v :: S))) : WP p e below s n0 k n Q T (mkF m pc Ls (S)) := by
  obtain ⟨⟨hx, hZ, hby, hml, hown, hnm, hret, hlk, h00⟩, hT, locs, X, N⟩ := X
  subst hp
  exact w.step fun t kk => X.ldcInt hx hown (mvT (d := Jvm.Cond.constant y.cls i v) hZ wc) (g := mkF m pc Ls S) rfl (hb hby hd) t kk
theorem w_ldcWI (X : St p l e R s m args below meth c Z n0 y code maxL ret T h cells slots) {i : Nat} {v : Int32} (hd : decode code pc = .ok (.ldc_w i, 3)) (wc : (Jvm.Cond.constant y.cls i v).before a0 Z = true) (hp : pc' = pc + 3) (w : WP p e below s n0 k n Q T (mkF m pc' Ls (.int v :: S))) : WP p e below s n0 k n Q T (mkF m pc Ls (S)) := by
  obtain ⟨⟨hx, hZ, hby, hml, hown, hnm, hret, hlk, h00⟩, hT, locs, X, N⟩ := X
  subst hp
  exact w.step fun t kk => X.ldcwInt hx hown (mvT (d := Jvm.Cond.constant y.cls i v) hZ wc) (g := mkF m pc Ls S) rfl (hb hby hd) t kk
theorem w_ldcJ (X : St p l e R s m args below meth c Z n0 y code maxL ret T h cells slots) {i : Nat} {v : Int64} (hd : decode code pc = .ok (.ldc2_w i, 3)) (wc : (Jvm.Cond.constantLong y.cls i v).before a0 Z = true) (hp : pc' = pc + 3) (w : WP p e below s n0 k n Q T (mkF m pc' Ls (.long v :: S))) : WP p e below s n0 k n Q T (mkF m pc Ls (S)) := by
  obtain ⟨⟨hx, hZ, hby, hml, hown, hnm, hret, hlk, h00⟩, hT, locs, X, N⟩ := X
  subst hp
  exact w.step fun t kk => X.ldc2Long hx hown (mvT (d := Jvm.Cond.constantLong y.cls i v) hZ wc) (g := mkF m pc Ls S) rfl (hb hby hd) t kk
theorem w_iadd (X : St p l e R s m args below meth c Z n0 y code maxL ret T h cells slots) {x z : Int32} (hd : decode code pc = .ok (.iadd, 1)) (hp : pc' = pc + 1) (w : WP p e below s n0 k n Q T (mkF m pc' Ls (.int (x + z) :: S))) : WP p e below s n0 k n Q T (mkF m pc Ls (.int z :: .int x :: S)) := by
  obtain ⟨⟨hx, hZ, hby, hml, hown, hnm, hret, hlk, h00⟩, hT, locs, X, N⟩ := X
  subst hp
  exact w.step fun t kk => XS.iadd X.here hx rfl (hb hby hd) rfl kk
theorem w_ladd (X : St p l e R s m args below meth c Z n0 y code maxL ret T h cells slots) {x z : Int64} (hd : decode code pc = .ok (.ladd, 1)) (hp : pc' = pc + 1) (w : WP p e below s n0 k n Q T (mkF m pc' Ls (.long (x + z) :: S))) : WP p e below s n0 k n Q T (mkF m pc Ls (.long z :: .long x :: S)) := by
  obtain ⟨⟨hx, hZ, hby, hml, hown, hnm, hret, hlk, h00⟩, hT, locs, X, N⟩ := X
  subst hp
  exact w.step fun t kk => XS.ladd X.here hx rfl (hb hby hd) rfl kk
theorem w_isub (X : St p l e R s m args below meth c Z n0 y code maxL ret T h cells slots) {x z : Int32} (hd : decode code pc = .ok (.isub, 1)) (hp : pc' = pc + 1) (w : WP p e below s n0 k n Q T (mkF m pc' Ls (.int (x - z) :: S))) : WP p e below s n0 k n Q T (mkF m pc Ls (.int z :: .int x :: S)) := by
  obtain ⟨⟨hx, hZ, hby, hml, hown, hnm, hret, hlk, h00⟩, hT, locs, X, N⟩ := X
  subst hp
  exact w.step fun t kk => XS.isub X.here hx rfl (hb hby hd) rfl kk
theorem w_lsub (X : St p l e R s m args below meth c Z n0 y code maxL ret T h cells slots) {x z : Int64} (hd : decode code pc = .ok (.lsub, 1)) (hp : pc' = pc + 1) (w : WP p e below s n0 k n Q T (mkF m pc' Ls (.long (x - z) :: S))) : WP p e below s n0 k n Q T (mkF m pc Ls (.long z :: .long x :: S)) := by
  obtain ⟨⟨hx, hZ, hby, hml, hown, hnm, hret, hlk, h00⟩, hT, locs, X, N⟩ := X
  subst hp
  exact w.step fun t kk => XS.lsub X.here hx rfl (hb hby hd) rfl kk
theorem w_imul (X : St p l e R s m args below meth c Z n0 y code maxL ret T h cells slots) {x z : Int32} (hd : decode code pc = .ok (.imul, 1)) (hp : pc' = pc + 1) (w : WP p e below s n0 k n Q T (mkF m pc' Ls (.int (x * z) :: S))) : WP p e below s n0 k n Q T (mkF m pc Ls (.int z :: .int x :: S)) := by
  obtain ⟨⟨hx, hZ, hby, hml, hown, hnm, hret, hlk, h00⟩, hT, locs, X, N⟩ := X
  subst hp
  exact w.step fun t kk => XS.imul X.here hx rfl (hb hby hd) rfl kk
theorem w_lmul (X : St p l e R s m args below meth c Z n0 y code maxL ret T h cells slots) {x z : Int64} (hd : decode code pc = .ok (.lmul, 1)) (hp : pc' = pc + 1) (w : WP p e below s n0 k n Q T (mkF m pc' Ls (.long (x * z) :: S))) : WP p e below s n0 k n Q T (mkF m pc Ls (.long z :: .long x :: S)) := by
  obtain ⟨⟨hx, hZ, hby, hml, hown, hnm, hret, hlk, h00⟩, hT, locs, X, N⟩ := X
  subst hp
  exact w.step fun t kk => XS.lmul X.here hx rfl (hb hby hd) rfl kk
theorem w_iand (X : St p l e R s m args below meth c Z n0 y code maxL ret T h cells slots) {x z : Int32} (hd : decode code pc = .ok (.iand, 1)) (hp : pc' = pc + 1) (w : WP p e below s n0 k n Q T (mkF m pc' Ls (.int (x &&& z) :: S))) : WP p e below s n0 k n Q T (mkF m pc Ls (.int z :: .int x :: S)) := by
  obtain ⟨⟨hx, hZ, hby, hml, hown, hnm, hret, hlk, h00⟩, hT, locs, X, N⟩ := X
  subst hp
  exact w.step fun t kk => XS.iand X.here hx rfl (hb hby hd) rfl kk
theorem w_land (X : St p l e R s m args below meth c Z n0 y code maxL ret T h cells slots) {x z : Int64} (hd : decode code pc = .ok (.land, 1)) (hp : pc' = pc + 1) (w : WP p e below s n0 k n Q T (mkF m pc' Ls (.long (x &&& z) :: S))) : WP p e below s n0 k n Q T (mkF m pc Ls (.long z :: .long x :: S)) := by
  obtain ⟨⟨hx, hZ, hby, hml, hown, hnm, hret, hlk, h00⟩, hT, locs, X, N⟩ := X
  subst hp
  exact w.step fun t kk => XS.land X.here hx rfl (hb hby hd) rfl kk
theorem w_ior (X : St p l e R s m args below meth c Z n0 y code maxL ret T h cells slots) {x z : Int32} (hd : decode code pc = .ok (.ior, 1)) (hp : pc' = pc + 1) (w : WP p e below s n0 k n Q T (mkF m pc' Ls (.int (x ||| z) :: S))) : WP p e below s n0 k n Q T (mkF m pc Ls (.int z :: .int x :: S)) := by
  obtain ⟨⟨hx, hZ, hby, hml, hown, hnm, hret, hlk, h00⟩, hT, locs, X, N⟩ := X
  subst hp
  exact w.step fun t kk => XS.ior X.here hx rfl (hb hby hd) rfl kk
theorem w_lor (X : St p l e R s m args below meth c Z n0 y code maxL ret T h cells slots) {x z : Int64} (hd : decode code pc = .ok (.lor, 1)) (hp : pc' = pc + 1) (w : WP p e below s n0 k n Q T (mkF m pc' Ls (.long (x ||| z) :: S))) : WP p e below s n0 k n Q T (mkF m pc Ls (.long z :: .long x :: S)) := by
  obtain ⟨⟨hx, hZ, hby, hml, hown, hnm, hret, hlk, h00⟩, hT, locs, X, N⟩ := X
  subst hp
  exact w.step fun t kk => XS.lor X.here hx rfl (hb hby hd) rfl kk
theorem w_ixor (X : St p l e R s m args below meth c Z n0 y code maxL ret T h cells slots) {x z : Int32} (hd : decode code pc = .ok (.ixor, 1)) (hp : pc' = pc + 1) (w : WP p e below s n0 k n Q T (mkF m pc' Ls (.int (x ^^^ z) :: S))) : WP p e below s n0 k n Q T (mkF m pc Ls (.int z :: .int x :: S)) := by
  obtain ⟨⟨hx, hZ, hby, hml, hown, hnm, hret, hlk, h00⟩, hT, locs, X, N⟩ := X
  subst hp
  exact w.step fun t kk => XS.ixor X.here hx rfl (hb hby hd) rfl kk
theorem w_lxor (X : St p l e R s m args below meth c Z n0 y code maxL ret T h cells slots) {x z : Int64} (hd : decode code pc = .ok (.lxor, 1)) (hp : pc' = pc + 1) (w : WP p e below s n0 k n Q T (mkF m pc' Ls (.long (x ^^^ z) :: S))) : WP p e below s n0 k n Q T (mkF m pc Ls (.long z :: .long x :: S)) := by
  obtain ⟨⟨hx, hZ, hby, hml, hown, hnm, hret, hlk, h00⟩, hT, locs, X, N⟩ := X
  subst hp
  exact w.step fun t kk => XS.lxor X.here hx rfl (hb hby hd) rfl kk
theorem w_ineg (X : St p l e R s m args below meth c Z n0 y code maxL ret T h cells slots) {x : Int32} (hd : decode code pc = .ok (.ineg, 1)) (hp : pc' = pc + 1) (w : WP p e below s n0 k n Q T (mkF m pc' Ls (.int (-x) :: S))) : WP p e below s n0 k n Q T (mkF m pc Ls (.int x :: S)) := by
  obtain ⟨⟨hx, hZ, hby, hml, hown, hnm, hret, hlk, h00⟩, hT, locs, X, N⟩ := X
  subst hp
  exact w.step fun t kk => XS.ineg X.here hx rfl (hb hby hd) rfl kk
theorem w_lneg (X : St p l e R s m args below meth c Z n0 y code maxL ret T h cells slots) {x : Int64} (hd : decode code pc = .ok (.lneg, 1)) (hp : pc' = pc + 1) (w : WP p e below s n0 k n Q T (mkF m pc' Ls (.long (-x) :: S))) : WP p e below s n0 k n Q T (mkF m pc Ls (.long x :: S)) := by
  obtain ⟨⟨hx, hZ, hby, hml, hown, hnm, hret, hlk, h00⟩, hT, locs, X, N⟩ := X
  subst hp
  exact w.step fun t kk => XS.lneg X.here hx rfl (hb hby hd) rfl kk
theorem w_idiv (X : St p l e R s m args below meth c Z n0 y code maxL ret T h cells slots) {x z : Int32} (hd : decode code pc = .ok (.idiv, 1)) (hz : z ≠ 0) (hp : pc' = pc + 1) (w : WP p e below s n0 k n Q T (mkF m pc' Ls (.int (x / z) :: S))) : WP p e below s n0 k n Q T (mkF m pc Ls (.int z :: .int x :: S)) := by
  obtain ⟨⟨hx, hZ, hby, hml, hown, hnm, hret, hlk, h00⟩, hT, locs, X, N⟩ := X
  subst hp
  exact w.step fun t kk => XS.idiv X.here hx rfl (hb hby hd) rfl hz kk
theorem w_irem (X : St p l e R s m args below meth c Z n0 y code maxL ret T h cells slots) {x z : Int32} (hd : decode code pc = .ok (.irem, 1)) (hz : z ≠ 0) (hp : pc' = pc + 1) (w : WP p e below s n0 k n Q T (mkF m pc' Ls (.int (x % z) :: S))) : WP p e below s n0 k n Q T (mkF m pc Ls (.int z :: .int x :: S)) := by
  obtain ⟨⟨hx, hZ, hby, hml, hown, hnm, hret, hlk, h00⟩, hT, locs, X, N⟩ := X
  subst hp
  exact w.step fun t kk => iremM X hx rfl (hb hby hd) rfl hz kk
theorem w_ldiv (X : St p l e R s m args below meth c Z n0 y code maxL ret T h cells slots) {x z : Int64} (hd : decode code pc = .ok (.ldiv, 1)) (hz : z ≠ 0) (hp : pc' = pc + 1) (w : WP p e below s n0 k n Q T (mkF m pc' Ls (.long (x / z) :: S))) : WP p e below s n0 k n Q T (mkF m pc Ls (.long z :: .long x :: S)) := by
  obtain ⟨⟨hx, hZ, hby, hml, hown, hnm, hret, hlk, h00⟩, hT, locs, X, N⟩ := X
  subst hp
  exact w.step fun t kk => XS.ldiv X.here hx rfl (hb hby hd) rfl hz kk
theorem w_lrem (X : St p l e R s m args below meth c Z n0 y code maxL ret T h cells slots) {x z : Int64} (hd : decode code pc = .ok (.lrem, 1)) (hz : z ≠ 0) (hp : pc' = pc + 1) (w : WP p e below s n0 k n Q T (mkF m pc' Ls (.long (x % z) :: S))) : WP p e below s n0 k n Q T (mkF m pc Ls (.long z :: .long x :: S)) := by
  obtain ⟨⟨hx, hZ, hby, hml, hown, hnm, hret, hlk, h00⟩, hT, locs, X, N⟩ := X
  subst hp
  exact w.step fun t kk => XS.lrem X.here hx rfl (hb hby hd) rfl hz (by rw [lrem_mod]; exact kk)
theorem w_ishl (X : St p l e R s m args below meth c Z n0 y code maxL ret T h cells slots) {x z : Int32} (hd : decode code pc = .ok (.ishl, 1)) (hp : pc' = pc + 1) (w : WP p e below s n0 k n Q T (mkF m pc' Ls (.int (x <<< (z &&& 31)) :: S))) : WP p e below s n0 k n Q T (mkF m pc Ls (.int z :: .int x :: S)) := by
  obtain ⟨⟨hx, hZ, hby, hml, hown, hnm, hret, hlk, h00⟩, hT, locs, X, N⟩ := X
  subst hp
  exact w.step fun t kk => XS.ishl X.here hx rfl (hb hby hd) rfl kk
theorem w_ishr (X : St p l e R s m args below meth c Z n0 y code maxL ret T h cells slots) {x z : Int32} (hd : decode code pc = .ok (.ishr, 1)) (hp : pc' = pc + 1) (w : WP p e below s n0 k n Q T (mkF m pc' Ls (.int (x >>> (z &&& 31)) :: S))) : WP p e below s n0 k n Q T (mkF m pc Ls (.int z :: .int x :: S)) := by
  obtain ⟨⟨hx, hZ, hby, hml, hown, hnm, hret, hlk, h00⟩, hT, locs, X, N⟩ := X
  subst hp
  exact w.step fun t kk => XS.ishr X.here hx rfl (hb hby hd) rfl kk
theorem w_iushr (X : St p l e R s m args below meth c Z n0 y code maxL ret T h cells slots) {x z : Int32} (hd : decode code pc = .ok (.iushr, 1)) (hp : pc' = pc + 1) (w : WP p e below s n0 k n Q T (mkF m pc' Ls (.int ((x.toUInt32 >>> (z &&& 31).toUInt32).toInt32) :: S))) : WP p e below s n0 k n Q T (mkF m pc Ls (.int z :: .int x :: S)) := by
  obtain ⟨⟨hx, hZ, hby, hml, hown, hnm, hret, hlk, h00⟩, hT, locs, X, N⟩ := X
  subst hp
  exact w.step fun t kk => XS.iushr X.here hx rfl (hb hby hd) rfl kk
theorem w_lshl (X : St p l e R s m args below meth c Z n0 y code maxL ret T h cells slots) {x : Int64} {z : Int32} (hd : decode code pc = .ok (.lshl, 1)) (hp : pc' = pc + 1) (w : WP p e below s n0 k n Q T (mkF m pc' Ls (.long (x <<< (z &&& 0x3f).toInt64) :: S))) : WP p e below s n0 k n Q T (mkF m pc Ls (.int z :: .long x :: S)) := by
  obtain ⟨⟨hx, hZ, hby, hml, hown, hnm, hret, hlk, h00⟩, hT, locs, X, N⟩ := X
  subst hp
  exact w.step fun t kk => XS.lshl X.here hx rfl (hb hby hd) rfl kk
theorem w_lshr (X : St p l e R s m args below meth c Z n0 y code maxL ret T h cells slots) {x : Int64} {z : Int32} (hd : decode code pc = .ok (.lshr, 1)) (hp : pc' = pc + 1) (w : WP p e below s n0 k n Q T (mkF m pc' Ls (.long (x >>> (z &&& 0x3f).toInt64) :: S))) : WP p e below s n0 k n Q T (mkF m pc Ls (.int z :: .long x :: S)) := by
  obtain ⟨⟨hx, hZ, hby, hml, hown, hnm, hret, hlk, h00⟩, hT, locs, X, N⟩ := X
  subst hp
  exact w.step fun t kk => XS.lshr X.here hx rfl (hb hby hd) rfl kk
theorem w_lushr (X : St p l e R s m args below meth c Z n0 y code maxL ret T h cells slots) {x : Int64} {z : Int32} (hd : decode code pc = .ok (.lushr, 1)) (hp : pc' = pc + 1) (w : WP p e below s n0 k n Q T (mkF m pc' Ls (.long ((x.toUInt64 >>> (z &&& 0x3f).toInt64.toUInt64).toInt64) :: S))) : WP p e below s n0 k n Q T (mkF m pc Ls (.int z :: .long x :: S)) := by
  obtain ⟨⟨hx, hZ, hby, hml, hown, hnm, hret, hlk, h00⟩, hT, locs, X, N⟩ := X
  subst hp
  exact w.step fun t kk => XS.lushr X.here hx rfl (hb hby hd) rfl kk
theorem w_i2b (X : St p l e R s m args below meth c Z n0 y code maxL ret T h cells slots) {x : Int32} (hd : decode code pc = .ok (.i2b, 1)) (hp : pc' = pc + 1) (w : WP p e below s n0 k n Q T (mkF m pc' Ls (.int x.toInt8.toInt32 :: S))) : WP p e below s n0 k n Q T (mkF m pc Ls (.int x :: S)) := by
  obtain ⟨⟨hx, hZ, hby, hml, hown, hnm, hret, hlk, h00⟩, hT, locs, X, N⟩ := X
  subst hp
  exact w.step fun t kk => XS.i2b X.here hx rfl (hb hby hd) rfl kk
theorem w_i2c (X : St p l e R s m args below meth c Z n0 y code maxL ret T h cells slots) {x : Int32} (hd : decode code pc = .ok (.i2c, 1)) (hp : pc' = pc + 1) (w : WP p e below s n0 k n Q T (mkF m pc' Ls (.int x.toUInt32.toUInt16.toUInt32.toInt32 :: S))) : WP p e below s n0 k n Q T (mkF m pc Ls (.int x :: S)) := by
  obtain ⟨⟨hx, hZ, hby, hml, hown, hnm, hret, hlk, h00⟩, hT, locs, X, N⟩ := X
  subst hp
  exact w.step fun t kk => XS.i2c X.here hx rfl (hb hby hd) rfl kk
theorem w_i2s (X : St p l e R s m args below meth c Z n0 y code maxL ret T h cells slots) {x : Int32} (hd : decode code pc = .ok (.i2s, 1)) (hp : pc' = pc + 1) (w : WP p e below s n0 k n Q T (mkF m pc' Ls (.int x.toInt16.toInt32 :: S))) : WP p e below s n0 k n Q T (mkF m pc Ls (.int x :: S)) := by
  obtain ⟨⟨hx, hZ, hby, hml, hown, hnm, hret, hlk, h00⟩, hT, locs, X, N⟩ := X
  subst hp
  exact w.step fun t kk => XS.i2s X.here hx rfl (hb hby hd) rfl kk
theorem w_i2l (X : St p l e R s m args below meth c Z n0 y code maxL ret T h cells slots) {x : Int32} (hd : decode code pc = .ok (.i2l, 1)) (hp : pc' = pc + 1) (w : WP p e below s n0 k n Q T (mkF m pc' Ls (.long x.toInt64 :: S))) : WP p e below s n0 k n Q T (mkF m pc Ls (.int x :: S)) := by
  obtain ⟨⟨hx, hZ, hby, hml, hown, hnm, hret, hlk, h00⟩, hT, locs, X, N⟩ := X
  subst hp
  exact w.step fun t kk => XS.i2l X.here hx rfl (hb hby hd) rfl kk
theorem w_l2i (X : St p l e R s m args below meth c Z n0 y code maxL ret T h cells slots) {x : Int64} (hd : decode code pc = .ok (.l2i, 1)) (hp : pc' = pc + 1) (w : WP p e below s n0 k n Q T (mkF m pc' Ls (.int x.toInt32 :: S))) : WP p e below s n0 k n Q T (mkF m pc Ls (.long x :: S)) := by
  obtain ⟨⟨hx, hZ, hby, hml, hown, hnm, hret, hlk, h00⟩, hT, locs, X, N⟩ := X
  subst hp
  exact w.step fun t kk => XS.l2i X.here hx rfl (hb hby hd) rfl kk
theorem w_lcmp (X : St p l e R s m args below meth c Z n0 y code maxL ret T h cells slots) {x z : Int64} (hd : decode code pc = .ok (.lcmp, 1)) (hp : pc' = pc + 1) (w : WP p e below s n0 k n Q T (mkF m pc' Ls (.int (lcmpW x z) :: S))) : WP p e below s n0 k n Q T (mkF m pc Ls (.long z :: .long x :: S)) := by
  obtain ⟨⟨hx, hZ, hby, hml, hown, hnm, hret, hlk, h00⟩, hT, locs, X, N⟩ := X
  subst hp
  exact w.step fun t kk => XS.lcmp X.here hx rfl (hb hby hd) rfl kk
theorem w_dup (X : St p l e R s m args below meth c Z n0 y code maxL ret T h cells slots) {v : Value} (hd : decode code pc = .ok (.dup, 1)) (hv : v.category = 1) (hp : pc' = pc + 1) (w : WP p e below s n0 k n Q T (mkF m pc' Ls (v :: v :: S))) : WP p e below s n0 k n Q T (mkF m pc Ls (v :: S)) := by
  obtain ⟨⟨hx, hZ, hby, hml, hown, hnm, hret, hlk, h00⟩, hT, locs, X, N⟩ := X
  subst hp
  exact w.step fun t kk => XS.dup X.here hx rfl (hb hby hd) rfl hv kk
theorem w_pop (X : St p l e R s m args below meth c Z n0 y code maxL ret T h cells slots) {v : Value} (hd : decode code pc = .ok (.pop, 1)) (hv : v.category = 1) (hp : pc' = pc + 1) (w : WP p e below s n0 k n Q T (mkF m pc' Ls (S))) : WP p e below s n0 k n Q T (mkF m pc Ls (v :: S)) := by
  obtain ⟨⟨hx, hZ, hby, hml, hown, hnm, hret, hlk, h00⟩, hT, locs, X, N⟩ := X
  subst hp
  exact w.step fun t kk => XS.pop X.here hx rfl (hb hby hd) rfl hv kk
theorem w_dup_x1 (X : St p l e R s m args below meth c Z n0 y code maxL ret T h cells slots) {v u : Value} (hd : decode code pc = .ok (.dup_x1, 1)) (hv : v.category = 1) (hu : u.category = 1) (hp : pc' = pc + 1) (w : WP p e below s n0 k n Q T (mkF m pc' Ls (v :: u :: v :: S))) : WP p e below s n0 k n Q T (mkF m pc Ls (v :: u :: S)) := by
  obtain ⟨⟨hx, hZ, hby, hml, hown, hnm, hret, hlk, h00⟩, hT, locs, X, N⟩ := X
  subst hp
  exact w.step fun t kk => XS.dupX1 X.here hx rfl (hb hby hd) rfl hv hu kk
theorem w_dup2 (X : St p l e R s m args below meth c Z n0 y code maxL ret T h cells slots) {j : Int32} {a : Addr} (hd : decode code pc = .ok (.dup2, 1)) (hp : pc' = pc + 1) (w : WP p e below s n0 k n Q T (mkF m pc' Ls (.int j :: .ref a :: .int j :: .ref a :: S))) : WP p e below s n0 k n Q T (mkF m pc Ls (.int j :: .ref a :: S)) := by
  obtain ⟨⟨hx, hZ, hby, hml, hown, hnm, hret, hlk, h00⟩, hT, locs, X, N⟩ := X
  subst hp
  refine w.step fun t kk => ?_
  have hd' := hb hby hd
  jvm_step X.here [X.here.top, hx, hd', Value.category]
  exact kk
theorem w_goto (X : St p l e R s m args below meth c Z n0 y code maxL ret T h cells slots) {o : Int} (hd : decode code pc = .ok (.goto o, 3)) (ho : 0 ≤ (pc : Int) + o) (hp : ((pc : Int) + o).toNat = pc') (w : WP p e below s n0 k n Q T (mkF m pc' Ls S)) : WP p e below s n0 k n Q T (mkF m pc Ls S) := by
  obtain ⟨⟨hx, hZ, hby, hml, hown, hnm, hret, hlk, h00⟩, hT, locs, X, N⟩ := X
  exact w.step fun t kk => XS.goto X.here hx rfl rfl (hb hby hd) ho hp kk
theorem w_icmp_lt (X : St p l e R s m args below meth c Z n0 y code maxL ret T h cells slots) {o : Int} {x z : Int32} {p1 p2 : Nat} (hd : decode code pc = .ok (.if_icmp .lt o, 3)) (ho : 0 ≤ (pc : Int) + o) (h1 : ((pc : Int) + o).toNat = p1) (h2 : p2 = pc + 3) (wt : x < z → WP p e below s n0 k n Q T (mkF m p1 Ls S)) (wf : ¬ x < z → WP p e below s n0 k n Q T (mkF m p2 Ls S)) : WP p e below s n0 k n Q T (mkF m pc Ls (.int z :: .int x :: S)) := by
  obtain ⟨⟨hx, hZ, hby, hml, hown, hnm, hret, hlk, h00⟩, hT, locs, X, N⟩ := X
  subst h2
  by_cases q0 : x < z
  · have q := q0
    exact (wt q).step fun t kk => XS.icmpYes X.here hx rfl rfl (hb hby hd) rfl (tlt q).1 ho h1 kk
  · have q := q0
    exact (wf q).step fun t kk => XS.icmpNo X.here hx rfl (hb hby hd) rfl (flt q).1 kk
theorem w_if_lt (X : St p l e R s m args below meth c Z n0 y code maxL ret T h cells slots) {o : Int} {x : Int32} {p1 p2 : Nat} (hd : decode code pc = .ok (.ifCond .lt o, 3)) (ho : 0 ≤ (pc : Int) + o) (h1 : ((pc : Int) + o).toNat = p1) (h2 : p2 = pc + 3) (wt : x < (0 : Int32) → WP p e below s n0 k n Q T (mkF m p1 Ls S)) (wf : ¬ x < (0 : Int32) → WP p e below s n0 k n Q T (mkF m p2 Ls S)) : WP p e below s n0 k n Q T (mkF m pc Ls (.int x :: S)) := by
  obtain ⟨⟨hx, hZ, hby, hml, hown, hnm, hret, hlk, h00⟩, hT, locs, X, N⟩ := X
  subst h2
  by_cases q0 : x < (0 : Int32)
  · have q := q0
    exact (wt q).step fun t kk => XS.ifYes X.here hx rfl rfl (hb hby hd) rfl ((if0 _ _).trans (tlt q).1) ho h1 kk
  · have q := q0
    exact (wf q).step fun t kk => XS.ifNo X.here hx rfl (hb hby hd) rfl ((if0 _ _).trans (flt q).1) kk
theorem w_lcmp_lt (X : St p l e R s m args below meth c Z n0 y code maxL ret T h cells slots) {o : Int} {x z : Int64} {p0 p1 p2 : Nat} (hd0 : decode code pc = .ok (.lcmp, 1)) (h0 : p0 = pc + 1) (hd : decode code p0 = .ok (.ifCond .lt o, 3)) (ho : 0 ≤ (p0 : Int) + o) (h1 : ((p0 : Int) + o).toNat = p1) (h2 : p2 = p0 + 3) (wt : x < z → WP p e below s n0 k n Q T (mkF m p1 Ls S)) (wf : ¬ x < z → WP p e below s n0 k n Q T (mkF m p2 Ls S)) : WP p e below s n0 k n Q T (mkF m pc Ls (.long z :: .long x :: S)) :=
  w_lcmp X hd0 h0 (w_if_lt X hd ho h1 h2 (fun q => wt ((lw_lt _ _).mp q)) (fun q => wf (fun u => q ((lw_lt _ _).mpr u))))
theorem w_icmp_ge (X : St p l e R s m args below meth c Z n0 y code maxL ret T h cells slots) {o : Int} {x z : Int32} {p1 p2 : Nat} (hd : decode code pc = .ok (.if_icmp .ge o, 3)) (ho : 0 ≤ (pc : Int) + o) (h1 : ((pc : Int) + o).toNat = p1) (h2 : p2 = pc + 3) (wt : ¬ x < z → WP p e below s n0 k n Q T (mkF m p1 Ls S)) (wf : x < z → WP p e below s n0 k n Q T (mkF m p2 Ls S)) : WP p e below s n0 k n Q T (mkF m pc Ls (.int z :: .int x :: S)) := by
  obtain ⟨⟨hx, hZ, hby, hml, hown, hnm, hret, hlk, h00⟩, hT, locs, X, N⟩ := X
  subst h2
  by_cases q0 : x < z
  · have q := q0
    exact (wf q).step fun t kk => XS.icmpNo X.here hx rfl (hb hby hd) rfl (tlt q).2.1 kk
  · have q := q0
    exact (wt q).step fun t kk => XS.icmpYes X.here hx rfl rfl (hb hby hd) rfl (flt q).2.1 ho h1 kk
theorem w_if_ge (X : St p l e R s m args below meth c Z n0 y code maxL ret T h cells slots) {o : Int} {x : Int32} {p1 p2 : Nat} (hd : decode code pc = .ok (.ifCond .ge o, 3)) (ho : 0 ≤ (pc : Int) + o) (h1 : ((pc : Int) + o).toNat = p1) (h2 : p2 = pc + 3) (wt : ¬ x < (0 : Int32) → WP p e below s n0 k n Q T (mkF m p1 Ls S)) (wf : x < (0 : Int32) → WP p e below s n0 k n Q T (mkF m p2 Ls S)) : WP p e below s n0 k n Q T (mkF m pc Ls (.int x :: S)) := by
  obtain ⟨⟨hx, hZ, hby, hml, hown, hnm, hret, hlk, h00⟩, hT, locs, X, N⟩ := X
  subst h2
  by_cases q0 : x < (0 : Int32)
  · have q := q0
    exact (wf q).step fun t kk => XS.ifNo X.here hx rfl (hb hby hd) rfl ((if0 _ _).trans (tlt q).2.1) kk
  · have q := q0
    exact (wt q).step fun t kk => XS.ifYes X.here hx rfl rfl (hb hby hd) rfl ((if0 _ _).trans (flt q).2.1) ho h1 kk
theorem w_lcmp_ge (X : St p l e R s m args below meth c Z n0 y code maxL ret T h cells slots) {o : Int} {x z : Int64} {p0 p1 p2 : Nat} (hd0 : decode code pc = .ok (.lcmp, 1)) (h0 : p0 = pc + 1) (hd : decode code p0 = .ok (.ifCond .ge o, 3)) (ho : 0 ≤ (p0 : Int) + o) (h1 : ((p0 : Int) + o).toNat = p1) (h2 : p2 = p0 + 3) (wt : ¬ x < z → WP p e below s n0 k n Q T (mkF m p1 Ls S)) (wf : x < z → WP p e below s n0 k n Q T (mkF m p2 Ls S)) : WP p e below s n0 k n Q T (mkF m pc Ls (.long z :: .long x :: S)) :=
  w_lcmp X hd0 h0 (w_if_ge X hd ho h1 h2 (fun q => wt (fun u => q ((lw_lt _ _).mpr u))) (fun q => wf ((lw_lt _ _).mp q)))
theorem w_icmp_gt (X : St p l e R s m args below meth c Z n0 y code maxL ret T h cells slots) {o : Int} {x z : Int32} {p1 p2 : Nat} (hd : decode code pc = .ok (.if_icmp .gt o, 3)) (ho : 0 ≤ (pc : Int) + o) (h1 : ((pc : Int) + o).toNat = p1) (h2 : p2 = pc + 3) (wt : z < x → WP p e below s n0 k n Q T (mkF m p1 Ls S)) (wf : ¬ z < x → WP p e below s n0 k n Q T (mkF m p2 Ls S)) : WP p e below s n0 k n Q T (mkF m pc Ls (.int z :: .int x :: S)) := by
  obtain ⟨⟨hx, hZ, hby, hml, hown, hnm, hret, hlk, h00⟩, hT, locs, X, N⟩ := X
  subst h2
  by_cases q0 : z < x
  · have q := q0
    exact (wt q).step fun t kk => XS.icmpYes X.here hx rfl rfl (hb hby hd) rfl (tlt q).2.2.1 ho h1 kk
  · have q := q0
    exact (wf q).step fun t kk => XS.icmpNo X.here hx rfl (hb hby hd) rfl (flt q).2.2.1 kk
theorem w_if_gt (X : St p l e R s m args below meth c Z n0 y code maxL ret T h cells slots) {o : Int} {x : Int32} {p1 p2 : Nat} (hd : decode code pc = .ok (.ifCond .gt o, 3)) (ho : 0 ≤ (pc : Int) + o) (h1 : ((pc : Int) + o).toNat = p1) (h2 : p2 = pc + 3) (wt : (0 : Int32) < x → WP p e below s n0 k n Q T (mkF m p1 Ls S)) (wf : ¬ (0 : Int32) < x → WP p e below s n0 k n Q T (mkF m p2 Ls S)) : WP p e below s n0 k n Q T (mkF m pc Ls (.int x :: S)) := by
  obtain ⟨⟨hx, hZ, hby, hml, hown, hnm, hret, hlk, h00⟩, hT, locs, X, N⟩ := X
  subst h2
  by_cases q0 : (0 : Int32) < x
  · have q := q0
    exact (wt q).step fun t kk => XS.ifYes X.here hx rfl rfl (hb hby hd) rfl ((if0 _ _).trans (tlt q).2.2.1) ho h1 kk
  · have q := q0
    exact (wf q).step fun t kk => XS.ifNo X.here hx rfl (hb hby hd) rfl ((if0 _ _).trans (flt q).2.2.1) kk
theorem w_lcmp_gt (X : St p l e R s m args below meth c Z n0 y code maxL ret T h cells slots) {o : Int} {x z : Int64} {p0 p1 p2 : Nat} (hd0 : decode code pc = .ok (.lcmp, 1)) (h0 : p0 = pc + 1) (hd : decode code p0 = .ok (.ifCond .gt o, 3)) (ho : 0 ≤ (p0 : Int) + o) (h1 : ((p0 : Int) + o).toNat = p1) (h2 : p2 = p0 + 3) (wt : z < x → WP p e below s n0 k n Q T (mkF m p1 Ls S)) (wf : ¬ z < x → WP p e below s n0 k n Q T (mkF m p2 Ls S)) : WP p e below s n0 k n Q T (mkF m pc Ls (.long z :: .long x :: S)) :=
  w_lcmp X hd0 h0 (w_if_gt X hd ho h1 h2 (fun q => wt ((lw_gt _ _).mp q)) (fun q => wf (fun u => q ((lw_gt _ _).mpr u))))
theorem w_icmp_le (X : St p l e R s m args below meth c Z n0 y code maxL ret T h cells slots) {o : Int} {x z : Int32} {p1 p2 : Nat} (hd : decode code pc = .ok (.if_icmp .le o, 3)) (ho : 0 ≤ (pc : Int) + o) (h1 : ((pc : Int) + o).toNat = p1) (h2 : p2 = pc + 3) (wt : ¬ z < x → WP p e below s n0 k n Q T (mkF m p1 Ls S)) (wf : z < x → WP p e below s n0 k n Q T (mkF m p2 Ls S)) : WP p e below s n0 k n Q T (mkF m pc Ls (.int z :: .int x :: S)) := by
  obtain ⟨⟨hx, hZ, hby, hml, hown, hnm, hret, hlk, h00⟩, hT, locs, X, N⟩ := X
  subst h2
  by_cases q0 : z < x
  · have q := q0
    exact (wf q).step fun t kk => XS.icmpNo X.here hx rfl (hb hby hd) rfl (tlt q).2.2.2 kk
  · have q := q0
    exact (wt q).step fun t kk => XS.icmpYes X.here hx rfl rfl (hb hby hd) rfl (flt q).2.2.2 ho h1 kk
theorem w_if_le (X : St p l e R s m args below meth c Z n0 y code maxL ret T h cells slots) {o : Int} {x : Int32} {p1 p2 : Nat} (hd : decode code pc = .ok (.ifCond .le o, 3)) (ho : 0 ≤ (pc : Int) + o) (h1 : ((pc : Int) + o).toNat = p1) (h2 : p2 = pc + 3) (wt : ¬ (0 : Int32) < x → WP p e below s n0 k n Q T (mkF m p1 Ls S)) (wf : (0 : Int32) < x → WP p e below s n0 k n Q T (mkF m p2 Ls S)) : WP p e below s n0 k n Q T (mkF m pc Ls (.int x :: S)) := by
  obtain ⟨⟨hx, hZ, hby, hml, hown, hnm, hret, hlk, h00⟩, hT, locs, X, N⟩ := X
  subst h2
  by_cases q0 : (0 : Int32) < x
  · have q := q0
    exact (wf q).step fun t kk => XS.ifNo X.here hx rfl (hb hby hd) rfl ((if0 _ _).trans (tlt q).2.2.2) kk
  · have q := q0
    exact (wt q).step fun t kk => XS.ifYes X.here hx rfl rfl (hb hby hd) rfl ((if0 _ _).trans (flt q).2.2.2) ho h1 kk
theorem w_lcmp_le (X : St p l e R s m args below meth c Z n0 y code maxL ret T h cells slots) {o : Int} {x z : Int64} {p0 p1 p2 : Nat} (hd0 : decode code pc = .ok (.lcmp, 1)) (h0 : p0 = pc + 1) (hd : decode code p0 = .ok (.ifCond .le o, 3)) (ho : 0 ≤ (p0 : Int) + o) (h1 : ((p0 : Int) + o).toNat = p1) (h2 : p2 = p0 + 3) (wt : ¬ z < x → WP p e below s n0 k n Q T (mkF m p1 Ls S)) (wf : z < x → WP p e below s n0 k n Q T (mkF m p2 Ls S)) : WP p e below s n0 k n Q T (mkF m pc Ls (.long z :: .long x :: S)) :=
  w_lcmp X hd0 h0 (w_if_le X hd ho h1 h2 (fun q => wt (fun u => q ((lw_gt _ _).mpr u))) (fun q => wf ((lw_gt _ _).mp q)))
theorem w_icmp_eq (X : St p l e R s m args below meth c Z n0 y code maxL ret T h cells slots) {o : Int} {x z : Int32} {p1 p2 : Nat} (hd : decode code pc = .ok (.if_icmp .eq o, 3)) (ho : 0 ≤ (pc : Int) + o) (h1 : ((pc : Int) + o).toNat = p1) (h2 : p2 = pc + 3) (wt : x = z → WP p e below s n0 k n Q T (mkF m p1 Ls S)) (wf : ¬ x = z → WP p e below s n0 k n Q T (mkF m p2 Ls S)) : WP p e below s n0 k n Q T (mkF m pc Ls (.int z :: .int x :: S)) := by
  obtain ⟨⟨hx, hZ, hby, hml, hown, hnm, hret, hlk, h00⟩, hT, locs, X, N⟩ := X
  subst h2
  by_cases q0 : x = z
  · have q := q0
    exact (wt q).step fun t kk => XS.icmpYes X.here hx rfl rfl (hb hby hd) rfl (teq q).1 ho h1 kk
  · have q := q0
    exact (wf q).step fun t kk => XS.icmpNo X.here hx rfl (hb hby hd) rfl (feq q).1 kk
theorem w_if_eq (X : St p l e R s m args below meth c Z n0 y code maxL ret T h cells slots) {o : Int} {x : Int32} {p1 p2 : Nat} (hd : decode code pc = .ok (.ifCond .eq o, 3)) (ho : 0 ≤ (pc : Int) + o) (h1 : ((pc : Int) + o).toNat = p1) (h2 : p2 = pc + 3) (wt : x = (0 : Int32) → WP p e below s n0 k n Q T (mkF m p1 Ls S)) (wf : ¬ x = (0 : Int32) → WP p e below s n0 k n Q T (mkF m p2 Ls S)) : WP p e below s n0 k n Q T (mkF m pc Ls (.int x :: S)) := by
  obtain ⟨⟨hx, hZ, hby, hml, hown, hnm, hret, hlk, h00⟩, hT, locs, X, N⟩ := X
  subst h2
  by_cases q0 : x = (0 : Int32)
  · have q := q0
    exact (wt q).step fun t kk => XS.ifYes X.here hx rfl rfl (hb hby hd) rfl ((if0 _ _).trans (teq q).1) ho h1 kk
  · have q := q0
    exact (wf q).step fun t kk => XS.ifNo X.here hx rfl (hb hby hd) rfl ((if0 _ _).trans (feq q).1) kk
theorem w_lcmp_eq (X : St p l e R s m args below meth c Z n0 y code maxL ret T h cells slots) {o : Int} {x z : Int64} {p0 p1 p2 : Nat} (hd0 : decode code pc = .ok (.lcmp, 1)) (h0 : p0 = pc + 1) (hd : decode code p0 = .ok (.ifCond .eq o, 3)) (ho : 0 ≤ (p0 : Int) + o) (h1 : ((p0 : Int) + o).toNat = p1) (h2 : p2 = p0 + 3) (wt : x = z → WP p e below s n0 k n Q T (mkF m p1 Ls S)) (wf : ¬ x = z → WP p e below s n0 k n Q T (mkF m p2 Ls S)) : WP p e below s n0 k n Q T (mkF m pc Ls (.long z :: .long x :: S)) :=
  w_lcmp X hd0 h0 (w_if_eq X hd ho h1 h2 (fun q => wt ((lw_eq _ _).mp q)) (fun q => wf (fun u => q ((lw_eq _ _).mpr u))))
theorem w_icmp_ne (X : St p l e R s m args below meth c Z n0 y code maxL ret T h cells slots) {o : Int} {x z : Int32} {p1 p2 : Nat} (hd : decode code pc = .ok (.if_icmp .ne o, 3)) (ho : 0 ≤ (pc : Int) + o) (h1 : ((pc : Int) + o).toNat = p1) (h2 : p2 = pc + 3) (wt : ¬ x = z → WP p e below s n0 k n Q T (mkF m p1 Ls S)) (wf : x = z → WP p e below s n0 k n Q T (mkF m p2 Ls S)) : WP p e below s n0 k n Q T (mkF m pc Ls (.int z :: .int x :: S)) := by
  obtain ⟨⟨hx, hZ, hby, hml, hown, hnm, hret, hlk, h00⟩, hT, locs, X, N⟩ := X
  subst h2
  by_cases q0 : x = z
  · have q := q0
    exact (wf q).step fun t kk => XS.icmpNo X.here hx rfl (hb hby hd) rfl (teq q).2 kk
  · have q := q0
    exact (wt q).step fun t kk => XS.icmpYes X.here hx rfl rfl (hb hby hd) rfl (feq q).2 ho h1 kk
theorem w_if_ne (X : St p l e R s m args below meth c Z n0 y code maxL ret T h cells slots) {o : Int} {x : Int32} {p1 p2 : Nat} (hd : decode code pc = .ok (.ifCond .ne o, 3)) (ho : 0 ≤ (pc : Int) + o) (h1 : ((pc : Int) + o).toNat = p1) (h2 : p2 = pc + 3) (wt : ¬ x = (0 : Int32) → WP p e below s n0 k n Q T (mkF m p1 Ls S)) (wf : x = (0 : Int32) → WP p e below s n0 k n Q T (mkF m p2 Ls S)) : WP p e below s n0 k n Q T (mkF m pc Ls (.int x :: S)) := by
  obtain ⟨⟨hx, hZ, hby, hml, hown, hnm, hret, hlk, h00⟩, hT, locs, X, N⟩ := X
  subst h2
  by_cases q0 : x = (0 : Int32)
  · have q := q0
    exact (wf q).step fun t kk => XS.ifNo X.here hx rfl (hb hby hd) rfl ((if0 _ _).trans (teq q).2) kk
  · have q := q0
    exact (wt q).step fun t kk => XS.ifYes X.here hx rfl rfl (hb hby hd) rfl ((if0 _ _).trans (feq q).2) ho h1 kk
theorem w_lcmp_ne (X : St p l e R s m args below meth c Z n0 y code maxL ret T h cells slots) {o : Int} {x z : Int64} {p0 p1 p2 : Nat} (hd0 : decode code pc = .ok (.lcmp, 1)) (h0 : p0 = pc + 1) (hd : decode code p0 = .ok (.ifCond .ne o, 3)) (ho : 0 ≤ (p0 : Int) + o) (h1 : ((p0 : Int) + o).toNat = p1) (h2 : p2 = p0 + 3) (wt : ¬ x = z → WP p e below s n0 k n Q T (mkF m p1 Ls S)) (wf : x = z → WP p e below s n0 k n Q T (mkF m p2 Ls S)) : WP p e below s n0 k n Q T (mkF m pc Ls (.long z :: .long x :: S)) :=
  w_lcmp X hd0 h0 (w_if_ne X hd ho h1 h2 (fun q => wt (fun u => q ((lw_eq _ _).mpr u))) (fun q => wf ((lw_eq _ _).mp q)))
theorem w_ifnull_ref (X : St p l e R s m args below meth c Z n0 y code maxL ret T h cells slots) {o : Int} {a : Addr} (hd : decode code pc = .ok (.ifnull o, 3)) (hp : pc' = pc + 3) (w : WP p e below s n0 k n Q T (mkF m pc' Ls S)) : WP p e below s n0 k n Q T (mkF m pc Ls (.ref a :: S)) := by
  obtain ⟨⟨hx, hZ, hby, hml, hown, hnm, hret, hlk, h00⟩, hT, locs, X, N⟩ := X
  subst hp
  exact w.step fun t kk => XS.ifnullNo X.here hx rfl (hb hby hd) rfl kk
theorem w_end (X : St p l e R s m args below meth c Z n0 y code maxL ret T h cells slots) {g : JFrame} {v : Option Value} (hv : ret = none → v = none) (hk : cells ≤ k) (hn : slots ≤ n) (hq : Q v h)
    (st : ∀ (locs : List Loc) (fs : List Frame), p.tables.exec = Jvm.exec → c.code = code → meth.sig.returnType = ret → Stand p l e R s m args below meth c T locs cells slots → (∀ (f : JFrame) (acts : List Action), f.method = m → f.locked = none → f.entered = [] → (doReturn e (T.setTop f) acts v).1 = T.setFrames fs) → Steps p.tables e below (T.setTop g) (T.setFrames fs)) : WP p e below s n0 k n Q T g := by
  obtain ⟨⟨hx, hZ, hby, hml, hown, hnm, hret, hlk, h00⟩, hT, locs, X, N⟩ := X
  obtain ⟨fs, hr, hrun, hended, hW, hsame⟩ := X.leave (v := v) (fun q => hv (hret ▸ q)) hlk
  refine ⟨_, _, st locs fs hx hby hret X hr, hrun, hended, _, _, rfl, ⟨?_, N⟩, ⟨_, rfl⟩, hW, hsame.mono hk hn⟩
  show Q v T.heap
  rw [hT]; exact hq
theorem w_retI (X : St p l e R s m args below meth c Z n0 y code maxL ret T h cells slots) {z : Int32} (hr : ret = some .int) (hd : decode code pc = .ok (.ireturn, 1)) (hk : cells ≤ k) (hn : slots ≤ n) (hq : Q (some (.int z)) h) : WP p e below s n0 k n Q T (mkF m pc Ls (.int z :: S)) :=
  w_end X (v := some (.int z)) (fun q => by rw [hr] at q; cases q) hk hn hq fun locs fs hx hby hret X hl => retOut X hx (hret.trans hr) rfl (Or.inl ⟨rfl, Or.inl rfl, z, rfl⟩) (hb hby hd) hl
theorem w_retJ (X : St p l e R s m args below meth c Z n0 y code maxL ret T h cells slots) {z : Int64} (hr : ret = some .long) (hd : decode code pc = .ok (.lreturn, 1)) (hk : cells ≤ k) (hn : slots ≤ n) (hq : Q (some (.long z)) h) : WP p e below s n0 k n Q T (mkF m pc Ls (.long z :: S)) :=
  w_end X (v := some (.long z)) (fun q => by rw [hr] at q; cases q) hk hn hq fun locs fs hx hby hret X hl => retOut X hx (hret.trans hr) rfl (Or.inr (Or.inl ⟨rfl, rfl, z, rfl⟩)) (hb hby hd) hl
theorem w_retA (X : St p l e R s m args below meth c Z n0 y code maxL ret T h cells slots) {a : Addr} {t : FieldType} (hr : ret = some t) (ht : t.isReference = true) (hnn : narrow t (.ref a) = .ref a) (hd : decode code pc = .ok (.areturn, 1)) (hk : cells ≤ k) (hn : slots ≤ n) (hq : Q (some (.ref a)) h) : WP p e below s n0 k n Q T (mkF m pc Ls (.ref a :: S)) :=
  w_end X (v := some (.ref a)) (fun q => by rw [hr] at q; cases q) hk hn hq fun locs fs hx hby hret X hl => retOut X hx (hret.trans hr) hnn (Or.inr (Or.inr (Or.inr (Or.inr ⟨rfl, ht, rfl⟩)))) (hb hby hd) hl
theorem w_retN (X : St p l e R s m args below meth c Z n0 y code maxL ret T h cells slots) {z z' : Int32} {t : FieldType} (hr : ret = some t) (ht : t = .boolean ∨ t = .byte ∨ t = .char ∨ t = .short) (hd : decode code pc = .ok (.ireturn, 1)) (hz : nar t z = z') (hk : cells ≤ k) (hn : slots ≤ n) (hq : Q (some (.int z')) h) : WP p e below s n0 k n Q T (mkF m pc Ls (.int z :: S)) :=
  w_end X (v := some (.int z')) (fun q => by rw [hr] at q; cases q) hk hn hq fun locs fs hx hby hret X hl => retN X hx (hret.trans hr) ht (hb hby hd) (by rw [hz]; exact hl)
theorem w_retZ (X : St p l e R s m args below meth c Z n0 y code maxL ret T h cells slots) {z : Int32} (hr : ret = some .boolean) (hd : decode code pc = .ok (.ireturn, 1)) (hz : z &&& 1 = z) (hk : cells ≤ k) (hn : slots ≤ n) (hq : Q (some (.int z)) h) : WP p e below s n0 k n Q T (mkF m pc Ls (.int z :: S)) :=
  w_retN X hr (Or.inl rfl) hd hz hk hn hq
theorem w_retV (X : St p l e R s m args below meth c Z n0 y code maxL ret T h cells slots) (hr : ret = none) (hd : decode code pc = .ok (.return_, 1)) (hk : cells ≤ k) (hn : slots ≤ n) (hq : Q none h) : WP p e below s n0 k n Q T (mkF m pc Ls []) :=
  w_end X (v := none) (fun _ => rfl) hk hn hq fun locs fs hx hby hret X hl => X.returnOut hx (hret.trans hr) (hb hby hd) hl
theorem St.of_back (X : St p l e R s m args below meth c Z n0 y code maxL ret T h cells slots) {locs : List Loc} (N : Fr n0 locs) {T' : State} {L' : List Loc} {cells' slots' : Nat} (X' : Stand p l e R s m args below meth c T' (locs ++ L') cells' slots') (N' : Fr n0 L') : St p l e R s m args below meth c Z n0 y code maxL ret T' T'.heap cells' slots' :=
  ⟨X.1, rfl, _, X', N.app N'⟩
theorem w_callS (X : St p l e R s m args below meth c Z n0 y code maxL ret T h cells slots) {z : MethodName} {idx : Nat} {code' : ByteArray} {maxL' : Nat} {ret' : Option FieldType} {rm : Room} (argsL rest : List Value) {Q' : Option Value → Heap → Prop} {ps : List FieldType} {r : Option FieldType} (W : Nat)
    (wl : (Jvm.Cond.methodLink y.cls idx z).before a0 Z = true) (wt : (Jvm.Cond.static z).before a0 Z = true) (wi : (Jvm.Cond.initialized z.cls).before a0 Z = true) (wc : (Jvm.Cond.code z code' maxL' ret').before a0 Z = true)
    (ct : Ct l Z z code' maxL' ret' rm argsL.toArray h n0 Q') (hd : decode code pc = .ok (.invokestatic idx, 3)) (pd : parseMethodDescriptor z.desc = some ⟨ps, r⟩) (hlen : argsL.length = ps.length) (hy : z.cls ≠ "java/lang/invoke/MethodHandle" ∧ z.cls ≠ "java/lang/invoke/VarHandle")
    (hsz : Ls.size = maxL) (hS : S = argsL.reverse ++ rest) (hW : (rest.map fun v => v.category).sum = W) (hfr : rm.frames + 1 ≤ R.frames) (hlo : W + (maxL' + 11) + rm.locals ≤ R.locals) (hc : cells + rm.cells ≤ R.cells) (hs : slots + rm.slots ≤ R.slots) (hp : pc' = pc + 3)
    (w : ∀ T' h' v, St p l e R s m args below meth c Z n0 y code maxL ret T' h' (cells + rm.cells) (slots + rm.slots) → Q' v h' → WP p e below s n0 k n Q T' (mkF m pc' Ls (v.toList ++ rest))) : WP p e below s n0 k n Q T (mkF m pc Ls S) := by
  have X1 := X
  obtain ⟨⟨hx, hZ, hby, hml, hown, hnm, hret, hlk, h00⟩, hT, locs, X, N⟩ := X
  subst hp hS
  obtain ⟨v, _, ⟨T', L', k', n'⟩, -, X', ⟨Lc, hQ, l1, y1, z1⟩, st⟩ := Jvm.LawKit.callS X hx (y := z) hown (mvT hZ wl) (mvT hZ wt) (mvT hZ wi) (mvT hZ wc) hy (backOf (W := W) (Q := fun v h L => Q' v h ∧ Fr n0 L) (ct []) hZ wc wi hfr hlo) (g := mkF m pc Ls (argsL.reverse ++ rest)) rfl (hsz.trans hml.symm) (argsL := argsL) (rest := rest) (lenOf pd hlen) rfl (by show 2 * 0 + _ ≤ _; omega) (hb hby hd) (fun _ _ => ⟨rfl, hT, hc, hs⟩)
  dsimp only [Pt.U, Pt.locs, Pt.cells, Pt.slots] at X' l1 y1 z1 st hQ
  subst l1 y1 z1
  exact (w T' T'.heap v (X1.of_back N X' hQ.2) hQ.1).step fun t kk => st t kk
theorem w_callV (X : St p l e R s m args below meth c Z n0 y code maxL ret T h cells slots) {z : MethodName} {C : String} {idx : Nat} {code' : ByteArray} {maxL' : Nat} {ret' : Option FieldType} {rm : Room} {a : Addr} (argsL rest : List Value) {Q' : Option Value → Heap → Prop} {ps : List FieldType} {r : Option FieldType} (W : Nat)
    (wl : (Jvm.Cond.methodLink y.cls idx z).before a0 Z = true) (wdc : (Jvm.Cond.declares z).before a0 Z = true) (wsel : (Jvm.Cond.selects C z z).before a0 Z = true) (wt : (Jvm.Cond.instanceMethod z).before a0 Z = true) (wi : (Jvm.Cond.initialized z.cls).before a0 Z = true) (wc : (Jvm.Cond.code z code' maxL' ret').before a0 Z = true)
    (E : Exa Z h a C) (ct : Ct l Z z code' maxL' ret' rm (.ref a :: argsL).toArray h n0 Q') (hd : decode code pc = .ok (.invokevirtual idx, 3)) (pd : parseMethodDescriptor z.desc = some ⟨ps, r⟩) (hlen : argsL.length = ps.length) (hy : z.cls ≠ "java/lang/invoke/MethodHandle" ∧ z.cls ≠ "java/lang/invoke/VarHandle")
    (hsz : Ls.size = maxL) (hS : S = argsL.reverse ++ .ref a :: rest) (hW : (rest.map fun v => v.category).sum = W) (hfr : rm.frames + 1 ≤ R.frames) (hlo : W + (maxL' + 11) + rm.locals ≤ R.locals) (hc : cells + rm.cells ≤ R.cells) (hs : slots + rm.slots ≤ R.slots) (hp : pc' = pc + 3)
    (w : ∀ T' h' v, St p l e R s m args below meth c Z n0 y code maxL ret T' h' (cells + rm.cells) (slots + rm.slots) → Q' v h' → WP p e below s n0 k n Q T' (mkF m pc' Ls (v.toList ++ rest))) : WP p e below s n0 k n Q T (mkF m pc Ls S) := by
  have X1 := X
  obtain ⟨⟨hx, hZ, hby, hml, hown, hnm, hret, hlk, h00⟩, hT, locs, X, N⟩ := X
  subst hp hS
  obtain ⟨cq, kq, qa, qb, qc⟩ := isOf hZ hT E
  obtain ⟨v, _, ⟨T', L', k', n'⟩, -, X', ⟨Lc, hQ, l1, y1, z1⟩, st⟩ := X.virtualBack hx (y := z) (z := z) hown (mvT hZ wl) (mvT hZ wdc) (notFace_of_selects (args := #[]) (mvT hZ wsel)) (mvT hZ wsel) (mvT hZ wt) hy (backOf (W := W) (Q := fun v h L => Q' v h ∧ Fr n0 L) (ct []) hZ wc wi hfr hlo) qa qc (g := mkF m pc Ls (argsL.reverse ++ .ref a :: rest)) rfl (hsz.trans hml.symm) (Steps.refl _) (argsL := argsL) (rest := rest) (lenOf pd hlen) rfl (by show 2 * 0 + _ ≤ _; omega) (hb hby hd) (fun _ _ => ⟨rfl, hT, hc, hs⟩)
  dsimp only [Pt.U, Pt.locs, Pt.cells, Pt.slots] at X' l1 y1 z1 st hQ
  subst l1 y1 z1
  exact (w T' T'.heap v (X1.of_back N X' hQ.2) hQ.1).trans st
theorem w_callC (X : St p l e R s m args below meth c Z n0 y code maxL ret T h cells slots) {z : MethodName} {idx : Nat} {code' : ByteArray} {maxL' : Nat} {rm : Room} {a : Addr} (argsL rest : List Value) {Q' : Option Value → Heap → Prop} {ps : List FieldType} {r : Option FieldType} (W : Nat)
    (hi : z.name = "<init>") (wl : (Jvm.Cond.methodLink y.cls idx z).before a0 Z = true) (wt : (Jvm.Cond.instanceMethod z).before a0 Z = true) (wi : (Jvm.Cond.initialized z.cls).before a0 Z = true) (wc : (Jvm.Cond.code z code' maxL' none).before a0 Z = true)
    (ct : Ct l Z z code' maxL' none rm (.ref a :: argsL).toArray h n0 Q') (hd : decode code pc = .ok (.invokespecial idx, 3)) (pd : parseMethodDescriptor z.desc = some ⟨ps, r⟩) (hlen : argsL.length = ps.length) (hy : z.cls ≠ "java/lang/invoke/MethodHandle" ∧ z.cls ≠ "java/lang/invoke/VarHandle")
    (hsz : Ls.size = maxL) (hS : S = argsL.reverse ++ .ref a :: rest) (hW : (rest.map fun v => v.category).sum = W) (hfr : rm.frames + 1 ≤ R.frames) (hlo : W + (maxL' + 11) + rm.locals ≤ R.locals) (hc : cells + rm.cells ≤ R.cells) (hs : slots + rm.slots ≤ R.slots) (hp : pc' = pc + 3)
    (w : ∀ T' h' v, St p l e R s m args below meth c Z n0 y code maxL ret T' h' (cells + rm.cells) (slots + rm.slots) → Q' v h' → WP p e below s n0 k n Q T' (mkF m pc' Ls (v.toList ++ rest))) : WP p e below s n0 k n Q T (mkF m pc Ls S) := by
  have X1 := X
  obtain ⟨⟨hx, hZ, hby, hml, hown, hnm, hret, hlk, h00⟩, hT, locs, X, N⟩ := X
  subst hp hS
  obtain ⟨v, _, ⟨T', L', k', n'⟩, -, X', ⟨Lc, hQ, l1, y1, z1⟩, st⟩ := X.specialBack hx (y := z) hi hown (mvT hZ wl) (mvT hZ wt) (mvT hZ wc) hy (backOf (W := W) (Q := fun v h L => Q' v h ∧ Fr n0 L) (ct []) hZ wc wi hfr hlo) (g := mkF m pc Ls (argsL.reverse ++ .ref a :: rest)) rfl (hsz.trans hml.symm) (Steps.refl _) (a := a) (argsL := argsL) (rest := rest) (lenOf pd hlen) rfl (by show 2 * 0 + _ ≤ _; omega) (hb hby hd) (fun _ _ => ⟨rfl, hT, hc, hs⟩)
  dsimp only [Pt.U, Pt.locs, Pt.cells, Pt.slots] at X' l1 y1 z1 st hQ
  subst l1 y1 z1
  exact (w T' T'.heap v (X1.of_back N X' hQ.2) hQ.1).trans st
theorem w_callP (X : St p l e R s m args below meth c Z n0 y code maxL ret T h cells slots) {z z0 : MethodName} {idx : Nat} {code' : ByteArray} {maxL' : Nat} {ret' : Option FieldType} {rm : Room} {a : Addr} (argsL rest : List Value) {Q' : Option Value → Heap → Prop} {ps : List FieldType} {r : Option FieldType} (W : Nat)
    (wl : (Jvm.Cond.methodLink y.cls idx z).before a0 Z = true) (wt : (Jvm.Cond.instanceMethod z).before a0 Z = true) (wp : (Jvm.Cond.privateMethod z).before a0 Z = true) (wsel : (Jvm.Cond.selects z0.cls z0 z0).before a0 Z = true) (h0 : z0.cls = z.cls) (wi : (Jvm.Cond.initialized z.cls).before a0 Z = true) (wc : (Jvm.Cond.code z code' maxL' ret').before a0 Z = true)
    (E : Exa Z h a z.cls) (ct : Ct l Z z code' maxL' ret' rm (.ref a :: argsL).toArray h n0 Q') (hd : decode code pc = .ok (.invokevirtual idx, 3)) (pd : parseMethodDescriptor z.desc = some ⟨ps, r⟩) (hlen : argsL.length = ps.length) (hy : z.cls ≠ "java/lang/invoke/MethodHandle" ∧ z.cls ≠ "java/lang/invoke/VarHandle")
    (hsz : Ls.size = maxL) (hS : S = argsL.reverse ++ .ref a :: rest) (hW : (rest.map fun v => v.category).sum = W) (hfr : rm.frames + 1 ≤ R.frames) (hlo : W + (maxL' + 11) + rm.locals ≤ R.locals) (hc : cells + rm.cells ≤ R.cells) (hs : slots + rm.slots ≤ R.slots) (hp : pc' = pc + 3)
    (w : ∀ T' h' v, St p l e R s m args below meth c Z n0 y code maxL ret T' h' (cells + rm.cells) (slots + rm.slots) → Q' v h' → WP p e below s n0 k n Q T' (mkF m pc' Ls (v.toList ++ rest))) : WP p e below s n0 k n Q T (mkF m pc Ls S) := by
  have X1 := X
  obtain ⟨⟨hx, hZ, hby, hml, hown, hnm, hret, hlk, h00⟩, hT, locs, X, N⟩ := X
  subst hp hS
  obtain ⟨cq, q, q'⟩ := E.cell
  obtain ⟨c2, r2, m2, e1, e2, e3, e4, kP, hkP, hkPi⟩ := Cond.selects_spec (mvT (args := args) hZ wsel)
  have e5 : s.vm.findClass z.cls = some m2.cls := h0 ▸ findClass_of_methodNamed e3
  have hpr : s.PrivateAt z := Cond.privateMethod_at (mvP hZ wp (args := args))
  have hsel : (Jvm.Cond.selects z.cls z z).before args s = true := selects_self_of_private e5 hkP hkPi hpr (mvT hZ wt) hy
  obtain ⟨v, _, ⟨T', L', k', n'⟩, -, X', ⟨Lc, hQ, l1, y1, z1⟩, st⟩ := X.privateBack hx (y := z) hown (mvT hZ wl) (mvT hZ wt) hsel hpr (mvT hZ wc) hy (backOf (W := W) (Q := fun v h L => Q' v h ∧ Fr n0 L) (ct []) hZ wc wi hfr hlo) (g := mkF m pc Ls (argsL.reverse ++ .ref a :: rest)) rfl (hsz.trans hml.symm) (Steps.refl _) (a := a) (by rw [hT]; exact q) q' (argsL := argsL) (rest := rest) (lenOf pd hlen) rfl (by show 2 * 0 + _ ≤ _; omega) (hb hby hd) (fun _ _ => ⟨rfl, hT, hc, hs⟩)
  dsimp only [Pt.U, Pt.locs, Pt.cells, Pt.slots] at X' l1 y1 z1 st hQ
  subst l1 y1 z1
  exact (w T' T'.heap v (X1.of_back N X' hQ.2) hQ.1).trans st
theorem w_initO (X : St p l e R s m args below meth c Z n0 y code maxL ret T h cells slots) {idx : Nat} {a : Addr} {W : Nat} (w1 : (Jvm.Cond.methodLink y.cls idx Lib.objectInit).before a0 Z = true) (w2 : (Jvm.Cond.instanceMethod Lib.objectInit).before a0 Z = true) (w3 : (Jvm.Cond.code Lib.objectInit ⟨#[0xb1]⟩ 1 none).before a0 Z = true)
    (hd : decode code pc = .ok (.invokespecial idx, 3)) (hsz : Ls.size = maxL) (hf : 1 ≤ R.frames) (hW : (S.map fun v => v.category).sum = W) (hl : W + 12 ≤ R.locals) (hp : pc' = pc + 3)
    (w : ∀ T', St p l e R s m args below meth c Z n0 y code maxL ret T' h cells slots → WP p e below s n0 k n Q T' (mkF m pc' Ls S)) : WP p e below s n0 k n Q T (mkF m pc Ls (.ref a :: S)) := by
  have X1 := X
  obtain ⟨⟨hx, hZ, hby, hml, hown, hnm, hret, hlk, h00⟩, hT, locs, X, N⟩ := X
  subst hp
  obtain ⟨T', X', e', st⟩ := initO X hx hZ hown w1 w2 w3 hT (g := mkF m pc Ls (.ref a :: S)) rfl (hsz.trans hml.symm) rfl (hb hby hd) hf (W := W) (by show 2 * 0 + _ ≤ _; omega) hl
  exact (w T' ⟨X1.1, e', locs, X', N⟩).step st
theorem w_getF (X : St p l e R s m args below meth c Z n0 y code maxL ret T h cells slots) {idx : Nat} {O nm d : String} {a : Addr} {v : Value} (wl : (Jvm.Cond.fieldLink y.cls idx O nm d).before a0 Z = true) (F : Fld Z h a O nm d v) (hd : decode code pc = .ok (.getfield idx, 3)) (hp : pc' = pc + 3)
    (w : ∀ T', St p l e R s m args below meth c Z n0 y code maxL ret T' h cells slots → WP p e below s n0 k n Q T' (mkF m pc' Ls (v :: S))) : WP p e below s n0 k n Q T (mkF m pc Ls (.ref a :: S)) := by
  have X1 := X
  obtain ⟨⟨hx, hZ, hby, hml, hown, hnm, hret, hlk, h00⟩, hT, locs, X, N⟩ := X
  subst hp
  obtain ⟨T', X', e', st⟩ := getF X hx hZ hown (host := "") (Or.inl wl) Via.refl hT F (g := mkF m pc Ls (.ref a :: S)) rfl rfl (hb hby hd)
  exact (w T' ⟨X1.1, e', locs, X', N⟩).step st
theorem w_putF (X : St p l e R s m args below meth c Z n0 y code maxL ret T h cells slots) {idx kk : Nat} {O nm d C : String} {ty : FieldType} {a : Addr} {v v' old : Value} (wl : (Jvm.Cond.fieldLink y.cls idx O nm d).before a0 Z = true) (F : Fld Z h a O nm d old) (E : Exa Z h a C) (L : (Jvm.Cond.lays C O nm d).before a0 Z = true ∨ ((Jvm.Cond.laysFinal C O nm d).before a0 Z = true ∧ y.cls = O ∧ y.name = "<init>")) (wi : (Jvm.Cond.instantiable C kk).before a0 Z = true) (ga : n0 ≤ a)
    (hd : decode code pc = .ok (.putfield idx, 3)) (hty : parseFieldDescriptor d = some ty) (hv : narrow ty v = v') (hf : fits ty v' = true) (hp : pc' = pc + 3)
    (w : ∀ T' h', St p l e R s m args below meth c Z n0 y code maxL ret T' h' cells slots → Wr h h' a (Jvm.RoadKit.slotOf Z O nm d) v' → WP p e below s n0 k n Q T' (mkF m pc' Ls S)) : WP p e below s n0 k n Q T (mkF m pc Ls (v :: .ref a :: S)) := by
  have X1 := X
  obtain ⟨⟨hx, hZ, hby, hml, hown, hnm, hret, hlk, h00⟩, hT, locs, X, N⟩ := X
  subst hp
  obtain ⟨T', h', X', e', W', st⟩ := putFN X hx hZ hown wl Via.refl hT F E (L.imp id fun q => ⟨q.1, q.2.1, hnm.trans q.2.2⟩) wi hty hv hf (g := mkF m pc Ls (v :: .ref a :: S)) rfl rfl (hb hby hd)
  exact (w T' h' ⟨X1.1, e', _, X', Fr.snoc X' N ga⟩ W').step st
theorem w_new (X : St p l e R s m args below meth c Z n0 y code maxL ret T h cells slots) {idx nn : Nat} {C : String} (wl : (Jvm.Cond.classLink y.cls idx C).before a0 Z = true) (wi : (Jvm.Cond.instantiable C nn).before a0 Z = true) (wz : (Jvm.Cond.initialized C).before a0 Z = true) (hd : decode code pc = .ok (.new idx, 3)) (hc : cells + 1 ≤ R.cells) (hl : slots + nn ≤ R.slots) (hp : pc' = pc + 3)
    (w : ∀ T' h' a, St p l e R s m args below meth c Z n0 y code maxL ret T' h' (cells + 1) (slots + nn) → a = h.size → n0 ≤ a → Ext h h' → Exa Z h' a C → (∀ {O f d : String} {ty : FieldType}, Laid Z a0 C O f d → parseFieldDescriptor d = some ty → Fld Z h' a O f d (defaultValue ty)) → WP p e below s n0 k n Q T' (mkF m pc' Ls (.ref a :: S))) : WP p e below s n0 k n Q T (mkF m pc Ls S) := by
  have X1 := X
  obtain ⟨⟨hx, hZ, hby, hml, hown, hnm, hret, hlk, h00⟩, hT, locs, X, N⟩ := X
  subst hp
  obtain ⟨T', h', X', e', E', A', D', -, st⟩ := newO X hx hZ hown wl wi wz hT (g := mkF m pc Ls S) rfl (hb hby hd) hc hl
  exact (w T' h' h.size ⟨X1.1, e', _, X', N⟩ rfl X1.n0le E' A' D').step st
theorem w_newarray (X : St p l e R s m args below meth c Z n0 y code maxL ret T h cells slots) {aty : ArrayType} {sz : Int32} (cap : Nat) (wa : (Jvm.Cond.arrayClass (newarray.typeOf aty)).before a0 Z = true) (hd : decode code pc = .ok (.newarray aty, 2)) (hz : ¬ sz < 0) (hcap : sz.toNatClampNeg ≤ cap) (hbig : cap * 8 ≤ 536870912) (hc : cells + 1 ≤ R.cells) (hl : slots + cap ≤ R.slots) (hp : pc' = pc + 2)
    (w : ∀ T' h' a cA, St p l e R s m args below meth c Z n0 y code maxL ret T' h' (cells + 1) (slots + cap) → a = h.size → n0 ≤ a → Ext h h' → Arr Z h' a (newA cA (newarray.typeOf aty) sz) (newarray.typeOf aty) → WP p e below s n0 k n Q T' (mkF m pc' Ls (.ref a :: S))) : WP p e below s n0 k n Q T (mkF m pc Ls (.int sz :: S)) := by
  have X1 := X
  obtain ⟨⟨hx, hZ, hby, hml, hown, hnm, hret, hlk, h00⟩, hT, locs, X, N⟩ := X
  subst hp
  obtain ⟨T', h', cA, X', e', E', A', st⟩ := newP X hx hZ wa hT (g := mkF m pc Ls (.int sz :: S)) rfl (hb hby hd) rfl hz hcap hbig hc hl
  exact (w T' h' h.size cA ⟨X1.1, e', _, X', N⟩ rfl X1.n0le E' A').step st
/-- the array at a: its kind, its length, what stands at each place -/
def AV (Z : State) (h : Heap) (a : Addr) (ty : FieldType) (n : Nat) (f : Nat → Value) : Prop := ∃ c : Cell, Arr Z h a c ty ∧ c.slots.size = n ∧ n < 2 ^ 31 ∧ ∀ i, i < n → c.slots[i]? = some (f i)
theorem AV.ext {a : Addr} {ty : FieldType} {n : Nat} {f : Nat → Value} {h' : Heap} (A : AV Z h a ty n f) (E : Ext h h') : AV Z h' a ty n f := by
  obtain ⟨c, A, r⟩ := A; exact ⟨c, A.ext E, r⟩
theorem AV.keep {a : Addr} {ty : FieldType} {n : Nat} {f : Nat → Value} {h' : Heap} {ws : List Addr} (A : AV Z h a ty n f) (K : Keep h h' ws) (q : a ∉ ws) : AV Z h' a ty n f := by
  obtain ⟨c, A, r⟩ := A; exact ⟨c, ⟨K.2.1 a c A.1 q, A.2⟩, r⟩
theorem AV.lt {a : Addr} {ty : FieldType} {n : Nat} {f : Nat → Value} (A : AV Z h a ty n f) : a < h.size := by
  obtain ⟨c, A, r⟩ := A; exact A.lt
theorem AV.len {a : Addr} {ty : FieldType} {n : Nat} {f : Nat → Value} (A : AV Z h a ty n f) : n < 2 ^ 31 := by
  obtain ⟨c, A, r⟩ := A; exact r.2.1
theorem AV.congr {a : Addr} {ty : FieldType} {n : Nat} {f g : Nat → Value} (A : AV Z h a ty n f) (q : ∀ i, i < n → f i = g i) : AV Z h a ty n g := by
  obtain ⟨c, A, r1, r2, r3⟩ := A; exact ⟨c, A, r1, r2, fun i hi => by rw [← q i hi]; exact r3 i hi⟩
theorem AV.new {a : Addr} {ty : FieldType} {sz : Int32} {cA : ClassId} {n : Nat} (A : Arr Z h a (newA cA ty sz) ty) (hn : sz.toInt = n) : AV Z h a ty n (fun _ => defaultValue ty) := by
  have q1 : sz.toNatClampNeg = n := by simp only [Int32.toNatClampNeg, hn]; omega
  have q2 := Int32.toInt_lt sz
  refine ⟨_, A, by rw [sz_new, q1], by omega, fun i hi => ?_⟩
  simp [newA, q1, hi]
theorem nat_at {j : Int32} {i : Nat} (hi : j.toInt = i) : j.toNatClampNeg = i := by simp only [Int32.toNatClampNeg, hi]; omega
theorem in_at {j : Int32} {i sz n : Nat} (hi : j.toInt = i) (hz : sz = n) (hlt : i < n) : ¬ (j < 0 ∨ sz ≤ j.toNatClampNeg) := by
  rw [nat_at hi, Int32.lt_iff_toInt_lt, hi]; simp only [Int32.reduceToInt]; omega
theorem AV.set {a : Addr} {ty : FieldType} {n i : Nat} {f : Nat → Value} {h' : Heap} {v : Value} (A : AV Z h a ty n f) (W : Wr h h' a i v) : AV Z h' a ty n (fun q => if q = i then v else f q) := by
  obtain ⟨c, A, r1, r2, r3⟩ := A
  obtain ⟨cell, w1, w2, w3, w4⟩ := id W
  have e1 : cell = c := by have := w1.symm.trans A.1; exact Option.some.inj this
  subst e1
  refine ⟨_, A.same W, by rw [sz_set]; exact r1, r2, fun q hq => ?_⟩
  by_cases e : q = i
  · subst e; simp [Cell.setSlot, w3]
  · have e' : ¬ i = q := fun u => e u.symm
    simp only [e, if_false, Cell.setSlot]
    rw [Array.getElem?_setIfInBounds_ne e']; exact r3 q hq
abbrev AI (Z : State) (h : Heap) (a : Addr) (ty : FieldType) (n : Nat) (g : Nat → Int32) : Prop := AV Z h a ty n (fun q => .int (g q))
abbrev AJ (Z : State) (h : Heap) (a : Addr) (n : Nat) (g : Nat → Int64) : Prop := AV Z h a .long n (fun q => .long (g q))
theorem AI.new {a : Addr} {ty : FieldType} {sz : Int32} {cA : ClassId} {n : Nat} (A : Arr Z h a (newA cA ty sz) ty) (hn : sz.toInt = n) (hd : defaultValue ty = .int 0) : AI Z h a ty n (fun _ => 0) := by
  have q := AV.new A hn; rw [hd] at q; exact q
theorem AJ.new {a : Addr} {sz : Int32} {cA : ClassId} {n : Nat} (A : Arr Z h a (newA cA .long sz) .long) (hn : sz.toInt = n) : AJ Z h a n (fun _ => 0) := AV.new A hn
theorem AI.set {a : Addr} {ty : FieldType} {n i : Nat} {g : Nat → Int32} {h' : Heap} {x : Int32} (A : AI Z h a ty n g) (W : Wr h h' a i (.int x)) : AI Z h' a ty n (fun q => if q = i then x else g q) :=
  (AV.set A W).congr fun q _ => by by_cases e : q = i <;> simp [e]
theorem AJ.set {a : Addr} {n i : Nat} {g : Nat → Int64} {h' : Heap} {x : Int64} (A : AJ Z h a n g) (W : Wr h h' a i (.long x)) : AJ Z h' a n (fun q => if q = i then x else g q) :=
  (AV.set A W).congr fun q _ => by by_cases e : q = i <;> simp [e]
theorem AI.congr {a : Addr} {ty : FieldType} {n : Nat} {f g : Nat → Int32} (A : AI Z h a ty n f) (q : ∀ i, i < n → f i = g i) : AI Z h a ty n g := AV.congr A fun i hi => by rw [q i hi]
theorem AJ.congr {a : Addr} {n : Nat} {f g : Nat → Int64} (A : AJ Z h a n f) (q : ∀ i, i < n → f i = g i) : AJ Z h a n g := AV.congr A fun i hi => by rw [q i hi]
theorem w_iaload (X : St p l e R s m args below meth c Z n0 y code maxL ret T h cells slots) {a : Addr} {N : Nat} {g : Nat → Int32} {j : Int32} {i : Nat} {v : Int32} (A : AI Z h a .int N g) (hd : decode code pc = .ok (.iaload, 1)) (hi : j.toInt = i) (hlt : i < N) (hv : g i = v) (hp : pc' = pc + 1) (w : WP p e below s n0 k n Q T (mkF m pc' Ls (.int v :: S))) : WP p e below s n0 k n Q T (mkF m pc Ls (.int j :: .ref a :: S)) := by
  obtain ⟨⟨hx, hZ, hby, hml, hown, hnm, hret, hlk, h00⟩, hT, locs, X, N⟩ := X
  subst hp hv
  obtain ⟨cl, A, r1, r2, r3⟩ := A
  exact w.step fun t kk => X.iaload hx (j := j) (v := .int (g i)) (by rw [hT]; exact A.1) (State.isArrayOf_alike hZ.alike A.2.1) A.2.2 (in_at hi r1 hlt) (by rw [nat_at hi]; exact r3 i hlt) (g := mkF m pc Ls (.int j :: .ref a :: S)) rfl rfl (hb hby hd) t kk
theorem w_laload (X : St p l e R s m args below meth c Z n0 y code maxL ret T h cells slots) {a : Addr} {N : Nat} {g : Nat → Int64} {j : Int32} {i : Nat} {v : Int64} (A : AJ Z h a N g) (hd : decode code pc = .ok (.laload, 1)) (hi : j.toInt = i) (hlt : i < N) (hv : g i = v) (hp : pc' = pc + 1) (w : WP p e below s n0 k n Q T (mkF m pc' Ls (.long v :: S))) : WP p e below s n0 k n Q T (mkF m pc Ls (.int j :: .ref a :: S)) := by
  obtain ⟨⟨hx, hZ, hby, hml, hown, hnm, hret, hlk, h00⟩, hT, locs, X, N⟩ := X
  subst hp hv
  obtain ⟨cl, A, r1, r2, r3⟩ := A
  exact w.step fun t kk => X.laload hx (j := j) (v := .long (g i)) (by rw [hT]; exact A.1) (State.isArrayOf_alike hZ.alike A.2.1) A.2.2 (in_at hi r1 hlt) (by rw [nat_at hi]; exact r3 i hlt) (g := mkF m pc Ls (.int j :: .ref a :: S)) rfl rfl (hb hby hd) t kk
theorem w_caload (X : St p l e R s m args below meth c Z n0 y code maxL ret T h cells slots) {a : Addr} {N : Nat} {g : Nat → Int32} {j : Int32} {i : Nat} {v : Int32} (A : AI Z h a .char N g) (hd : decode code pc = .ok (.caload, 1)) (hi : j.toInt = i) (hlt : i < N) (hv : g i = v) (hp : pc' = pc + 1) (w : WP p e below s n0 k n Q T (mkF m pc' Ls (.int v :: S))) : WP p e below s n0 k n Q T (mkF m pc Ls (.int j :: .ref a :: S)) := by
  obtain ⟨⟨hx, hZ, hby, hml, hown, hnm, hret, hlk, h00⟩, hT, locs, X, N⟩ := X
  subst hp hv
  obtain ⟨cl, A, r1, r2, r3⟩ := A
  exact w.step fun t kk => X.caload hx (j := j) (v := .int (g i)) (by rw [hT]; exact A.1) (State.isArrayOf_alike hZ.alike A.2.1) A.2.2 (in_at hi r1 hlt) (by rw [nat_at hi]; exact r3 i hlt) (g := mkF m pc Ls (.int j :: .ref a :: S)) rfl rfl (hb hby hd) t kk
theorem w_baload (X : St p l e R s m args below meth c Z n0 y code maxL ret T h cells slots) {a : Addr} {N : Nat} {g : Nat → Int32} {j : Int32} {i : Nat} {v : Int32} (A : AI Z h a .byte N g) (hd : decode code pc = .ok (.baload, 1)) (hi : j.toInt = i) (hlt : i < N) (hv : g i = v) (hp : pc' = pc + 1) (w : WP p e below s n0 k n Q T (mkF m pc' Ls (.int v :: S))) : WP p e below s n0 k n Q T (mkF m pc Ls (.int j :: .ref a :: S)) := by
  obtain ⟨⟨hx, hZ, hby, hml, hown, hnm, hret, hlk, h00⟩, hT, locs, X, N⟩ := X
  subst hp hv
  obtain ⟨cl, A, r1, r2, r3⟩ := A
  exact w.step fun t kk => X.baloadBytes hx (j := j) (v := .int (g i)) (by rw [hT]; exact A.1) (State.isArrayOf_alike hZ.alike A.2.1) A.2.2 (in_at hi r1 hlt) (by rw [nat_at hi]; exact r3 i hlt) (g := mkF m pc Ls (.int j :: .ref a :: S)) rfl rfl (hb hby hd) t kk
theorem w_arraylength (X : St p l e R s m args below meth c Z n0 y code maxL ret T h cells slots) {a : Addr} {ty : FieldType} {N : Nat} {f : Nat → Value} {z : Int32} (A : AV Z h a ty N f) (hd : decode code pc = .ok (.arraylength, 1)) (hz : N.toInt32 = z) (hp : pc' = pc + 1) (w : WP p e below s n0 k n Q T (mkF m pc' Ls (.int z :: S))) : WP p e below s n0 k n Q T (mkF m pc Ls (.ref a :: S)) := by
  obtain ⟨⟨hx, hZ, hby, hml, hown, hnm, hret, hlk, h00⟩, hT, locs, X, N⟩ := X
  subst hp hz
  obtain ⟨cl, A, r1, r2, r3⟩ := A
  refine w.step fun t kk => X.arraylength hx (by rw [hT]; exact A.1) (State.isArrayOf_alike hZ.alike A.2.1) (g := mkF m pc Ls (.ref a :: S)) rfl rfl (hb hby hd) t ?_
  rw [r1]; exact kk
theorem w_iastore (X : St p l e R s m args below meth c Z n0 y code maxL ret T h cells slots) {a : Addr} {N : Nat} {g : Nat → Int32} {j : Int32} {i : Nat} {x x' : Int32} (A : AI Z h a .int N g) (ga : n0 ≤ a) (hd : decode code pc = .ok (.iastore, 1)) (hi : j.toInt = i) (hlt : i < N) (hx' : x = x') (hp : pc' = pc + 1) (w : ∀ T' h', St p l e R s m args below meth c Z n0 y code maxL ret T' h' cells slots → Keep h h' [a] → AI Z h' a .int N (fun q => if q = i then x' else g q) → WP p e below s n0 k n Q T' (mkF m pc' Ls S)) : WP p e below s n0 k n Q T (mkF m pc Ls (.int x :: .int j :: .ref a :: S)) := by
  have X1 := X
  have A1 := A
  obtain ⟨⟨hx, hZ, hby, hml, hown, hnm, hret, hlk, h00⟩, hT, locs, X, N⟩ := X
  subst hp hx'
  obtain ⟨cl, A, r1, r2, r3⟩ := A
  obtain ⟨T', h', X', e', W', st⟩ := stI X hx hZ hT A (j := j) (x := x) (in_at hi r1 hlt) (g := mkF m pc Ls (.int x :: .int j :: .ref a :: S)) rfl rfl (hb hby hd)
  have N' := Fr.snoc X' N ga
  rw [nat_at hi] at W'
  exact (w T' h' ⟨X1.1, e', _, X', N'⟩ (Keep.of_wr W') (AI.set A1 W')).step st
theorem w_lastore (X : St p l e R s m args below meth c Z n0 y code maxL ret T h cells slots) {a : Addr} {N : Nat} {g : Nat → Int64} {j : Int32} {i : Nat} {x x' : Int64} (A : AJ Z h a N g) (ga : n0 ≤ a) (hd : decode code pc = .ok (.lastore, 1)) (hi : j.toInt = i) (hlt : i < N) (hx' : x = x') (hp : pc' = pc + 1) (w : ∀ T' h', St p l e R s m args below meth c Z n0 y code maxL ret T' h' cells slots → Keep h h' [a] → AJ Z h' a N (fun q => if q = i then x' else g q) → WP p e below s n0 k n Q T' (mkF m pc' Ls S)) : WP p e below s n0 k n Q T (mkF m pc Ls (.long x :: .int j :: .ref a :: S)) := by
  have X1 := X
  have A1 := A
  obtain ⟨⟨hx, hZ, hby, hml, hown, hnm, hret, hlk, h00⟩, hT, locs, X, N⟩ := X
  subst hp hx'
  obtain ⟨cl, A, r1, r2, r3⟩ := A
  obtain ⟨T', h', X', e', W', st⟩ := stJ X hx hZ hT A (j := j) (x := x) (in_at hi r1 hlt) (g := mkF m pc Ls (.long x :: .int j :: .ref a :: S)) rfl rfl (hb hby hd)
  have N' := Fr.snoc X' N ga
  rw [nat_at hi] at W'
  exact (w T' h' ⟨X1.1, e', _, X', N'⟩ (Keep.of_wr W') (AJ.set A1 W')).step st
theorem w_castore (X : St p l e R s m args below meth c Z n0 y code maxL ret T h cells slots) {a : Addr} {N : Nat} {g : Nat → Int32} {j : Int32} {i : Nat} {x x' : Int32} (A : AI Z h a .char N g) (ga : n0 ≤ a) (hd : decode code pc = .ok (.castore, 1)) (hi : j.toInt = i) (hlt : i < N) (hx' : nar .char x = x') (hp : pc' = pc + 1) (w : ∀ T' h', St p l e R s m args below meth c Z n0 y code maxL ret T' h' cells slots → Keep h h' [a] → AI Z h' a .char N (fun q => if q = i then x' else g q) → WP p e below s n0 k n Q T' (mkF m pc' Ls S)) : WP p e below s n0 k n Q T (mkF m pc Ls (.int x :: .int j :: .ref a :: S)) := by
  have X1 := X
  have A1 := A
  obtain ⟨⟨hx, hZ, hby, hml, hown, hnm, hret, hlk, h00⟩, hT, locs, X, N⟩ := X
  subst hp hx'
  obtain ⟨cl, A, r1, r2, r3⟩ := A
  obtain ⟨T', h', X', e', W', st⟩ := stC X hx hZ hT A (j := j) (x := x) (in_at hi r1 hlt) (g := mkF m pc Ls (.int x :: .int j :: .ref a :: S)) rfl rfl (hb hby hd)
  have N' := Fr.snoc X' N ga
  rw [nat_at hi] at W'
  exact (w T' h' ⟨X1.1, e', _, X', N'⟩ (Keep.of_wr W') (AI.set A1 W')).step st
theorem w_bastore (X : St p l e R s m args below meth c Z n0 y code maxL ret T h cells slots) {a : Addr} {N : Nat} {g : Nat → Int32} {j : Int32} {i : Nat} {x x' : Int32} (A : AI Z h a .byte N g) (ga : n0 ≤ a) (hd : decode code pc = .ok (.bastore, 1)) (hi : j.toInt = i) (hlt : i < N) (hx' : nar .byte x = x') (hp : pc' = pc + 1) (w : ∀ T' h', St p l e R s m args below meth c Z n0 y code maxL ret T' h' cells slots → Keep h h' [a] → AI Z h' a .byte N (fun q => if q = i then x' else g q) → WP p e below s n0 k n Q T' (mkF m pc' Ls S)) : WP p e below s n0 k n Q T (mkF m pc Ls (.int x :: .int j :: .ref a :: S)) := by
  have X1 := X
  have A1 := A
  obtain ⟨⟨hx, hZ, hby, hml, hown, hnm, hret, hlk, h00⟩, hT, locs, X, N⟩ := X
  subst hp hx'
  obtain ⟨cl, A, r1, r2, r3⟩ := A
  obtain ⟨T', h', X', e', W', st⟩ := stB X hx hZ hT A (j := j) (x := x) (in_at hi r1 hlt) (g := mkF m pc Ls (.int x :: .int j :: .ref a :: S)) rfl rfl (hb hby hd)
  have N' := Fr.snoc X' N ga
  rw [nat_at hi] at W'
  exact (w T' h' ⟨X1.1, e', _, X', N'⟩ (Keep.of_wr W') (AI.set A1 W')).step st
end Steps
end Jvm.Own
namespace Jvm.Pilot.@@N@@
open Jvm Jvm.ClassFile Sem Op Lib Jvm.Free Jvm.Stand Jvm.LawKit Jvm.RoadKit Bundle Jvm.Own Jvm.Pilot.@@N@@.Jvm.D
theorem tw0 {a0 : Array Value} {Z : State} (hw : ∀ d ∈ tables_1, d.before a0 Z = true) : (Jvm.Cond.constantLong "com/example/strauch/strauch/tree/TextPositionEndLinePinLaw" (7 : Nat) (2305843009213693951 : Int64)).before a0 Z = true := hw _ (List.mem_of_getElem? (i := 0) rfl)
theorem tw1 {a0 : Array Value} {Z : State} (hw : ∀ d ∈ tables_1, d.before a0 Z = true) : (Jvm.Cond.classLink "com/example/strauch/strauch/tree/TextPositionEndLinePinLaw" (9 : Nat) "com/example/strauch/strauch/tree/TextPosition").before a0 Z = true := hw _ (List.mem_of_getElem? (i := 1) rfl)
theorem tw2 {a0 : Array Value} {Z : State} (hw : ∀ d ∈ tables_1, d.before a0 Z = true) : (Jvm.Cond.instantiable "com/example/strauch/strauch/tree/TextPosition" (3 : Nat)).before a0 Z = true := hw _ (List.mem_of_getElem? (i := 2) rfl)
theorem tw3 {a0 : Array Value} {Z : State} (hw : ∀ d ∈ tables_1, d.before a0 Z = true) : (Jvm.Cond.initialized "com/example/strauch/strauch/tree/TextPosition").before a0 Z = true := hw _ (List.mem_of_getElem? (i := 3) rfl)
theorem tw4 {a0 : Array Value} {Z : State} (hw : ∀ d ∈ tables_1, d.before a0 Z = true) : (Jvm.Cond.methodLink "com/example/strauch/strauch/tree/TextPositionEndLinePinLaw" (11 : Nat) ({ cls := "com/example/strauch/strauch/tree/TextPosition", name := "<init>", desc := "()V" } : Jvm.MethodName)).before a0 Z = true := hw _ (List.mem_of_getElem? (i := 4) rfl)
theorem tw5 {a0 : Array Value} {Z : State} (hw : ∀ d ∈ tables_1, d.before a0 Z = true) : (Jvm.Cond.instanceMethod ({ cls := "com/example/strauch/strauch/tree/TextPosition", name := "<init>", desc := "()V" } : Jvm.MethodName)).before a0 Z = true := hw _ (List.mem_of_getElem? (i := 5) rfl)
theorem tw6 {a0 : Array Value} {Z : State} (hw : ∀ d ∈ tables_1, d.before a0 Z = true) : (Jvm.Cond.code ({ cls := "com/example/strauch/strauch/tree/TextPosition", name := "<init>", desc := "()V" } : Jvm.MethodName) prog_84_method_1_code (1 : Nat) (Option.none : Option Jvm.ClassFile.FieldType)).before a0 Z = true := hw _ (List.mem_of_getElem? (i := 6) rfl)
theorem tw7 {a0 : Array Value} {Z : State} (hw : ∀ d ∈ tables_1, d.before a0 Z = true) : (Jvm.Cond.methodLink "com/example/strauch/strauch/tree/TextPosition" (1 : Nat) ({ cls := "java/lang/Object", name := "<init>", desc := "()V" } : Jvm.MethodName)).before a0 Z = true := hw _ (List.mem_of_getElem? (i := 7) rfl)
theorem tw8 {a0 : Array Value} {Z : State} (hw : ∀ d ∈ tables_1, d.before a0 Z = true) : (Jvm.Cond.instanceMethod ({ cls := "java/lang/Object", name := "<init>", desc := "()V" } : Jvm.MethodName)).before a0 Z = true := hw _ (List.mem_of_getElem? (i := 8) rfl)
theorem tw9 {a0 : Array Value} {Z : State} (hw : ∀ d ∈ tables_1, d.before a0 Z = true) : (Jvm.Cond.code ({ cls := "java/lang/Object", name := "<init>", desc := "()V" } : Jvm.MethodName) object_method_1_code (1 : Nat) (Option.none : Option Jvm.ClassFile.FieldType)).before a0 Z = true := hw _ (List.mem_of_getElem? (i := 9) rfl)
theorem tw10 {a0 : Array Value} {Z : State} (hw : ∀ d ∈ tables_1, d.before a0 Z = true) : (Jvm.Cond.fieldLink "com/example/strauch/strauch/tree/TextPosition" (7 : Nat) "com/example/strauch/strauch/tree/TextPosition" "line" "I").before a0 Z = true := hw _ (List.mem_of_getElem? (i := 10) rfl)
theorem tw11 {a0 : Array Value} {Z : State} (hw : ∀ d ∈ tables_1, d.before a0 Z = true) : (Jvm.Cond.lays "com/example/strauch/strauch/tree/TextPosition" "com/example/strauch/strauch/tree/TextPosition" "line" "I").before a0 Z = true := hw _ (List.mem_of_getElem? (i := 11) rfl)
theorem tw12 {a0 : Array Value} {Z : State} (hw : ∀ d ∈ tables_1, d.before a0 Z = true) : (Jvm.Cond.methodLink "com/example/strauch/strauch/tree/TextPositionEndLinePinLaw" (12 : Nat) ({ cls := "com/example/strauch/strauch/tree/TextPosition", name := "endLine", desc := "(CJ)V" } : Jvm.MethodName)).before a0 Z = true := hw _ (List.mem_of_getElem? (i := 12) rfl)
theorem tw13 {a0 : Array Value} {Z : State} (hw : ∀ d ∈ tables_1, d.before a0 Z = true) : (Jvm.Cond.declares ({ cls := "com/example/strauch/strauch/tree/TextPosition", name := "endLine", desc := "(CJ)V" } : Jvm.MethodName)).before a0 Z = true := hw _ (List.mem_of_getElem? (i := 13) rfl)
theorem tw14 {a0 : Array Value} {Z : State} (hw : ∀ d ∈ tables_1, d.before a0 Z = true) : (Jvm.Cond.instanceMethod ({ cls := "com/example/strauch/strauch/tree/TextPosition", name := "endLine", desc := "(CJ)V" } : Jvm.MethodName)).before a0 Z = true := hw _ (List.mem_of_getElem? (i := 14) rfl)
theorem tw15 {a0 : Array Value} {Z : State} (hw : ∀ d ∈ tables_1, d.before a0 Z = true) : (Jvm.Cond.selects "com/example/strauch/strauch/tree/TextPosition" ({ cls := "com/example/strauch/strauch/tree/TextPosition", name := "endLine", desc := "(CJ)V" } : Jvm.MethodName) ({ cls := "com/example/strauch/strauch/tree/TextPosition", name := "endLine", desc := "(CJ)V" } : Jvm.MethodName)).before a0 Z = true := hw _ (List.mem_of_getElem? (i := 15) rfl)
theorem tw16 {a0 : Array Value} {Z : State} (hw : ∀ d ∈ tables_1, d.before a0 Z = true) : (Jvm.Cond.code ({ cls := "com/example/strauch/strauch/tree/TextPosition", name := "endLine", desc := "(CJ)V" } : Jvm.MethodName) prog_84_method_3_code (5 : Nat) (Option.none : Option Jvm.ClassFile.FieldType)).before a0 Z = true := hw _ (List.mem_of_getElem? (i := 16) rfl)
theorem tw17 {a0 : Array Value} {Z : State} (hw : ∀ d ∈ tables_1, d.before a0 Z = true) : (Jvm.Cond.fieldLink "com/example/strauch/strauch/tree/TextPosition" (13 : Nat) "com/example/strauch/strauch/tree/TextPosition" "afterCarriageReturn" "Z").before a0 Z = true := hw _ (List.mem_of_getElem? (i := 17) rfl)
theorem tw18 {a0 : Array Value} {Z : State} (hw : ∀ d ∈ tables_1, d.before a0 Z = true) : (Jvm.Cond.lays "com/example/strauch/strauch/tree/TextPosition" "com/example/strauch/strauch/tree/TextPosition" "afterCarriageReturn" "Z").before a0 Z = true := hw _ (List.mem_of_getElem? (i := 18) rfl)
theorem tw19 {a0 : Array Value} {Z : State} (hw : ∀ d ∈ tables_1, d.before a0 Z = true) : (Jvm.Cond.fieldLink "com/example/strauch/strauch/tree/TextPosition" (17 : Nat) "com/example/strauch/strauch/tree/TextPosition" "lineStart" "J").before a0 Z = true := hw _ (List.mem_of_getElem? (i := 19) rfl)
theorem tw20 {a0 : Array Value} {Z : State} (hw : ∀ d ∈ tables_1, d.before a0 Z = true) : (Jvm.Cond.lays "com/example/strauch/strauch/tree/TextPosition" "com/example/strauch/strauch/tree/TextPosition" "lineStart" "J").before a0 Z = true := hw _ (List.mem_of_getElem? (i := 20) rfl)
theorem tw21 {a0 : Array Value} {Z : State} (hw : ∀ d ∈ tables_1, d.before a0 Z = true) : (Jvm.Cond.constantLong "com/example/strauch/strauch/tree/TextPositionEndLinePinLaw" (18 : Nat) (2147483647 : Int64)).before a0 Z = true := hw _ (List.mem_of_getElem? (i := 21) rfl)
theorem tw22 {a0 : Array Value} {Z : State} (hw : ∀ d ∈ tables_1, d.before a0 Z = true) : (Jvm.Cond.methodLink "com/example/strauch/strauch/tree/TextPositionEndLinePinLaw" (20 : Nat) ({ cls := "java/lang/Math", name := "min", desc := "(JJ)J" } : Jvm.MethodName)).before a0 Z = true := hw _ (List.mem_of_getElem? (i := 22) rfl)
theorem tw23 {a0 : Array Value} {Z : State} (hw : ∀ d ∈ tables_1, d.before a0 Z = true) : (Jvm.Cond.static ({ cls := "java/lang/Math", name := "min", desc := "(JJ)J" } : Jvm.MethodName)).before a0 Z = true := hw _ (List.mem_of_getElem? (i := 23) rfl)
theorem tw24 {a0 : Array Value} {Z : State} (hw : ∀ d ∈ tables_1, d.before a0 Z = true) : (Jvm.Cond.initialized "java/lang/Math").before a0 Z = true := hw _ (List.mem_of_getElem? (i := 24) rfl)
theorem tw25 {a0 : Array Value} {Z : State} (hw : ∀ d ∈ tables_1, d.before a0 Z = true) : (Jvm.Cond.code ({ cls := "java/lang/Math", name := "min", desc := "(JJ)J" } : Jvm.MethodName) jdk_29_method_70_code (4 : Nat) (Option.some Jvm.ClassFile.FieldType.long)).before a0 Z = true := hw _ (List.mem_of_getElem? (i := 25) rfl)
theorem tw26 {a0 : Array Value} {Z : State} (hw : ∀ d ∈ tables_1, d.before a0 Z = true) : (Jvm.Cond.methodLink "com/example/strauch/strauch/tree/TextPositionEndLinePinLaw" (26 : Nat) ({ cls := "com/example/strauch/strauch/tree/TextPosition", name := "getLine", desc := "()I" } : Jvm.MethodName)).before a0 Z = true := hw _ (List.mem_of_getElem? (i := 26) rfl)
theorem tw27 {a0 : Array Value} {Z : State} (hw : ∀ d ∈ tables_1, d.before a0 Z = true) : (Jvm.Cond.declares ({ cls := "com/example/strauch/strauch/tree/TextPosition", name := "getLine", desc := "()I" } : Jvm.MethodName)).before a0 Z = true := hw _ (List.mem_of_getElem? (i := 27) rfl)
theorem tw28 {a0 : Array Value} {Z : State} (hw : ∀ d ∈ tables_1, d.before a0 Z = true) : (Jvm.Cond.instanceMethod ({ cls := "com/example/strauch/strauch/tree/TextPosition", name := "getLine", desc := "()I" } : Jvm.MethodName)).before a0 Z = true := hw _ (List.mem_of_getElem? (i := 28) rfl)
theorem tw29 {a0 : Array Value} {Z : State} (hw : ∀ d ∈ tables_1, d.before a0 Z = true) : (Jvm.Cond.selects "com/example/strauch/strauch/tree/TextPosition" ({ cls := "com/example/strauch/strauch/tree/TextPosition", name := "getLine", desc := "()I" } : Jvm.MethodName) ({ cls := "com/example/strauch/strauch/tree/TextPosition", name := "getLine", desc := "()I" } : Jvm.MethodName)).before a0 Z = true := hw _ (List.mem_of_getElem? (i := 29) rfl)
theorem tw30 {a0 : Array Value} {Z : State} (hw : ∀ d ∈ tables_1, d.before a0 Z = true) : (Jvm.Cond.code ({ cls := "com/example/strauch/strauch/tree/TextPosition", name := "getLine", desc := "()I" } : Jvm.MethodName) prog_84_method_5_code (1 : Nat) (Option.some Jvm.ClassFile.FieldType.int)).before a0 Z = true := hw _ (List.mem_of_getElem? (i := 30) rfl)
theorem tw31 {a0 : Array Value} {Z : State} (hw : ∀ d ∈ tables_1, d.before a0 Z = true) : (Jvm.Cond.methodLink "com/example/strauch/strauch/tree/TextPositionEndLinePinLaw" (30 : Nat) ({ cls := "com/example/strauch/strauch/tree/TextPosition", name := "columnAt", desc := "(J)I" } : Jvm.MethodName)).before a0 Z = true := hw _ (List.mem_of_getElem? (i := 31) rfl)
theorem tw32 {a0 : Array Value} {Z : State} (hw : ∀ d ∈ tables_1, d.before a0 Z = true) : (Jvm.Cond.declares ({ cls := "com/example/strauch/strauch/tree/TextPosition", name := "columnAt", desc := "(J)I" } : Jvm.MethodName)).before a0 Z = true := hw _ (List.mem_of_getElem? (i := 32) rfl)
theorem tw33 {a0 : Array Value} {Z : State} (hw : ∀ d ∈ tables_1, d.before a0 Z = true) : (Jvm.Cond.instanceMethod ({ cls := "com/example/strauch/strauch/tree/TextPosition", name := "columnAt", desc := "(J)I" } : Jvm.MethodName)).before a0 Z = true := hw _ (List.mem_of_getElem? (i := 33) rfl)
theorem tw34 {a0 : Array Value} {Z : State} (hw : ∀ d ∈ tables_1, d.before a0 Z = true) : (Jvm.Cond.selects "com/example/strauch/strauch/tree/TextPosition" ({ cls := "com/example/strauch/strauch/tree/TextPosition", name := "columnAt", desc := "(J)I" } : Jvm.MethodName) ({ cls := "com/example/strauch/strauch/tree/TextPosition", name := "columnAt", desc := "(J)I" } : Jvm.MethodName)).before a0 Z = true := hw _ (List.mem_of_getElem? (i := 34) rfl)
theorem tw35 {a0 : Array Value} {Z : State} (hw : ∀ d ∈ tables_1, d.before a0 Z = true) : (Jvm.Cond.code ({ cls := "com/example/strauch/strauch/tree/TextPosition", name := "columnAt", desc := "(J)I" } : Jvm.MethodName) prog_84_method_6_code (3 : Nat) (Option.some Jvm.ClassFile.FieldType.int)).before a0 Z = true := hw _ (List.mem_of_getElem? (i := 35) rfl)
theorem tw36 {a0 : Array Value} {Z : State} (hw : ∀ d ∈ tables_1, d.before a0 Z = true) : (Jvm.Cond.constantLong "com/example/strauch/strauch/tree/TextPosition" (31 : Nat) (2147483647 : Int64)).before a0 Z = true := hw _ (List.mem_of_getElem? (i := 36) rfl)
theorem tw37 {a0 : Array Value} {Z : State} (hw : ∀ d ∈ tables_1, d.before a0 Z = true) : (Jvm.Cond.methodLink "com/example/strauch/strauch/tree/TextPosition" (33 : Nat) ({ cls := "java/lang/Math", name := "min", desc := "(JJ)J" } : Jvm.MethodName)).before a0 Z = true := hw _ (List.mem_of_getElem? (i := 37) rfl)
theorem tw38 {a0 : Array Value} {Z : State} (hw : ∀ d ∈ tables_1, d.before a0 Z = true) : (Jvm.Cond.constantLong "com/example/strauch/strauch/tree/TextPositionEndLinePinLaw" (34 : Nat) (2 : Int64)).before a0 Z = true := hw _ (List.mem_of_getElem? (i := 38) rfl)
theorem d1_0 : decode prog_84_method_1_code 0 = .ok (.aload_n 0, 1) := by decide +kernel
theorem d1_1 : decode prog_84_method_1_code 1 = .ok (.invokespecial 1, 3) := by decide +kernel
theorem d1_4 : decode prog_84_method_1_code 4 = .ok (.aload_n 0, 1) := by decide +kernel
theorem d1_5 : decode prog_84_method_1_code 5 = .ok (.iconst 1, 1) := by decide +kernel
theorem d1_6 : decode prog_84_method_1_code 6 = .ok (.putfield 7, 3) := by decide +kernel
theorem d1_9 : decode prog_84_method_1_code 9 = .ok (.return_, 1) := by decide +kernel
theorem d3_0 : decode prog_84_method_3_code 0 = .ok (.iload_n 1, 1) := by decide +kernel
theorem d3_1 : decode prog_84_method_3_code 1 = .ok (.bipush 10, 2) := by decide +kernel
theorem d3_3 : decode prog_84_method_3_code 3 = .ok (.if_icmp .ne 23, 3) := by decide +kernel
theorem d3_6 : decode prog_84_method_3_code 6 = .ok (.aload_n 0, 1) := by decide +kernel
theorem d3_7 : decode prog_84_method_3_code 7 = .ok (.getfield 13, 3) := by decide +kernel
theorem d3_10 : decode prog_84_method_3_code 10 = .ok (.ifCond .eq 16, 3) := by decide +kernel
theorem d3_13 : decode prog_84_method_3_code 13 = .ok (.lload_n 2, 1) := by decide +kernel
theorem d3_14 : decode prog_84_method_3_code 14 = .ok (.aload_n 0, 1) := by decide +kernel
theorem d3_15 : decode prog_84_method_3_code 15 = .ok (.getfield 17, 3) := by decide +kernel
theorem d3_18 : decode prog_84_method_3_code 18 = .ok (.lcmp, 1) := by decide +kernel
theorem d3_19 : decode prog_84_method_3_code 19 = .ok (.ifCond .ne 7, 3) := by decide +kernel
theorem d3_22 : decode prog_84_method_3_code 22 = .ok (.iconst 1, 1) := by decide +kernel
theorem d3_23 : decode prog_84_method_3_code 23 = .ok (.goto 4, 3) := by decide +kernel
theorem d3_26 : decode prog_84_method_3_code 26 = .ok (.iconst 0, 1) := by decide +kernel
theorem d3_27 : decode prog_84_method_3_code 27 = .ok (.istore 4, 2) := by decide +kernel
theorem d3_29 : decode prog_84_method_3_code 29 = .ok (.iload 4, 2) := by decide +kernel
theorem d3_31 : decode prog_84_method_3_code 31 = .ok (.ifCond .ne 13, 3) := by decide +kernel
theorem d3_34 : decode prog_84_method_3_code 34 = .ok (.aload_n 0, 1) := by decide +kernel
theorem d3_35 : decode prog_84_method_3_code 35 = .ok (.dup, 1) := by decide +kernel
theorem d3_36 : decode prog_84_method_3_code 36 = .ok (.getfield 7, 3) := by decide +kernel
theorem d3_39 : decode prog_84_method_3_code 39 = .ok (.iconst 1, 1) := by decide +kernel
theorem d3_40 : decode prog_84_method_3_code 40 = .ok (.iadd, 1) := by decide +kernel
theorem d3_41 : decode prog_84_method_3_code 41 = .ok (.putfield 7, 3) := by decide +kernel
theorem d3_44 : decode prog_84_method_3_code 44 = .ok (.aload_n 0, 1) := by decide +kernel
theorem d3_45 : decode prog_84_method_3_code 45 = .ok (.lload_n 2, 1) := by decide +kernel
theorem d3_46 : decode prog_84_method_3_code 46 = .ok (.lconst 1, 1) := by decide +kernel
theorem d3_47 : decode prog_84_method_3_code 47 = .ok (.ladd, 1) := by decide +kernel
theorem d3_48 : decode prog_84_method_3_code 48 = .ok (.putfield 17, 3) := by decide +kernel
theorem d3_51 : decode prog_84_method_3_code 51 = .ok (.aload_n 0, 1) := by decide +kernel
theorem d3_52 : decode prog_84_method_3_code 52 = .ok (.iload_n 1, 1) := by decide +kernel
theorem d3_53 : decode prog_84_method_3_code 53 = .ok (.bipush 13, 2) := by decide +kernel
theorem d3_55 : decode prog_84_method_3_code 55 = .ok (.if_icmp .ne 7, 3) := by decide +kernel
theorem d3_58 : decode prog_84_method_3_code 58 = .ok (.iconst 1, 1) := by decide +kernel
theorem d3_59 : decode prog_84_method_3_code 59 = .ok (.goto 4, 3) := by decide +kernel
theorem d3_62 : decode prog_84_method_3_code 62 = .ok (.iconst 0, 1) := by decide +kernel
theorem d3_63 : decode prog_84_method_3_code 63 = .ok (.putfield 13, 3) := by decide +kernel
theorem d3_66 : decode prog_84_method_3_code 66 = .ok (.return_, 1) := by decide +kernel
theorem d4_0 : decode jdk_29_method_70_code 0 = .ok (.lload_n 0, 1) := by decide +kernel
theorem d4_1 : decode jdk_29_method_70_code 1 = .ok (.lload_n 2, 1) := by decide +kernel
theorem d4_2 : decode jdk_29_method_70_code 2 = .ok (.lcmp, 1) := by decide +kernel
theorem d4_3 : decode jdk_29_method_70_code 3 = .ok (.ifCond .gt 7, 3) := by decide +kernel
theorem d4_6 : decode jdk_29_method_70_code 6 = .ok (.lload_n 0, 1) := by decide +kernel
theorem d4_7 : decode jdk_29_method_70_code 7 = .ok (.goto 4, 3) := by decide +kernel
theorem d4_10 : decode jdk_29_method_70_code 10 = .ok (.lload_n 2, 1) := by decide +kernel
theorem d4_11 : decode jdk_29_method_70_code 11 = .ok (.lreturn, 1) := by decide +kernel
theorem d5_0 : decode prog_84_method_5_code 0 = .ok (.aload_n 0, 1) := by decide +kernel
theorem d5_1 : decode prog_84_method_5_code 1 = .ok (.getfield 7, 3) := by decide +kernel
theorem d5_4 : decode prog_84_method_5_code 4 = .ok (.ireturn, 1) := by decide +kernel
theorem d6_0 : decode prog_84_method_6_code 0 = .ok (.lload_n 1, 1) := by decide +kernel
theorem d6_1 : decode prog_84_method_6_code 1 = .ok (.aload_n 0, 1) := by decide +kernel
theorem d6_2 : decode prog_84_method_6_code 2 = .ok (.getfield 17, 3) := by decide +kernel
theorem d6_5 : decode prog_84_method_6_code 5 = .ok (.lsub, 1) := by decide +kernel
theorem d6_6 : decode prog_84_method_6_code 6 = .ok (.lconst 1, 1) := by decide +kernel
theorem d6_7 : decode prog_84_method_6_code 7 = .ok (.ladd, 1) := by decide +kernel
theorem d6_8 : decode prog_84_method_6_code 8 = .ok (.ldc2_w 31, 3) := by decide +kernel
theorem d6_11 : decode prog_84_method_6_code 11 = .ok (.invokestatic 33, 3) := by decide +kernel
theorem d6_14 : decode prog_84_method_6_code 14 = .ok (.l2i, 1) := by decide +kernel
theorem d6_15 : decode prog_84_method_6_code 15 = .ok (.ireturn, 1) := by decide +kernel
theorem pd0 : parseMethodDescriptor "(JJ)J" = some ⟨[.long, .long], some .long⟩ := by decide +kernel
theorem pd1 : parseMethodDescriptor "()V" = some ⟨[], none⟩ := by decide +kernel
theorem pd2 : parseMethodDescriptor "(CJ)V" = some ⟨[.char, .long], none⟩ := by decide +kernel
theorem pd3 : parseMethodDescriptor "()I" = some ⟨[], some .int⟩ := by decide +kernel
theorem pd4 : parseMethodDescriptor "(J)I" = some ⟨[.long], some .int⟩ := by decide +kernel
def Tp (Z : State) (h : Heap) (a : Addr) (v0 v1 v2 : Value) : Prop := Exa Z h a "com/example/strauch/strauch/tree/TextPosition" ∧ Fld Z h a "com/example/strauch/strauch/tree/TextPosition" "line" "I" v0 ∧ Fld Z h a "com/example/strauch/strauch/tree/TextPosition" "afterCarriageReturn" "Z" v1 ∧ Fld Z h a "com/example/strauch/strauch/tree/TextPosition" "lineStart" "J" v2
theorem Tp.exa {Z : State} {h : Heap} {a : Addr} {v0 v1 v2 : Value} (O : Tp Z h a v0 v1 v2) : Exa Z h a "com/example/strauch/strauch/tree/TextPosition" := O.1
theorem Tp.lt {Z : State} {h : Heap} {a : Addr} {v0 v1 v2 : Value} (O : Tp Z h a v0 v1 v2) : a < h.size := O.1.lt
theorem Tp.ext {Z : State} {h h' : Heap} {a : Addr} {v0 v1 v2 : Value} (O : Tp Z h a v0 v1 v2) (X : Ext h h') : Tp Z h' a v0 v1 v2 := by
  obtain ⟨E, F0, F1, F2⟩ := O; exact ⟨E.ext X, F0.ext X, F1.ext X, F2.ext X⟩
theorem Tp.keep {Z : State} {h h' : Heap} {a : Addr} {ws : List Addr} {v0 v1 v2 : Value} (O : Tp Z h a v0 v1 v2) (K : Keep h h' ws) (q : a ∉ ws) : Tp Z h' a v0 v1 v2 := by
  obtain ⟨E, F0, F1, F2⟩ := O; exact ⟨E.keep K, F0.keep K q, F1.keep K q, F2.keep K q⟩
theorem Tp.get_line {Z : State} {h : Heap} {a : Addr} {v0 v1 v2 : Value} (O : Tp Z h a v0 v1 v2) : Fld Z h a "com/example/strauch/strauch/tree/TextPosition" "line" "I" v0 := by
  obtain ⟨E, F0, F1, F2⟩ := O; exact F0
theorem Tp.put_line {a0 : Array Value} {Z : State} (hw : ∀ d ∈ tables_1, d.before a0 Z = true) {h h' : Heap} {a : Addr} {v0 v1 v2 w : Value} (O : Tp Z h a v0 v1 v2) (W : Wr h h' a (Jvm.RoadKit.slotOf Z "com/example/strauch/strauch/tree/TextPosition" "line" "I") w) : Tp Z h' a w v1 v2 := by
  obtain ⟨E, F0, F1, F2⟩ := O; exact ⟨E.wr W, F0.same W, F1.other W (Or.inr (slot_ne (Or.inl (tw18 hw)) (Or.inl (tw11 hw)) (by decide) (t := .boolean) (t' := .int) (by decide) (by decide))), F2.other W (Or.inr (slot_ne (Or.inl (tw20 hw)) (Or.inl (tw11 hw)) (by decide) (t := .long) (t' := .int) (by decide) (by decide)))⟩
theorem Tp.get_afterCarriageReturn {Z : State} {h : Heap} {a : Addr} {v0 v1 v2 : Value} (O : Tp Z h a v0 v1 v2) : Fld Z h a "com/example/strauch/strauch/tree/TextPosition" "afterCarriageReturn" "Z" v1 := by
  obtain ⟨E, F0, F1, F2⟩ := O; exact F1
theorem Tp.put_afterCarriageReturn {a0 : Array Value} {Z : State} (hw : ∀ d ∈ tables_1, d.before a0 Z = true) {h h' : Heap} {a : Addr} {v0 v1 v2 w : Value} (O : Tp Z h a v0 v1 v2) (W : Wr h h' a (Jvm.RoadKit.slotOf Z "com/example/strauch/strauch/tree/TextPosition" "afterCarriageReturn" "Z") w) : Tp Z h' a v0 w v2 := by
  obtain ⟨E, F0, F1, F2⟩ := O; exact ⟨E.wr W, F0.other W (Or.inr (slot_ne (Or.inl (tw11 hw)) (Or.inl (tw18 hw)) (by decide) (t := .int) (t' := .boolean) (by decide) (by decide))), F1.same W, F2.other W (Or.inr (slot_ne (Or.inl (tw20 hw)) (Or.inl (tw18 hw)) (by decide) (t := .long) (t' := .boolean) (by decide) (by decide)))⟩
theorem Tp.get_lineStart {Z : State} {h : Heap} {a : Addr} {v0 v1 v2 : Value} (O : Tp Z h a v0 v1 v2) : Fld Z h a "com/example/strauch/strauch/tree/TextPosition" "lineStart" "J" v2 := by
  obtain ⟨E, F0, F1, F2⟩ := O; exact F2
theorem Tp.put_lineStart {a0 : Array Value} {Z : State} (hw : ∀ d ∈ tables_1, d.before a0 Z = true) {h h' : Heap} {a : Addr} {v0 v1 v2 w : Value} (O : Tp Z h a v0 v1 v2) (W : Wr h h' a (Jvm.RoadKit.slotOf Z "com/example/strauch/strauch/tree/TextPosition" "lineStart" "J") w) : Tp Z h' a v0 v1 w := by
  obtain ⟨E, F0, F1, F2⟩ := O; exact ⟨E.wr W, F0.other W (Or.inr (slot_ne (Or.inl (tw11 hw)) (Or.inl (tw20 hw)) (by decide) (t := .int) (t' := .long) (by decide) (by decide))), F1.other W (Or.inr (slot_ne (Or.inl (tw18 hw)) (Or.inl (tw20 hw)) (by decide) (t := .boolean) (t' := .long) (by decide) (by decide))), F2.same W⟩
def fMin (u : Int64) (v : Int64) : Int64 :=
  if v < u then
    v
  else
    u
set_option maxRecDepth 65536 in
set_option maxHeartbeats 4000000 in
theorem ct_fMin (l : Launch) (Z : State) (a0 : Array Value) (hw : ∀ d ∈ tables_1, d.before a0 Z = true) (u : Int64) (v : Int64) (h0 : Heap) (n0 : Nat) (Z0 : n0 ≤ h0.size) :
    Ct l Z (⟨"java/lang/Math", "min", "(JJ)J"⟩ : MethodName) jdk_29_method_70_code 4 (some .long) ({ frames := 0, cells := 0, slots := 0, locals := 0 } : Room) #[(.long u), (.long v)] h0 n0 (fun r_ h_ => r_ = some (.long (fMin u v)) ∧ h_ = h0) := by
  refine Ct.intro (Jvm.Free.JP.mathPlain rfl (by decide +kernel)) Z0 ?_
  intro p e s m below meth c T X
  refine WP.cast (g' := (mkF m 0 #[.val (.long u), .second, .val (.long v), .second] [])) (by first | (simp [entryFrame, mkF, argsToLocals, Value.category]; done) | rfl) ?_
  refine w_lloadN X d4_0 rfl (pc' := 1) rfl ?_
  refine w_lloadN X d4_1 rfl (pc' := 2) rfl ?_
  refine w_lcmp_gt X d4_2 (p0 := 3) rfl d4_3 (by decide) (p1 := 10) (by decide) (p2 := 6) rfl (fun c2 => ?_) (fun c2 => ?_)
  · -- c2 taken
    refine w_lloadN X d4_10 rfl (pc' := 11) rfl ?_
    exact w_retJ X rfl d4_11 (by decide) (by decide) ⟨by rw [fMin, if_pos c2], rfl⟩
  · -- c2 not taken
    refine w_lloadN X d4_6 rfl (pc' := 7) rfl ?_
    refine w_goto X d4_7 (by decide) (pc' := 11) (by decide) ?_
    exact w_retJ X rfl d4_11 (by decide) (by decide) ⟨by rw [fMin, if_neg c2], rfl⟩
set_option maxRecDepth 65536 in
set_option maxHeartbeats 4000000 in
theorem ct_init (l : Launch) (Z : State) (a0 : Array Value) (hw : ∀ d ∈ tables_1, d.before a0 Z = true) (a : Addr) (h0 : Heap) (n0 : Nat) (Z0 : n0 ≤ h0.size) (ga : n0 ≤ a) (O : Tp Z h0 a (.int 0) (.int 0) (.long 0)) :
    Ct l Z (⟨"com/example/strauch/strauch/tree/TextPosition", "<init>", "()V"⟩ : MethodName) prog_84_method_1_code 1 none ({ frames := 1, cells := 0, slots := 0, locals := 12 } : Room) #[(.ref a)] h0 n0 (fun r h => r = none ∧ Keep h0 h [a] ∧ Tp Z h a (.int 1) (.int 0) (.long 0)) := by
  refine Ct.intro (plainFor_of_name (by first | (simp [plainName, overriddenIn]; done) | decide +kernel)) Z0 ?_
  intro p e s m below meth c T X
  refine WP.cast (g' := (mkF m 0 #[.val (.ref a)] [])) (by first | (simp [entryFrame, mkF, argsToLocals, Value.category]; done) | rfl) ?_
  have K := Keep.refl h0 [a]
  refine w_aloadN X d1_0 rfl rfl (pc' := 1) rfl ?_
  refine w_initO X (tw7 hw) (tw8 hw) (tw9 hw) d1_1 rfl (by decide) rfl (by decide) (pc' := 4) rfl ?_; intro T X
  refine w_aloadN X d1_4 rfl rfl (pc' := 5) rfl ?_
  refine w_iconst X d1_5 (v := (1 : Int32)) (by decide) (pc' := 6) rfl ?_
  refine w_putF X (tw10 hw) O.get_line O.exa (Or.inl (tw11 hw)) (tw2 hw) ga d1_6 (ty := .int) (v' := (.int (1 : Int32))) (by decide) rfl rfl (pc' := 9) rfl ?_; intro T h1 X W2
  have O4 := O.put_line hw W2
  have K3 := Keep.of_wr W2
  have K5 := K.wr W2 (Or.inl (by simp))
  show WP _ _ _ _ _ _ _ _ _ (mkF m 9 #[.val (.ref a)] [])
  exact w_retV X rfl d1_9 (by decide) (by decide) ⟨rfl, K5, O4⟩
set_option maxRecDepth 65536 in
set_option maxHeartbeats 4000000 in
theorem ct_line (l : Launch) (Z : State) (a0 : Array Value) (hw : ∀ d ∈ tables_1, d.before a0 Z = true) (a : Addr) (li af : Int32) (ls : Int64) (h0 : Heap) (n0 : Nat) (Z0 : n0 ≤ h0.size) (ga : n0 ≤ a) (O : Tp Z h0 a (.int li) (.int af) (.long ls)) :
    Ct l Z (⟨"com/example/strauch/strauch/tree/TextPosition", "getLine", "()I"⟩ : MethodName) prog_84_method_5_code 1 (some .int) ({ frames := 0, cells := 0, slots := 0, locals := 0 } : Room) #[(.ref a)] h0 n0 (fun r h => r = some (.int li) ∧ h = h0) := by
  refine Ct.intro (plainFor_of_name (by first | (simp [plainName, overriddenIn]; done) | decide +kernel)) Z0 ?_
  intro p e s m below meth c T X
  refine WP.cast (g' := (mkF m 0 #[.val (.ref a)] [])) (by first | (simp [entryFrame, mkF, argsToLocals, Value.category]; done) | rfl) ?_
  refine w_aloadN X d5_0 rfl rfl (pc' := 1) rfl ?_
  refine w_getF X (tw10 hw) O.get_line d5_1 (pc' := 4) rfl ?_; intro T X
  exact w_retI X rfl d5_4 (by decide) (by decide) ⟨rfl, rfl⟩
def eL (li af : Int32) (ls : Int64) (ch : Int32) (ix : Int64) : Int32 := if ch = 10 then (if af = 0 then li + 1 else (if ix = ls then li else li + 1)) else li + 1
def eA (ch : Int32) : Int32 := if ch = 13 then 1 else 0
set_option maxRecDepth 65536 in
set_option maxHeartbeats 4000000 in
theorem ct_end (l : Launch) (Z : State) (a0 : Array Value) (hw : ∀ d ∈ tables_1, d.before a0 Z = true) (a : Addr) (ch : Int32) (ix : Int64) (li af : Int32) (ls : Int64) (h0 : Heap) (n0 : Nat) (Z0 : n0 ≤ h0.size) (ga : n0 ≤ a) (O : Tp Z h0 a (.int li) (.int af) (.long ls)) :
    Ct l Z (⟨"com/example/strauch/strauch/tree/TextPosition", "endLine", "(CJ)V"⟩ : MethodName) prog_84_method_3_code 5 none ({ frames := 0, cells := 0, slots := 0, locals := 0 } : Room) #[(.ref a), (.int ch), (.long ix)] h0 n0 (fun r h => r = none ∧ Keep h0 h [a] ∧ Tp Z h a (.int (eL li af ls ch ix)) (.int (eA ch)) (.long (ix + 1))) := by
  refine Ct.intro (plainFor_of_name (by first | (simp [plainName, overriddenIn]; done) | decide +kernel)) Z0 ?_
  intro p e s m below meth c T X
  refine WP.cast (g' := (mkF m 0 #[.val (.ref a), .val (.int ch), .val (.long ix), .second, .unset] [])) (by first | (simp [entryFrame, mkF, argsToLocals, Value.category]; done) | rfl) ?_
  have K := Keep.refl h0 [a]
  refine w_iloadN X d3_0 rfl (pc' := 1) rfl ?_
  refine w_bipush X d3_1 (v := (10 : Int32)) (by decide) (pc' := 3) rfl ?_
  refine w_icmp_ne X d3_3 (by decide) (p1 := 26) (by decide) (p2 := 6) rfl (fun c3 => ?_) (fun c3 => ?_)
  · -- c3 taken
    refine w_iconst X d3_26 (v := (0 : Int32)) (by decide) (pc' := 27) rfl ?_
    refine w_istore X d3_27 (L' := #[.val (.ref a), .val (.int ch), .val (.long ix), .second, .val (.int (0 : Int32))]) rfl (pc' := 29) rfl ?_
    refine w_iload X d3_29 rfl (pc' := 31) rfl ?_
    refine w_if_ne X d3_31 (by decide) (p1 := 44) (by decide) (p2 := 34) rfl (fun c31 => False.elim (absurd c31 (by decide))) (fun c31 => ?_)
    refine w_aloadN X d3_34 rfl rfl (pc' := 35) rfl ?_
    refine w_dup X d3_35 rfl (pc' := 36) rfl ?_
    refine w_getF X (tw10 hw) O.get_line d3_36 (pc' := 39) rfl ?_; intro T X
    refine w_iconst X d3_39 (v := (1 : Int32)) (by decide) (pc' := 40) rfl ?_
    refine w_iadd X d3_40 (pc' := 41) rfl ?_
    refine w_putF X (tw10 hw) O.get_line O.exa (Or.inl (tw11 hw)) (tw2 hw) ga d3_41 (ty := .int) (v' := (.int (li + (1 : Int32)))) (by decide) rfl rfl (pc' := 44) rfl ?_; intro T h1 X W2
    have O4 := O.put_line hw W2
    have K3 := Keep.of_wr W2
    have K5 := K.wr W2 (Or.inl (by simp))
    show WP _ _ _ _ _ _ _ _ _ (mkF m 44 #[.val (.ref a), .val (.int ch), .val (.long ix), .second, .val (.int (0 : Int32))] [])
    refine w_aloadN X d3_44 rfl rfl (pc' := 45) rfl ?_
    refine w_lloadN X d3_45 rfl (pc' := 46) rfl ?_
    refine w_lconst X d3_46 (v := (1 : Int64)) (by decide) (pc' := 47) rfl ?_
    refine w_ladd X d3_47 (pc' := 48) rfl ?_
    refine w_putF X (tw19 hw) O4.get_lineStart O4.exa (Or.inl (tw20 hw)) (tw2 hw) ga d3_48 (ty := .long) (v' := (.long (ix + (1 : Int64)))) (by decide) rfl rfl (pc' := 51) rfl ?_; intro T h6 X W7
    have O9 := O4.put_lineStart hw W7
    have K8 := Keep.of_wr W7
    have K10 := K5.wr W7 (Or.inl (by simp))
    show WP _ _ _ _ _ _ _ _ _ (mkF m 51 #[.val (.ref a), .val (.int ch), .val (.long ix), .second, .val (.int (0 : Int32))] [])
    refine w_aloadN X d3_51 rfl rfl (pc' := 52) rfl ?_
    refine w_iloadN X d3_52 rfl (pc' := 53) rfl ?_
    refine w_bipush X d3_53 (v := (13 : Int32)) (by decide) (pc' := 55) rfl ?_
    refine w_icmp_ne X d3_55 (by decide) (p1 := 62) (by decide) (p2 := 58) rfl (fun c55 => ?_) (fun c55 => ?_)
    · -- c55 taken
      refine w_iconst X d3_62 (v := (0 : Int32)) (by decide) (pc' := 63) rfl ?_
      refine w_putF X (tw17 hw) O9.get_afterCarriageReturn O9.exa (Or.inl (tw18 hw)) (tw2 hw) ga d3_63 (ty := .boolean) (v' := (.int (0 : Int32))) (by decide) rfl rfl (pc' := 66) rfl ?_; intro T h11 X W12
      have O14 := O9.put_afterCarriageReturn hw W12
      have K13 := Keep.of_wr W12
      have K15 := K10.wr W12 (Or.inl (by simp))
      show WP _ _ _ _ _ _ _ _ _ (mkF m 66 #[.val (.ref a), .val (.int ch), .val (.long ix), .second, .val (.int (0 : Int32))] [])
      exact w_retV X rfl d3_66 (by decide) (by decide) ⟨rfl, K15, by simp only [eL, eA, if_neg c3, if_neg c55]; exact O14⟩
    · -- c55 not taken
      refine w_iconst X d3_58 (v := (1 : Int32)) (by decide) (pc' := 59) rfl ?_
      refine w_goto X d3_59 (by decide) (pc' := 63) (by decide) ?_
      refine w_putF X (tw17 hw) O9.get_afterCarriageReturn O9.exa (Or.inl (tw18 hw)) (tw2 hw) ga d3_63 (ty := .boolean) (v' := (.int (1 : Int32))) (by decide) rfl rfl (pc' := 66) rfl ?_; intro T h16 X W17
      have O19 := O9.put_afterCarriageReturn hw W17
      have K18 := Keep.of_wr W17
      have K20 := K10.wr W17 (Or.inl (by simp))
      show WP _ _ _ _ _ _ _ _ _ (mkF m 66 #[.val (.ref a), .val (.int ch), .val (.long ix), .second, .val (.int (0 : Int32))] [])
      exact w_retV X rfl d3_66 (by decide) (by decide) ⟨rfl, K20, by simp only [eL, eA, if_neg c3, if_pos c55]; exact O19⟩
  · -- c3 not taken
    refine w_aloadN X d3_6 rfl rfl (pc' := 7) rfl ?_
    refine w_getF X (tw17 hw) O.get_afterCarriageReturn d3_7 (pc' := 10) rfl ?_; intro T X
    refine w_if_eq X d3_10 (by decide) (p1 := 26) (by decide) (p2 := 13) rfl (fun c10 => ?_) (fun c10 => ?_)
    · -- c10 taken
      refine w_iconst X d3_26 (v := (0 : Int32)) (by decide) (pc' := 27) rfl ?_
      refine w_istore X d3_27 (L' := #[.val (.ref a), .val (.int ch), .val (.long ix), .second, .val (.int (0 : Int32))]) rfl (pc' := 29) rfl ?_
      refine w_iload X d3_29 rfl (pc' := 31) rfl ?_
      refine w_if_ne X d3_31 (by decide) (p1 := 44) (by decide) (p2 := 34) rfl (fun c31 => False.elim (absurd c31 (by decide))) (fun c31 => ?_)
      refine w_aloadN X d3_34 rfl rfl (pc' := 35) rfl ?_
      refine w_dup X d3_35 rfl (pc' := 36) rfl ?_
      refine w_getF X (tw10 hw) O.get_line d3_36 (pc' := 39) rfl ?_; intro T X
      refine w_iconst X d3_39 (v := (1 : Int32)) (by decide) (pc' := 40) rfl ?_
      refine w_iadd X d3_40 (pc' := 41) rfl ?_
      refine w_putF X (tw10 hw) O.get_line O.exa (Or.inl (tw11 hw)) (tw2 hw) ga d3_41 (ty := .int) (v' := (.int (li + (1 : Int32)))) (by decide) rfl rfl (pc' := 44) rfl ?_; intro T h21 X W22
      have O24 := O.put_line hw W22
      have K23 := Keep.of_wr W22
      have K25 := K.wr W22 (Or.inl (by simp))
      show WP _ _ _ _ _ _ _ _ _ (mkF m 44 #[.val (.ref a), .val (.int ch), .val (.long ix), .second, .val (.int (0 : Int32))] [])
      refine w_aloadN X d3_44 rfl rfl (pc' := 45) rfl ?_
      refine w_lloadN X d3_45 rfl (pc' := 46) rfl ?_
      refine w_lconst X d3_46 (v := (1 : Int64)) (by decide) (pc' := 47) rfl ?_
      refine w_ladd X d3_47 (pc' := 48) rfl ?_
      refine w_putF X (tw19 hw) O24.get_lineStart O24.exa (Or.inl (tw20 hw)) (tw2 hw) ga d3_48 (ty := .long) (v' := (.long (ix + (1 : Int64)))) (by decide) rfl rfl (pc' := 51) rfl ?_; intro T h26 X W27
      have O29 := O24.put_lineStart hw W27
      have K28 := Keep.of_wr W27
      have K30 := K25.wr W27 (Or.inl (by simp))
      show WP _ _ _ _ _ _ _ _ _ (mkF m 51 #[.val (.ref a), .val (.int ch), .val (.long ix), .second, .val (.int (0 : Int32))] [])
      refine w_aloadN X d3_51 rfl rfl (pc' := 52) rfl ?_
      refine w_iloadN X d3_52 rfl (pc' := 53) rfl ?_
      refine w_bipush X d3_53 (v := (13 : Int32)) (by decide) (pc' := 55) rfl ?_
      refine w_icmp_ne X d3_55 (by decide) (p1 := 62) (by decide) (p2 := 58) rfl (fun c55 => ?_) (fun c55 => ?_)
      · -- c55 taken
        refine w_iconst X d3_62 (v := (0 : Int32)) (by decide) (pc' := 63) rfl ?_
        refine w_putF X (tw17 hw) O29.get_afterCarriageReturn O29.exa (Or.inl (tw18 hw)) (tw2 hw) ga d3_63 (ty := .boolean) (v' := (.int (0 : Int32))) (by decide) rfl rfl (pc' := 66) rfl ?_; intro T h31 X W32
        have O34 := O29.put_afterCarriageReturn hw W32
        have K33 := Keep.of_wr W32
        have K35 := K30.wr W32 (Or.inl (by simp))
        show WP _ _ _ _ _ _ _ _ _ (mkF m 66 #[.val (.ref a), .val (.int ch), .val (.long ix), .second, .val (.int (0 : Int32))] [])
        exact w_retV X rfl d3_66 (by decide) (by decide) ⟨rfl, K35, by simp only [eL, eA, if_pos c3, if_pos c10, if_neg c55]; exact O34⟩
      · -- c55 not taken
        refine w_iconst X d3_58 (v := (1 : Int32)) (by decide) (pc' := 59) rfl ?_
        refine w_goto X d3_59 (by decide) (pc' := 63) (by decide) ?_
        refine w_putF X (tw17 hw) O29.get_afterCarriageReturn O29.exa (Or.inl (tw18 hw)) (tw2 hw) ga d3_63 (ty := .boolean) (v' := (.int (1 : Int32))) (by decide) rfl rfl (pc' := 66) rfl ?_; intro T h36 X W37
        have O39 := O29.put_afterCarriageReturn hw W37
        have K38 := Keep.of_wr W37
        have K40 := K30.wr W37 (Or.inl (by simp))
        show WP _ _ _ _ _ _ _ _ _ (mkF m 66 #[.val (.ref a), .val (.int ch), .val (.long ix), .second, .val (.int (0 : Int32))] [])
        exact w_retV X rfl d3_66 (by decide) (by decide) ⟨rfl, K40, by simp only [eL, eA, if_pos c3, if_pos c10, if_pos c55]; exact O39⟩
    · -- c10 not taken
      refine w_lloadN X d3_13 rfl (pc' := 14) rfl ?_
      refine w_aloadN X d3_14 rfl rfl (pc' := 15) rfl ?_
      refine w_getF X (tw19 hw) O.get_lineStart d3_15 (pc' := 18) rfl ?_; intro T X
      refine w_lcmp_ne X d3_18 (p0 := 19) rfl d3_19 (by decide) (p1 := 26) (by decide) (p2 := 22) rfl (fun c18 => ?_) (fun c18 => ?_)
      · -- c18 taken
        refine w_iconst X d3_26 (v := (0 : Int32)) (by decide) (pc' := 27) rfl ?_
        refine w_istore X d3_27 (L' := #[.val (.ref a), .val (.int ch), .val (.long ix), .second, .val (.int (0 : Int32))]) rfl (pc' := 29) rfl ?_
        refine w_iload X d3_29 rfl (pc' := 31) rfl ?_
        refine w_if_ne X d3_31 (by decide) (p1 := 44) (by decide) (p2 := 34) rfl (fun c31 => False.elim (absurd c31 (by decide))) (fun c31 => ?_)
        refine w_aloadN X d3_34 rfl rfl (pc' := 35) rfl ?_
        refine w_dup X d3_35 rfl (pc' := 36) rfl ?_
        refine w_getF X (tw10 hw) O.get_line d3_36 (pc' := 39) rfl ?_; intro T X
        refine w_iconst X d3_39 (v := (1 : Int32)) (by decide) (pc' := 40) rfl ?_
        refine w_iadd X d3_40 (pc' := 41) rfl ?_
        refine w_putF X (tw10 hw) O.get_line O.exa (Or.inl (tw11 hw)) (tw2 hw) ga d3_41 (ty := .int) (v' := (.int (li + (1 : Int32)))) (by decide) rfl rfl (pc' := 44) rfl ?_; intro T h41 X W42
        have O44 := O.put_line hw W42
        have K43 := Keep.of_wr W42
        have K45 := K.wr W42 (Or.inl (by simp))
        show WP _ _ _ _ _ _ _ _ _ (mkF m 44 #[.val (.ref a), .val (.int ch), .val (.long ix), .second, .val (.int (0 : Int32))] [])
        refine w_aloadN X d3_44 rfl rfl (pc' := 45) rfl ?_
        refine w_lloadN X d3_45 rfl (pc' := 46) rfl ?_
        refine w_lconst X d3_46 (v := (1 : Int64)) (by decide) (pc' := 47) rfl ?_
        refine w_ladd X d3_47 (pc' := 48) rfl ?_
        refine w_putF X (tw19 hw) O44.get_lineStart O44.exa (Or.inl (tw20 hw)) (tw2 hw) ga d3_48 (ty := .long) (v' := (.long (ix + (1 : Int64)))) (by decide) rfl rfl (pc' := 51) rfl ?_; intro T h46 X W47
        have O49 := O44.put_lineStart hw W47
        have K48 := Keep.of_wr W47
        have K50 := K45.wr W47 (Or.inl (by simp))
        show WP _ _ _ _ _ _ _ _ _ (mkF m 51 #[.val (.ref a), .val (.int ch), .val (.long ix), .second, .val (.int (0 : Int32))] [])
        refine w_aloadN X d3_51 rfl rfl (pc' := 52) rfl ?_
        refine w_iloadN X d3_52 rfl (pc' := 53) rfl ?_
        refine w_bipush X d3_53 (v := (13 : Int32)) (by decide) (pc' := 55) rfl ?_
        refine w_icmp_ne X d3_55 (by decide) (p1 := 62) (by decide) (p2 := 58) rfl (fun c55 => ?_) (fun c55 => ?_)
        · -- c55 taken
          refine w_iconst X d3_62 (v := (0 : Int32)) (by decide) (pc' := 63) rfl ?_
          refine w_putF X (tw17 hw) O49.get_afterCarriageReturn O49.exa (Or.inl (tw18 hw)) (tw2 hw) ga d3_63 (ty := .boolean) (v' := (.int (0 : Int32))) (by decide) rfl rfl (pc' := 66) rfl ?_; intro T h51 X W52
          have O54 := O49.put_afterCarriageReturn hw W52
          have K53 := Keep.of_wr W52
          have K55 := K50.wr W52 (Or.inl (by simp))
          show WP _ _ _ _ _ _ _ _ _ (mkF m 66 #[.val (.ref a), .val (.int ch), .val (.long ix), .second, .val (.int (0 : Int32))] [])
          exact w_retV X rfl d3_66 (by decide) (by decide) ⟨rfl, K55, by simp only [eL, eA, if_pos c3, if_neg c10, if_neg c18, if_neg c55]; exact O54⟩
        · -- c55 not taken
          refine w_iconst X d3_58 (v := (1 : Int32)) (by decide) (pc' := 59) rfl ?_
          refine w_goto X d3_59 (by decide) (pc' := 63) (by decide) ?_
          refine w_putF X (tw17 hw) O49.get_afterCarriageReturn O49.exa (Or.inl (tw18 hw)) (tw2 hw) ga d3_63 (ty := .boolean) (v' := (.int (1 : Int32))) (by decide) rfl rfl (pc' := 66) rfl ?_; intro T h56 X W57
          have O59 := O49.put_afterCarriageReturn hw W57
          have K58 := Keep.of_wr W57
          have K60 := K50.wr W57 (Or.inl (by simp))
          show WP _ _ _ _ _ _ _ _ _ (mkF m 66 #[.val (.ref a), .val (.int ch), .val (.long ix), .second, .val (.int (0 : Int32))] [])
          exact w_retV X rfl d3_66 (by decide) (by decide) ⟨rfl, K60, by simp only [eL, eA, if_pos c3, if_neg c10, if_neg c18, if_pos c55]; exact O59⟩
      · -- c18 not taken
        refine w_iconst X d3_22 (v := (1 : Int32)) (by decide) (pc' := 23) rfl ?_
        refine w_goto X d3_23 (by decide) (pc' := 27) (by decide) ?_
        refine w_istore X d3_27 (L' := #[.val (.ref a), .val (.int ch), .val (.long ix), .second, .val (.int (1 : Int32))]) rfl (pc' := 29) rfl ?_
        refine w_iload X d3_29 rfl (pc' := 31) rfl ?_
        refine w_if_ne X d3_31 (by decide) (p1 := 44) (by decide) (p2 := 34) rfl (fun c31 => ?_) (fun c31 => False.elim (absurd c31 (by decide)))
        refine w_aloadN X d3_44 rfl rfl (pc' := 45) rfl ?_
        refine w_lloadN X d3_45 rfl (pc' := 46) rfl ?_
        refine w_lconst X d3_46 (v := (1 : Int64)) (by decide) (pc' := 47) rfl ?_
        refine w_ladd X d3_47 (pc' := 48) rfl ?_
        refine w_putF X (tw19 hw) O.get_lineStart O.exa (Or.inl (tw20 hw)) (tw2 hw) ga d3_48 (ty := .long) (v' := (.long (ix + (1 : Int64)))) (by decide) rfl rfl (pc' := 51) rfl ?_; intro T h61 X W62
        have O64 := O.put_lineStart hw W62
        have K63 := Keep.of_wr W62
        have K65 := K.wr W62 (Or.inl (by simp))
        show WP _ _ _ _ _ _ _ _ _ (mkF m 51 #[.val (.ref a), .val (.int ch), .val (.long ix), .second, .val (.int (1 : Int32))] [])
        refine w_aloadN X d3_51 rfl rfl (pc' := 52) rfl ?_
        refine w_iloadN X d3_52 rfl (pc' := 53) rfl ?_
        refine w_bipush X d3_53 (v := (13 : Int32)) (by decide) (pc' := 55) rfl ?_
        refine w_icmp_ne X d3_55 (by decide) (p1 := 62) (by decide) (p2 := 58) rfl (fun c55 => ?_) (fun c55 => ?_)
        · -- c55 taken
          refine w_iconst X d3_62 (v := (0 : Int32)) (by decide) (pc' := 63) rfl ?_
          refine w_putF X (tw17 hw) O64.get_afterCarriageReturn O64.exa (Or.inl (tw18 hw)) (tw2 hw) ga d3_63 (ty := .boolean) (v' := (.int (0 : Int32))) (by decide) rfl rfl (pc' := 66) rfl ?_; intro T h66 X W67
          have O69 := O64.put_afterCarriageReturn hw W67
          have K68 := Keep.of_wr W67
          have K70 := K65.wr W67 (Or.inl (by simp))
          show WP _ _ _ _ _ _ _ _ _ (mkF m 66 #[.val (.ref a), .val (.int ch), .val (.long ix), .second, .val (.int (1 : Int32))] [])
          exact w_retV X rfl d3_66 (by decide) (by decide) ⟨rfl, K70, by simp only [eL, eA, if_pos c3, if_neg c10, if_pos c18, if_neg c55]; exact O69⟩
        · -- c55 not taken
          refine w_iconst X d3_58 (v := (1 : Int32)) (by decide) (pc' := 59) rfl ?_
          refine w_goto X d3_59 (by decide) (pc' := 63) (by decide) ?_
          refine w_putF X (tw17 hw) O64.get_afterCarriageReturn O64.exa (Or.inl (tw18 hw)) (tw2 hw) ga d3_63 (ty := .boolean) (v' := (.int (1 : Int32))) (by decide) rfl rfl (pc' := 66) rfl ?_; intro T h71 X W72
          have O74 := O64.put_afterCarriageReturn hw W72
          have K73 := Keep.of_wr W72
          have K75 := K65.wr W72 (Or.inl (by simp))
          show WP _ _ _ _ _ _ _ _ _ (mkF m 66 #[.val (.ref a), .val (.int ch), .val (.long ix), .second, .val (.int (1 : Int32))] [])
          exact w_retV X rfl d3_66 (by decide) (by decide) ⟨rfl, K75, by simp only [eL, eA, if_pos c3, if_neg c10, if_pos c18, if_pos c55]; exact O74⟩
set_option maxRecDepth 65536 in
set_option maxHeartbeats 4000000 in
theorem ct_col (l : Launch) (Z : State) (a0 : Array Value) (hw : ∀ d ∈ tables_1, d.before a0 Z = true) (a : Addr) (ix : Int64) (li af : Int32) (ls : Int64) (h0 : Heap) (n0 : Nat) (Z0 : n0 ≤ h0.size) (ga : n0 ≤ a) (O : Tp Z h0 a (.int li) (.int af) (.long ls)) :
    Ct l Z (⟨"com/example/strauch/strauch/tree/TextPosition", "columnAt", "(J)I"⟩ : MethodName) prog_84_method_6_code 3 (some .int) ({ frames := 1, cells := 0, slots := 0, locals := 20 } : Room) #[(.ref a), (.long ix)] h0 n0 (fun r h => r = some (.int (fMin (ix - ls + 1) 2147483647).toInt32) ∧ h = h0) := by
  refine Ct.intro (plainFor_of_name (by first | (simp [plainName, overriddenIn]; done) | decide +kernel)) Z0 ?_
  intro p e s m below meth c T X
  refine WP.cast (g' := (mkF m 0 #[.val (.ref a), .val (.long ix), .second] [])) (by first | (simp [entryFrame, mkF, argsToLocals, Value.category]; done) | rfl) ?_
  refine w_lloadN X d6_0 rfl (pc' := 1) rfl ?_
  refine w_aloadN X d6_1 rfl rfl (pc' := 2) rfl ?_
  refine w_getF X (tw19 hw) O.get_lineStart d6_2 (pc' := 5) rfl ?_; intro T X
  refine w_lsub X d6_5 (pc' := 6) rfl ?_
  refine w_lconst X d6_6 (v := (1 : Int64)) (by decide) (pc' := 7) rfl ?_
  refine w_ladd X d6_7 (pc' := 8) rfl ?_
  refine w_ldcJ X d6_8 (tw36 hw) (pc' := 11) rfl ?_
  refine w_callS X [(.long ((ix - ls) + (1 : Int64))), (.long (2147483647 : Int64))] [] 0 (tw37 hw) (tw23 hw) (tw24 hw) (tw25 hw) (ct_fMin l Z a0 hw ((ix - ls) + (1 : Int64)) (2147483647 : Int64) h0 n0 X.n0le) d6_11 pd0 rfl (by decide) rfl rfl rfl (by decide) (by decide) (by decide) (by decide) (pc' := 14) rfl ?_
  intro T hz v X hQ
  obtain ⟨rfl, hz1⟩ := hQ; replace hz1 := hz1.symm; subst hz1
  show WP _ _ _ _ _ _ _ _ _ (mkF m 14 #[.val (.ref a), .val (.long ix), .second] [(.long (fMin ((ix - ls) + (1 : Int64)) (2147483647 : Int64)))])
  refine w_l2i X d6_14 (pc' := 15) rfl ?_
  exact w_retI X rfl d6_15 (by decide) (by decide) ⟨rfl, rfl⟩
theorem line2 {fi ca cb li1 af1 lb : Int32} {ls1 ia ib : Int64} (hO : (fi = 0 → li1 = 1 ∧ af1 = 0 ∧ ls1 = 0) ∧ (¬ fi = 0 → li1 = 2 ∧ af1 = eA ca ∧ ls1 = ia + 1)) (hlb : (fi = 0 → lb = 1) ∧ (¬ fi = 0 → lb = 2)) (hca : ca = 10 ∨ ca = 13) (hcb : cb = 10 ∨ cb = 13) :
    eL li1 af1 ls1 cb ib = if fi = 0 then lb + 1 else (if ca = 13 then (if cb = 10 then (if ib = ia + 1 then lb else lb + 1) else lb + 1) else lb + 1) := by
  by_cases z : fi = 0
  · obtain ⟨rfl, rfl, rfl⟩ := hO.1 z; obtain rfl := hlb.1 z
    rw [if_pos z]; unfold eL; rcases hcb with rfl | rfl <;> simp
  · obtain ⟨rfl, rfl, rfl⟩ := hO.2 z; obtain rfl := hlb.2 z
    rw [if_neg z]; unfold eL eA; rcases hcb with rfl | rfl <;> rcases hca with rfl | rfl <;> simp
theorem i64_ne (u : Int64) : ¬ u + 2 = u + 1 := by
  intro h
  have h1 := congrArg Int64.toInt h
  have h2 := c_ladd u 2
  have h3 := c_ladd u 1
  have h4 := rng64 (u + 2)
  rw [show (2 : Int64).toInt = 2 from rfl] at h2
  rw [show (1 : Int64).toInt = 1 from rfl] at h3
  omega
theorem line3 {cb ad l2 : Int32} {ib ic : Int64} (hic : (ad = 0 → ic = ib + 2) ∧ (¬ ad = 0 → ic = ib + 1)) (hcb : cb = 10 ∨ cb = 13) :
    eL l2 (eA cb) (ib + 1) 10 ic = if cb = 13 then (if ad = 0 then l2 + 1 else l2) else l2 + 1 := by
  by_cases z : ad = 0
  · obtain rfl := hic.1 z
    unfold eL eA; rcases hcb with rfl | rfl <;> simp [z, i64_ne]
  · obtain rfl := hic.2 z
    unfold eL eA; rcases hcb with rfl | rfl <;> simp [z]
theorem col_eq {ib off qq : Int64} (h : qq = ib + 1 + off) : qq - (ib + 1) + 1 = off + 1 := by
  subst h
  apply Int64.toInt_inj.mp
  have h1 := c_ladd (ib + 1 + off - (ib + 1)) 1
  have h2 := c_lsub (ib + 1 + off) (ib + 1)
  have h3 := c_ladd (ib + 1) off
  have h4 := c_ladd off 1
  have r1 := rng64 (ib + 1 + off - (ib + 1) + 1)
  have r2 := rng64 (off + 1)
  omega
set_option maxRecDepth 65536 in
set_option maxHeartbeats 4000000 in
theorem ct_law (l : Launch) (Z : State) (a0 : Array Value) (hw : ∀ d ∈ tables_1, d.before a0 Z = true) (f : Int32) (a b g : Int64) (h0 : Heap) (n0 : Nat) (Z0 : n0 ≤ h0.size) :
    Ct l Z x code maxLocals ret room_1 #[(.int f), (.long a), (.long b), (.long g)] h0 n0 (fun r _ => r = some (.int 1)) := by
  refine Ct.intro (plainFor_of_name (by first | (simp [plainName, overriddenIn, x]; done) | decide +kernel)) Z0 ?_
  intro p e s m below meth c T X
  refine WP.cast (g' := (mkF m 0 #[.val (.int f), .val (.long a), .second, .val (.long b), .second, .val (.long g), .second, .unset, .unset, .unset, .unset, .unset, .unset, .unset, .unset, .unset, .unset, .unset, .unset, .unset, .unset, .unset, .unset, .unset, .unset, .unset, .unset, .unset, .unset, .unset, .unset, .unset, .unset] [])) (by first | (simp [entryFrame, mkF, argsToLocals, Value.category, maxLocals]; done) | rfl) ?_
  have J1 : ∀ T, St p l e room_1 s m #[(.int f), (.long a), (.long b), (.long g)] below meth c Z n0 x code maxLocals ret T h0 0 0 → ∀ (fi : Int32), (fi = 0 ∨ fi = 1) → WP p e below s n0 room_1.cells room_1.slots (fun r _ => r = some (.int 1)) T (mkF m 11 #[.val (.int f), .val (.long a), .second, .val (.long b), .second, .val (.long g), .second, .unset, .unset, .unset, .unset, .unset, .unset, .unset, .unset, .unset, .unset, .unset, .unset, .unset, .unset, .unset, .unset, .unset, .unset, .unset, .unset, .unset, .unset, .unset, .unset, .unset, .unset] [(.int fi)]) := by
    intro T X fi h_fi
    refine w_istore X at_11 (L' := #[.val (.int f), .val (.long a), .second, .val (.long b), .second, .val (.long g), .second, .val (.int fi), .unset, .unset, .unset, .unset, .unset, .unset, .unset, .unset, .unset, .unset, .unset, .unset, .unset, .unset, .unset, .unset, .unset, .unset, .unset, .unset, .unset, .unset, .unset, .unset, .unset]) rfl (pc' := 13) rfl ?_
    have J2 : ∀ T, St p l e room_1 s m #[(.int f), (.long a), (.long b), (.long g)] below meth c Z n0 x code maxLocals ret T h0 0 0 → ∀ (ca : Int32), (ca = 10 ∨ ca = 13) → WP p e below s n0 room_1.cells room_1.slots (fun r _ => r = some (.int 1)) T (mkF m 26 #[.val (.int f), .val (.long a), .second, .val (.long b), .second, .val (.long g), .second, .val (.int fi), .unset, .unset, .unset, .unset, .unset, .unset, .unset, .unset, .unset, .unset, .unset, .unset, .unset, .unset, .unset, .unset, .unset, .unset, .unset, .unset, .unset, .unset, .unset, .unset, .unset] [(.int ca)]) := by
      intro T X ca h_ca
      refine w_istore X at_26 (L' := #[.val (.int f), .val (.long a), .second, .val (.long b), .second, .val (.long g), .second, .val (.int fi), .val (.int ca), .unset, .unset, .unset, .unset, .unset, .unset, .unset, .unset, .unset, .unset, .unset, .unset, .unset, .unset, .unset, .unset, .unset, .unset, .unset, .unset, .unset, .unset, .unset, .unset]) rfl (pc' := 28) rfl ?_
      have J3 : ∀ T, St p l e room_1 s m #[(.int f), (.long a), (.long b), (.long g)] below meth c Z n0 x code maxLocals ret T h0 0 0 → ∀ (cb : Int32), (cb = 10 ∨ cb = 13) → WP p e below s n0 room_1.cells room_1.slots (fun r _ => r = some (.int 1)) T (mkF m 41 #[.val (.int f), .val (.long a), .second, .val (.long b), .second, .val (.long g), .second, .val (.int fi), .val (.int ca), .unset, .unset, .unset, .unset, .unset, .unset, .unset, .unset, .unset, .unset, .unset, .unset, .unset, .unset, .unset, .unset, .unset, .unset, .unset, .unset, .unset, .unset, .unset, .unset] [(.int cb)]) := by
        intro T X cb h_cb
        refine w_istore X at_41 (L' := #[.val (.int f), .val (.long a), .second, .val (.long b), .second, .val (.long g), .second, .val (.int fi), .val (.int ca), .val (.int cb), .unset, .unset, .unset, .unset, .unset, .unset, .unset, .unset, .unset, .unset, .unset, .unset, .unset, .unset, .unset, .unset, .unset, .unset, .unset, .unset, .unset, .unset, .unset]) rfl (pc' := 43) rfl ?_
        have J4 : ∀ T, St p l e room_1 s m #[(.int f), (.long a), (.long b), (.long g)] below meth c Z n0 x code maxLocals ret T h0 0 0 → ∀ (ats : Int32), (ats = 0 ∨ ats = 1) → WP p e below s n0 room_1.cells room_1.slots (fun r _ => r = some (.int 1)) T (mkF m 55 #[.val (.int f), .val (.long a), .second, .val (.long b), .second, .val (.long g), .second, .val (.int fi), .val (.int ca), .val (.int cb), .unset, .unset, .unset, .unset, .unset, .unset, .unset, .unset, .unset, .unset, .unset, .unset, .unset, .unset, .unset, .unset, .unset, .unset, .unset, .unset, .unset, .unset, .unset] [(.int ats)]) := by
          intro T X ats h_ats
          refine w_istore X at_55 (L' := #[.val (.int f), .val (.long a), .second, .val (.long b), .second, .val (.long g), .second, .val (.int fi), .val (.int ca), .val (.int cb), .val (.int ats), .unset, .unset, .unset, .unset, .unset, .unset, .unset, .unset, .unset, .unset, .unset, .unset, .unset, .unset, .unset, .unset, .unset, .unset, .unset, .unset, .unset, .unset]) rfl (pc' := 57) rfl ?_
          have J5 : ∀ T, St p l e room_1 s m #[(.int f), (.long a), (.long b), (.long g)] below meth c Z n0 x code maxLocals ret T h0 0 0 → ∀ (ad : Int32), (ad = 0 ∨ ad = 1) → WP p e below s n0 room_1.cells room_1.slots (fun r _ => r = some (.int 1)) T (mkF m 69 #[.val (.int f), .val (.long a), .second, .val (.long b), .second, .val (.long g), .second, .val (.int fi), .val (.int ca), .val (.int cb), .val (.int ats), .unset, .unset, .unset, .unset, .unset, .unset, .unset, .unset, .unset, .unset, .unset, .unset, .unset, .unset, .unset, .unset, .unset, .unset, .unset, .unset, .unset, .unset] [(.int ad)]) := by
            intro T X ad h_ad
            refine w_istore X at_69 (L' := #[.val (.int f), .val (.long a), .second, .val (.long b), .second, .val (.long g), .second, .val (.int fi), .val (.int ca), .val (.int cb), .val (.int ats), .val (.int ad), .unset, .unset, .unset, .unset, .unset, .unset, .unset, .unset, .unset, .unset, .unset, .unset, .unset, .unset, .unset, .unset, .unset, .unset, .unset, .unset, .unset]) rfl (pc' := 71) rfl ?_
            refine w_lloadN X at_71 rfl (pc' := 72) rfl ?_
            refine w_ldcJ X at_72 (tw0 hw) (pc' := 75) rfl ?_
            refine w_land X at_75 (pc' := 76) rfl ?_
            refine w_nameJ ?_; intro ia h_ia
            refine w_lstore X at_76 (L' := #[.val (.int f), .val (.long a), .second, .val (.long b), .second, .val (.long g), .second, .val (.int fi), .val (.int ca), .val (.int cb), .val (.int ats), .val (.int ad), .val (.long ia), .second, .unset, .unset, .unset, .unset, .unset, .unset, .unset, .unset, .unset, .unset, .unset, .unset, .unset, .unset, .unset, .unset, .unset, .unset, .unset]) rfl (pc' := 78) rfl ?_
            refine w_new X (tw1 hw) (tw2 hw) (tw3 hw) at_78 (by decide) (by decide) (pc' := 81) rfl ?_; intro T h6 b6 X eq6 ga6 E6 A6 D6
            have O7 : Tp Z h6 b6 (.int (0 : Int32)) (.int (0 : Int32)) (.long (0 : Int64)) := ⟨A6, D6 (Or.inl (tw11 hw)) (ty := .int) (by decide), D6 (Or.inl (tw18 hw)) (ty := .boolean) (by decide), D6 (Or.inl (tw20 hw)) (ty := .long) (by decide)⟩
            refine w_dup X at_81 rfl (pc' := 82) rfl ?_
            refine w_callC X [] [(.ref b6)] 1 rfl (tw4 hw) (tw5 hw) (tw3 hw) (tw6 hw) (ct_init l Z a0 hw b6 h6 n0 X.n0le ga6 O7) at_82 pd1 rfl (by decide) rfl rfl rfl (by decide) (by decide) (by decide) (by decide) (pc' := 85) rfl ?_
            intro T h8 v X hQ
            obtain ⟨rfl, K9, O10⟩ := hQ
            show WP _ _ _ _ _ _ _ _ _ (mkF m 85 #[.val (.int f), .val (.long a), .second, .val (.long b), .second, .val (.long g), .second, .val (.int fi), .val (.int ca), .val (.int cb), .val (.int ats), .val (.int ad), .val (.long ia), .second, .unset, .unset, .unset, .unset, .unset, .unset, .unset, .unset, .unset, .unset, .unset, .unset, .unset, .unset, .unset, .unset, .unset, .unset, .unset] [(.ref b6)])
            refine w_astore X at_85 (L' := #[.val (.int f), .val (.long a), .second, .val (.long b), .second, .val (.long g), .second, .val (.int fi), .val (.int ca), .val (.int cb), .val (.int ats), .val (.int ad), .val (.long ia), .second, .val (.ref b6), .unset, .unset, .unset, .unset, .unset, .unset, .unset, .unset, .unset, .unset, .unset, .unset, .unset, .unset, .unset, .unset, .unset, .unset]) rfl rfl (pc' := 87) rfl ?_
            have J11 : ∀ T, St p l e room_1 s m #[(.int f), (.long a), (.long b), (.long g)] below meth c Z n0 x code maxLocals ret T h8 ((0 + 1) + 0) ((0 + 3) + 0) → ∀ (bs : Int64), WP p e below s n0 room_1.cells room_1.slots (fun r _ => r = some (.int 1)) T (mkF m 100 #[.val (.int f), .val (.long a), .second, .val (.long b), .second, .val (.long g), .second, .val (.int fi), .val (.int ca), .val (.int cb), .val (.int ats), .val (.int ad), .val (.long ia), .second, .val (.ref b6), .unset, .unset, .unset, .unset, .unset, .unset, .unset, .unset, .unset, .unset, .unset, .unset, .unset, .unset, .unset, .unset, .unset, .unset] [(.long bs)]) := by
              intro T X bs
              refine w_lstore X at_100 (L' := #[.val (.int f), .val (.long a), .second, .val (.long b), .second, .val (.long g), .second, .val (.int fi), .val (.int ca), .val (.int cb), .val (.int ats), .val (.int ad), .val (.long ia), .second, .val (.ref b6), .val (.long bs), .second, .unset, .unset, .unset, .unset, .unset, .unset, .unset, .unset, .unset, .unset, .unset, .unset, .unset, .unset, .unset, .unset]) rfl (pc' := 102) rfl ?_
              have J13 : ∀ T h14, St p l e room_1 s m #[(.int f), (.long a), (.long b), (.long g)] below meth c Z n0 x code maxLocals ret T h14 ((0 + 1) + 0) ((0 + 3) + 0) → ∀ (li1 : Int32), ∀ (af1 : Int32), ∀ (ls1 : Int64), Tp Z h14 b6 (.int li1) (.int af1) (.long ls1) → ((fi = 0 → li1 = 1 ∧ af1 = 0 ∧ ls1 = 0) ∧ (¬ fi = 0 → li1 = 2 ∧ af1 = eA ca ∧ ls1 = ia + 1)) → WP p e below s n0 room_1.cells room_1.slots (fun r _ => r = some (.int 1)) T (mkF m 116 #[.val (.int f), .val (.long a), .second, .val (.long b), .second, .val (.long g), .second, .val (.int fi), .val (.int ca), .val (.int cb), .val (.int ats), .val (.int ad), .val (.long ia), .second, .val (.ref b6), .val (.long bs), .second, .unset, .unset, .unset, .unset, .unset, .unset, .unset, .unset, .unset, .unset, .unset, .unset, .unset, .unset, .unset, .unset] []) := by
                intro T h14 X li1 af1 ls1 O15 hO
                have J16 : ∀ T, St p l e room_1 s m #[(.int f), (.long a), (.long b), (.long g)] below meth c Z n0 x code maxLocals ret T h14 ((0 + 1) + 0) ((0 + 3) + 0) → ∀ (ib : Int64), WP p e below s n0 room_1.cells room_1.slots (fun r _ => r = some (.int 1)) T (mkF m 131 #[.val (.int f), .val (.long a), .second, .val (.long b), .second, .val (.long g), .second, .val (.int fi), .val (.int ca), .val (.int cb), .val (.int ats), .val (.int ad), .val (.long ia), .second, .val (.ref b6), .val (.long bs), .second, .unset, .unset, .unset, .unset, .unset, .unset, .unset, .unset, .unset, .unset, .unset, .unset, .unset, .unset, .unset, .unset] [(.long ib)]) := by
                  intro T X ib
                  refine w_lstore X at_131 (L' := #[.val (.int f), .val (.long a), .second, .val (.long b), .second, .val (.long g), .second, .val (.int fi), .val (.int ca), .val (.int cb), .val (.int ats), .val (.int ad), .val (.long ia), .second, .val (.ref b6), .val (.long bs), .second, .val (.long ib), .second, .unset, .unset, .unset, .unset, .unset, .unset, .unset, .unset, .unset, .unset, .unset, .unset, .unset, .unset]) rfl (pc' := 133) rfl ?_
                  refine w_aload X at_133 rfl rfl (pc' := 135) rfl ?_
                  refine w_iload X at_135 rfl (pc' := 137) rfl ?_
                  refine w_lload X at_137 rfl (pc' := 139) rfl ?_
                  refine w_callV X [(.int cb), (.long ib)] [] 0 (tw12 hw) (tw13 hw) (tw15 hw) (tw14 hw) (tw3 hw) (tw16 hw) O15.exa (ct_end l Z a0 hw b6 cb ib li1 af1 ls1 h14 n0 X.n0le ga6 O15) at_139 pd2 rfl (by decide) rfl rfl rfl (by decide) (by decide) (by decide) (by decide) (pc' := 142) rfl ?_
                  intro T h18 v X hQ
                  obtain ⟨rfl, K19, O20⟩ := hQ
                  show WP _ _ _ _ _ _ _ _ _ (mkF m 142 #[.val (.int f), .val (.long a), .second, .val (.long b), .second, .val (.long g), .second, .val (.int fi), .val (.int ca), .val (.int cb), .val (.int ats), .val (.int ad), .val (.long ia), .second, .val (.ref b6), .val (.long bs), .second, .val (.long ib), .second, .unset, .unset, .unset, .unset, .unset, .unset, .unset, .unset, .unset, .unset, .unset, .unset, .unset, .unset] [])
                  have J21 : ∀ T, St p l e room_1 s m #[(.int f), (.long a), (.long b), (.long g)] below meth c Z n0 x code maxLocals ret T h18 (((0 + 1) + 0) + 0) (((0 + 3) + 0) + 0) → ∀ (lb : Int32), ((fi = 0 → lb = 1) ∧ (¬ fi = 0 → lb = 2)) → WP p e below s n0 room_1.cells room_1.slots (fun r _ => r = some (.int 1)) T (mkF m 152 #[.val (.int f), .val (.long a), .second, .val (.long b), .second, .val (.long g), .second, .val (.int fi), .val (.int ca), .val (.int cb), .val (.int ats), .val (.int ad), .val (.long ia), .second, .val (.ref b6), .val (.long bs), .second, .val (.long ib), .second, .unset, .unset, .unset, .unset, .unset, .unset, .unset, .unset, .unset, .unset, .unset, .unset, .unset, .unset] [(.int lb)]) := by
                    intro T X lb hlb
                    refine w_istore X at_152 (L' := #[.val (.int f), .val (.long a), .second, .val (.long b), .second, .val (.long g), .second, .val (.int fi), .val (.int ca), .val (.int cb), .val (.int ats), .val (.int ad), .val (.long ia), .second, .val (.ref b6), .val (.long bs), .second, .val (.long ib), .second, .val (.int lb), .unset, .unset, .unset, .unset, .unset, .unset, .unset, .unset, .unset, .unset, .unset, .unset, .unset]) rfl (pc' := 154) rfl ?_
                    have J22 : ∀ T, St p l e room_1 s m #[(.int f), (.long a), (.long b), (.long g)] below meth c Z n0 x code maxLocals ret T h18 (((0 + 1) + 0) + 0) (((0 + 3) + 0) + 0) → ∀ (cr : Int32), ∀ (l2 : Int32), (eL li1 af1 ls1 cb ib = l2) → WP p e below s n0 room_1.cells room_1.slots (fun r _ => r = some (.int 1)) T (mkF m 204 #[.val (.int f), .val (.long a), .second, .val (.long b), .second, .val (.long g), .second, .val (.int fi), .val (.int ca), .val (.int cb), .val (.int ats), .val (.int ad), .val (.long ia), .second, .val (.ref b6), .val (.long bs), .second, .val (.long ib), .second, .val (.int lb), .val (.int cr), .unset, .unset, .unset, .unset, .unset, .unset, .unset, .unset, .unset, .unset, .unset, .unset] [(.int l2)]) := by
                      intro T X cr l2 hl2
                      refine w_istore X at_204 (L' := #[.val (.int f), .val (.long a), .second, .val (.long b), .second, .val (.long g), .second, .val (.int fi), .val (.int ca), .val (.int cb), .val (.int ats), .val (.int ad), .val (.long ia), .second, .val (.ref b6), .val (.long bs), .second, .val (.long ib), .second, .val (.int lb), .val (.int cr), .val (.int l2), .unset, .unset, .unset, .unset, .unset, .unset, .unset, .unset, .unset, .unset, .unset]) rfl (pc' := 206) rfl ?_
                      refine w_lload X at_206 rfl (pc' := 208) rfl ?_
                      refine w_ldcJ X at_208 (tw0 hw) (pc' := 211) rfl ?_
                      refine w_land X at_211 (pc' := 212) rfl ?_
                      refine w_nameJ ?_; intro off h_off
                      refine w_lstore X at_212 (L' := #[.val (.int f), .val (.long a), .second, .val (.long b), .second, .val (.long g), .second, .val (.int fi), .val (.int ca), .val (.int cb), .val (.int ats), .val (.int ad), .val (.long ia), .second, .val (.ref b6), .val (.long bs), .second, .val (.long ib), .second, .val (.int lb), .val (.int cr), .val (.int l2), .val (.long off), .second, .unset, .unset, .unset, .unset, .unset, .unset, .unset, .unset, .unset]) rfl (pc' := 214) rfl ?_
                      refine w_lload X at_214 rfl (pc' := 216) rfl ?_
                      refine w_lconst X at_216 (v := (1 : Int64)) (by decide) (pc' := 217) rfl ?_
                      refine w_ladd X at_217 (pc' := 218) rfl ?_
                      refine w_lload X at_218 rfl (pc' := 220) rfl ?_
                      refine w_ladd X at_220 (pc' := 221) rfl ?_
                      refine w_nameJ ?_; intro qq h_qq
                      refine w_lstore X at_221 (L' := #[.val (.int f), .val (.long a), .second, .val (.long b), .second, .val (.long g), .second, .val (.int fi), .val (.int ca), .val (.int cb), .val (.int ats), .val (.int ad), .val (.long ia), .second, .val (.ref b6), .val (.long bs), .second, .val (.long ib), .second, .val (.int lb), .val (.int cr), .val (.int l2), .val (.long off), .second, .val (.long qq), .second, .unset, .unset, .unset, .unset, .unset, .unset, .unset]) rfl (pc' := 223) rfl ?_
                      refine w_lload X at_223 rfl (pc' := 225) rfl ?_
                      refine w_lconst X at_225 (v := (1 : Int64)) (by decide) (pc' := 226) rfl ?_
                      refine w_ladd X at_226 (pc' := 227) rfl ?_
                      refine w_ldcJ X at_227 (tw21 hw) (pc' := 230) rfl ?_
                      refine w_callS X [(.long (off + (1 : Int64))), (.long (2147483647 : Int64))] [] 0 (tw22 hw) (tw23 hw) (tw24 hw) (tw25 hw) (ct_fMin l Z a0 hw (off + (1 : Int64)) (2147483647 : Int64) h18 n0 X.n0le) at_230 pd0 rfl (by decide) rfl rfl rfl (by decide) (by decide) (by decide) (by decide) (pc' := 233) rfl ?_
                      intro T hz v X hQ
                      obtain ⟨rfl, hz1⟩ := hQ; replace hz1 := hz1.symm; subst hz1
                      show WP _ _ _ _ _ _ _ _ _ (mkF m 233 #[.val (.int f), .val (.long a), .second, .val (.long b), .second, .val (.long g), .second, .val (.int fi), .val (.int ca), .val (.int cb), .val (.int ats), .val (.int ad), .val (.long ia), .second, .val (.ref b6), .val (.long bs), .second, .val (.long ib), .second, .val (.int lb), .val (.int cr), .val (.int l2), .val (.long off), .second, .val (.long qq), .second, .unset, .unset, .unset, .unset, .unset, .unset, .unset] [(.long (fMin (off + (1 : Int64)) (2147483647 : Int64)))])
                      refine w_nameJ ?_; intro cl h_cl
                      refine w_lstore X at_233 (L' := #[.val (.int f), .val (.long a), .second, .val (.long b), .second, .val (.long g), .second, .val (.int fi), .val (.int ca), .val (.int cb), .val (.int ats), .val (.int ad), .val (.long ia), .second, .val (.ref b6), .val (.long bs), .second, .val (.long ib), .second, .val (.int lb), .val (.int cr), .val (.int l2), .val (.long off), .second, .val (.long qq), .second, .val (.long cl), .second, .unset, .unset, .unset, .unset, .unset]) rfl (pc' := 235) rfl ?_
                      refine w_aload X at_235 rfl rfl (pc' := 237) rfl ?_
                      refine w_callV X [] [] 0 (tw26 hw) (tw27 hw) (tw29 hw) (tw28 hw) (tw3 hw) (tw30 hw) O20.exa (ct_line l Z a0 hw b6 (eL li1 af1 ls1 cb ib) (eA cb) (ib + 1) h18 n0 X.n0le ga6 O20) at_237 pd3 rfl (by decide) rfl rfl rfl (by decide) (by decide) (by decide) (by decide) (pc' := 240) rfl ?_
                      intro T hz v X hQ
                      obtain ⟨rfl, hz1⟩ := hQ; replace hz1 := hz1.symm; subst hz1
                      show WP _ _ _ _ _ _ _ _ _ (mkF m 240 #[.val (.int f), .val (.long a), .second, .val (.long b), .second, .val (.long g), .second, .val (.int fi), .val (.int ca), .val (.int cb), .val (.int ats), .val (.int ad), .val (.long ia), .second, .val (.ref b6), .val (.long bs), .second, .val (.long ib), .second, .val (.int lb), .val (.int cr), .val (.int l2), .val (.long off), .second, .val (.long qq), .second, .val (.long cl), .second, .unset, .unset, .unset, .unset, .unset] [(.int (eL li1 af1 ls1 cb ib))])
                      refine w_iload X at_240 rfl (pc' := 242) rfl ?_
                      refine w_icmp_ne X at_242 (by decide) (p1 := 262) (by decide) (p2 := 245) rfl (fun c242 => False.elim (c242 hl2)) (fun c242 => ?_)
                      refine w_aload X at_245 rfl rfl (pc' := 247) rfl ?_
                      refine w_lload X at_247 rfl (pc' := 249) rfl ?_
                      refine w_callV X [(.long qq)] [] 0 (tw31 hw) (tw32 hw) (tw34 hw) (tw33 hw) (tw3 hw) (tw35 hw) O20.exa (ct_col l Z a0 hw b6 qq (eL li1 af1 ls1 cb ib) (eA cb) (ib + 1) h18 n0 X.n0le ga6 O20) at_249 pd4 rfl (by decide) rfl rfl rfl (by decide) (by decide) (by decide) (by decide) (pc' := 252) rfl ?_
                      intro T hz v X hQ
                      obtain ⟨rfl, hz1⟩ := hQ; replace hz1 := hz1.symm; subst hz1
                      show WP _ _ _ _ _ _ _ _ _ (mkF m 252 #[.val (.int f), .val (.long a), .second, .val (.long b), .second, .val (.long g), .second, .val (.int fi), .val (.int ca), .val (.int cb), .val (.int ats), .val (.int ad), .val (.long ia), .second, .val (.ref b6), .val (.long bs), .second, .val (.long ib), .second, .val (.int lb), .val (.int cr), .val (.int l2), .val (.long off), .second, .val (.long qq), .second, .val (.long cl), .second, .unset, .unset, .unset, .unset, .unset] [(.int (fMin (qq - (ib + 1) + 1) 2147483647).toInt32)])
                      refine w_lload X at_252 rfl (pc' := 254) rfl ?_
                      refine w_l2i X at_254 (pc' := 255) rfl ?_
                      refine w_icmp_ne X at_255 (by decide) (p1 := 262) (by decide) (p2 := 258) rfl (fun c255 => False.elim (c255 (by rw [col_eq h_qq, h_cl]))) (fun c255 => ?_)
                      refine w_iconst X at_258 (v := (1 : Int32)) (by decide) (pc' := 259) rfl ?_
                      refine w_goto X at_259 (by decide) (pc' := 263) (by decide) ?_
                      refine w_istore X at_263 (L' := #[.val (.int f), .val (.long a), .second, .val (.long b), .second, .val (.long g), .second, .val (.int fi), .val (.int ca), .val (.int cb), .val (.int ats), .val (.int ad), .val (.long ia), .second, .val (.ref b6), .val (.long bs), .second, .val (.long ib), .second, .val (.int lb), .val (.int cr), .val (.int l2), .val (.long off), .second, .val (.long qq), .second, .val (.long cl), .second, .val (.int (1 : Int32)), .unset, .unset, .unset, .unset]) rfl (pc' := 265) rfl ?_
                      have J23 : ∀ T, St p l e room_1 s m #[(.int f), (.long a), (.long b), (.long g)] below meth c Z n0 x code maxLocals ret T h18 ((((((0 + 1) + 0) + 0) + 0) + 0) + 0) ((((((0 + 3) + 0) + 0) + 0) + 0) + 0) → ∀ (ic : Int64), ((ad = 0 → ic = ib + 2) ∧ (¬ ad = 0 → ic = ib + 1)) → WP p e below s n0 room_1.cells room_1.slots (fun r _ => r = some (.int 1)) T (mkF m 283 #[.val (.int f), .val (.long a), .second, .val (.long b), .second, .val (.long g), .second, .val (.int fi), .val (.int ca), .val (.int cb), .val (.int ats), .val (.int ad), .val (.long ia), .second, .val (.ref b6), .val (.long bs), .second, .val (.long ib), .second, .val (.int lb), .val (.int cr), .val (.int l2), .val (.long off), .second, .val (.long qq), .second, .val (.long cl), .second, .val (.int (1 : Int32)), .unset, .unset, .unset, .unset] [(.long ic)]) := by
                        intro T X ic hic
                        refine w_lstore X at_283 (L' := #[.val (.int f), .val (.long a), .second, .val (.long b), .second, .val (.long g), .second, .val (.int fi), .val (.int ca), .val (.int cb), .val (.int ats), .val (.int ad), .val (.long ia), .second, .val (.ref b6), .val (.long bs), .second, .val (.long ib), .second, .val (.int lb), .val (.int cr), .val (.int l2), .val (.long off), .second, .val (.long qq), .second, .val (.long cl), .second, .val (.int (1 : Int32)), .val (.long ic), .second, .unset, .unset]) rfl (pc' := 285) rfl ?_
                        refine w_aload X at_285 rfl rfl (pc' := 287) rfl ?_
                        refine w_bipush X at_287 (v := (10 : Int32)) (by decide) (pc' := 289) rfl ?_
                        refine w_lload X at_289 rfl (pc' := 291) rfl ?_
                        refine w_callV X [(.int (10 : Int32)), (.long ic)] [] 0 (tw12 hw) (tw13 hw) (tw15 hw) (tw14 hw) (tw3 hw) (tw16 hw) O20.exa (ct_end l Z a0 hw b6 (10 : Int32) ic (eL li1 af1 ls1 cb ib) (eA cb) (ib + 1) h18 n0 X.n0le ga6 O20) at_291 pd2 rfl (by decide) rfl rfl rfl (by decide) (by decide) (by decide) (by decide) (pc' := 294) rfl ?_
                        intro T h24 v X hQ
                        obtain ⟨rfl, K25, O26⟩ := hQ
                        show WP _ _ _ _ _ _ _ _ _ (mkF m 294 #[.val (.int f), .val (.long a), .second, .val (.long b), .second, .val (.long g), .second, .val (.int fi), .val (.int ca), .val (.int cb), .val (.int ats), .val (.int ad), .val (.long ia), .second, .val (.ref b6), .val (.long bs), .second, .val (.long ib), .second, .val (.int lb), .val (.int cr), .val (.int l2), .val (.long off), .second, .val (.long qq), .second, .val (.long cl), .second, .val (.int (1 : Int32)), .val (.long ic), .second, .unset, .unset] [])
                        have J27 : ∀ T, St p l e room_1 s m #[(.int f), (.long a), (.long b), (.long g)] below meth c Z n0 x code maxLocals ret T h24 (((((((0 + 1) + 0) + 0) + 0) + 0) + 0) + 0) (((((((0 + 3) + 0) + 0) + 0) + 0) + 0) + 0) → ∀ (cs : Int32), ∀ (l3 : Int32), (eL l2 (eA cb) (ib + 1) 10 ic = l3) → WP p e below s n0 room_1.cells room_1.slots (fun r _ => r = some (.int 1)) T (mkF m 327 #[.val (.int f), .val (.long a), .second, .val (.long b), .second, .val (.long g), .second, .val (.int fi), .val (.int ca), .val (.int cb), .val (.int ats), .val (.int ad), .val (.long ia), .second, .val (.ref b6), .val (.long bs), .second, .val (.long ib), .second, .val (.int lb), .val (.int cr), .val (.int l2), .val (.long off), .second, .val (.long qq), .second, .val (.long cl), .second, .val (.int (1 : Int32)), .val (.long ic), .second, .val (.int cs), .unset] [(.int l3)]) := by
                          intro T X cs l3 hl3
                          refine w_istore X at_327 (L' := #[.val (.int f), .val (.long a), .second, .val (.long b), .second, .val (.long g), .second, .val (.int fi), .val (.int ca), .val (.int cb), .val (.int ats), .val (.int ad), .val (.long ia), .second, .val (.ref b6), .val (.long bs), .second, .val (.long ib), .second, .val (.int lb), .val (.int cr), .val (.int l2), .val (.long off), .second, .val (.long qq), .second, .val (.long cl), .second, .val (.int (1 : Int32)), .val (.long ic), .second, .val (.int cs), .val (.int l3)]) rfl (pc' := 329) rfl ?_
                          refine w_iload X at_329 rfl (pc' := 331) rfl ?_
                          refine w_if_eq X at_331 (by decide) (p1 := 348) (by decide) (p2 := 334) rfl (fun c331 => False.elim (absurd c331 (by decide))) (fun c331 => ?_)
                          refine w_aload X at_334 rfl rfl (pc' := 336) rfl ?_
                          refine w_callV X [] [] 0 (tw26 hw) (tw27 hw) (tw29 hw) (tw28 hw) (tw3 hw) (tw30 hw) O26.exa (ct_line l Z a0 hw b6 (eL (eL li1 af1 ls1 cb ib) (eA cb) (ib + 1) (10 : Int32) ic) (eA (10 : Int32)) (ic + 1) h24 n0 X.n0le ga6 O26) at_336 pd3 rfl (by decide) rfl rfl rfl (by decide) (by decide) (by decide) (by decide) (pc' := 339) rfl ?_
                          intro T hz v X hQ
                          obtain ⟨rfl, hz1⟩ := hQ; replace hz1 := hz1.symm; subst hz1
                          show WP _ _ _ _ _ _ _ _ _ (mkF m 339 #[.val (.int f), .val (.long a), .second, .val (.long b), .second, .val (.long g), .second, .val (.int fi), .val (.int ca), .val (.int cb), .val (.int ats), .val (.int ad), .val (.long ia), .second, .val (.ref b6), .val (.long bs), .second, .val (.long ib), .second, .val (.int lb), .val (.int cr), .val (.int l2), .val (.long off), .second, .val (.long qq), .second, .val (.long cl), .second, .val (.int (1 : Int32)), .val (.long ic), .second, .val (.int cs), .val (.int l3)] [(.int (eL (eL li1 af1 ls1 cb ib) (eA cb) (ib + 1) (10 : Int32) ic))])
                          refine w_iload X at_339 rfl (pc' := 341) rfl ?_
                          refine w_icmp_ne X at_341 (by decide) (p1 := 348) (by decide) (p2 := 344) rfl (fun c341 => False.elim (c341 (by rw [hl2]; exact hl3))) (fun c341 => ?_)
                          refine w_iconst X at_344 (v := (1 : Int32)) (by decide) (pc' := 345) rfl ?_
                          refine w_goto X at_345 (by decide) (pc' := 349) (by decide) ?_
                          exact w_retZ X rfl at_349 (by decide) (by decide) (by decide) rfl
                        refine w_iload X at_294 rfl (pc' := 296) rfl ?_
                        refine w_bipush X at_296 (v := (13 : Int32)) (by decide) (pc' := 298) rfl ?_
                        refine w_icmp_ne X at_298 (by decide) (p1 := 310) (by decide) (p2 := 301) rfl (fun c298 => ?_) (fun c298 => ?_)
                        · -- c298 taken
                          refine w_iconst X at_310 (v := (0 : Int32)) (by decide) (pc' := 311) rfl ?_
                          refine w_istore X at_311 (L' := #[.val (.int f), .val (.long a), .second, .val (.long b), .second, .val (.long g), .second, .val (.int fi), .val (.int ca), .val (.int cb), .val (.int ats), .val (.int ad), .val (.long ia), .second, .val (.ref b6), .val (.long bs), .second, .val (.long ib), .second, .val (.int lb), .val (.int cr), .val (.int l2), .val (.long off), .second, .val (.long qq), .second, .val (.long cl), .second, .val (.int (1 : Int32)), .val (.long ic), .second, .val (.int (0 : Int32)), .unset]) rfl (pc' := 313) rfl ?_
                          refine w_iload X at_313 rfl (pc' := 315) rfl ?_
                          refine w_if_eq X at_315 (by decide) (p1 := 323) (by decide) (p2 := 318) rfl (fun c315 => ?_) (fun c315 => False.elim (absurd c315 (by decide)))
                          refine w_iload X at_323 rfl (pc' := 325) rfl ?_
                          refine w_iconst X at_325 (v := (1 : Int32)) (by decide) (pc' := 326) rfl ?_
                          refine w_iadd X at_326 (pc' := 327) rfl ?_
                          exact J27 T X (0 : Int32) (l2 + (1 : Int32)) (by rw [line3 hic h_cb]; simp only [if_pos c242, if_pos c255, if_neg c298, if_pos c315])
                        · -- c298 not taken
                          refine w_iload X at_301 rfl (pc' := 303) rfl ?_
                          refine w_if_eq X at_303 (by decide) (p1 := 310) (by decide) (p2 := 306) rfl (fun c303 => ?_) (fun c303 => ?_)
                          · -- c303 taken
                            refine w_iconst X at_310 (v := (0 : Int32)) (by decide) (pc' := 311) rfl ?_
                            refine w_istore X at_311 (L' := #[.val (.int f), .val (.long a), .second, .val (.long b), .second, .val (.long g), .second, .val (.int fi), .val (.int ca), .val (.int cb), .val (.int ats), .val (.int ad), .val (.long ia), .second, .val (.ref b6), .val (.long bs), .second, .val (.long ib), .second, .val (.int lb), .val (.int cr), .val (.int l2), .val (.long off), .second, .val (.long qq), .second, .val (.long cl), .second, .val (.int (1 : Int32)), .val (.long ic), .second, .val (.int (0 : Int32)), .unset]) rfl (pc' := 313) rfl ?_
                            refine w_iload X at_313 rfl (pc' := 315) rfl ?_
                            refine w_if_eq X at_315 (by decide) (p1 := 323) (by decide) (p2 := 318) rfl (fun c315 => ?_) (fun c315 => False.elim (absurd c315 (by decide)))
                            refine w_iload X at_323 rfl (pc' := 325) rfl ?_
                            refine w_iconst X at_325 (v := (1 : Int32)) (by decide) (pc' := 326) rfl ?_
                            refine w_iadd X at_326 (pc' := 327) rfl ?_
                            exact J27 T X (0 : Int32) (l2 + (1 : Int32)) (by rw [line3 hic h_cb]; simp only [if_pos c242, if_pos c255, if_pos c298, if_pos c303, if_pos c315])
                          · -- c303 not taken
                            refine w_iconst X at_306 (v := (1 : Int32)) (by decide) (pc' := 307) rfl ?_
                            refine w_goto X at_307 (by decide) (pc' := 311) (by decide) ?_
                            refine w_istore X at_311 (L' := #[.val (.int f), .val (.long a), .second, .val (.long b), .second, .val (.long g), .second, .val (.int fi), .val (.int ca), .val (.int cb), .val (.int ats), .val (.int ad), .val (.long ia), .second, .val (.ref b6), .val (.long bs), .second, .val (.long ib), .second, .val (.int lb), .val (.int cr), .val (.int l2), .val (.long off), .second, .val (.long qq), .second, .val (.long cl), .second, .val (.int (1 : Int32)), .val (.long ic), .second, .val (.int (1 : Int32)), .unset]) rfl (pc' := 313) rfl ?_
                            refine w_iload X at_313 rfl (pc' := 315) rfl ?_
                            refine w_if_eq X at_315 (by decide) (p1 := 323) (by decide) (p2 := 318) rfl (fun c315 => False.elim (absurd c315 (by decide))) (fun c315 => ?_)
                            refine w_iload X at_318 rfl (pc' := 320) rfl ?_
                            refine w_goto X at_320 (by decide) (pc' := 327) (by decide) ?_
                            exact J27 T X (1 : Int32) l2 (by rw [line3 hic h_cb]; simp only [if_pos c242, if_pos c255, if_pos c298, if_neg c303, if_neg c315])
                      refine w_iload X at_265 rfl (pc' := 267) rfl ?_
                      refine w_if_eq X at_267 (by decide) (p1 := 277) (by decide) (p2 := 270) rfl (fun c267 => ?_) (fun c267 => ?_)
                      · -- c267 taken
                        refine w_lload X at_277 rfl (pc' := 279) rfl ?_
                        refine w_ldcJ X at_279 (tw38 hw) (pc' := 282) rfl ?_
                        refine w_ladd X at_282 (pc' := 283) rfl ?_
                        exact J23 T X (ib + (2 : Int64)) (⟨fun _ => rfl, fun q => absurd c267 q⟩)
                      · -- c267 not taken
                        refine w_lload X at_270 rfl (pc' := 272) rfl ?_
                        refine w_lconst X at_272 (v := (1 : Int64)) (by decide) (pc' := 273) rfl ?_
                        refine w_ladd X at_273 (pc' := 274) rfl ?_
                        refine w_goto X at_274 (by decide) (pc' := 283) (by decide) ?_
                        exact J23 T X (ib + (1 : Int64)) (⟨fun q => absurd q c267, fun _ => rfl⟩)
                    refine w_iload X at_154 rfl (pc' := 156) rfl ?_
                    refine w_if_eq X at_156 (by decide) (p1 := 187) (by decide) (p2 := 159) rfl (fun c156 => ?_) (fun c156 => ?_)
                    · -- c156 taken
                      refine w_iconst X at_187 (v := (0 : Int32)) (by decide) (pc' := 188) rfl ?_
                      refine w_istore X at_188 (L' := #[.val (.int f), .val (.long a), .second, .val (.long b), .second, .val (.long g), .second, .val (.int fi), .val (.int ca), .val (.int cb), .val (.int ats), .val (.int ad), .val (.long ia), .second, .val (.ref b6), .val (.long bs), .second, .val (.long ib), .second, .val (.int lb), .val (.int (0 : Int32)), .unset, .unset, .unset, .unset, .unset, .unset, .unset, .unset, .unset, .unset, .unset, .unset]) rfl (pc' := 190) rfl ?_
                      refine w_iload X at_190 rfl (pc' := 192) rfl ?_
                      refine w_if_eq X at_192 (by decide) (p1 := 200) (by decide) (p2 := 195) rfl (fun c192 => ?_) (fun c192 => False.elim (absurd c192 (by decide)))
                      refine w_iload X at_200 rfl (pc' := 202) rfl ?_
                      refine w_iconst X at_202 (v := (1 : Int32)) (by decide) (pc' := 203) rfl ?_
                      refine w_iadd X at_203 (pc' := 204) rfl ?_
                      exact J22 T X (0 : Int32) (lb + (1 : Int32)) (by rw [line2 hO hlb h_ca h_cb]; simp only [if_pos c156, if_pos c192])
                    · -- c156 not taken
                      refine w_iload X at_159 rfl (pc' := 161) rfl ?_
                      refine w_bipush X at_161 (v := (13 : Int32)) (by decide) (pc' := 163) rfl ?_
                      refine w_icmp_ne X at_163 (by decide) (p1 := 187) (by decide) (p2 := 166) rfl (fun c163 => ?_) (fun c163 => ?_)
                      · -- c163 taken
                        refine w_iconst X at_187 (v := (0 : Int32)) (by decide) (pc' := 188) rfl ?_
                        refine w_istore X at_188 (L' := #[.val (.int f), .val (.long a), .second, .val (.long b), .second, .val (.long g), .second, .val (.int fi), .val (.int ca), .val (.int cb), .val (.int ats), .val (.int ad), .val (.long ia), .second, .val (.ref b6), .val (.long bs), .second, .val (.long ib), .second, .val (.int lb), .val (.int (0 : Int32)), .unset, .unset, .unset, .unset, .unset, .unset, .unset, .unset, .unset, .unset, .unset, .unset]) rfl (pc' := 190) rfl ?_
                        refine w_iload X at_190 rfl (pc' := 192) rfl ?_
                        refine w_if_eq X at_192 (by decide) (p1 := 200) (by decide) (p2 := 195) rfl (fun c192 => ?_) (fun c192 => False.elim (absurd c192 (by decide)))
                        refine w_iload X at_200 rfl (pc' := 202) rfl ?_
                        refine w_iconst X at_202 (v := (1 : Int32)) (by decide) (pc' := 203) rfl ?_
                        refine w_iadd X at_203 (pc' := 204) rfl ?_
                        exact J22 T X (0 : Int32) (lb + (1 : Int32)) (by rw [line2 hO hlb h_ca h_cb]; simp only [if_neg c156, if_neg c163, if_pos c192])
                      · -- c163 not taken
                        refine w_iload X at_166 rfl (pc' := 168) rfl ?_
                        refine w_bipush X at_168 (v := (10 : Int32)) (by decide) (pc' := 170) rfl ?_
                        refine w_icmp_ne X at_170 (by decide) (p1 := 187) (by decide) (p2 := 173) rfl (fun c170 => ?_) (fun c170 => ?_)
                        · -- c170 taken
                          refine w_iconst X at_187 (v := (0 : Int32)) (by decide) (pc' := 188) rfl ?_
                          refine w_istore X at_188 (L' := #[.val (.int f), .val (.long a), .second, .val (.long b), .second, .val (.long g), .second, .val (.int fi), .val (.int ca), .val (.int cb), .val (.int ats), .val (.int ad), .val (.long ia), .second, .val (.ref b6), .val (.long bs), .second, .val (.long ib), .second, .val (.int lb), .val (.int (0 : Int32)), .unset, .unset, .unset, .unset, .unset, .unset, .unset, .unset, .unset, .unset, .unset, .unset]) rfl (pc' := 190) rfl ?_
                          refine w_iload X at_190 rfl (pc' := 192) rfl ?_
                          refine w_if_eq X at_192 (by decide) (p1 := 200) (by decide) (p2 := 195) rfl (fun c192 => ?_) (fun c192 => False.elim (absurd c192 (by decide)))
                          refine w_iload X at_200 rfl (pc' := 202) rfl ?_
                          refine w_iconst X at_202 (v := (1 : Int32)) (by decide) (pc' := 203) rfl ?_
                          refine w_iadd X at_203 (pc' := 204) rfl ?_
                          exact J22 T X (0 : Int32) (lb + (1 : Int32)) (by rw [line2 hO hlb h_ca h_cb]; simp only [if_neg c156, if_pos c163, if_neg c170, if_pos c192])
                        · -- c170 not taken
                          refine w_lload X at_173 rfl (pc' := 175) rfl ?_
                          refine w_lload X at_175 rfl (pc' := 177) rfl ?_
                          refine w_lconst X at_177 (v := (1 : Int64)) (by decide) (pc' := 178) rfl ?_
                          refine w_ladd X at_178 (pc' := 179) rfl ?_
                          refine w_lcmp_ne X at_179 (p0 := 180) rfl at_180 (by decide) (p1 := 187) (by decide) (p2 := 183) rfl (fun c179 => ?_) (fun c179 => ?_)
                          · -- c179 taken
                            refine w_iconst X at_187 (v := (0 : Int32)) (by decide) (pc' := 188) rfl ?_
                            refine w_istore X at_188 (L' := #[.val (.int f), .val (.long a), .second, .val (.long b), .second, .val (.long g), .second, .val (.int fi), .val (.int ca), .val (.int cb), .val (.int ats), .val (.int ad), .val (.long ia), .second, .val (.ref b6), .val (.long bs), .second, .val (.long ib), .second, .val (.int lb), .val (.int (0 : Int32)), .unset, .unset, .unset, .unset, .unset, .unset, .unset, .unset, .unset, .unset, .unset, .unset]) rfl (pc' := 190) rfl ?_
                            refine w_iload X at_190 rfl (pc' := 192) rfl ?_
                            refine w_if_eq X at_192 (by decide) (p1 := 200) (by decide) (p2 := 195) rfl (fun c192 => ?_) (fun c192 => False.elim (absurd c192 (by decide)))
                            refine w_iload X at_200 rfl (pc' := 202) rfl ?_
                            refine w_iconst X at_202 (v := (1 : Int32)) (by decide) (pc' := 203) rfl ?_
                            refine w_iadd X at_203 (pc' := 204) rfl ?_
                            exact J22 T X (0 : Int32) (lb + (1 : Int32)) (by rw [line2 hO hlb h_ca h_cb]; simp only [if_neg c156, if_pos c163, if_pos c170, if_neg c179, if_pos c192])
                          · -- c179 not taken
                            refine w_iconst X at_183 (v := (1 : Int32)) (by decide) (pc' := 184) rfl ?_
                            refine w_goto X at_184 (by decide) (pc' := 188) (by decide) ?_
                            refine w_istore X at_188 (L' := #[.val (.int f), .val (.long a), .second, .val (.long b), .second, .val (.long g), .second, .val (.int fi), .val (.int ca), .val (.int cb), .val (.int ats), .val (.int ad), .val (.long ia), .second, .val (.ref b6), .val (.long bs), .second, .val (.long ib), .second, .val (.int lb), .val (.int (1 : Int32)), .unset, .unset, .unset, .unset, .unset, .unset, .unset, .unset, .unset, .unset, .unset, .unset]) rfl (pc' := 190) rfl ?_
                            refine w_iload X at_190 rfl (pc' := 192) rfl ?_
                            refine w_if_eq X at_192 (by decide) (p1 := 200) (by decide) (p2 := 195) rfl (fun c192 => False.elim (absurd c192 (by decide))) (fun c192 => ?_)
                            refine w_iload X at_195 rfl (pc' := 197) rfl ?_
                            refine w_goto X at_197 (by decide) (pc' := 204) (by decide) ?_
                            exact J22 T X (1 : Int32) lb (by rw [line2 hO hlb h_ca h_cb]; simp only [if_neg c156, if_pos c163, if_pos c170, if_pos c179, if_neg c192])
                  refine w_iload X at_142 rfl (pc' := 144) rfl ?_
                  refine w_if_eq X at_144 (by decide) (p1 := 151) (by decide) (p2 := 147) rfl (fun c144 => ?_) (fun c144 => ?_)
                  · -- c144 taken
                    refine w_iconst X at_151 (v := (1 : Int32)) (by decide) (pc' := 152) rfl ?_
                    exact J21 T X (1 : Int32) (⟨fun _ => rfl, fun q => absurd c144 q⟩)
                  · -- c144 not taken
                    refine w_iconst X at_147 (v := (2 : Int32)) (by decide) (pc' := 148) rfl ?_
                    refine w_goto X at_148 (by decide) (pc' := 152) (by decide) ?_
                    exact J21 T X (2 : Int32) (⟨fun q => absurd q c144, fun _ => rfl⟩)
                refine w_iload X at_116 rfl (pc' := 118) rfl ?_
                refine w_if_eq X at_118 (by decide) (p1 := 126) (by decide) (p2 := 121) rfl (fun c118 => ?_) (fun c118 => ?_)
                · -- c118 taken
                  refine w_lloadN X at_126 rfl (pc' := 127) rfl ?_
                  refine w_ldcJ X at_127 (tw0 hw) (pc' := 130) rfl ?_
                  refine w_land X at_130 (pc' := 131) rfl ?_
                  exact J16 T X (b &&& (2305843009213693951 : Int64))
                · -- c118 not taken
                  refine w_lload X at_121 rfl (pc' := 123) rfl ?_
                  refine w_goto X at_123 (by decide) (pc' := 131) (by decide) ?_
                  exact J16 T X bs
              refine w_iload X at_102 rfl (pc' := 104) rfl ?_
              refine w_if_eq X at_104 (by decide) (p1 := 116) (by decide) (p2 := 107) rfl (fun c104 => ?_) (fun c104 => ?_)
              · -- c104 taken
                exact J13 T h8 X (1 : Int32) (0 : Int32) (0 : Int64) O10 (⟨fun _ => ⟨rfl, rfl, rfl⟩, fun q => absurd c104 q⟩)
              · -- c104 not taken
                refine w_aload X at_107 rfl rfl (pc' := 109) rfl ?_
                refine w_iload X at_109 rfl (pc' := 111) rfl ?_
                refine w_lload X at_111 rfl (pc' := 113) rfl ?_
                refine w_callV X [(.int ca), (.long ia)] [] 0 (tw12 hw) (tw13 hw) (tw15 hw) (tw14 hw) (tw3 hw) (tw16 hw) O10.exa (ct_end l Z a0 hw b6 ca ia (1 : Int32) (0 : Int32) (0 : Int64) h8 n0 X.n0le ga6 O10) at_113 pd2 rfl (by decide) rfl rfl rfl (by decide) (by decide) (by decide) (by decide) (pc' := 116) rfl ?_
                intro T h28 v X hQ
                obtain ⟨rfl, K29, O30⟩ := hQ
                show WP _ _ _ _ _ _ _ _ _ (mkF m 116 #[.val (.int f), .val (.long a), .second, .val (.long b), .second, .val (.long g), .second, .val (.int fi), .val (.int ca), .val (.int cb), .val (.int ats), .val (.int ad), .val (.long ia), .second, .val (.ref b6), .val (.long bs), .second, .unset, .unset, .unset, .unset, .unset, .unset, .unset, .unset, .unset, .unset, .unset, .unset, .unset, .unset, .unset, .unset] [])
                exact J13 T h28 X (eL (1 : Int32) (0 : Int32) (0 : Int64) ca ia) (eA ca) (ia + 1) O30 (⟨fun q => absurd q c104, fun _ => ⟨by simp only [eL, if_true, ite_self]; first | rfl | (split <;> rfl), rfl, rfl⟩⟩)
            refine w_iload X at_87 rfl (pc' := 89) rfl ?_
            refine w_if_eq X at_89 (by decide) (p1 := 99) (by decide) (p2 := 92) rfl (fun c89 => ?_) (fun c89 => ?_)
            · -- c89 taken
              refine w_lconst X at_99 (v := (0 : Int64)) (by decide) (pc' := 100) rfl ?_
              exact J11 T X (0 : Int64)
            · -- c89 not taken
              refine w_lload X at_92 rfl (pc' := 94) rfl ?_
              refine w_lconst X at_94 (v := (1 : Int64)) (by decide) (pc' := 95) rfl ?_
              refine w_ladd X at_95 (pc' := 96) rfl ?_
              refine w_goto X at_96 (by decide) (pc' := 100) (by decide) ?_
              exact J11 T X (ia + (1 : Int64))
          refine w_iloadN X at_57 rfl (pc' := 58) rfl ?_
          refine w_bipush X at_58 (v := (16 : Int32)) (by decide) (pc' := 60) rfl ?_
          refine w_iand X at_60 (pc' := 61) rfl ?_
          refine w_if_eq X at_61 (by decide) (p1 := 68) (by decide) (p2 := 64) rfl (fun c61 => ?_) (fun c61 => ?_)
          · -- c61 taken
            refine w_iconst X at_68 (v := (0 : Int32)) (by decide) (pc' := 69) rfl ?_
            exact J5 T X (0 : Int32) (Or.inl rfl)
          · -- c61 not taken
            refine w_iconst X at_64 (v := (1 : Int32)) (by decide) (pc' := 65) rfl ?_
            refine w_goto X at_65 (by decide) (pc' := 69) (by decide) ?_
            exact J5 T X (1 : Int32) (Or.inr rfl)
        refine w_iloadN X at_43 rfl (pc' := 44) rfl ?_
        refine w_bipush X at_44 (v := (8 : Int32)) (by decide) (pc' := 46) rfl ?_
        refine w_iand X at_46 (pc' := 47) rfl ?_
        refine w_if_eq X at_47 (by decide) (p1 := 54) (by decide) (p2 := 50) rfl (fun c47 => ?_) (fun c47 => ?_)
        · -- c47 taken
          refine w_iconst X at_54 (v := (0 : Int32)) (by decide) (pc' := 55) rfl ?_
          exact J4 T X (0 : Int32) (Or.inl rfl)
        · -- c47 not taken
          refine w_iconst X at_50 (v := (1 : Int32)) (by decide) (pc' := 51) rfl ?_
          refine w_goto X at_51 (by decide) (pc' := 55) (by decide) ?_
          exact J4 T X (1 : Int32) (Or.inr rfl)
      refine w_iloadN X at_28 rfl (pc' := 29) rfl ?_
      refine w_iconst X at_29 (v := (4 : Int32)) (by decide) (pc' := 30) rfl ?_
      refine w_iand X at_30 (pc' := 31) rfl ?_
      refine w_if_eq X at_31 (by decide) (p1 := 39) (by decide) (p2 := 34) rfl (fun c31 => ?_) (fun c31 => ?_)
      · -- c31 taken
        refine w_bipush X at_39 (v := (10 : Int32)) (by decide) (pc' := 41) rfl ?_
        exact J3 T X (10 : Int32) (Or.inl rfl)
      · -- c31 not taken
        refine w_bipush X at_34 (v := (13 : Int32)) (by decide) (pc' := 36) rfl ?_
        refine w_goto X at_36 (by decide) (pc' := 41) (by decide) ?_
        exact J3 T X (13 : Int32) (Or.inr rfl)
    refine w_iloadN X at_13 rfl (pc' := 14) rfl ?_
    refine w_iconst X at_14 (v := (2 : Int32)) (by decide) (pc' := 15) rfl ?_
    refine w_iand X at_15 (pc' := 16) rfl ?_
    refine w_if_eq X at_16 (by decide) (p1 := 24) (by decide) (p2 := 19) rfl (fun c16 => ?_) (fun c16 => ?_)
    · -- c16 taken
      refine w_bipush X at_24 (v := (10 : Int32)) (by decide) (pc' := 26) rfl ?_
      exact J2 T X (10 : Int32) (Or.inl rfl)
    · -- c16 not taken
      refine w_bipush X at_19 (v := (13 : Int32)) (by decide) (pc' := 21) rfl ?_
      refine w_goto X at_21 (by decide) (pc' := 26) (by decide) ?_
      exact J2 T X (13 : Int32) (Or.inr rfl)
  refine w_iloadN X at_0 rfl (pc' := 1) rfl ?_
  refine w_iconst X at_1 (v := (1 : Int32)) (by decide) (pc' := 2) rfl ?_
  refine w_iand X at_2 (pc' := 3) rfl ?_
  refine w_if_eq X at_3 (by decide) (p1 := 10) (by decide) (p2 := 6) rfl (fun c3 => ?_) (fun c3 => ?_)
  · -- c3 taken
    refine w_iconst X at_10 (v := (0 : Int32)) (by decide) (pc' := 11) rfl ?_
    exact J1 T X (0 : Int32) (Or.inl rfl)
  · -- c3 not taken
    refine w_iconst X at_6 (v := (1 : Int32)) (by decide) (pc' := 7) rfl ?_
    refine w_goto X at_7 (by decide) (pc' := 11) (by decide) ?_
    exact J1 T X (1 : Int32) (Or.inr rfl)
set_option maxRecDepth 65536 in
set_option maxHeartbeats 4000000 in
theorem comes_1 {Post : Tables → Env → Array Value → State → Outcome → State → Prop} (hpost : ∀ tb e args s v u, (limb_1_1.after args s (.returned v) u = true ∧ limb_1_2.after args s (.returned v) u = true ∧ True) → FrameEnd s (.returned v) u (Jvm.fieldLocs frame_1_writes args s ++ Jvm.arrayLocs frame_1_arrays args s ++ Jvm.staticLocs frame_1_statics s) 16 128 → Post tb e args s (.returned v) u) :
    ArmFor flags0 classFile x code maxLocals ret World_1 tables_1 room_1 Calls_1 rest_1 Pre_1 Post := by
  intro l hfl _ _ p e ha hc hk s m args below hf hA hF happ hP
  obtain ⟨hcalls, hrest, hpre⟩ := hP
  obtain ⟨-, -, -, hnamed, -, -, -, hat⟩ := (Spec.applies_iff hf).mp happ
  obtain ⟨hg, hn⟩ := and_e (Cond.before_iff.mp (show (Jvm.Cond.and given_1 narrow_1).before args s = true from hpre))
  obtain ⟨g1a, g1b⟩ := and_e hg
  obtain ⟨g2a, g2b⟩ := and_e g1b
  obtain ⟨g3a, g3b⟩ := and_e g2b
  obtain ⟨g4a, g4b⟩ := and_e g3b
  obtain ⟨w0, w1, w2, w3, rfl⟩ : ∃ w0 w1 w2 w3 : Value, args = #[w0, w1, w2, w3] := by
    have hs : args.size = 4 := by simpa [Cond.value, given_1] using g1a
    obtain ⟨L⟩ := args
    match L, hs with
    | [w0, w1, w2, w3], _ => exact ⟨w0, w1, w2, w3, rfl⟩
  have hw := fun d (hd : d ∈ tables_1) => atoms_spec (ws := Jvm.Cond.code x code maxLocals ret :: tables_1) hat d (List.mem_cons_of_mem _ hd)
  obtain ⟨i0, ei0⟩ := is_v g2a
  obtain rfl : w0 = (.int i0) := Option.some.inj ei0
  obtain ⟨i1, ei1⟩ := isL_v g3a
  obtain rfl : w1 = (.long i1) := Option.some.inj ei1
  obtain ⟨i2, ei2⟩ := isL_v g4a
  obtain rfl : w2 = (.long i2) := Option.some.inj ei2
  obtain ⟨i3, ei3⟩ := isL_v g4b
  obtain rfl : w3 = (.long i3) := Option.some.inj ei3
  obtain ⟨n, o, h1, h2, h3, _, L, rfl, ⟨rfl, N⟩, hq⟩ := ct_law l s _ hw i0 i1 i2 i3 s.heap s.heap.size (Nat.le_refl _) tables_1 p e ha hc hk s m _ below hf ((Spec.applies_iff_loose hf).mp happ).1 ⟨rfl, State.Warmed39.refl s, rfl⟩ trivial
  exact ⟨n, _, h1, h2, h3, hpost _ _ _ _ _ _ ⟨Cond.after_iff.mpr rfl, Cond.after_iff.mpr (eq_i res_at (Term.int_eval (1)) rfl), trivial⟩ ⟨hq.1, hq.2.1, (hq.2.2.sift fun y hy => Or.inr (N y hy)).mono (by decide) (by decide)⟩⟩
theorem main_1_1 : Claimed_1_1 := comes_1 fun _ _ _ _ _ _ h hF => ⟨h.1, hF⟩
theorem main_1_2 : Claimed_1_2 := comes_1 fun _ _ _ _ _ _ h hF => ⟨h.2.1, hF⟩
end Jvm.Pilot.@@N@@
namespace Jvm.Pilot.@@N@@
open Jvm Jvm.ClassFile Sem Op Lib Jvm.Free Jvm.Stand Jvm.Pilot.@@N@@.Jvm.D
/-! MADE BY PROGRAM (witnessworld.py) out of the Statement's table words and the real class files: 10 classes; the members and pool entries that the words name. The judged class is class 1, her method 1. -/
namespace start1
open Jvm.ClassFile
def u (s : String) : CpInfo := .utf8 (stringToUtf16 s)
/-- a pool by its gaps: so many unusable entries, then the entry; so many at the end -/
def gap : Nat → List CpInfo → List CpInfo
  | 0, r => r
  | n + 1, r => .unusable :: gap n r
def poolList (es : List (Nat × CpInfo)) (last : Nat) : List CpInfo := es.foldr (fun e r => gap e.1 (e.2 :: r)) (gap last [])
def pool (es : List (Nat × CpInfo)) (last : Nat) : Array CpInfo := ⟨poolList es last⟩
def fileOf (pool : Array CpInfo) (this : Nat) (attrs : Array Attribute := #[]) (ms : Array MethodInfo := #[]) (fl : Nat := 33) (sup : Nat := 0) (ifs : Array Nat := #[]) (fds : Array FieldInfo := #[]) : ClassFile where
  minorVersion := 0
  majorVersion := 65
  constantPool := pool
  accessFlags := fl
  thisClass := this
  superClass := sup
  interfaces := ifs
  fields := fds
  methods := ms
  attributes := attrs
def plain (name : String) (sup : Option ClassId) : Class where
  name := name
  kind := .ordinary
  loader := none
  accessFlags := 33
  super := sup
  interfaces := #[]
  cf := none
  fields := #[]
  methods := #[]
  instanceTypes := #[]
  staticTypes := #[]
  resolved := #[]
  callSites := []
  init := .initialized
  statics := none
  mirror := none

def pool0 : Array CpInfo := pool [(5, u "<init>"), (0, u "()V"), (1, .class_ 10), (1, u "java/lang/Object")] 113

def k0c0 : Code := { maxStack := 0, maxLocals := 1, code := object_method_1_code, exceptionTable := #[], attributes := #[] }
def k0m0 : Method := { name := "<init>", desc := "()V", sig := { parameters := [], returnType := none }, accessFlags := 1, code := some k0c0 }
/-- java/lang/Object -/
def k0 : Class := { plain "java/lang/Object" none with
  accessFlags := 33
  interfaces := #[]
  cf := some (fileOf pool0 8 #[] #[{ accessFlags := 1, nameIndex := 5, descriptorIndex := 6, attributes := #[] }] 33 0 #[] #[])
  fields := #[]
  methods := #[k0m0]
  instanceTypes := #[]
  staticTypes := #[]
  resolved := Array.replicate 124 none
  statics := none }

def pool1 : Array CpInfo := pool [(2, .class_ 4), (0, .nameAndType 5 6), (0, u "java/lang/Object"), (0, u "<init>"), (0, u "()V"), (0, .long 2305843009213693951), (1, .class_ 10), (0, u "com/example/strauch/strauch/tree/TextPosition"), (0, .methodref 9 3), (0, .methodref 9 13), (0, .nameAndType 14 15), (0, u "endLine"), (0, u "(CJ)V"), (2, .long 2147483647), (1, .methodref 21 22), (0, .class_ 23), (0, .nameAndType 24 25), (0, u "java/lang/Math"), (0, u "min"), (0, u "(JJ)J"), (0, .methodref 9 27), (0, .nameAndType 28 29), (0, u "getLine"), (0, u "()I"), (0, .methodref 9 31), (0, .nameAndType 32 33), (0, u "columnAt"), (0, u "(J)I"), (0, .long 2), (1, .class_ 37), (0, u "com/example/strauch/strauch/tree/TextPositionEndLinePinLaw"), (2, u "law"), (0, u "(IJJJ)Z")] 3

def k1m0 : Method := { name := "<init>", desc := "()V", sig := { parameters := [], returnType := none }, accessFlags := 1, code := none }
def k1c1 : Code := { maxStack := 6, maxLocals := 33, code := code, exceptionTable := #[], attributes := #[] }
def k1m1 : Method := { name := "law", desc := "(IJJJ)Z", sig := { parameters := [.int, .long, .long, .long], returnType := some .boolean }, accessFlags := 9, code := some k1c1 }
/-- com/example/strauch/strauch/tree/TextPositionEndLinePinLaw -/
def k1 : Class := { plain "com/example/strauch/strauch/tree/TextPositionEndLinePinLaw" (some 0) with
  accessFlags := 49
  interfaces := #[]
  cf := some (fileOf pool1 36 #[] #[{ accessFlags := 1, nameIndex := 5, descriptorIndex := 6, attributes := #[] }, { accessFlags := 9, nameIndex := 40, descriptorIndex := 41, attributes := #[] }] 49 2 #[] #[])
  fields := #[]
  methods := #[k1m0, k1m1]
  instanceTypes := #[]
  staticTypes := #[]
  resolved := Array.replicate 45 none
  statics := none }

def pool2 : Array CpInfo := pool [(1, .methodref 2 3), (0, .class_ 4), (0, .nameAndType 5 6), (0, u "java/lang/Object"), (0, u "<init>"), (0, u "()V"), (0, .fieldref 8 9), (0, .class_ 10), (0, .nameAndType 11 12), (0, u "com/example/strauch/strauch/tree/TextPosition"), (0, u "line"), (0, u "I"), (0, .fieldref 8 14), (0, .nameAndType 15 16), (0, u "afterCarriageReturn"), (0, u "Z"), (0, .fieldref 8 18), (0, .nameAndType 19 20), (0, u "lineStart"), (0, u "J"), (6, u "endLine"), (0, u "(CJ)V"), (2, .long 2147483647), (1, .methodref 34 35), (0, .class_ 36), (0, .nameAndType 37 38), (0, u "java/lang/Math"), (0, u "min"), (0, u "(JJ)J"), (5, u "getLine"), (0, u "()I"), (0, u "columnAt"), (0, u "(J)I")] 2

def k2c0 : Code := { maxStack := 2, maxLocals := 1, code := prog_84_method_1_code, exceptionTable := #[], attributes := #[] }
def k2m0 : Method := { name := "<init>", desc := "()V", sig := { parameters := [], returnType := none }, accessFlags := 0, code := some k2c0 }
def k2c1 : Code := { maxStack := 5, maxLocals := 5, code := prog_84_method_3_code, exceptionTable := #[], attributes := #[] }
def k2m1 : Method := { name := "endLine", desc := "(CJ)V", sig := { parameters := [.char, .long], returnType := none }, accessFlags := 0, code := some k2c1 }
def k2c2 : Code := { maxStack := 1, maxLocals := 1, code := prog_84_method_5_code, exceptionTable := #[], attributes := #[] }
def k2m2 : Method := { name := "getLine", desc := "()I", sig := { parameters := [], returnType := some .int }, accessFlags := 0, code := some k2c2 }
def k2c3 : Code := { maxStack := 4, maxLocals := 3, code := prog_84_method_6_code, exceptionTable := #[], attributes := #[] }
def k2m3 : Method := { name := "columnAt", desc := "(J)I", sig := { parameters := [.long], returnType := some .int }, accessFlags := 0, code := some k2c3 }
/-- com/example/strauch/strauch/tree/TextPosition -/
def k2 : Class := { plain "com/example/strauch/strauch/tree/TextPosition" (some 0) with
  accessFlags := 48
  interfaces := #[]
  cf := some (fileOf pool2 8 #[] #[{ accessFlags := 0, nameIndex := 5, descriptorIndex := 6, attributes := #[] }, { accessFlags := 0, nameIndex := 27, descriptorIndex := 28, attributes := #[] }, { accessFlags := 0, nameIndex := 44, descriptorIndex := 45, attributes := #[] }, { accessFlags := 0, nameIndex := 46, descriptorIndex := 47, attributes := #[] }] 48 2 #[] #[{ accessFlags := 2, nameIndex := 11, descriptorIndex := 12, attributes := #[] }, { accessFlags := 2, nameIndex := 19, descriptorIndex := 20, attributes := #[] }, { accessFlags := 2, nameIndex := 15, descriptorIndex := 16, attributes := #[] }])
  fields := #[{ name := "line", type := .int, accessFlags := 2, slot := 0, constantValue := 0 }, { name := "lineStart", type := .long, accessFlags := 2, slot := 1, constantValue := 0 }, { name := "afterCarriageReturn", type := .boolean, accessFlags := 2, slot := 2, constantValue := 0 }]
  methods := #[k2m0, k2m1, k2m2, k2m3]
  instanceTypes := #[.int, .long, .boolean]
  staticTypes := #[]
  resolved := Array.replicate 50 none
  statics := none }

def pool3 : Array CpInfo := pool [(1, .class_ 2), (0, u "java/lang/Math"), (1, .class_ 6), (1, u "java/lang/Object"), (0, u "<init>"), (0, u "()V"), (89, .class_ 100), (1, u "java/lang/Math$RandomNumberGeneratorHolder"), (20, u "(JJ)J"), (50, u "negativeZeroFloatBits"), (0, u "J"), (2, u "negativeZeroDoubleBits"), (24, u "min"), (43, u "$assertionsDisabled"), (0, u "Z"), (91, u "twoToTheDoubleScaleDown"), (0, u "D"), (4, u "twoToTheDoubleScaleUp"), (9, u "E"), (3, u "PI"), (2, u "TAU"), (2, u "DEGREES_TO_RADIANS"), (0, u "RADIANS_TO_DEGREES")] 94

def k3m0 : Method := { name := "<init>", desc := "()V", sig := { parameters := [], returnType := none }, accessFlags := 2, code := none }
def k3c1 : Code := { maxStack := 4, maxLocals := 4, code := jdk_29_method_70_code, exceptionTable := #[], attributes := #[] }
def k3m1 : Method := { name := "min", desc := "(JJ)J", sig := { parameters := [.long, .long], returnType := some .long }, accessFlags := 9, code := some k3c1 }
/-- java/lang/Math -/
def k3 : Class := { plain "java/lang/Math" (some 0) with
  accessFlags := 49
  interfaces := #[]
  cf := some (fileOf pool3 1 #[.nestMembers #[98]] #[{ accessFlags := 2, nameIndex := 7, descriptorIndex := 8, attributes := #[] }, { accessFlags := 9, nameIndex := 201, descriptorIndex := 121, attributes := #[] }] 49 4 #[] #[{ accessFlags := 25, nameIndex := 354, descriptorIndex := 339, attributes := #[] }, { accessFlags := 25, nameIndex := 358, descriptorIndex := 339, attributes := #[] }, { accessFlags := 25, nameIndex := 361, descriptorIndex := 339, attributes := #[] }, { accessFlags := 26, nameIndex := 364, descriptorIndex := 339, attributes := #[] }, { accessFlags := 26, nameIndex := 365, descriptorIndex := 339, attributes := #[] }, { accessFlags := 26, nameIndex := 172, descriptorIndex := 173, attributes := #[] }, { accessFlags := 26, nameIndex := 176, descriptorIndex := 173, attributes := #[] }, { accessFlags := 8, nameIndex := 344, descriptorIndex := 339, attributes := #[] }, { accessFlags := 8, nameIndex := 338, descriptorIndex := 339, attributes := #[] }, { accessFlags := 4120, nameIndex := 245, descriptorIndex := 246, attributes := #[] }])
  fields := #[{ name := "E", type := .double, accessFlags := 25, slot := 0, constantValue := 0 }, { name := "PI", type := .double, accessFlags := 25, slot := 1, constantValue := 0 }, { name := "TAU", type := .double, accessFlags := 25, slot := 2, constantValue := 0 }, { name := "DEGREES_TO_RADIANS", type := .double, accessFlags := 26, slot := 3, constantValue := 0 }, { name := "RADIANS_TO_DEGREES", type := .double, accessFlags := 26, slot := 4, constantValue := 0 }, { name := "negativeZeroFloatBits", type := .long, accessFlags := 26, slot := 5, constantValue := 0 }, { name := "negativeZeroDoubleBits", type := .long, accessFlags := 26, slot := 6, constantValue := 0 }, { name := "twoToTheDoubleScaleUp", type := .double, accessFlags := 8, slot := 7, constantValue := 0 }, { name := "twoToTheDoubleScaleDown", type := .double, accessFlags := 8, slot := 8, constantValue := 0 }, { name := "$assertionsDisabled", type := .boolean, accessFlags := 4120, slot := 9, constantValue := 0 }]
  methods := #[k3m0, k3m1]
  instanceTypes := #[]
  staticTypes := #[.double, .double, .double, .double, .double, .long, .long, .double, .double, .boolean]
  resolved := Array.replicate 460 none
  statics := none }

def pool4 : Array CpInfo := pool [(1, u "java/lang/Cloneable"), (0, .class_ 1), (0, u "java/lang/Object"), (0, .class_ 3)] 3

/-- java/lang/Cloneable -/
def k4 : Class := { plain "java/lang/Cloneable" (some 0) with
  accessFlags := 1537
  interfaces := #[]
  cf := some (fileOf pool4 2 #[] #[] 1537 4 #[] #[])
  fields := #[]
  methods := #[]
  instanceTypes := #[]
  staticTypes := #[]
  resolved := Array.replicate 8 none
  statics := none }

def pool5 : Array CpInfo := pool [(1, u "java/io/Serializable"), (0, .class_ 1), (0, u "java/lang/Object"), (0, .class_ 3)] 3

/-- java/io/Serializable -/
def k5 : Class := { plain "java/io/Serializable" (some 0) with
  accessFlags := 1537
  interfaces := #[]
  cf := some (fileOf pool5 2 #[] #[] 1537 4 #[] #[])
  fields := #[]
  methods := #[]
  instanceTypes := #[]
  staticTypes := #[]
  resolved := Array.replicate 8 none
  statics := none }

/-- the primitive byte -/
def k6 : Class := { plain "byte" none with kind := .primitive 'B', accessFlags := 0x411 }
/-- [B -/
def k7 : Class := { plain "[B" (some 0) with kind := .array 6 .byte, interfaces := #[4, 5], accessFlags := 1041 }

/-- the primitive int -/
def k8 : Class := { plain "int" none with kind := .primitive 'I', accessFlags := 0x411 }
/-- [I -/
def k9 : Class := { plain "[I" (some 0) with kind := .array 8 .int, interfaces := #[4, 5], accessFlags := 1041 }

def heap : Heap := #[]
def classes : Array Class := #[k0, k1, k2, k3, k4, k5, k6, k7, k8, k9]
def interned : List (Array UInt16 × Addr) := []
def slotsUsed : Nat := 0
def theMethod : MethodId := ⟨1, 1⟩
def args0 : Array Value := #[.int 5, .long 7, .long 8, .long 9]
def aboutOver (below : List Frame) : State where
  vm := { classes := classes, interned := interned.toArray }
  heap := heap
  slotsUsed := slotsUsed
  threads := #[{ frames := .invoking theMethod args0 :: below }]
def below0 : List Frame := [.native { method := ⟨0, 0⟩, args := #[] }]
def about1 : State := aboutOver below0
def p0 : Program := .bare "" "" ""
def e0 : Env := launch0.env 0 0 0
theorem w_frames : about1.frames = Frame.invoking theMethod args0 :: below0 := rfl
set_option maxRecDepth 65536 in
theorem w_args : argsFit about1.vm theMethod args0 = true := by decide +kernel
set_option maxRecDepth 65536 in
theorem w_heap : heapFits about1 = true := by decide +kernel
set_option maxRecDepth 65536 in
theorem w_runnable : about1.curStatus? = some .runnable := by decide +kernel
set_option maxRecDepth 65536 in
theorem w_alone : about1.alone = true := by decide +kernel
set_option maxRecDepth 65536 in
theorem w_named : about1.methodNamed? x = some theMethod := by decide +kernel
set_option maxRecDepth 65536 in
theorem w_hears : about1.hears theMethod below0 = true := by decide +kernel
set_option maxRecDepth 65536 in
theorem w_ripe : about1.ripe theMethod args0 below0 = true := by decide +kernel
theorem w_running : about1.status = .running := rfl
set_option maxRecDepth 65536 in
theorem w_room : about1.hasRoom e0.platform room_1 = true :=
  launch0.hasRoom_least _ room_1 (by decide +kernel) (by decide +kernel) (by decide +kernel) (by decide +kernel) (by decide +kernel) (by decide +kernel)
theorem allAtoms_all (ts : List Jvm.Cond) (a : Array Jvm.Value) (st : Jvm.State) : (allAtoms ts).before a st = ts.all (fun c => c.before a st) := by
  induction ts with
  | nil => rfl
  | cons c t ih =>
    show (Jvm.Cond.and c (allAtoms t)).before a st = _
    rw [Jvm.Cond.before_and, ih, List.all_cons]
def words1 : List Jvm.Cond := Jvm.Cond.code x code maxLocals ret :: tables_1
/-- a 'code' word, met by the world's own term for the bytes: nothing is compared byte by byte -/
theorem code_word {y : MethodName} {bytes : ByteArray} {mx : Nat} {rt : Option FieldType} {a : Array Value} {s : State} {m : MethodId} {meth : Method} {c : Code} (h1 : s.methodNamed? y = some m) (h2 : s.vm.method? m = some meth) (h3 : meth.code = some c) (h4 : c.code = bytes)
    (h5 : (c.maxLocals == mx && c.exceptionTable.isEmpty && decide (c.maxStack ≤ mostOperands) && decide (meth.sig.returnType = rt) && !meth.locks && decide (parseMethodDescriptor y.desc = some meth.sig)) = true) : (Jvm.Cond.code y bytes mx rt).before a s = true := by
  simp only [Bool.and_eq_true, beq_iff_eq, Bool.not_eq_true', decide_eq_true_eq] at h5
  obtain ⟨⟨⟨⟨⟨g1, g2⟩, g3⟩, g4⟩, g5⟩, g6⟩ := h5
  simp [Cond.before, Cond.holds, Cond.value, h1, h2, h3, h4, g1, g2, g3, g4, g5, g6]
def isCode : Jvm.Cond → Bool
  | .code _ _ _ _ => true
  | _ => false
theorem all_split {L : List Jvm.Cond} {P : Jvm.Cond → Bool} (h1 : L.all (fun c => isCode c || P c) = true) (h2 : ∀ c ∈ L.filter isCode, P c = true) : L.all P = true := by
  refine List.all_eq_true.mpr fun c hc => ?_
  have h := List.all_eq_true.mp h1 c hc
  rcases Bool.eq_false_or_eq_true (isCode c) with hi | hi
  · exact h2 c (List.mem_filter.mpr ⟨hc, hi⟩)
  · simpa [hi] using h
set_option maxRecDepth 65536 in
theorem w_c0 : (Jvm.Cond.code x code maxLocals ret).before args0 about1 = true := code_word (m := ⟨1, 1⟩) (meth := k1m1) (c := k1c1) (by decide +kernel) rfl rfl rfl (by decide +kernel)
set_option maxRecDepth 65536 in
theorem w_c1 : (Jvm.Cond.code ({ cls := "com/example/strauch/strauch/tree/TextPosition", name := "<init>", desc := "()V" } : Jvm.MethodName) prog_84_method_1_code (1 : Nat) (Option.none : Option Jvm.ClassFile.FieldType)).before args0 about1 = true := code_word (m := ⟨2, 0⟩) (meth := k2m0) (c := k2c0) (by decide +kernel) rfl rfl rfl (by decide +kernel)
set_option maxRecDepth 65536 in
theorem w_c2 : (Jvm.Cond.code ({ cls := "java/lang/Object", name := "<init>", desc := "()V" } : Jvm.MethodName) object_method_1_code (1 : Nat) (Option.none : Option Jvm.ClassFile.FieldType)).before args0 about1 = true := code_word (m := ⟨0, 0⟩) (meth := k0m0) (c := k0c0) (by decide +kernel) rfl rfl rfl (by decide +kernel)
set_option maxRecDepth 65536 in
theorem w_c3 : (Jvm.Cond.code ({ cls := "com/example/strauch/strauch/tree/TextPosition", name := "endLine", desc := "(CJ)V" } : Jvm.MethodName) prog_84_method_3_code (5 : Nat) (Option.none : Option Jvm.ClassFile.FieldType)).before args0 about1 = true := code_word (m := ⟨2, 1⟩) (meth := k2m1) (c := k2c1) (by decide +kernel) rfl rfl rfl (by decide +kernel)
set_option maxRecDepth 65536 in
theorem w_c4 : (Jvm.Cond.code ({ cls := "java/lang/Math", name := "min", desc := "(JJ)J" } : Jvm.MethodName) jdk_29_method_70_code (4 : Nat) (Option.some Jvm.ClassFile.FieldType.long)).before args0 about1 = true := code_word (m := ⟨3, 1⟩) (meth := k3m1) (c := k3c1) (by decide +kernel) rfl rfl rfl (by decide +kernel)
set_option maxRecDepth 65536 in
theorem w_c5 : (Jvm.Cond.code ({ cls := "com/example/strauch/strauch/tree/TextPosition", name := "getLine", desc := "()I" } : Jvm.MethodName) prog_84_method_5_code (1 : Nat) (Option.some Jvm.ClassFile.FieldType.int)).before args0 about1 = true := code_word (m := ⟨2, 2⟩) (meth := k2m2) (c := k2c2) (by decide +kernel) rfl rfl rfl (by decide +kernel)
set_option maxRecDepth 65536 in
theorem w_c6 : (Jvm.Cond.code ({ cls := "com/example/strauch/strauch/tree/TextPosition", name := "columnAt", desc := "(J)I" } : Jvm.MethodName) prog_84_method_6_code (3 : Nat) (Option.some Jvm.ClassFile.FieldType.int)).before args0 about1 = true := code_word (m := ⟨2, 3⟩) (meth := k2m3) (c := k2c3) (by decide +kernel) rfl rfl rfl (by decide +kernel)
def codes1 : List Jvm.Cond := [Jvm.Cond.code x code maxLocals ret, Jvm.Cond.code ({ cls := "com/example/strauch/strauch/tree/TextPosition", name := "<init>", desc := "()V" } : Jvm.MethodName) prog_84_method_1_code (1 : Nat) (Option.none : Option Jvm.ClassFile.FieldType), Jvm.Cond.code ({ cls := "java/lang/Object", name := "<init>", desc := "()V" } : Jvm.MethodName) object_method_1_code (1 : Nat) (Option.none : Option Jvm.ClassFile.FieldType), Jvm.Cond.code ({ cls := "com/example/strauch/strauch/tree/TextPosition", name := "endLine", desc := "(CJ)V" } : Jvm.MethodName) prog_84_method_3_code (5 : Nat) (Option.none : Option Jvm.ClassFile.FieldType), Jvm.Cond.code ({ cls := "java/lang/Math", name := "min", desc := "(JJ)J" } : Jvm.MethodName) jdk_29_method_70_code (4 : Nat) (Option.some Jvm.ClassFile.FieldType.long), Jvm.Cond.code ({ cls := "com/example/strauch/strauch/tree/TextPosition", name := "getLine", desc := "()I" } : Jvm.MethodName) prog_84_method_5_code (1 : Nat) (Option.some Jvm.ClassFile.FieldType.int), Jvm.Cond.code ({ cls := "com/example/strauch/strauch/tree/TextPosition", name := "columnAt", desc := "(J)I" } : Jvm.MethodName) prog_84_method_6_code (3 : Nat) (Option.some Jvm.ClassFile.FieldType.int)]
set_option maxRecDepth 65536 in
theorem codes_eq : words1.filter isCode = codes1 := rfl
theorem w_codes : ∀ c ∈ words1.filter isCode, c.before args0 about1 = true := by
  rw [codes_eq]
  intro c hc
  simp only [codes1, List.mem_cons, List.not_mem_nil, or_false] at hc
  rcases hc with rfl | rfl | rfl | rfl | rfl | rfl | rfl
  · exact w_c0
  · exact w_c1
  · exact w_c2
  · exact w_c3
  · exact w_c4
  · exact w_c5
  · exact w_c6
set_option maxRecDepth 65536 in
theorem w_t1 : (words1.take 24).all (fun c => isCode c || c.before args0 about1) = true := by decide +kernel
set_option maxRecDepth 65536 in
theorem w_t2 : (words1.drop 24).all (fun c => isCode c || c.before args0 about1) = true := by decide +kernel
theorem w_tables : (allAtoms (Jvm.Cond.code x code maxLocals ret :: tables_1)).before args0 about1 = true := by
  rw [allAtoms_all]
  show words1.all (fun c => c.before args0 about1) = true
  refine all_split ?_ w_codes
  rw [← List.take_append_drop 24 words1, List.all_append, w_t1, w_t2]
  rfl
set_option maxRecDepth 65536 in
theorem w_case : (Jvm.Cond.and given_1 narrow_1).before args0 about1 = true := by decide +kernel
theorem w_applies : (headSpec (Jvm.Cond.code x code maxLocals ret :: tables_1) room_1).applies x e0.platform about1 = true :=
  (Spec.applies_iff w_frames).mpr ⟨w_running, w_runnable, w_alone, w_named, w_hears, w_ripe, w_room, w_tables⟩
theorem atStart : AtStart classFile x code maxLocals ret World_1 tables_1 room_1 Calls_1 rest_1 Pre_1 launch0 p0 e0 about1 theMethod args0 below0 :=
  ⟨lists_1, trivial, launch0.admits_env _ _ _, launch0.least_env, fairChoices_fair.cas, fairChoices_fair.clock, w_frames, w_args, w_heap, w_applies, trivial, trivial, w_case⟩
end start1
theorem witness_1 : WitnessClaimed_1 := ⟨start1.p0, start1.e0, start1.about1, start1.theMethod, start1.args0, start1.below0, start1.atStart⟩
end Jvm.Pilot.@@N@@
