import JvmDerived
import JvmDerived.Pilot.@@N@@Statement
import JvmDerived.Pilot.@@N@@Code
set_option linter.unusedVariables false
set_option linter.unusedSimpArgs false
namespace Jvm.Own
open Jvm Jvm.ClassFile Sem Op Lib Jvm.Free Jvm.Stand Jvm.LawKit Jvm.RoadKit Bundle
/-- where the run stands inside a body: what is fixed, the heap, the room used -/
def St (p : Program) (l : Launch) (e : Env) (R : Room) (s : State) (m : MethodId) (args : Array Value) (below : List Frame) (meth : Method) (c : Code) (Z : State) (n0 : Nat) (y : MethodName) (code : ByteArray) (maxL : Nat) (ret : Option FieldType) (T : State) (h : Heap) (cells slots : Nat) : Prop :=
  (p.tables.exec = Jvm.exec ∧ Z.Warmed39 s.vm ∧ c.code = code ∧ c.maxLocals = maxL ∧ s.vm.findClass y.cls = some m.cls ∧ meth.name = y.name ∧ meth.sig.returnType = ret ∧ meth.locks = false ∧ n0 ≤ s.heap.size) ∧ T.heap = h ∧ ∃ locs, Stand p l e R s m args below meth c T locs cells slots ∧ Fr n0 locs
/-- from here the body comes to its end with Q -/
def WP (p : Program) (e : Env) (below : List Frame) (s : State) (n0 k n : Nat) (Q : Option Value → Heap → Prop) (T : State) (g : JFrame) : Prop :=
  ∃ s₂ o, Steps p.tables e below (T.setTop g) s₂ ∧ s₂.status = .running ∧ Ended s₂ below o ∧ ∃ v L, o = .returned v ∧ (Q v s₂.heap ∧ Fr n0 L) ∧ FrameEnd s o s₂ L k n
/-- a body's contract -/
def Ct (l : Launch) (Z : State) (y : MethodName) (code : ByteArray) (maxL : Nat) (ret : Option FieldType) (rm : Room) (as : Array Value) (h0 : Heap) (n0 : Nat) (Q : Option Value → Heap → Prop) : Prop :=
  ∀ ws, MetFree l y (head1 (Jvm.Cond.code y code maxL ret :: ws) rm) (fun a U => a = as ∧ Z.Warmed39 U.vm ∧ U.heap = h0) (fun _ _ _ _ _ => True) (fun _ U o U' => ∃ v L, o = .returned v ∧ (Q v U'.heap ∧ Fr n0 L) ∧ FrameEnd U o U' L rm.cells rm.slots)
section Steps
variable {p : Program} {l : Launch} {e : Env} {R : Room} {s : State} {m : MethodId} {args : Array Value} {below : List Frame} {meth : Method} {c : Code} {Z : State} {n0 : Nat} {y : MethodName} {code : ByteArray} {maxL : Nat} {ret : Option FieldType} {T : State} {h : Heap} {cells slots k n : Nat} {Q : Option Value → Heap → Prop} {pc pc' : Nat} {Ls : Array Slot} {S : List Value} {a0 : Array Value}
theorem WP.step {T' : State} {g g' : JFrame} (w : WP p e below s n0 k n Q T' g') (st : ∀ t, Steps p.tables e below (T'.setTop g') t → Steps p.tables e below (T.setTop g) t) : WP p e below s n0 k n Q T g := by
  obtain ⟨s₂, o, h1, r⟩ := w; exact ⟨s₂, o, st _ h1, r⟩
theorem WP.trans {T' : State} {g g' : JFrame} (w : WP p e below s n0 k n Q T' g') (st : Steps p.tables e below (T.setTop g) (T'.setTop g')) : WP p e below s n0 k n Q T g := by
  obtain ⟨s₂, o, h1, r⟩ := w; exact ⟨s₂, o, st.trans h1, r⟩
theorem WP.imp {Q' : Option Value → Heap → Prop} {g : JFrame} (w : WP p e below s n0 k n Q' T g) (hq : ∀ v h, Q' v h → Q v h) : WP p e below s n0 k n Q T g := by
  obtain ⟨s₂, o, h1, h2, h3, v, L, h4, ⟨h5, h6⟩, h7⟩ := w; exact ⟨s₂, o, h1, h2, h3, v, L, h4, ⟨hq _ _ h5, h6⟩, h7⟩
theorem WP.cast {g g' : JFrame} (q : g = g') (w : WP p e below s n0 k n Q T g') : WP p e below s n0 k n Q T g := q ▸ w
theorem Ct.imp {as : Array Value} {rm : Room} {Q' : Option Value → Heap → Prop} (ct : Ct l Z y code maxL ret rm as h n0 Q') (hq : ∀ v h, Q' v h → Q v h) : Ct l Z y code maxL ret rm as h n0 Q := by
  intro ws p e ha hc hk s m args below hf happ hP hK
  obtain ⟨n, o, h1, h2, h3, v, L, h4, ⟨h5, h6⟩, h7⟩ := ct ws p e ha hc hk s m args below hf happ hP hK
  exact ⟨n, o, h1, h2, h3, v, L, h4, ⟨hq _ _ h5, h6⟩, h7⟩
theorem Ct.intro {rm : Room} {as : Array Value} {h0 : Heap} (hpl : plainFor y = true) (Z0 : n0 ≤ h0.size)
    (body : ∀ p e s m below meth c T, St p l e rm s m as below meth c Z n0 y code maxL ret T h0 0 0 → WP p e below s n0 rm.cells rm.slots Q T (entryFrame m as maxL)) : Ct l Z y code maxL ret rm as h0 n0 Q := by
  intro ws
  refine MetFree.of_bodySF hpl hisR ?_
  intro p e s m args below meth c s₁ Bd hml0 hP hK
  obtain ⟨rfl, hZ, hh⟩ := hP
  exact body p e s m below meth c s₁ ⟨⟨Bd.exec, hZ, Bd.bytes, hml0, findClass_of_methodNamed Bd.named, (name_of_methodNamed Bd.named Bd.method).1, Bd.returns, BodyLoose.notSynchronized Bd, hh ▸ Z0⟩, by rw [← hh, Bd.state]; rfl, [], Stand.of_body Bd, Fr.nil n0⟩
theorem St.n0le (X : St p l e R s m args below meth c Z n0 y code maxL ret T h cells slots) : n0 ≤ h.size := by
  obtain ⟨⟨-, -, -, -, -, -, -, -, h0⟩, hT, locs, X, -⟩ := X
  have q : s.heap.size ≤ T.heap.size := X.same.2.1
  rw [hT] at q; exact Nat.le_trans h0 q
theorem St.mono (X : St p l e R s m args below meth c Z n0 y code maxL ret T h cells slots) {cells' slots' : Nat} (hc : cells ≤ cells') (hs : slots ≤ slots') : St p l e R s m args below meth c Z n0 y code maxL ret T h cells' slots' := by
  obtain ⟨h0, hT, locs, X, N⟩ := X
  exact ⟨h0, hT, locs, ⟨X.admits, X.cas, X.clock, X.frames, X.room, X.hears, X.method, X.code, X.here, X.tail, X.warmed, X.limits, X.bytes, X.same.mono hc hs⟩, N⟩
theorem w_nameI {v : Int32} (w : ∀ z, z = v → WP p e below s n0 k n Q T (mkF m pc Ls (.int z :: S))) : WP p e below s n0 k n Q T (mkF m pc Ls (.int v :: S)) := w v rfl
theorem w_nameJ {v : Int64} (w : ∀ z, z = v → WP p e below s n0 k n Q T (mkF m pc Ls (.long z :: S))) : WP p e below s n0 k n Q T (mkF m pc Ls (.long v :: S)) := w v rfl
theorem w_nameR {v : Addr} (w : ∀ z, z = v → WP p e below s n0 k n Q T (mkF m pc Ls (.ref z :: S))) : WP p e below s n0 k n Q T (mkF m pc Ls (.ref v :: S)) := w v rfl
theorem w_iload (X : St p l e R s m args below meth c Z n0 y code maxL ret T h cells slots) {i : Nat} {v : Int32} (hd : decode code pc = .ok (.iload i, 2)) (hl : Ls[i]? = some (.val (.int v))) (hp : pc' = pc + 2) (w : WP p e below s n0 k n Q T (mkF m pc' Ls (.int v :: S))) : WP p e below s n0 k n Q T (mkF m pc Ls (S)) := by
  obtain ⟨⟨hx, hZ, hby, hml, hown, hnm, hret, hlk, h00⟩, hT, locs, X, N⟩ := X
  subst hp
  exact w.step fun t kk => XS.iload X.here hx rfl (hb hby hd) hl kk
theorem w_iloadN (X : St p l e R s m args below meth c Z n0 y code maxL ret T h cells slots) {i : Fin 4} {v : Int32} (hd : decode code pc = .ok (.iload_n i, 1)) (hl : Ls[i.val]? = some (.val (.int v))) (hp : pc' = pc + 1) (w : WP p e below s n0 k n Q T (mkF m pc' Ls (.int v :: S))) : WP p e below s n0 k n Q T (mkF m pc Ls (S)) := by
  obtain ⟨⟨hx, hZ, hby, hml, hown, hnm, hret, hlk, h00⟩, hT, locs, X, N⟩ := X
  subst hp
  exact w.step fun t kk => XS.iloadN X.here hx rfl (hb hby hd) hl kk
theorem w_lload (X : St p l e R s m args below meth c Z n0 y code maxL ret T h cells slots) {i : Nat} {v : Int64} (hd : decode code pc = .ok (.lload i, 2)) (hl : Ls[i]? = some (.val (.long v))) (hp : pc' = pc + 2) (w : WP p e below s n0 k n Q T (mkF m pc' Ls (.long v :: S))) : WP p e below s n0 k n Q T (mkF m pc Ls (S)) := by
  obtain ⟨⟨hx, hZ, hby, hml, hown, hnm, hret, hlk, h00⟩, hT, locs, X, N⟩ := X
  subst hp
  exact w.step fun t kk => XS.lload X.here hx rfl (hb hby hd) hl kk
theorem w_lloadN (X : St p l e R s m args below meth c Z n0 y code maxL ret T h cells slots) {i : Fin 4} {v : Int64} (hd : decode code pc = .ok (.lload_n i, 1)) (hl : Ls[i.val]? = some (.val (.long v))) (hp : pc' = pc + 1) (w : WP p e below s n0 k n Q T (mkF m pc' Ls (.long v :: S))) : WP p e below s n0 k n Q T (mkF m pc Ls (S)) := by
  obtain ⟨⟨hx, hZ, hby, hml, hown, hnm, hret, hlk, h00⟩, hT, locs, X, N⟩ := X
  subst hp
  exact w.step fun t kk => XS.lloadN X.here hx rfl (hb hby hd) hl kk
theorem w_aload (X : St p l e R s m args below meth c Z n0 y code maxL ret T h cells slots) {i : Nat} {v : Value} (hd : decode code pc = .ok (.aload i, 2)) (hl : Ls[i]? = some (.val v)) (hv : v.isRef = true) (hp : pc' = pc + 2) (w : WP p e below s n0 k n Q T (mkF m pc' Ls (v :: S))) : WP p e below s n0 k n Q T (mkF m pc Ls (S)) := by
  obtain ⟨⟨hx, hZ, hby, hml, hown, hnm, hret, hlk, h00⟩, hT, locs, X, N⟩ := X
  subst hp
  exact w.step fun t kk => XS.aload X.here hx rfl (hb hby hd) hl hv kk
theorem w_aloadN (X : St p l e R s m args below meth c Z n0 y code maxL ret T h cells slots) {i : Fin 4} {v : Value} (hd : decode code pc = .ok (.aload_n i, 1)) (hl : Ls[i.val]? = some (.val v)) (hv : v.isRef = true) (hp : pc' = pc + 1) (w : WP p e below s n0 k n Q T (mkF m pc' Ls (v :: S))) : WP p e below s n0 k n Q T (mkF m pc Ls (S)) := by
  obtain ⟨⟨hx, hZ, hby, hml, hown, hnm, hret, hlk, h00⟩, hT, locs, X, N⟩ := X
  subst hp
  exact w.step fun t kk => XS.aloadN X.here hx rfl (hb hby hd) hl hv kk
theorem w_istore (X : St p l e R s m args below meth c Z n0 y code maxL ret T h cells slots) {i : Nat} {v : Int32} {L' : Array Slot} (hd : decode code pc = .ok (.istore i, 2)) (hl : storeLocals Ls i (.int v) = some L') (hp : pc' = pc + 2) (w : WP p e below s n0 k n Q T (mkF m pc' L' (S))) : WP p e below s n0 k n Q T (mkF m pc Ls (.int v :: S)) := by
  obtain ⟨⟨hx, hZ, hby, hml, hown, hnm, hret, hlk, h00⟩, hT, locs, X, N⟩ := X
  subst hp
  exact w.step fun t kk => XS.istore X.here hx rfl (hb hby hd) rfl hl kk
theorem w_istoreN (X : St p l e R s m args below meth c Z n0 y code maxL ret T h cells slots) {i : Fin 4} {v : Int32} {L' : Array Slot} (hd : decode code pc = .ok (.istore_n i, 1)) (hl : storeLocals Ls i.val (.int v) = some L') (hp : pc' = pc + 1) (w : WP p e below s n0 k n Q T (mkF m pc' L' (S))) : WP p e below s n0 k n Q T (mkF m pc Ls (.int v :: S)) := by
  obtain ⟨⟨hx, hZ, hby, hml, hown, hnm, hret, hlk, h00⟩, hT, locs, X, N⟩ := X
  subst hp
  exact w.step fun t kk => XS.istoreN X.here hx rfl (hb hby hd) rfl hl kk
theorem w_lstore (X : St p l e R s m args below meth c Z n0 y code maxL ret T h cells slots) {i : Nat} {v : Int64} {L' : Array Slot} (hd : decode code pc = .ok (.lstore i, 2)) (hl : storeLocals Ls i (.long v) = some L') (hp : pc' = pc + 2) (w : WP p e below s n0 k n Q T (mkF m pc' L' (S))) : WP p e below s n0 k n Q T (mkF m pc Ls (.long v :: S)) := by
  obtain ⟨⟨hx, hZ, hby, hml, hown, hnm, hret, hlk, h00⟩, hT, locs, X, N⟩ := X
  subst hp
  exact w.step fun t kk => XS.lstore X.here hx rfl (hb hby hd) rfl hl kk
theorem w_lstoreN (X : St p l e R s m args below meth c Z n0 y code maxL ret T h cells slots) {i : Fin 4} {v : Int64} {L' : Array Slot} (hd : decode code pc = .ok (.lstore_n i, 1)) (hl : storeLocals Ls i.val (.long v) = some L') (hp : pc' = pc + 1) (w : WP p e below s n0 k n Q T (mkF m pc' L' (S))) : WP p e below s n0 k n Q T (mkF m pc Ls (.long v :: S)) := by
  obtain ⟨⟨hx, hZ, hby, hml, hown, hnm, hret, hlk, h00⟩, hT, locs, X, N⟩ := X
  subst hp
  exact w.step fun t kk => XS.lstoreN X.here hx rfl (hb hby hd) rfl hl kk
theorem w_astore (X : St p l e R s m args below meth c Z n0 y code maxL ret T h cells slots) {i : Nat} {v : Value} {L' : Array Slot} (hd : decode code pc = .ok (.astore i, 2)) (hv : v.isRef = true) (hl : storeLocals Ls i v = some L') (hp : pc' = pc + 2) (w : WP p e below s n0 k n Q T (mkF m pc' L' (S))) : WP p e below s n0 k n Q T (mkF m pc Ls (v :: S)) := by
  obtain ⟨⟨hx, hZ, hby, hml, hown, hnm, hret, hlk, h00⟩, hT, locs, X, N⟩ := X
  subst hp
  exact w.step fun t kk => XS.astore X.here hx rfl (hb hby hd) rfl hv hl kk
theorem w_astoreN (X : St p l e R s m args below meth c Z n0 y code maxL ret T h cells slots) {i : Fin 4} {v : Value} {L' : Array Slot} (hd : decode code pc = .ok (.astore_n i, 1)) (hv : v.isRef = true) (hl : storeLocals Ls i.val v = some L') (hp : pc' = pc + 1) (w : WP p e below s n0 k n Q T (mkF m pc' L' (S))) : WP p e below s n0 k n Q T (mkF m pc Ls (v :: S)) := by
  obtain ⟨⟨hx, hZ, hby, hml, hown, hnm, hret, hlk, h00⟩, hT, locs, X, N⟩ := X
  subst hp
  exact w.step fun t kk => XS.astoreN X.here hx rfl (hb hby hd) rfl hv hl kk
theorem w_iinc (X : St p l e R s m args below meth c Z n0 y code maxL ret T h cells slots) {i : Nat} {d : Int} {v v' : Int32} {L' : Array Slot} (hd : decode code pc = .ok (.iinc i d, 3)) (hl : Ls[i]? = some (.val (.int v))) (hv : v + Int32.ofInt d = v') (hl' : storeLocals Ls i (.int v') = some L') (hp : pc' = pc + 3) (w : WP p e below s n0 k n Q T (mkF m pc' L' (S))) : WP p e below s n0 k n Q T (mkF m pc Ls (S)) := by
  obtain ⟨⟨hx, hZ, hby, hml, hown, hnm, hret, hlk, h00⟩, hT, locs, X, N⟩ := X
  subst hp hv
  exact w.step fun t kk => XS.iinc X.here hx rfl (hb hby hd) hl hl' kk
theorem w_iconst (X : St p l e R s m args below meth c Z n0 y code maxL ret T h cells slots) {i : Int} {v : Int32} (hd : decode code pc = .ok (.iconst i, 1)) (hv : Int32.ofInt i = v) (hp : pc' = pc + 1) (w : WP p e below s n0 k n Q T (mkF m pc' Ls (.int v :: S))) : WP p e below s n0 k n Q T (mkF m pc Ls (S)) := by
  obtain ⟨⟨hx, hZ, hby, hml, hown, hnm, hret, hlk, h00⟩, hT, locs, X, N⟩ := X
  subst hp hv
  exact w.step fun t kk => XS.iconst X.here hx rfl (hb hby hd) kk
theorem w_bipush (X : St p l e R s m args below meth c Z n0 y code maxL ret T h cells slots) {i : Int} {v : Int32} (hd : decode code pc = .ok (.bipush i, 2)) (hv : (Int8.ofInt i).toInt32 = v) (hp : pc' = pc + 2) (w : WP p e below s n0 k n Q T (mkF m pc' Ls (.int v :: S))) : WP p e below s n0 k n Q T (mkF m pc Ls (S)) := by
  obtain ⟨⟨hx, hZ, hby, hml, hown, hnm, hret, hlk, h00⟩, hT, locs, X, N⟩ := X
  subst hp hv
  exact w.step fun t kk => XS.bipush X.here hx rfl (hb hby hd) kk
theorem w_sipush (X : St p l e R s m args below meth c Z n0 y code maxL ret T h cells slots) {i : Int} {v : Int32} (hd : decode code pc = .ok (.sipush i, 3)) (hv : (Int16.ofInt i).toInt32 = v) (hp : pc' = pc + 3) (w : WP p e below s n0 k n Q T (mkF m pc' Ls (.int v :: S))) : WP p e below s n0 k n Q T (mkF m pc Ls (S)) := by
  obtain ⟨⟨hx, hZ, hby, hml, hown, hnm, hret, hlk, h00⟩, hT, locs, X, N⟩ := X
  subst hp hv
  exact w.step fun t kk => XS.sipush X.here hx rfl (hb hby hd) kk
theorem w_lconst (X : St p l e R s m args below meth c Z n0 y code maxL ret T h cells slots) {i : Fin 2} {v : Int64} (hd : decode code pc = .ok (.lconst i, 1)) (hv : Int64.ofNat i = v) (hp : pc' = pc + 1) (w : WP p e below s n0 k n Q T (mkF m pc' Ls (.long v :: S))) : WP p e below s n0 k n Q T (mkF m pc Ls (S)) := by
  obtain ⟨⟨hx, hZ, hby, hml, hown, hnm, hret, hlk, h00⟩, hT, locs, X, N⟩ := X
  subst hp hv
  exact w.step fun t kk => XS.lconst X.here hx rfl (hb hby hd) kk
theorem w_aconst_null (X : St p l e R s m args below meth c Z n0 y code maxL ret T h cells slots)  (hd : decode code pc = .ok (.aconst_null, 1)) (hp : pc' = pc + 1) (w : WP p e below s n0 k n Q T (mkF m pc' Ls (.null :: S))) : WP p e below s n0 k n Q T (mkF m pc Ls (S)) := by
  obtain ⟨⟨hx, hZ, hby, hml, hown, hnm, hret, hlk, h00⟩, hT, locs, X, N⟩ := X
  subst hp
  exact w.step fun t kk => XS.aconstNull X.here hx rfl (hb hby hd) kk
theorem w_ldcI (X : St p l e R s m args below meth c Z n0 y code maxL ret T h cells slots) {i : Nat} {v : Int32} (hd : decode code pc = .ok (.ldc i, 2)) (wc : (Jvm.Cond.constant y.cls i v).before a0 Z = true) (hp : pc' = pc + 2) (w : WP p e below s n0 k n Q T (mkF m pc' Ls (.int v :: S))) : WP p e below s n0 k n Q T (mkF m pc Ls (S)) := by
  obtain ⟨⟨hx, hZ, hby, hml, hown, hnm, hret, hlk, h00⟩, hT, locs, X, N⟩ := X
  subst hp
  exact w.step fun t kk => X.ldcInt hx hown (mvT (d := Jvm.Cond.constant y.cls i v) hZ wc) (g := mkF m pc Ls S) rfl (hb hby hd) t kk
theorem w_ldcWI (X : St p l e R s m args below meth c Z n0 y code maxL ret T h cells slots) {i : Nat} {v : Int32} (hd : decode code pc = .ok (.ldc_w i, 3)) (wc : (Jvm.Cond.constant y.cls i v).before a0 Z = true) (hp : pc' = pc + 3) (w : WP p e below s n0 k n Q T (mkF m pc' Ls (.int v :: S))) : WP p e below s n0 k n Q T (mkF m pc Ls (S)) := by
  obtain ⟨⟨hx, hZ, hby, hml, hown, hnm, hret, hlk, h00⟩, hT, locs, X, N⟩ := X
  subst hp
  exact w.step fun t kk => X.ldcwInt hx hown (mvT (d := Jvm.Cond.constant y.cls i v) hZ wc) (g := mkF m pc Ls S) rfl (hb hby hd) t kk
theorem w_ldcJ (X : St p l e R s m args below meth c Z n0 y code maxL ret T h cells slots) {i : Nat} {v : Int64} (hd : decode code pc = .ok (.ldc2_w i, 3)) (wc : (Jvm.Cond.constantLong y.cls i v).before a0 Z = true) (hp : pc' = pc + 3) (w : WP p e below s n0 k n Q T (mkF m pc' Ls (.long v :: S))) : WP p e below s n0 k n Q T (mkF m pc Ls (S)) := by
  obtain ⟨⟨hx, hZ, hby, hml, hown, hnm, hret, hlk, h00⟩, hT, locs, X, N⟩ := X
  subst hp
  exact w.step fun t kk => X.ldc2Long hx hown (mvT (d := Jvm.Cond.constantLong y.cls i v) hZ wc) (g := mkF m pc Ls S) rfl (hb hby hd) t kk
theorem w_iadd (X : St p l e R s m args below meth c Z n0 y code maxL ret T h cells slots) {x z : Int32} (hd : decode code pc = .ok (.iadd, 1)) (hp : pc' = pc + 1) (w : WP p e below s n0 k n Q T (mkF m pc' Ls (.int (x + z) :: S))) : WP p e below s n0 k n Q T (mkF m pc Ls (.int z :: .int x :: S)) := by
  obtain ⟨⟨hx, hZ, hby, hml, hown, hnm, hret, hlk, h00⟩, hT, locs, X, N⟩ := X
  subst hp
  exact w.step fun t kk => XS.iadd X.here hx rfl (hb hby hd) rfl kk
theorem w_ladd (X : St p l e R s m args below meth c Z n0 y code maxL ret T h cells slots) {x z : Int64} (hd : decode code pc = .ok (.ladd, 1)) (hp : pc' = pc + 1) (w : WP p e below s n0 k n Q T (mkF m pc' Ls (.long (x + z) :: S))) : WP p e below s n0 k n Q T (mkF m pc Ls (.long z :: .long x :: S)) := by
  obtain ⟨⟨hx, hZ, hby, hml, hown, hnm, hret, hlk, h00⟩, hT, locs, X, N⟩ := X
  subst hp
  exact w.step fun t kk => XS.ladd X.here hx rfl (hb hby hd) rfl kk
theorem w_isub (X : St p l e R s m args below meth c Z n0 y code maxL ret T h cells slots) {x z : Int32} (hd : decode code pc = .ok (.isub, 1)) (hp : pc' = pc + 1) (w : WP p e below s n0 k n Q T (mkF m pc' Ls (.int (x - z) :: S))) : WP p e below s n0 k n Q T (mkF m pc Ls (.int z :: .int x :: S)) := by
  obtain ⟨⟨hx, hZ, hby, hml, hown, hnm, hret, hlk, h00⟩, hT, locs, X, N⟩ := X
  subst hp
  exact w.step fun t kk => XS.isub X.here hx rfl (hb hby hd) rfl kk
theorem w_lsub (X : St p l e R s m args below meth c Z n0 y code maxL ret T h cells slots) {x z : Int64} (hd : decode code pc = .ok (.lsub, 1)) (hp : pc' = pc + 1) (w : WP p e below s n0 k n Q T (mkF m pc' Ls (.long (x - z) :: S))) : WP p e below s n0 k n Q T (mkF m pc Ls (.long z :: .long x :: S)) := by
  obtain ⟨⟨hx, hZ, hby, hml, hown, hnm, hret, hlk, h00⟩, hT, locs, X, N⟩ := X
  subst hp
  exact w.step fun t kk => XS.lsub X.here hx rfl (hb hby hd) rfl kk
theorem w_imul (X : St p l e R s m args below meth c Z n0 y code maxL ret T h cells slots) {x z : Int32} (hd : decode code pc = .ok (.imul, 1)) (hp : pc' = pc + 1) (w : WP p e below s n0 k n Q T (mkF m pc' Ls (.int (x * z) :: S))) : WP p e below s n0 k n Q T (mkF m pc Ls (.int z :: .int x :: S)) := by
  obtain ⟨⟨hx, hZ, hby, hml, hown, hnm, hret, hlk, h00⟩, hT, locs, X, N⟩ := X
  subst hp
  exact w.step fun t kk => XS.imul X.here hx rfl (hb hby hd) rfl kk
theorem w_lmul (X : St p l e R s m args below meth c Z n0 y code maxL ret T h cells slots) {x z : Int64} (hd : decode code pc = .ok (.lmul, 1)) (hp : pc' = pc + 1) (w : WP p e below s n0 k n Q T (mkF m pc' Ls (.long (x * z) :: S))) : WP p e below s n0 k n Q T (mkF m pc Ls (.long z :: .long x :: S)) := by
  obtain ⟨⟨hx, hZ, hby, hml, hown, hnm, hret, hlk, h00⟩, hT, locs, X, N⟩ := X
  subst hp
  exact w.step fun t kk => XS.lmul X.here hx rfl (hb hby hd) rfl kk
theorem w_iand (X : St p l e R s m args below meth c Z n0 y code maxL ret T h cells slots) {x z : Int32} (hd : decode code pc = .ok (.iand, 1)) (hp : pc' = pc + 1) (w : WP p e below s n0 k n Q T (mkF m pc' Ls (.int (x &&& z) :: S))) : WP p e below s n0 k n Q T (mkF m pc Ls (.int z :: .int x :: S)) := by
  obtain ⟨⟨hx, hZ, hby, hml, hown, hnm, hret, hlk, h00⟩, hT, locs, X, N⟩ := X
  subst hp
  exact w.step fun t kk => XS.iand X.here hx rfl (hb hby hd) rfl kk
theorem w_land (X : St p l e R s m args below meth c Z n0 y code maxL ret T h cells slots) {x z : Int64} (hd : decode code pc = .ok (.land, 1)) (hp : pc' = pc + 1) (w : WP p e below s n0 k n Q T (mkF m pc' Ls (.long (x &&& z) :: S))) : WP p e below s n0 k n Q T (mkF m pc Ls (.long z :: .long x :: S)) := by
  obtain ⟨⟨hx, hZ, hby, hml, hown, hnm, hret, hlk, h00⟩, hT, locs, X, N⟩ := X
  subst hp
  exact w.step fun t kk => XS.land X.here hx rfl (hb hby hd) rfl kk
theorem w_ior (X : St p l e R s m args below meth c Z n0 y code maxL ret T h cells slots) {x z : Int32} (hd : decode code pc = .ok (.ior, 1)) (hp : pc' = pc + 1) (w : WP p e below s n0 k n Q T (mkF m pc' Ls (.int (x ||| z) :: S))) : WP p e below s n0 k n Q T (mkF m pc Ls (.int z :: .int x :: S)) := by
  obtain ⟨⟨hx, hZ, hby, hml, hown, hnm, hret, hlk, h00⟩, hT, locs, X, N⟩ := X
  subst hp
  exact w.step fun t kk => XS.ior X.here hx rfl (hb hby hd) rfl kk
theorem w_lor (X : St p l e R s m args below meth c Z n0 y code maxL ret T h cells slots) {x z : Int64} (hd : decode code pc = .ok (.lor, 1)) (hp : pc' = pc + 1) (w : WP p e below s n0 k n Q T (mkF m pc' Ls (.long (x ||| z) :: S))) : WP p e below s n0 k n Q T (mkF m pc Ls (.long z :: .long x :: S)) := by
  obtain ⟨⟨hx, hZ, hby, hml, hown, hnm, hret, hlk, h00⟩, hT, locs, X, N⟩ := X
  subst hp
  exact w.step fun t kk => XS.lor X.here hx rfl (hb hby hd) rfl kk
theorem w_ixor (X : St p l e R s m args below meth c Z n0 y code maxL ret T h cells slots) {x z : Int32} (hd : decode code pc = .ok (.ixor, 1)) (hp : pc' = pc + 1) (w : WP p e below s n0 k n Q T (mkF m pc' Ls (.int (x ^^^ z) :: S))) : WP p e below s n0 k n Q T (mkF m pc Ls (.int z :: .int x :: S)) := by
  obtain ⟨⟨hx, hZ, hby, hml, hown, hnm, hret, hlk, h00⟩, hT, locs, X, N⟩ := X
  subst hp
  exact w.step fun t kk => XS.ixor X.here hx rfl (hb hby hd) rfl kk
theorem w_lxor (X : St p l e R s m args below meth c Z n0 y code maxL ret T h cells slots) {x z : Int64} (hd : decode code pc = .ok (.lxor, 1)) (hp : pc' = pc + 1) (w : WP p e below s n0 k n Q T (mkF m pc' Ls (.long (x ^^^ z) :: S))) : WP p e below s n0 k n Q T (mkF m pc Ls (.long z :: .long x :: S)) := by
  obtain ⟨⟨hx, hZ, hby, hml, hown, hnm, hret, hlk, h00⟩, hT, locs, X, N⟩ := X
  subst hp
  exact w.step fun t kk => XS.lxor X.here hx rfl (hb hby hd) rfl kk
theorem w_ineg (X : St p l e R s m args below meth c Z n0 y code maxL ret T h cells slots) {x : Int32} (hd : decode code pc = .ok (.ineg, 1)) (hp : pc' = pc + 1) (w : WP p e below s n0 k n Q T (mkF m pc' Ls (.int (-x) :: S))) : WP p e below s n0 k n Q T (mkF m pc Ls (.int x :: S)) := by
  obtain ⟨⟨hx, hZ, hby, hml, hown, hnm, hret, hlk, h00⟩, hT, locs, X, N⟩ := X
  subst hp
  exact w.step fun t kk => XS.ineg X.here hx rfl (hb hby hd) rfl kk
theorem w_lneg (X : St p l e R s m args below meth c Z n0 y code maxL ret T h cells slots) {x : Int64} (hd : decode code pc = .ok (.lneg, 1)) (hp : pc' = pc + 1) (w : WP p e below s n0 k n Q T (mkF m pc' Ls (.long (-x) :: S))) : WP p e below s n0 k n Q T (mkF m pc Ls (.long x :: S)) := by
  obtain ⟨⟨hx, hZ, hby, hml, hown, hnm, hret, hlk, h00⟩, hT, locs, X, N⟩ := X
  subst hp
  exact w.step fun t kk => XS.lneg X.here hx rfl (hb hby hd) rfl kk
theorem w_idiv (X : St p l e R s m args below meth c Z n0 y code maxL ret T h cells slots) {x z : Int32} (hd : decode code pc = .ok (.idiv, 1)) (hz : z ≠ 0) (hp : pc' = pc + 1) (w : WP p e below s n0 k n Q T (mkF m pc' Ls (.int (x / z) :: S))) : WP p e below s n0 k n Q T (mkF m pc Ls (.int z :: .int x :: S)) := by
  obtain ⟨⟨hx, hZ, hby, hml, hown, hnm, hret, hlk, h00⟩, hT, locs, X, N⟩ := X
  subst hp
  exact w.step fun t kk => XS.idiv X.here hx rfl (hb hby hd) rfl hz kk
theorem w_irem (X : St p l e R s m args below meth c Z n0 y code maxL ret T h cells slots) {x z : Int32} (hd : decode code pc = .ok (.irem, 1)) (hz : z ≠ 0) (hp : pc' = pc + 1) (w : WP p e below s n0 k n Q T (mkF m pc' Ls (.int (x % z) :: S))) : WP p e below s n0 k n Q T (mkF m pc Ls (.int z :: .int x :: S)) := by
  obtain ⟨⟨hx, hZ, hby, hml, hown, hnm, hret, hlk, h00⟩, hT, locs, X, N⟩ := X
  subst hp
  exact w.step fun t kk => iremM X hx rfl (hb hby hd) rfl hz kk
theorem w_ldiv (X : St p l e R s m args below meth c Z n0 y code maxL ret T h cells slots) {x z : Int64} (hd : decode code pc = .ok (.ldiv, 1)) (hz : z ≠ 0) (hp : pc' = pc + 1) (w : WP p e below s n0 k n Q T (mkF m pc' Ls (.long (x / z) :: S))) : WP p e below s n0 k n Q T (mkF m pc Ls (.long z :: .long x :: S)) := by
  obtain ⟨⟨hx, hZ, hby, hml, hown, hnm, hret, hlk, h00⟩, hT, locs, X, N⟩ := X
  subst hp
  exact w.step fun t kk => XS.ldiv X.here hx rfl (hb hby hd) rfl hz kk
theorem w_lrem (X : St p l e R s m args below meth c Z n0 y code maxL ret T h cells slots) {x z : Int64} (hd : decode code pc = .ok (.lrem, 1)) (hz : z ≠ 0) (hp : pc' = pc + 1) (w : WP p e below s n0 k n Q T (mkF m pc' Ls (.long (x % z) :: S))) : WP p e below s n0 k n Q T (mkF m pc Ls (.long z :: .long x :: S)) := by
  obtain ⟨⟨hx, hZ, hby, hml, hown, hnm, hret, hlk, h00⟩, hT, locs, X, N⟩ := X
  subst hp
  exact w.step fun t kk => XS.lrem X.here hx rfl (hb hby hd) rfl hz (by rw [lrem_mod]; exact kk)
theorem w_ishl (X : St p l e R s m args below meth c Z n0 y code maxL ret T h cells slots) {x z : Int32} (hd : decode code pc = .ok (.ishl, 1)) (hp : pc' = pc + 1) (w : WP p e below s n0 k n Q T (mkF m pc' Ls (.int (x <<< (z &&& 31)) :: S))) : WP p e below s n0 k n Q T (mkF m pc Ls (.int z :: .int x :: S)) := by
  obtain ⟨⟨hx, hZ, hby, hml, hown, hnm, hret, hlk, h00⟩, hT, locs, X, N⟩ := X
  subst hp
  exact w.step fun t kk => XS.ishl X.here hx rfl (hb hby hd) rfl kk
theorem w_ishr (X : St p l e R s m args below meth c Z n0 y code maxL ret T h cells slots) {x z : Int32} (hd : decode code pc = .ok (.ishr, 1)) (hp : pc' = pc + 1) (w : WP p e below s n0 k n Q T (mkF m pc' Ls (.int (x >>> (z &&& 31)) :: S))) : WP p e below s n0 k n Q T (mkF m pc Ls (.int z :: .int x :: S)) := by
  obtain ⟨⟨hx, hZ, hby, hml, hown, hnm, hret, hlk, h00⟩, hT, locs, X, N⟩ := X
  subst hp
  exact w.step fun t kk => XS.ishr X.here hx rfl (hb hby hd) rfl kk
theorem w_iushr (X : St p l e R s m args below meth c Z n0 y code maxL ret T h cells slots) {x z : Int32} (hd : decode code pc = .ok (.iushr, 1)) (hp : pc' = pc + 1) (w : WP p e below s n0 k n Q T (mkF m pc' Ls (.int ((x.toUInt32 >>> (z &&& 31).toUInt32).toInt32) :: S))) : WP p e below s n0 k n Q T (mkF m pc Ls (.int z :: .int x :: S)) := by
  obtain ⟨⟨hx, hZ, hby, hml, hown, hnm, hret, hlk, h00⟩, hT, locs, X, N⟩ := X
  subst hp
  exact w.step fun t kk => XS.iushr X.here hx rfl (hb hby hd) rfl kk
theorem w_lshl (X : St p l e R s m args below meth c Z n0 y code maxL ret T h cells slots) {x : Int64} {z : Int32} (hd : decode code pc = .ok (.lshl, 1)) (hp : pc' = pc + 1) (w : WP p e below s n0 k n Q T (mkF m pc' Ls (.long (x <<< (z &&& 0x3f).toInt64) :: S))) : WP p e below s n0 k n Q T (mkF m pc Ls (.int z :: .long x :: S)) := by
  obtain ⟨⟨hx, hZ, hby, hml, hown, hnm, hret, hlk, h00⟩, hT, locs, X, N⟩ := X
  subst hp
  exact w.step fun t kk => XS.lshl X.here hx rfl (hb hby hd) rfl kk
theorem w_lshr (X : St p l e R s m args below meth c Z n0 y code maxL ret T h cells slots) {x : Int64} {z : Int32} (hd : decode code pc = .ok (.lshr, 1)) (hp : pc' = pc + 1) (w : WP p e below s n0 k n Q T (mkF m pc' Ls (.long (x >>> (z &&& 0x3f).toInt64) :: S))) : WP p e below s n0 k n Q T (mkF m pc Ls (.int z :: .long x :: S)) := by
  obtain ⟨⟨hx, hZ, hby, hml, hown, hnm, hret, hlk, h00⟩, hT, locs, X, N⟩ := X
  subst hp
  exact w.step fun t kk => XS.lshr X.here hx rfl (hb hby hd) rfl kk
theorem w_lushr (X : St p l e R s m args below meth c Z n0 y code maxL ret T h cells slots) {x : Int64} {z : Int32} (hd : decode code pc = .ok (.lushr, 1)) (hp : pc' = pc + 1) (w : WP p e below s n0 k n Q T (mkF m pc' Ls (.long ((x.toUInt64 >>> (z &&& 0x3f).toInt64.toUInt64).toInt64) :: S))) : WP p e below s n0 k n Q T (mkF m pc Ls (.int z :: .long x :: S)) := by
  obtain ⟨⟨hx, hZ, hby, hml, hown, hnm, hret, hlk, h00⟩, hT, locs, X, N⟩ := X
  subst hp
  exact w.step fun t kk => XS.lushr X.here hx rfl (hb hby hd) rfl kk
theorem w_i2b (X : St p l e R s m args below meth c Z n0 y code maxL ret T h cells slots) {x : Int32} (hd : decode code pc = .ok (.i2b, 1)) (hp : pc' = pc + 1) (w : WP p e below s n0 k n Q T (mkF m pc' Ls (.int x.toInt8.toInt32 :: S))) : WP p e below s n0 k n Q T (mkF m pc Ls (.int x :: S)) := by
  obtain ⟨⟨hx, hZ, hby, hml, hown, hnm, hret, hlk, h00⟩, hT, locs, X, N⟩ := X
  subst hp
  exact w.step fun t kk => XS.i2b X.here hx rfl (hb hby hd) rfl kk
theorem w_i2c (X : St p l e R s m args below meth c Z n0 y code maxL ret T h cells slots) {x : Int32} (hd : decode code pc = .ok (.i2c, 1)) (hp : pc' = pc + 1) (w : WP p e below s n0 k n Q T (mkF m pc' Ls (.int x.toUInt32.toUInt16.toUInt32.toInt32 :: S))) : WP p e below s n0 k n Q T (mkF m pc Ls (.int x :: S)) := by
  obtain ⟨⟨hx, hZ, hby, hml, hown, hnm, hret, hlk, h00⟩, hT, locs, X, N⟩ := X
  subst hp
  exact w.step fun t kk => XS.i2c X.here hx rfl (hb hby hd) rfl kk
theorem w_i2s (X : St p l e R s m args below meth c Z n0 y code maxL ret T h cells slots) {x : Int32} (hd : decode code pc = .ok (.i2s, 1)) (hp : pc' = pc + 1) (w : WP p e below s n0 k n Q T (mkF m pc' Ls (.int x.toInt16.toInt32 :: S))) : WP p e below s n0 k n Q T (mkF m pc Ls (.int x :: S)) := by
  obtain ⟨⟨hx, hZ, hby, hml, hown, hnm, hret, hlk, h00⟩, hT, locs, X, N⟩ := X
  subst hp
  exact w.step fun t kk => XS.i2s X.here hx rfl (hb hby hd) rfl kk
theorem w_i2l (X : St p l e R s m args below meth c Z n0 y code maxL ret T h cells slots) {x : Int32} (hd : decode code pc = .ok (.i2l, 1)) (hp : pc' = pc + 1) (w : WP p e below s n0 k n Q T (mkF m pc' Ls (.long x.toInt64 :: S))) : WP p e below s n0 k n Q T (mkF m pc Ls (.int x :: S)) := by
  obtain ⟨⟨hx, hZ, hby, hml, hown, hnm, hret, hlk, h00⟩, hT, locs, X, N⟩ := X
  subst hp
  exact w.step fun t kk => XS.i2l X.here hx rfl (hb hby hd) rfl kk
theorem w_l2i (X : St p l e R s m args below meth c Z n0 y code maxL ret T h cells slots) {x : Int64} (hd : decode code pc = .ok (.l2i, 1)) (hp : pc' = pc + 1) (w : WP p e below s n0 k n Q T (mkF m pc' Ls (.int x.toInt32 :: S))) : WP p e below s n0 k n Q T (mkF m pc Ls (.long x :: S)) := by
  obtain ⟨⟨hx, hZ, hby, hml, hown, hnm, hret, hlk, h00⟩, hT, locs, X, N⟩ := X
  subst hp
  exact w.step fun t kk => XS.l2i X.here hx rfl (hb hby hd) rfl kk
theorem w_lcmp (X : St p l e R s m args below meth c Z n0 y code maxL ret T h cells slots) {x z : Int64} (hd : decode code pc = .ok (.lcmp, 1)) (hp : pc' = pc + 1) (w : WP p e below s n0 k n Q T (mkF m pc' Ls (.int (lcmpW x z) :: S))) : WP p e below s n0 k n Q T (mkF m pc Ls (.long z :: .long x :: S)) := by
  obtain ⟨⟨hx, hZ, hby, hml, hown, hnm, hret, hlk, h00⟩, hT, locs, X, N⟩ := X
  subst hp
  exact w.step fun t kk => XS.lcmp X.here hx rfl (hb hby hd) rfl kk
theorem w_dup (X : St p l e R s m args below meth c Z n0 y code maxL ret T h cells slots) {v : Value} (hd : decode code pc = .ok (.dup, 1)) (hv : v.category = 1) (hp : pc' = pc + 1) (w : WP p e below s n0 k n Q T (mkF m pc' Ls (v :: v :: S))) : WP p e below s n0 k n Q T (mkF m pc Ls (v :: S)) := by
  obtain ⟨⟨hx, hZ, hby, hml, hown, hnm, hret, hlk, h00⟩, hT, locs, X, N⟩ := X
  subst hp
  exact w.step fun t kk => XS.dup X.here hx rfl (hb hby hd) rfl hv kk
theorem w_pop (X : St p l e R s m args below meth c Z n0 y code maxL ret T h cells slots) {v : Value} (hd : decode code pc = .ok (.pop, 1)) (hv : v.category = 1) (hp : pc' = pc + 1) (w : WP p e below s n0 k n Q T (mkF m pc' Ls (S))) : WP p e below s n0 k n Q T (mkF m pc Ls (v :: S)) := by
  obtain ⟨⟨hx, hZ, hby, hml, hown, hnm, hret, hlk, h00⟩, hT, locs, X, N⟩ := X
  subst hp
  exact w.step fun t kk => XS.pop X.here hx rfl (hb hby hd) rfl hv kk
theorem w_dup_x1 (X : St p l e R s m args below meth c Z n0 y code maxL ret T h cells slots) {v u : Value} (hd : decode code pc = .ok (.dup_x1, 1)) (hv : v.category = 1) (hu : u.category = 1) (hp : pc' = pc + 1) (w : WP p e below s n0 k n Q T (mkF m pc' Ls (v :: u :: v :: S))) : WP p e below s n0 k n Q T (mkF m pc Ls (v :: u :: S)) := by
  obtain ⟨⟨hx, hZ, hby, hml, hown, hnm, hret, hlk, h00⟩, hT, locs, X, N⟩ := X
  subst hp
  exact w.step fun t kk => XS.dupX1 X.here hx rfl (hb hby hd) rfl hv hu kk
theorem w_dup2 (X : St p l e R s m args below meth c Z n0 y code maxL ret T h cells slots) {j : Int32} {a : Addr} (hd : decode code pc = .ok (.dup2, 1)) (hp : pc' = pc + 1) (w : WP p e below s n0 k n Q T (mkF m pc' Ls (.int j :: .ref a :: .int j :: .ref a :: S))) : WP p e below s n0 k n Q T (mkF m pc Ls (.int j :: .ref a :: S)) := by
  obtain ⟨⟨hx, hZ, hby, hml, hown, hnm, hret, hlk, h00⟩, hT, locs, X, N⟩ := X
  subst hp
  refine w.step fun t kk => ?_
  have hd' := hb hby hd
  jvm_step X.here [X.here.top, hx, hd', Value.category]
  exact kk
theorem w_goto (X : St p l e R s m args below meth c Z n0 y code maxL ret T h cells slots) {o : Int} (hd : decode code pc = .ok (.goto o, 3)) (ho : 0 ≤ (pc : Int) + o) (hp : ((pc : Int) + o).toNat = pc') (w : WP p e below s n0 k n Q T (mkF m pc' Ls S)) : WP p e below s n0 k n Q T (mkF m pc Ls S) := by
  obtain ⟨⟨hx, hZ, hby, hml, hown, hnm, hret, hlk, h00⟩, hT, locs, X, N⟩ := X
  exact w.step fun t kk => XS.goto X.here hx rfl rfl (hb hby hd) ho hp kk
theorem w_icmp_lt (X : St p l e R s m args below meth c Z n0 y code maxL ret T h cells slots) {o : Int} {x z : Int32} {p1 p2 : Nat} (hd : decode code pc = .ok (.if_icmp .lt o, 3)) (ho : 0 ≤ (pc : Int) + o) (h1 : ((pc : Int) + o).toNat = p1) (h2 : p2 = pc + 3) (wt : x < z → WP p e below s n0 k n Q T (mkF m p1 Ls S)) (wf : ¬ x < z → WP p e below s n0 k n Q T (mkF m p2 Ls S)) : WP p e below s n0 k n Q T (mkF m pc Ls (.int z :: .int x :: S)) := by
  obtain ⟨⟨hx, hZ, hby, hml, hown, hnm, hret, hlk, h00⟩, hT, locs, X, N⟩ := X
  subst h2
  by_cases q0 : x < z
  · have q := q0
    exact (wt q).step fun t kk => XS.icmpYes X.here hx rfl rfl (hb hby hd) rfl (tlt q).1 ho h1 kk
  · have q := q0
    exact (wf q).step fun t kk => XS.icmpNo X.here hx rfl (hb hby hd) rfl (flt q).1 kk
theorem w_if_lt (X : St p l e R s m args below meth c Z n0 y code maxL ret T h cells slots) {o : Int} {x : Int32} {p1 p2 : Nat} (hd : decode code pc = .ok (.ifCond .lt o, 3)) (ho : 0 ≤ (pc : Int) + o) (h1 : ((pc : Int) + o).toNat = p1) (h2 : p2 = pc + 3) (wt : x < (0 : Int32) → WP p e below s n0 k n Q T (mkF m p1 Ls S)) (wf : ¬ x < (0 : Int32) → WP p e below s n0 k n Q T (mkF m p2 Ls S)) : WP p e below s n0 k n Q T (mkF m pc Ls (.int x :: S)) := by
  obtain ⟨⟨hx, hZ, hby, hml, hown, hnm, hret, hlk, h00⟩, hT, locs, X, N⟩ := X
  subst h2
  by_cases q0 : x < (0 : Int32)
  · have q := q0
    exact (wt q).step fun t kk => XS.ifYes X.here hx rfl rfl (hb hby hd) rfl ((if0 _ _).trans (tlt q).1) ho h1 kk
  · have q := q0
    exact (wf q).step fun t kk => XS.ifNo X.here hx rfl (hb hby hd) rfl ((if0 _ _).trans (flt q).1) kk
theorem w_lcmp_lt (X : St p l e R s m args below meth c Z n0 y code maxL ret T h cells slots) {o : Int} {x z : Int64} {p0 p1 p2 : Nat} (hd0 : decode code pc = .ok (.lcmp, 1)) (h0 : p0 = pc + 1) (hd : decode code p0 = .ok (.ifCond .lt o, 3)) (ho : 0 ≤ (p0 : Int) + o) (h1 : ((p0 : Int) + o).toNat = p1) (h2 : p2 = p0 + 3) (wt : x < z → WP p e below s n0 k n Q T (mkF m p1 Ls S)) (wf : ¬ x < z → WP p e below s n0 k n Q T (mkF m p2 Ls S)) : WP p e below s n0 k n Q T (mkF m pc Ls (.long z :: .long x :: S)) :=
  w_lcmp X hd0 h0 (w_if_lt X hd ho h1 h2 (fun q => wt ((lw_lt _ _).mp q)) (fun q => wf (fun u => q ((lw_lt _ _).mpr u))))
theorem w_icmp_ge (X : St p l e R s m args below meth c Z n0 y code maxL ret T h cells slots) {o : Int} {x z : Int32} {p1 p2 : Nat} (hd : decode code pc = .ok (.if_icmp .ge o, 3)) (ho : 0 ≤ (pc : Int) + o) (h1 : ((pc : Int) + o).toNat = p1) (h2 : p2 = pc + 3) (wt : ¬ x < z → WP p e below s n0 k n Q T (mkF m p1 Ls S)) (wf : x < z → WP p e below s n0 k n Q T (mkF m p2 Ls S)) : WP p e below s n0 k n Q T (mkF m pc Ls (.int z :: .int x :: S)) := by
  obtain ⟨⟨hx, hZ, hby, hml, hown, hnm, hret, hlk, h00⟩, hT, locs, X, N⟩ := X
  subst h2
  by_cases q0 : x < z
  · have q := q0
    exact (wf q).step fun t kk => XS.icmpNo X.here hx rfl (hb hby hd) rfl (tlt q).2.1 kk
  · have q := q0
    exact (wt q).step fun t kk => XS.icmpYes X.here hx rfl rfl (hb hby hd) rfl (flt q).2.1 ho h1 kk
theorem w_if_ge (X : St p l e R s m args below meth c Z n0 y code maxL ret T h cells slots) {o : Int} {x : Int32} {p1 p2 : Nat} (hd : decode code pc = .ok (.ifCond .ge o, 3)) (ho : 0 ≤ (pc : Int) + o) (h1 : ((pc : Int) + o).toNat = p1) (h2 : p2 = pc + 3) (wt : ¬ x < (0 : Int32) → WP p e below s n0 k n Q T (mkF m p1 Ls S)) (wf : x < (0 : Int32) → WP p e below s n0 k n Q T (mkF m p2 Ls S)) : WP p e below s n0 k n Q T (mkF m pc Ls (.int x :: S)) := by
  obtain ⟨⟨hx, hZ, hby, hml, hown, hnm, hret, hlk, h00⟩, hT, locs, X, N⟩ := X
  subst h2
  by_cases q0 : x < (0 : Int32)
  · have q := q0
    exact (wf q).step fun t kk => XS.ifNo X.here hx rfl (hb hby hd) rfl ((if0 _ _).trans (tlt q).2.1) kk
  · have q := q0
    exact (wt q).step fun t kk => XS.ifYes X.here hx rfl rfl (hb hby hd) rfl ((if0 _ _).trans (flt q).2.1) ho h1 kk
theorem w_lcmp_ge (X : St p l e R s m args below meth c Z n0 y code maxL ret T h cells slots) {o : Int} {x z : Int64} {p0 p1 p2 : Nat} (hd0 : decode code pc = .ok (.lcmp, 1)) (h0 : p0 = pc + 1) (hd : decode code p0 = .ok (.ifCond .ge o, 3)) (ho : 0 ≤ (p0 : Int) + o) (h1 : ((p0 : Int) + o).toNat = p1) (h2 : p2 = p0 + 3) (wt : ¬ x < z → WP p e below s n0 k n Q T (mkF m p1 Ls S)) (wf : x < z → WP p e below s n0 k n Q T (mkF m p2 Ls S)) : WP p e below s n0 k n Q T (mkF m pc Ls (.long z :: .long x :: S)) :=
  w_lcmp X hd0 h0 (w_if_ge X hd ho h1 h2 (fun q => wt (fun u => q ((lw_lt _ _).mpr u))) (fun q => wf ((lw_lt _ _).mp q)))
theorem w_icmp_gt (X : St p l e R s m args below meth c Z n0 y code maxL ret T h cells slots) {o : Int} {x z : Int32} {p1 p2 : Nat} (hd : decode code pc = .ok (.if_icmp .gt o, 3)) (ho : 0 ≤ (pc : Int) + o) (h1 : ((pc : Int) + o).toNat = p1) (h2 : p2 = pc + 3) (wt : z < x → WP p e below s n0 k n Q T (mkF m p1 Ls S)) (wf : ¬ z < x → WP p e below s n0 k n Q T (mkF m p2 Ls S)) : WP p e below s n0 k n Q T (mkF m pc Ls (.int z :: .int x :: S)) := by
  obtain ⟨⟨hx, hZ, hby, hml, hown, hnm, hret, hlk, h00⟩, hT, locs, X, N⟩ := X
  subst h2
  by_cases q0 : z < x
  · have q := q0
    exact (wt q).step fun t kk => XS.icmpYes X.here hx rfl rfl (hb hby hd) rfl (tlt q).2.2.1 ho h1 kk
  · have q := q0
    exact (wf q).step fun t kk => XS.icmpNo X.here hx rfl (hb hby hd) rfl (flt q).2.2.1 kk
theorem w_if_gt (X : St p l e R s m args below meth c Z n0 y code maxL ret T h cells slots) {o : Int} {x : Int32} {p1 p2 : Nat} (hd : decode code pc = .ok (.ifCond .gt o, 3)) (ho : 0 ≤ (pc : Int) + o) (h1 : ((pc : Int) + o).toNat = p1) (h2 : p2 = pc + 3) (wt : (0 : Int32) < x → WP p e below s n0 k n Q T (mkF m p1 Ls S)) (wf : ¬ (0 : Int32) < x → WP p e below s n0 k n Q T (mkF m p2 Ls S)) : WP p e below s n0 k n Q T (mkF m pc Ls (.int x :: S)) := by
  obtain ⟨⟨hx, hZ, hby, hml, hown, hnm, hret, hlk, h00⟩, hT, locs, X, N⟩ := X
  subst h2
  by_cases q0 : (0 : Int32) < x
  · have q := q0
    exact (wt q).step fun t kk => XS.ifYes X.here hx rfl rfl (hb hby hd) rfl ((if0 _ _).trans (tlt q).2.2.1) ho h1 kk
  · have q := q0
    exact (wf q).step fun t kk => XS.ifNo X.here hx rfl (hb hby hd) rfl ((if0 _ _).trans (flt q).2.2.1) kk
theorem w_lcmp_gt (X : St p l e R s m args below meth c Z n0 y code maxL ret T h cells slots) {o : Int} {x z : Int64} {p0 p1 p2 : Nat} (hd0 : decode code pc = .ok (.lcmp, 1)) (h0 : p0 = pc + 1) (hd : decode code p0 = .ok (.ifCond .gt o, 3)) (ho : 0 ≤ (p0 : Int) + o) (h1 : ((p0 : Int) + o).toNat = p1) (h2 : p2 = p0 + 3) (wt : z < x → WP p e below s n0 k n Q T (mkF m p1 Ls S)) (wf : ¬ z < x → WP p e below s n0 k n Q T (mkF m p2 Ls S)) : WP p e below s n0 k n Q T (mkF m pc Ls (.long z :: .long x :: S)) :=
  w_lcmp X hd0 h0 (w_if_gt X hd ho h1 h2 (fun q => wt ((lw_gt _ _).mp q)) (fun q => wf (fun u => q ((lw_gt _ _).mpr u))))
theorem w_icmp_le (X : St p l e R s m args below meth c Z n0 y code maxL ret T h cells slots) {o : Int} {x z : Int32} {p1 p2 : Nat} (hd : decode code pc = .ok (.if_icmp .le o, 3)) (ho : 0 ≤ (pc : Int) + o) (h1 : ((pc : Int) + o).toNat = p1) (h2 : p2 = pc + 3) (wt : ¬ z < x → WP p e below s n0 k n Q T (mkF m p1 Ls S)) (wf : z < x → WP p e below s n0 k n Q T (mkF m p2 Ls S)) : WP p e below s n0 k n Q T (mkF m pc Ls (.int z :: .int x :: S)) := by
  obtain ⟨⟨hx, hZ, hby, hml, hown, hnm, hret, hlk, h00⟩, hT, locs, X, N⟩ := X
  subst h2
  by_cases q0 : z < x
  · have q := q0
    exact (wf q).step fun t kk => XS.icmpNo X.here hx rfl (hb hby hd) rfl (tlt q).2.2.2 kk
  · have q := q0
    exact (wt q).step fun t kk => XS.icmpYes X.here hx rfl rfl (hb hby hd) rfl (flt q).2.2.2 ho h1 kk
theorem w_if_le (X : St p l e R s m args below meth c Z n0 y code maxL ret T h cells slots) {o : Int} {x : Int32} {p1 p2 : Nat} (hd : decode code pc = .ok (.ifCond .le o, 3)) (ho : 0 ≤ (pc : Int) + o) (h1 : ((pc : Int) + o).toNat = p1) (h2 : p2 = pc + 3) (wt : ¬ (0 : Int32) < x → WP p e below s n0 k n Q T (mkF m p1 Ls S)) (wf : (0 : Int32) < x → WP p e below s n0 k n Q T (mkF m p2 Ls S)) : WP p e below s n0 k n Q T (mkF m pc Ls (.int x :: S)) := by
  obtain ⟨⟨hx, hZ, hby, hml, hown, hnm, hret, hlk, h00⟩, hT, locs, X, N⟩ := X
  subst h2
  by_cases q0 : (0 : Int32) < x
  · have q := q0
    exact (wf q).step fun t kk => XS.ifNo X.here hx rfl (hb hby hd) rfl ((if0 _ _).trans (tlt q).2.2.2) kk
  · have q := q0
    exact (wt q).step fun t kk => XS.ifYes X.here hx rfl rfl (hb hby hd) rfl ((if0 _ _).trans (flt q).2.2.2) ho h1 kk
theorem w_lcmp_le (X : St p l e R s m args below meth c Z n0 y code maxL ret T h cells slots) {o : Int} {x z : Int64} {p0 p1 p2 : Nat} (hd0 : decode code pc = .ok (.lcmp, 1)) (h0 : p0 = pc + 1) (hd : decode code p0 = .ok (.ifCond .le o, 3)) (ho : 0 ≤ (p0 : Int) + o) (h1 : ((p0 : Int) + o).toNat = p1) (h2 : p2 = p0 + 3) (wt : ¬ z < x → WP p e below s n0 k n Q T (mkF m p1 Ls S)) (wf : z < x → WP p e below s n0 k n Q T (mkF m p2 Ls S)) : WP p e below s n0 k n Q T (mkF m pc Ls (.long z :: .long x :: S)) :=
  w_lcmp X hd0 h0 (w_if_le X hd ho h1 h2 (fun q => wt (fun u => q ((lw_gt _ _).mpr u))) (fun q => wf ((lw_gt _ _).mp q)))
theorem w_icmp_eq (X : St p l e R s m args below meth c Z n0 y code maxL ret T h cells slots) {o : Int} {x z : Int32} {p1 p2 : Nat} (hd : decode code pc = .ok (.if_icmp .eq o, 3)) (ho : 0 ≤ (pc : Int) + o) (h1 : ((pc : Int) + o).toNat = p1) (h2 : p2 = pc + 3) (wt : x = z → WP p e below s n0 k n Q T (mkF m p1 Ls S)) (wf : ¬ x = z → WP p e below s n0 k n Q T (mkF m p2 Ls S)) : WP p e below s n0 k n Q T (mkF m pc Ls (.int z :: .int x :: S)) := by
  obtain ⟨⟨hx, hZ, hby, hml, hown, hnm, hret, hlk, h00⟩, hT, locs, X, N⟩ := X
  subst h2
  by_cases q0 : x = z
  · have q := q0
    exact (wt q).step fun t kk => XS.icmpYes X.here hx rfl rfl (hb hby hd) rfl (teq q).1 ho h1 kk
  · have q := q0
    exact (wf q).step fun t kk => XS.icmpNo X.here hx rfl (hb hby hd) rfl (feq q).1 kk
theorem w_if_eq (X : St p l e R s m args below meth c Z n0 y code maxL ret T h cells slots) {o : Int} {x : Int32} {p1 p2 : Nat} (hd : decode code pc = .ok (.ifCond .eq o, 3)) (ho : 0 ≤ (pc : Int) + o) (h1 : ((pc : Int) + o).toNat = p1) (h2 : p2 = pc + 3) (wt : x = (0 : Int32) → WP p e below s n0 k n Q T (mkF m p1 Ls S)) (wf : ¬ x = (0 : Int32) → WP p e below s n0 k n Q T (mkF m p2 Ls S)) : WP p e below s n0 k n Q T (mkF m pc Ls (.int x :: S)) := by
  obtain ⟨⟨hx, hZ, hby, hml, hown, hnm, hret, hlk, h00⟩, hT, locs, X, N⟩ := X
  subst h2
  by_cases q0 : x = (0 : Int32)
  · have q := q0
    exact (wt q).step fun t kk => XS.ifYes X.here hx rfl rfl (hb hby hd) rfl ((if0 _ _).trans (teq q).1) ho h1 kk
  · have q := q0
    exact (wf q).step fun t kk => XS.ifNo X.here hx rfl (hb hby hd) rfl ((if0 _ _).trans (feq q).1) kk
theorem w_lcmp_eq (X : St p l e R s m args below meth c Z n0 y code maxL ret T h cells slots) {o : Int} {x z : Int64} {p0 p1 p2 : Nat} (hd0 : decode code pc = .ok (.lcmp, 1)) (h0 : p0 = pc + 1) (hd : decode code p0 = .ok (.ifCond .eq o, 3)) (ho : 0 ≤ (p0 : Int) + o) (h1 : ((p0 : Int) + o).toNat = p1) (h2 : p2 = p0 + 3) (wt : x = z → WP p e below s n0 k n Q T (mkF m p1 Ls S)) (wf : ¬ x = z → WP p e below s n0 k n Q T (mkF m p2 Ls S)) : WP p e below s n0 k n Q T (mkF m pc Ls (.long z :: .long x :: S)) :=
  w_lcmp X hd0 h0 (w_if_eq X hd ho h1 h2 (fun q => wt ((lw_eq _ _).mp q)) (fun q => wf (fun u => q ((lw_eq _ _).mpr u))))
theorem w_icmp_ne (X : St p l e R s m args below meth c Z n0 y code maxL ret T h cells slots) {o : Int} {x z : Int32} {p1 p2 : Nat} (hd : decode code pc = .ok (.if_icmp .ne o, 3)) (ho : 0 ≤ (pc : Int) + o) (h1 : ((pc : Int) + o).toNat = p1) (h2 : p2 = pc + 3) (wt : ¬ x = z → WP p e below s n0 k n Q T (mkF m p1 Ls S)) (wf : x = z → WP p e below s n0 k n Q T (mkF m p2 Ls S)) : WP p e below s n0 k n Q T (mkF m pc Ls (.int z :: .int x :: S)) := by
  obtain ⟨⟨hx, hZ, hby, hml, hown, hnm, hret, hlk, h00⟩, hT, locs, X, N⟩ := X
  subst h2
  by_cases q0 : x = z
  · have q := q0
    exact (wf q).step fun t kk => XS.icmpNo X.here hx rfl (hb hby hd) rfl (teq q).2 kk
  · have q := q0
    exact (wt q).step fun t kk => XS.icmpYes X.here hx rfl rfl (hb hby hd) rfl (feq q).2 ho h1 kk
theorem w_if_ne (X : St p l e R s m args below meth c Z n0 y code maxL ret T h cells slots) {o : Int} {x : Int32} {p1 p2 : Nat} (hd : decode code pc = .ok (.ifCond .ne o, 3)) (ho : 0 ≤ (pc : Int) + o) (h1 : ((pc : Int) + o).toNat = p1) (h2 : p2 = pc + 3) (wt : ¬ x = (0 : Int32) → WP p e below s n0 k n Q T (mkF m p1 Ls S)) (wf : x = (0 : Int32) → WP p e below s n0 k n Q T (mkF m p2 Ls S)) : WP p e below s n0 k n Q T (mkF m pc Ls (.int x :: S)) := by
  obtain ⟨⟨hx, hZ, hby, hml, hown, hnm, hret, hlk, h00⟩, hT, locs, X, N⟩ := X
  subst h2
  by_cases q0 : x = (0 : Int32)
  · have q := q0
    exact (wf q).step fun t kk => XS.ifNo X.here hx rfl (hb hby hd) rfl ((if0 _ _).trans (teq q).2) kk
  · have q := q0
    exact (wt q).step fun t kk => XS.ifYes X.here hx rfl rfl (hb hby hd) rfl ((if0 _ _).trans (feq q).2) ho h1 kk
theorem w_lcmp_ne (X : St p l e R s m args below meth c Z n0 y code maxL ret T h cells slots) {o : Int} {x z : Int64} {p0 p1 p2 : Nat} (hd0 : decode code pc = .ok (.lcmp, 1)) (h0 : p0 = pc + 1) (hd : decode code p0 = .ok (.ifCond .ne o, 3)) (ho : 0 ≤ (p0 : Int) + o) (h1 : ((p0 : Int) + o).toNat = p1) (h2 : p2 = p0 + 3) (wt : ¬ x = z → WP p e below s n0 k n Q T (mkF m p1 Ls S)) (wf : x = z → WP p e below s n0 k n Q T (mkF m p2 Ls S)) : WP p e below s n0 k n Q T (mkF m pc Ls (.long z :: .long x :: S)) :=
  w_lcmp X hd0 h0 (w_if_ne X hd ho h1 h2 (fun q => wt (fun u => q ((lw_eq _ _).mpr u))) (fun q => wf ((lw_eq _ _).mp q)))
theorem w_ifnull_ref (X : St p l e R s m args below meth c Z n0 y code maxL ret T h cells slots) {o : Int} {a : Addr} (hd : decode code pc = .ok (.ifnull o, 3)) (hp : pc' = pc + 3) (w : WP p e below s n0 k n Q T (mkF m pc' Ls S)) : WP p e below s n0 k n Q T (mkF m pc Ls (.ref a :: S)) := by
  obtain ⟨⟨hx, hZ, hby, hml, hown, hnm, hret, hlk, h00⟩, hT, locs, X, N⟩ := X
  subst hp
  exact w.step fun t kk => XS.ifnullNo X.here hx rfl (hb hby hd) rfl kk
theorem w_end (X : St p l e R s m args below meth c Z n0 y code maxL ret T h cells slots) {g : JFrame} {v : Option Value} (hv : ret = none → v = none) (hk : cells ≤ k) (hn : slots ≤ n) (hq : Q v h)
    (st : ∀ (locs : List Loc) (fs : List Frame), p.tables.exec = Jvm.exec → c.code = code → meth.sig.returnType = ret → Stand p l e R s m args below meth c T locs cells slots → (∀ (f : JFrame) (acts : List Action), f.method = m → f.locked = none → f.entered = [] → (doReturn e (T.setTop f) acts v).1 = T.setFrames fs) → Steps p.tables e below (T.setTop g) (T.setFrames fs)) : WP p e below s n0 k n Q T g := by
  obtain ⟨⟨hx, hZ, hby, hml, hown, hnm, hret, hlk, h00⟩, hT, locs, X, N⟩ := X
  obtain ⟨fs, hr, hrun, hended, hW, hsame⟩ := X.leave (v := v) (fun q => hv (hret ▸ q)) hlk
  refine ⟨_, _, st locs fs hx hby hret X hr, hrun, hended, _, _, rfl, ⟨?_, N⟩, ⟨_, rfl⟩, hW, hsame.mono hk hn⟩
  show Q v T.heap
  rw [hT]; exact hq
theorem w_retI (X : St p l e R s m args below meth c Z n0 y code maxL ret T h cells slots) {z : Int32} (hr : ret = some .int) (hd : decode code pc = .ok (.ireturn, 1)) (hk : cells ≤ k) (hn : slots ≤ n) (hq : Q (some (.int z)) h) : WP p e below s n0 k n Q T (mkF m pc Ls (.int z :: S)) :=
  w_end X (v := some (.int z)) (fun q => by rw [hr] at q; cases q) hk hn hq fun locs fs hx hby hret X hl => retOut X hx (hret.trans hr) rfl (Or.inl ⟨rfl, Or.inl rfl, z, rfl⟩) (hb hby hd) hl
theorem w_retJ (X : St p l e R s m args below meth c Z n0 y code maxL ret T h cells slots) {z : Int64} (hr : ret = some .long) (hd : decode code pc = .ok (.lreturn, 1)) (hk : cells ≤ k) (hn : slots ≤ n) (hq : Q (some (.long z)) h) : WP p e below s n0 k n Q T (mkF m pc Ls (.long z :: S)) :=
  w_end X (v := some (.long z)) (fun q => by rw [hr] at q; cases q) hk hn hq fun locs fs hx hby hret X hl => retOut X hx (hret.trans hr) rfl (Or.inr (Or.inl ⟨rfl, rfl, z, rfl⟩)) (hb hby hd) hl
theorem w_retA (X : St p l e R s m args below meth c Z n0 y code maxL ret T h cells slots) {a : Addr} {t : FieldType} (hr : ret = some t) (ht : t.isReference = true) (hnn : narrow t (.ref a) = .ref a) (hd : decode code pc = .ok (.areturn, 1)) (hk : cells ≤ k) (hn : slots ≤ n) (hq : Q (some (.ref a)) h) : WP p e below s n0 k n Q T (mkF m pc Ls (.ref a :: S)) :=
  w_end X (v := some (.ref a)) (fun q => by rw [hr] at q; cases q) hk hn hq fun locs fs hx hby hret X hl => retOut X hx (hret.trans hr) hnn (Or.inr (Or.inr (Or.inr (Or.inr ⟨rfl, ht, rfl⟩)))) (hb hby hd) hl
theorem w_retN (X : St p l e R s m args below meth c Z n0 y code maxL ret T h cells slots) {z z' : Int32} {t : FieldType} (hr : ret = some t) (ht : t = .boolean ∨ t = .byte ∨ t = .char ∨ t = .short) (hd : decode code pc = .ok (.ireturn, 1)) (hz : nar t z = z') (hk : cells ≤ k) (hn : slots ≤ n) (hq : Q (some (.int z')) h) : WP p e below s n0 k n Q T (mkF m pc Ls (.int z :: S)) :=
  w_end X (v := some (.int z')) (fun q => by rw [hr] at q; cases q) hk hn hq fun locs fs hx hby hret X hl => retN X hx (hret.trans hr) ht (hb hby hd) (by rw [hz]; exact hl)
theorem w_retZ (X : St p l e R s m args below meth c Z n0 y code maxL ret T h cells slots) {z : Int32} (hr : ret = some .boolean) (hd : decode code pc = .ok (.ireturn, 1)) (hz : z &&& 1 = z) (hk : cells ≤ k) (hn : slots ≤ n) (hq : Q (some (.int z)) h) : WP p e below s n0 k n Q T (mkF m pc Ls (.int z :: S)) :=
  w_retN X hr (Or.inl rfl) hd hz hk hn hq
theorem w_retV (X : St p l e R s m args below meth c Z n0 y code maxL ret T h cells slots) (hr : ret = none) (hd : decode code pc = .ok (.return_, 1)) (hk : cells ≤ k) (hn : slots ≤ n) (hq : Q none h) : WP p e below s n0 k n Q T (mkF m pc Ls []) :=
  w_end X (v := none) (fun _ => rfl) hk hn hq fun locs fs hx hby hret X hl => X.returnOut hx (hret.trans hr) (hb hby hd) hl
theorem St.of_back (X : St p l e R s m args below meth c Z n0 y code maxL ret T h cells slots) {locs : List Loc} (N : Fr n0 locs) {T' : State} {L' : List Loc} {cells' slots' : Nat} (X' : Stand p l e R s m args below meth c T' (locs ++ L') cells' slots') (N' : Fr n0 L') : St p l e R s m args below meth c Z n0 y code maxL ret T' T'.heap cells' slots' :=
  ⟨X.1, rfl, _, X', N.app N'⟩
theorem w_callS (X : St p l e R s m args below meth c Z n0 y code maxL ret T h cells slots) {z : MethodName} {idx : Nat} {code' : ByteArray} {maxL' : Nat} {ret' : Option FieldType} {rm : Room} (argsL rest : List Value) {Q' : Option Value → Heap → Prop} {ps : List FieldType} {r : Option FieldType} (W : Nat)
    (wl : (Jvm.Cond.methodLink y.cls idx z).before a0 Z = true) (wt : (Jvm.Cond.static z).before a0 Z = true) (wi : (Jvm.Cond.initialized z.cls).before a0 Z = true) (wc : (Jvm.Cond.code z code' maxL' ret').before a0 Z = true)
    (ct : Ct l Z z code' maxL' ret' rm argsL.toArray h n0 Q') (hd : decode code pc = .ok (.invokestatic idx, 3)) (pd : parseMethodDescriptor z.desc = some ⟨ps, r⟩) (hlen : argsL.length = ps.length) (hy : z.cls ≠ "java/lang/invoke/MethodHandle" ∧ z.cls ≠ "java/lang/invoke/VarHandle")
    (hsz : Ls.size = maxL) (hS : S = argsL.reverse ++ rest) (hW : (rest.map fun v => v.category).sum = W) (hfr : rm.frames + 1 ≤ R.frames) (hlo : W + (maxL' + 11) + rm.locals ≤ R.locals) (hc : cells + rm.cells ≤ R.cells) (hs : slots + rm.slots ≤ R.slots) (hp : pc' = pc + 3)
    (w : ∀ T' h' v, St p l e R s m args below meth c Z n0 y code maxL ret T' h' (cells + rm.cells) (slots + rm.slots) → Q' v h' → WP p e below s n0 k n Q T' (mkF m pc' Ls (v.toList ++ rest))) : WP p e below s n0 k n Q T (mkF m pc Ls S) := by
  have X1 := X
  obtain ⟨⟨hx, hZ, hby, hml, hown, hnm, hret, hlk, h00⟩, hT, locs, X, N⟩ := X
  subst hp hS
  obtain ⟨v, _, ⟨T', L', k', n'⟩, -, X', ⟨Lc, hQ, l1, y1, z1⟩, st⟩ := Jvm.LawKit.callS X hx (y := z) hown (mvT hZ wl) (mvT hZ wt) (mvT hZ wi) (mvT hZ wc) hy (backOf (W := W) (Q := fun v h L => Q' v h ∧ Fr n0 L) (ct []) hZ wc wi hfr hlo) (g := mkF m pc Ls (argsL.reverse ++ rest)) rfl (hsz.trans hml.symm) (argsL := argsL) (rest := rest) (lenOf pd hlen) rfl (by show 2 * 0 + _ ≤ _; omega) (hb hby hd) (fun _ _ => ⟨rfl, hT, hc, hs⟩)
  dsimp only [Pt.U, Pt.locs, Pt.cells, Pt.slots] at X' l1 y1 z1 st hQ
  subst l1 y1 z1
  exact (w T' T'.heap v (X1.of_back N X' hQ.2) hQ.1).step fun t kk => st t kk
theorem w_callV (X : St p l e R s m args below meth c Z n0 y code maxL ret T h cells slots) {z : MethodName} {C : String} {idx : Nat} {code' : ByteArray} {maxL' : Nat} {ret' : Option FieldType} {rm : Room} {a : Addr} (argsL rest : List Value) {Q' : Option Value → Heap → Prop} {ps : List FieldType} {r : Option FieldType} (W : Nat)
    (wl : (Jvm.Cond.methodLink y.cls idx z).before a0 Z = true) (wdc : (Jvm.Cond.declares z).before a0 Z = true) (wsel : (Jvm.Cond.selects C z z).before a0 Z = true) (wt : (Jvm.Cond.instanceMethod z).before a0 Z = true) (wi : (Jvm.Cond.initialized z.cls).before a0 Z = true) (wc : (Jvm.Cond.code z code' maxL' ret').before a0 Z = true)
    (E : Exa Z h a C) (ct : Ct l Z z code' maxL' ret' rm (.ref a :: argsL).toArray h n0 Q') (hd : decode code pc = .ok (.invokevirtual idx, 3)) (pd : parseMethodDescriptor z.desc = some ⟨ps, r⟩) (hlen : argsL.length = ps.length) (hy : z.cls ≠ "java/lang/invoke/MethodHandle" ∧ z.cls ≠ "java/lang/invoke/VarHandle")
    (hsz : Ls.size = maxL) (hS : S = argsL.reverse ++ .ref a :: rest) (hW : (rest.map fun v => v.category).sum = W) (hfr : rm.frames + 1 ≤ R.frames) (hlo : W + (maxL' + 11) + rm.locals ≤ R.locals) (hc : cells + rm.cells ≤ R.cells) (hs : slots + rm.slots ≤ R.slots) (hp : pc' = pc + 3)
    (w : ∀ T' h' v, St p l e R s m args below meth c Z n0 y code maxL ret T' h' (cells + rm.cells) (slots + rm.slots) → Q' v h' → WP p e below s n0 k n Q T' (mkF m pc' Ls (v.toList ++ rest))) : WP p e below s n0 k n Q T (mkF m pc Ls S) := by
  have X1 := X
  obtain ⟨⟨hx, hZ, hby, hml, hown, hnm, hret, hlk, h00⟩, hT, locs, X, N⟩ := X
  subst hp hS
  obtain ⟨cq, kq, qa, qb, qc⟩ := isOf hZ hT E
  obtain ⟨v, _, ⟨T', L', k', n'⟩, -, X', ⟨Lc, hQ, l1, y1, z1⟩, st⟩ := X.virtualBack hx (y := z) (z := z) hown (mvT hZ wl) (mvT hZ wdc) (notFace_of_selects (args := #[]) (mvT hZ wsel)) (mvT hZ wsel) (mvT hZ wt) hy (backOf (W := W) (Q := fun v h L => Q' v h ∧ Fr n0 L) (ct []) hZ wc wi hfr hlo) qa qc (g := mkF m pc Ls (argsL.reverse ++ .ref a :: rest)) rfl (hsz.trans hml.symm) (Steps.refl _) (argsL := argsL) (rest := rest) (lenOf pd hlen) rfl (by show 2 * 0 + _ ≤ _; omega) (hb hby hd) (fun _ _ => ⟨rfl, hT, hc, hs⟩)
  dsimp only [Pt.U, Pt.locs, Pt.cells, Pt.slots] at X' l1 y1 z1 st hQ
  subst l1 y1 z1
  exact (w T' T'.heap v (X1.of_back N X' hQ.2) hQ.1).trans st
theorem w_callC (X : St p l e R s m args below meth c Z n0 y code maxL ret T h cells slots) {z : MethodName} {idx : Nat} {code' : ByteArray} {maxL' : Nat} {rm : Room} {a : Addr} (argsL rest : List Value) {Q' : Option Value → Heap → Prop} {ps : List FieldType} {r : Option FieldType} (W : Nat)
    (hi : z.name = "<init>") (wl : (Jvm.Cond.methodLink y.cls idx z).before a0 Z = true) (wt : (Jvm.Cond.instanceMethod z).before a0 Z = true) (wi : (Jvm.Cond.initialized z.cls).before a0 Z = true) (wc : (Jvm.Cond.code z code' maxL' none).before a0 Z = true)
    (ct : Ct l Z z code' maxL' none rm (.ref a :: argsL).toArray h n0 Q') (hd : decode code pc = .ok (.invokespecial idx, 3)) (pd : parseMethodDescriptor z.desc = some ⟨ps, r⟩) (hlen : argsL.length = ps.length) (hy : z.cls ≠ "java/lang/invoke/MethodHandle" ∧ z.cls ≠ "java/lang/invoke/VarHandle")
    (hsz : Ls.size = maxL) (hS : S = argsL.reverse ++ .ref a :: rest) (hW : (rest.map fun v => v.category).sum = W) (hfr : rm.frames + 1 ≤ R.frames) (hlo : W + (maxL' + 11) + rm.locals ≤ R.locals) (hc : cells + rm.cells ≤ R.cells) (hs : slots + rm.slots ≤ R.slots) (hp : pc' = pc + 3)
    (w : ∀ T' h' v, St p l e R s m args below meth c Z n0 y code maxL ret T' h' (cells + rm.cells) (slots + rm.slots) → Q' v h' → WP p e below s n0 k n Q T' (mkF m pc' Ls (v.toList ++ rest))) : WP p e below s n0 k n Q T (mkF m pc Ls S) := by
  have X1 := X
  obtain ⟨⟨hx, hZ, hby, hml, hown, hnm, hret, hlk, h00⟩, hT, locs, X, N⟩ := X
  subst hp hS
  obtain ⟨v, _, ⟨T', L', k', n'⟩, -, X', ⟨Lc, hQ, l1, y1, z1⟩, st⟩ := X.specialBack hx (y := z) hi hown (mvT hZ wl) (mvT hZ wt) (mvT hZ wc) hy (backOf (W := W) (Q := fun v h L => Q' v h ∧ Fr n0 L) (ct []) hZ wc wi hfr hlo) (g := mkF m pc Ls (argsL.reverse ++ .ref a :: rest)) rfl (hsz.trans hml.symm) (Steps.refl _) (a := a) (argsL := argsL) (rest := rest) (lenOf pd hlen) rfl (by show 2 * 0 + _ ≤ _; omega) (hb hby hd) (fun _ _ => ⟨rfl, hT, hc, hs⟩)
  dsimp only [Pt.U, Pt.locs, Pt.cells, Pt.slots] at X' l1 y1 z1 st hQ
  subst l1 y1 z1
  exact (w T' T'.heap v (X1.of_back N X' hQ.2) hQ.1).trans st
theorem w_callP (X : St p l e R s m args below meth c Z n0 y code maxL ret T h cells slots) {z z0 : MethodName} {idx : Nat} {code' : ByteArray} {maxL' : Nat} {ret' : Option FieldType} {rm : Room} {a : Addr} (argsL rest : List Value) {Q' : Option Value → Heap → Prop} {ps : List FieldType} {r : Option FieldType} (W : Nat)
    (wl : (Jvm.Cond.methodLink y.cls idx z).before a0 Z = true) (wt : (Jvm.Cond.instanceMethod z).before a0 Z = true) (wp : (Jvm.Cond.privateMethod z).before a0 Z = true) (wsel : (Jvm.Cond.selects z0.cls z0 z0).before a0 Z = true) (h0 : z0.cls = z.cls) (wi : (Jvm.Cond.initialized z.cls).before a0 Z = true) (wc : (Jvm.Cond.code z code' maxL' ret').before a0 Z = true)
    (E : Exa Z h a z.cls) (ct : Ct l Z z code' maxL' ret' rm (.ref a :: argsL).toArray h n0 Q') (hd : decode code pc = .ok (.invokevirtual idx, 3)) (pd : parseMethodDescriptor z.desc = some ⟨ps, r⟩) (hlen : argsL.length = ps.length) (hy : z.cls ≠ "java/lang/invoke/MethodHandle" ∧ z.cls ≠ "java/lang/invoke/VarHandle")
    (hsz : Ls.size = maxL) (hS : S = argsL.reverse ++ .ref a :: rest) (hW : (rest.map fun v => v.category).sum = W) (hfr : rm.frames + 1 ≤ R.frames) (hlo : W + (maxL' + 11) + rm.locals ≤ R.locals) (hc : cells + rm.cells ≤ R.cells) (hs : slots + rm.slots ≤ R.slots) (hp : pc' = pc + 3)
    (w : ∀ T' h' v, St p l e R s m args below meth c Z n0 y code maxL ret T' h' (cells + rm.cells) (slots + rm.slots) → Q' v h' → WP p e below s n0 k n Q T' (mkF m pc' Ls (v.toList ++ rest))) : WP p e below s n0 k n Q T (mkF m pc Ls S) := by
  have X1 := X
  obtain ⟨⟨hx, hZ, hby, hml, hown, hnm, hret, hlk, h00⟩, hT, locs, X, N⟩ := X
  subst hp hS
  obtain ⟨cq, q, q'⟩ := E.cell
  obtain ⟨c2, r2, m2, e1, e2, e3, e4, kP, hkP, hkPi⟩ := Cond.selects_spec (mvT (args := args) hZ wsel)
  have e5 : s.vm.findClass z.cls = some m2.cls := h0 ▸ findClass_of_methodNamed e3
  have hpr : s.PrivateAt z := Cond.privateMethod_at (mvP hZ wp (args := args))
  have hsel : (Jvm.Cond.selects z.cls z z).before args s = true := selects_self_of_private e5 hkP hkPi hpr (mvT hZ wt) hy
  obtain ⟨v, _, ⟨T', L', k', n'⟩, -, X', ⟨Lc, hQ, l1, y1, z1⟩, st⟩ := X.privateBack hx (y := z) hown (mvT hZ wl) (mvT hZ wt) hsel hpr (mvT hZ wc) hy (backOf (W := W) (Q := fun v h L => Q' v h ∧ Fr n0 L) (ct []) hZ wc wi hfr hlo) (g := mkF m pc Ls (argsL.reverse ++ .ref a :: rest)) rfl (hsz.trans hml.symm) (Steps.refl _) (a := a) (by rw [hT]; exact q) q' (argsL := argsL) (rest := rest) (lenOf pd hlen) rfl (by show 2 * 0 + _ ≤ _; omega) (hb hby hd) (fun _ _ => ⟨rfl, hT, hc, hs⟩)
  dsimp only [Pt.U, Pt.locs, Pt.cells, Pt.slots] at X' l1 y1 z1 st hQ
  subst l1 y1 z1
  exact (w T' T'.heap v (X1.of_back N X' hQ.2) hQ.1).trans st
theorem w_initO (X : St p l e R s m args below meth c Z n0 y code maxL ret T h cells slots) {idx : Nat} {a : Addr} {W : Nat} (w1 : (Jvm.Cond.methodLink y.cls idx Lib.objectInit).before a0 Z = true) (w2 : (Jvm.Cond.instanceMethod Lib.objectInit).before a0 Z = true) (w3 : (Jvm.Cond.code Lib.objectInit ⟨#[0xb1]⟩ 1 none).before a0 Z = true)
    (hd : decode code pc = .ok (.invokespecial idx, 3)) (hsz : Ls.size = maxL) (hf : 1 ≤ R.frames) (hW : (S.map fun v => v.category).sum = W) (hl : W + 12 ≤ R.locals) (hp : pc' = pc + 3)
    (w : ∀ T', St p l e R s m args below meth c Z n0 y code maxL ret T' h cells slots → WP p e below s n0 k n Q T' (mkF m pc' Ls S)) : WP p e below s n0 k n Q T (mkF m pc Ls (.ref a :: S)) := by
  have X1 := X
  obtain ⟨⟨hx, hZ, hby, hml, hown, hnm, hret, hlk, h00⟩, hT, locs, X, N⟩ := X
  subst hp
  obtain ⟨T', X', e', st⟩ := initO X hx hZ hown w1 w2 w3 hT (g := mkF m pc Ls (.ref a :: S)) rfl (hsz.trans hml.symm) rfl (hb hby hd) hf (W := W) (by show 2 * 0 + _ ≤ _; omega) hl
  exact (w T' ⟨X1.1, e', locs, X', N⟩).step st
theorem w_getF (X : St p l e R s m args below meth c Z n0 y code maxL ret T h cells slots) {idx : Nat} {O nm d : String} {a : Addr} {v : Value} (wl : (Jvm.Cond.fieldLink y.cls idx O nm d).before a0 Z = true) (F : Fld Z h a O nm d v) (hd : decode code pc = .ok (.getfield idx, 3)) (hp : pc' = pc + 3)
    (w : ∀ T', St p l e R s m args below meth c Z n0 y code maxL ret T' h cells slots → WP p e below s n0 k n Q T' (mkF m pc' Ls (v :: S))) : WP p e below s n0 k n Q T (mkF m pc Ls (.ref a :: S)) := by
  have X1 := X
  obtain ⟨⟨hx, hZ, hby, hml, hown, hnm, hret, hlk, h00⟩, hT, locs, X, N⟩ := X
  subst hp
  obtain ⟨T', X', e', st⟩ := getF X hx hZ hown (host := "") (Or.inl wl) Via.refl hT F (g := mkF m pc Ls (.ref a :: S)) rfl rfl (hb hby hd)
  exact (w T' ⟨X1.1, e', locs, X', N⟩).step st
theorem w_putF (X : St p l e R s m args below meth c Z n0 y code maxL ret T h cells slots) {idx kk : Nat} {O nm d C : String} {ty : FieldType} {a : Addr} {v v' old : Value} (wl : (Jvm.Cond.fieldLink y.cls idx O nm d).before a0 Z = true) (F : Fld Z h a O nm d old) (E : Exa Z h a C) (L : (Jvm.Cond.lays C O nm d).before a0 Z = true ∨ ((Jvm.Cond.laysFinal C O nm d).before a0 Z = true ∧ y.cls = O ∧ y.name = "<init>")) (wi : (Jvm.Cond.instantiable C kk).before a0 Z = true) (ga : n0 ≤ a)
    (hd : decode code pc = .ok (.putfield idx, 3)) (hty : parseFieldDescriptor d = some ty) (hv : narrow ty v = v') (hf : fits ty v' = true) (hp : pc' = pc + 3)
    (w : ∀ T' h', St p l e R s m args below meth c Z n0 y code maxL ret T' h' cells slots → Wr h h' a (Jvm.RoadKit.slotOf Z O nm d) v' → WP p e below s n0 k n Q T' (mkF m pc' Ls S)) : WP p e below s n0 k n Q T (mkF m pc Ls (v :: .ref a :: S)) := by
  have X1 := X
  obtain ⟨⟨hx, hZ, hby, hml, hown, hnm, hret, hlk, h00⟩, hT, locs, X, N⟩ := X
  subst hp
  obtain ⟨T', h', X', e', W', st⟩ := putFN X hx hZ hown wl Via.refl hT F E (L.imp id fun q => ⟨q.1, q.2.1, hnm.trans q.2.2⟩) wi hty hv hf (g := mkF m pc Ls (v :: .ref a :: S)) rfl rfl (hb hby hd)
  exact (w T' h' ⟨X1.1, e', _, X', Fr.snoc X' N ga⟩ W').step st
theorem w_new (X : St p l e R s m args below meth c Z n0 y code maxL ret T h cells slots) {idx nn : Nat} {C : String} (wl : (Jvm.Cond.classLink y.cls idx C).before a0 Z = true) (wi : (Jvm.Cond.instantiable C nn).before a0 Z = true) (wz : (Jvm.Cond.initialized C).before a0 Z = true) (hd : decode code pc = .ok (.new idx, 3)) (hc : cells + 1 ≤ R.cells) (hl : slots + nn ≤ R.slots) (hp : pc' = pc + 3)
    (w : ∀ T' h' a, St p l e R s m args below meth c Z n0 y code maxL ret T' h' (cells + 1) (slots + nn) → a = h.size → n0 ≤ a → Ext h h' → Exa Z h' a C → (∀ {O f d : String} {ty : FieldType}, Laid Z a0 C O f d → parseFieldDescriptor d = some ty → Fld Z h' a O f d (defaultValue ty)) → WP p e below s n0 k n Q T' (mkF m pc' Ls (.ref a :: S))) : WP p e below s n0 k n Q T (mkF m pc Ls S) := by
  have X1 := X
  obtain ⟨⟨hx, hZ, hby, hml, hown, hnm, hret, hlk, h00⟩, hT, locs, X, N⟩ := X
  subst hp
  obtain ⟨T', h', X', e', E', A', D', -, st⟩ := newO X hx hZ hown wl wi wz hT (g := mkF m pc Ls S) rfl (hb hby hd) hc hl
  exact (w T' h' h.size ⟨X1.1, e', _, X', N⟩ rfl X1.n0le E' A' D').step st
theorem w_newarray (X : St p l e R s m args below meth c Z n0 y code maxL ret T h cells slots) {aty : ArrayType} {sz : Int32} (cap : Nat) (wa : (Jvm.Cond.arrayClass (newarray.typeOf aty)).before a0 Z = true) (hd : decode code pc = .ok (.newarray aty, 2)) (hz : ¬ sz < 0) (hcap : sz.toNatClampNeg ≤ cap) (hbig : cap * 8 ≤ 536870912) (hc : cells + 1 ≤ R.cells) (hl : slots + cap ≤ R.slots) (hp : pc' = pc + 2)
    (w : ∀ T' h' a cA, St p l e R s m args below meth c Z n0 y code maxL ret T' h' (cells + 1) (slots + cap) → a = h.size → n0 ≤ a → Ext h h' → Arr Z h' a (newA cA (newarray.typeOf aty) sz) (newarray.typeOf aty) → WP p e below s n0 k n Q T' (mkF m pc' Ls (.ref a :: S))) : WP p e below s n0 k n Q T (mkF m pc Ls (.int sz :: S)) := by
  have X1 := X
  obtain ⟨⟨hx, hZ, hby, hml, hown, hnm, hret, hlk, h00⟩, hT, locs, X, N⟩ := X
  subst hp
  obtain ⟨T', h', cA, X', e', E', A', st⟩ := newP X hx hZ wa hT (g := mkF m pc Ls (.int sz :: S)) rfl (hb hby hd) rfl hz hcap hbig hc hl
  exact (w T' h' h.size cA ⟨X1.1, e', _, X', N⟩ rfl X1.n0le E' A').step st
/-- the array at a: its kind, its length, what stands at each place -/
def AV (Z : State) (h : Heap) (a : Addr) (ty : FieldType) (n : Nat) (f : Nat → Value) : Prop := ∃ c : Cell, Arr Z h a c ty ∧ c.slots.size = n ∧ n < 2 ^ 31 ∧ ∀ i, i < n → c.slots[i]? = some (f i)
theorem AV.ext {a : Addr} {ty : FieldType} {n : Nat} {f : Nat → Value} {h' : Heap} (A : AV Z h a ty n f) (E : Ext h h') : AV Z h' a ty n f := by
  obtain ⟨c, A, r⟩ := A; exact ⟨c, A.ext E, r⟩
theorem AV.keep {a : Addr} {ty : FieldType} {n : Nat} {f : Nat → Value} {h' : Heap} {ws : List Addr} (A : AV Z h a ty n f) (K : Keep h h' ws) (q : a ∉ ws) : AV Z h' a ty n f := by
  obtain ⟨c, A, r⟩ := A; exact ⟨c, ⟨K.2.1 a c A.1 q, A.2⟩, r⟩
theorem AV.lt {a : Addr} {ty : FieldType} {n : Nat} {f : Nat → Value} (A : AV Z h a ty n f) : a < h.size := by
  obtain ⟨c, A, r⟩ := A; exact A.lt
theorem AV.len {a : Addr} {ty : FieldType} {n : Nat} {f : Nat → Value} (A : AV Z h a ty n f) : n < 2 ^ 31 := by
  obtain ⟨c, A, r⟩ := A; exact r.2.1
theorem AV.congr {a : Addr} {ty : FieldType} {n : Nat} {f g : Nat → Value} (A : AV Z h a ty n f) (q : ∀ i, i < n → f i = g i) : AV Z h a ty n g := by
  obtain ⟨c, A, r1, r2, r3⟩ := A; exact ⟨c, A, r1, r2, fun i hi => by rw [← q i hi]; exact r3 i hi⟩
theorem AV.new {a : Addr} {ty : FieldType} {sz : Int32} {cA : ClassId} {n : Nat} (A : Arr Z h a (newA cA ty sz) ty) (hn : sz.toInt = n) : AV Z h a ty n (fun _ => defaultValue ty) := by
  have q1 : sz.toNatClampNeg = n := by simp only [Int32.toNatClampNeg, hn]; omega
  have q2 := Int32.toInt_lt sz
  refine ⟨_, A, by rw [sz_new, q1], by omega, fun i hi => ?_⟩
  simp [newA, q1, hi]
theorem nat_at {j : Int32} {i : Nat} (hi : j.toInt = i) : j.toNatClampNeg = i := by simp only [Int32.toNatClampNeg, hi]; omega
theorem in_at {j : Int32} {i sz n : Nat} (hi : j.toInt = i) (hz : sz = n) (hlt : i < n) : ¬ (j < 0 ∨ sz ≤ j.toNatClampNeg) := by
  rw [nat_at hi, Int32.lt_iff_toInt_lt, hi]; simp only [Int32.reduceToInt]; omega
theorem AV.set {a : Addr} {ty : FieldType} {n i : Nat} {f : Nat → Value} {h' : Heap} {v : Value} (A : AV Z h a ty n f) (W : Wr h h' a i v) : AV Z h' a ty n (fun q => if q = i then v else f q) := by
  obtain ⟨c, A, r1, r2, r3⟩ := A
  obtain ⟨cell, w1, w2, w3, w4⟩ := id W
  have e1 : cell = c := by have := w1.symm.trans A.1; exact Option.some.inj this
  subst e1
  refine ⟨_, A.same W, by rw [sz_set]; exact r1, r2, fun q hq => ?_⟩
  by_cases e : q = i
  · subst e; simp [Cell.setSlot, w3]
  · have e' : ¬ i = q := fun u => e u.symm
    simp only [e, if_false, Cell.setSlot]
    rw [Array.getElem?_setIfInBounds_ne e']; exact r3 q hq
abbrev AI (Z : State) (h : Heap) (a : Addr) (ty : FieldType) (n : Nat) (g : Nat → Int32) : Prop := AV Z h a ty n (fun q => .int (g q))
abbrev AJ (Z : State) (h : Heap) (a : Addr) (n : Nat) (g : Nat → Int64) : Prop := AV Z h a .long n (fun q => .long (g q))
theorem AI.new {a : Addr} {ty : FieldType} {sz : Int32} {cA : ClassId} {n : Nat} (A : Arr Z h a (newA cA ty sz) ty) (hn : sz.toInt = n) (hd : defaultValue ty = .int 0) : AI Z h a ty n (fun _ => 0) := by
  have q := AV.new A hn; rw [hd] at q; exact q
theorem AJ.new {a : Addr} {sz : Int32} {cA : ClassId} {n : Nat} (A : Arr Z h a (newA cA .long sz) .long) (hn : sz.toInt = n) : AJ Z h a n (fun _ => 0) := AV.new A hn
theorem AI.set {a : Addr} {ty : FieldType} {n i : Nat} {g : Nat → Int32} {h' : Heap} {x : Int32} (A : AI Z h a ty n g) (W : Wr h h' a i (.int x)) : AI Z h' a ty n (fun q => if q = i then x else g q) :=
  (AV.set A W).congr fun q _ => by by_cases e : q = i <;> simp [e]
theorem AJ.set {a : Addr} {n i : Nat} {g : Nat → Int64} {h' : Heap} {x : Int64} (A : AJ Z h a n g) (W : Wr h h' a i (.long x)) : AJ Z h' a n (fun q => if q = i then x else g q) :=
  (AV.set A W).congr fun q _ => by by_cases e : q = i <;> simp [e]
theorem AI.congr {a : Addr} {ty : FieldType} {n : Nat} {f g : Nat → Int32} (A : AI Z h a ty n f) (q : ∀ i, i < n → f i = g i) : AI Z h a ty n g := AV.congr A fun i hi => by rw [q i hi]
theorem AJ.congr {a : Addr} {n : Nat} {f g : Nat → Int64} (A : AJ Z h a n f) (q : ∀ i, i < n → f i = g i) : AJ Z h a n g := AV.congr A fun i hi => by rw [q i hi]
theorem w_iaload (X : St p l e R s m args below meth c Z n0 y code maxL ret T h cells slots) {a : Addr} {N : Nat} {g : Nat → Int32} {j : Int32} {i : Nat} {v : Int32} (A : AI Z h a .int N g) (hd : decode code pc = .ok (.iaload, 1)) (hi : j.toInt = i) (hlt : i < N) (hv : g i = v) (hp : pc' = pc + 1) (w : WP p e below s n0 k n Q T (mkF m pc' Ls (.int v :: S))) : WP p e below s n0 k n Q T (mkF m pc Ls (.int j :: .ref a :: S)) := by
  obtain ⟨⟨hx, hZ, hby, hml, hown, hnm, hret, hlk, h00⟩, hT, locs, X, N⟩ := X
  subst hp hv
  obtain ⟨cl, A, r1, r2, r3⟩ := A
  exact w.step fun t kk => X.iaload hx (j := j) (v := .int (g i)) (by rw [hT]; exact A.1) (State.isArrayOf_alike hZ.alike A.2.1) A.2.2 (in_at hi r1 hlt) (by rw [nat_at hi]; exact r3 i hlt) (g := mkF m pc Ls (.int j :: .ref a :: S)) rfl rfl (hb hby hd) t kk
theorem w_laload (X : St p l e R s m args below meth c Z n0 y code maxL ret T h cells slots) {a : Addr} {N : Nat} {g : Nat → Int64} {j : Int32} {i : Nat} {v : Int64} (A : AJ Z h a N g) (hd : decode code pc = .ok (.laload, 1)) (hi : j.toInt = i) (hlt : i < N) (hv : g i = v) (hp : pc' = pc + 1) (w : WP p e below s n0 k n Q T (mkF m pc' Ls (.long v :: S))) : WP p e below s n0 k n Q T (mkF m pc Ls (.int j :: .ref a :: S)) := by
  obtain ⟨⟨hx, hZ, hby, hml, hown, hnm, hret, hlk, h00⟩, hT, locs, X, N⟩ := X
  subst hp hv
  obtain ⟨cl, A, r1, r2, r3⟩ := A
  exact w.step fun t kk => X.laload hx (j := j) (v := .long (g i)) (by rw [hT]; exact A.1) (State.isArrayOf_alike hZ.alike A.2.1) A.2.2 (in_at hi r1 hlt) (by rw [nat_at hi]; exact r3 i hlt) (g := mkF m pc Ls (.int j :: .ref a :: S)) rfl rfl (hb hby hd) t kk
theorem w_caload (X : St p l e R s m args below meth c Z n0 y code maxL ret T h cells slots) {a : Addr} {N : Nat} {g : Nat → Int32} {j : Int32} {i : Nat} {v : Int32} (A : AI Z h a .char N g) (hd : decode code pc = .ok (.caload, 1)) (hi : j.toInt = i) (hlt : i < N) (hv : g i = v) (hp : pc' = pc + 1) (w : WP p e below s n0 k n Q T (mkF m pc' Ls (.int v :: S))) : WP p e below s n0 k n Q T (mkF m pc Ls (.int j :: .ref a :: S)) := by
  obtain ⟨⟨hx, hZ, hby, hml, hown, hnm, hret, hlk, h00⟩, hT, locs, X, N⟩ := X
  subst hp hv
  obtain ⟨cl, A, r1, r2, r3⟩ := A
  exact w.step fun t kk => X.caload hx (j := j) (v := .int (g i)) (by rw [hT]; exact A.1) (State.isArrayOf_alike hZ.alike A.2.1) A.2.2 (in_at hi r1 hlt) (by rw [nat_at hi]; exact r3 i hlt) (g := mkF m pc Ls (.int j :: .ref a :: S)) rfl rfl (hb hby hd) t kk
theorem w_baload (X : St p l e R s m args below meth c Z n0 y code maxL ret T h cells slots) {a : Addr} {N : Nat} {g : Nat → Int32} {j : Int32} {i : Nat} {v : Int32} (A : AI Z h a .byte N g) (hd : decode code pc = .ok (.baload, 1)) (hi : j.toInt = i) (hlt : i < N) (hv : g i = v) (hp : pc' = pc + 1) (w : WP p e below s n0 k n Q T (mkF m pc' Ls (.int v :: S))) : WP p e below s n0 k n Q T (mkF m pc Ls (.int j :: .ref a :: S)) := by
  obtain ⟨⟨hx, hZ, hby, hml, hown, hnm, hret, hlk, h00⟩, hT, locs, X, N⟩ := X
  subst hp hv
  obtain ⟨cl, A, r1, r2, r3⟩ := A
  exact w.step fun t kk => X.baloadBytes hx (j := j) (v := .int (g i)) (by rw [hT]; exact A.1) (State.isArrayOf_alike hZ.alike A.2.1) A.2.2 (in_at hi r1 hlt) (by rw [nat_at hi]; exact r3 i hlt) (g := mkF m pc Ls (.int j :: .ref a :: S)) rfl rfl (hb hby hd) t kk
theorem w_arraylength (X : St p l e R s m args below meth c Z n0 y code maxL ret T h cells slots) {a : Addr} {ty : FieldType} {N : Nat} {f : Nat → Value} {z : Int32} (A : AV Z h a ty N f) (hd : decode code pc = .ok (.arraylength, 1)) (hz : N.toInt32 = z) (hp : pc' = pc + 1) (w : WP p e below s n0 k n Q T (mkF m pc' Ls (.int z :: S))) : WP p e below s n0 k n Q T (mkF m pc Ls (.ref a :: S)) := by
  obtain ⟨⟨hx, hZ, hby, hml, hown, hnm, hret, hlk, h00⟩, hT, locs, X, N⟩ := X
  subst hp hz
  obtain ⟨cl, A, r1, r2, r3⟩ := A
  refine w.step fun t kk => X.arraylength hx (by rw [hT]; exact A.1) (State.isArrayOf_alike hZ.alike A.2.1) (g := mkF m pc Ls (.ref a :: S)) rfl rfl (hb hby hd) t ?_
  rw [r1]; exact kk
theorem w_iastore (X : St p l e R s m args below meth c Z n0 y code maxL ret T h cells slots) {a : Addr} {N : Nat} {g : Nat → Int32} {j : Int32} {i : Nat} {x x' : Int32} (A : AI Z h a .int N g) (ga : n0 ≤ a) (hd : decode code pc = .ok (.iastore, 1)) (hi : j.toInt = i) (hlt : i < N) (hx' : x = x') (hp : pc' = pc + 1) (w : ∀ T' h', St p l e R s m args below meth c Z n0 y code maxL ret T' h' cells slots → Keep h h' [a] → AI Z h' a .int N (fun q => if q = i then x' else g q) → WP p e below s n0 k n Q T' (mkF m pc' Ls S)) : WP p e below s n0 k n Q T (mkF m pc Ls (.int x :: .int j :: .ref a :: S)) := by
  have X1 := X
  have A1 := A
  obtain ⟨⟨hx, hZ, hby, hml, hown, hnm, hret, hlk, h00⟩, hT, locs, X, N⟩ := X
  subst hp hx'
  obtain ⟨cl, A, r1, r2, r3⟩ := A
  obtain ⟨T', h', X', e', W', st⟩ := stI X hx hZ hT A (j := j) (x := x) (in_at hi r1 hlt) (g := mkF m pc Ls (.int x :: .int j :: .ref a :: S)) rfl rfl (hb hby hd)
  have N' := Fr.snoc X' N ga
  rw [nat_at hi] at W'
  exact (w T' h' ⟨X1.1, e', _, X', N'⟩ (Keep.of_wr W') (AI.set A1 W')).step st
theorem w_lastore (X : St p l e R s m args below meth c Z n0 y code maxL ret T h cells slots) {a : Addr} {N : Nat} {g : Nat → Int64} {j : Int32} {i : Nat} {x x' : Int64} (A : AJ Z h a N g) (ga : n0 ≤ a) (hd : decode code pc = .ok (.lastore, 1)) (hi : j.toInt = i) (hlt : i < N) (hx' : x = x') (hp : pc' = pc + 1) (w : ∀ T' h', St p l e R s m args below meth c Z n0 y code maxL ret T' h' cells slots → Keep h h' [a] → AJ Z h' a N (fun q => if q = i then x' else g q) → WP p e below s n0 k n Q T' (mkF m pc' Ls S)) : WP p e below s n0 k n Q T (mkF m pc Ls (.long x :: .int j :: .ref a :: S)) := by
  have X1 := X
  have A1 := A
  obtain ⟨⟨hx, hZ, hby, hml, hown, hnm, hret, hlk, h00⟩, hT, locs, X, N⟩ := X
  subst hp hx'
  obtain ⟨cl, A, r1, r2, r3⟩ := A
  obtain ⟨T', h', X', e', W', st⟩ := stJ X hx hZ hT A (j := j) (x := x) (in_at hi r1 hlt) (g := mkF m pc Ls (.long x :: .int j :: .ref a :: S)) rfl rfl (hb hby hd)
  have N' := Fr.snoc X' N ga
  rw [nat_at hi] at W'
  exact (w T' h' ⟨X1.1, e', _, X', N'⟩ (Keep.of_wr W') (AJ.set A1 W')).step st
theorem w_castore (X : St p l e R s m args below meth c Z n0 y code maxL ret T h cells slots) {a : Addr} {N : Nat} {g : Nat → Int32} {j : Int32} {i : Nat} {x x' : Int32} (A : AI Z h a .char N g) (ga : n0 ≤ a) (hd : decode code pc = .ok (.castore, 1)) (hi : j.toInt = i) (hlt : i < N) (hx' : nar .char x = x') (hp : pc' = pc + 1) (w : ∀ T' h', St p l e R s m args below meth c Z n0 y code maxL ret T' h' cells slots → Keep h h' [a] → AI Z h' a .char N (fun q => if q = i then x' else g q) → WP p e below s n0 k n Q T' (mkF m pc' Ls S)) : WP p e below s n0 k n Q T (mkF m pc Ls (.int x :: .int j :: .ref a :: S)) := by
  have X1 := X
  have A1 := A
  obtain ⟨⟨hx, hZ, hby, hml, hown, hnm, hret, hlk, h00⟩, hT, locs, X, N⟩ := X
  subst hp hx'
  obtain ⟨cl, A, r1, r2, r3⟩ := A
  obtain ⟨T', h', X', e', W', st⟩ := stC X hx hZ hT A (j := j) (x := x) (in_at hi r1 hlt) (g := mkF m pc Ls (.int x :: .int j :: .ref a :: S)) rfl rfl (hb hby hd)
  have N' := Fr.snoc X' N ga
  rw [nat_at hi] at W'
  exact (w T' h' ⟨X1.1, e', _, X', N'⟩ (Keep.of_wr W') (AI.set A1 W')).step st
theorem w_bastore (X : St p l e R s m args below meth c Z n0 y code maxL ret T h cells slots) {a : Addr} {N : Nat} {g : Nat → Int32} {j : Int32} {i : Nat} {x x' : Int32} (A : AI Z h a .byte N g) (ga : n0 ≤ a) (hd : decode code pc = .ok (.bastore, 1)) (hi : j.toInt = i) (hlt : i < N) (hx' : nar .byte x = x') (hp : pc' = pc + 1) (w : ∀ T' h', St p l e R s m args below meth c Z n0 y code maxL ret T' h' cells slots → Keep h h' [a] → AI Z h' a .byte N (fun q => if q = i then x' else g q) → WP p e below s n0 k n Q T' (mkF m pc' Ls S)) : WP p e below s n0 k n Q T (mkF m pc Ls (.int x :: .int j :: .ref a :: S)) := by
  have X1 := X
  have A1 := A
  obtain ⟨⟨hx, hZ, hby, hml, hown, hnm, hret, hlk, h00⟩, hT, locs, X, N⟩ := X
  subst hp hx'
  obtain ⟨cl, A, r1, r2, r3⟩ := A
  obtain ⟨T', h', X', e', W', st⟩ := stB X hx hZ hT A (j := j) (x := x) (in_at hi r1 hlt) (g := mkF m pc Ls (.int x :: .int j :: .ref a :: S)) rfl rfl (hb hby hd)
  have N' := Fr.snoc X' N ga
  rw [nat_at hi] at W'
  exact (w T' h' ⟨X1.1, e', _, X', N'⟩ (Keep.of_wr W') (AI.set A1 W')).step st
end Steps
end Jvm.Own
namespace Jvm.Pilot.@@N@@
open Jvm Jvm.ClassFile Sem Op Lib Jvm.Free Jvm.Stand Jvm.LawKit Jvm.RoadKit Bundle Jvm.Own Jvm.Pilot.@@N@@.Jvm.D
theorem tw0 {a0 : Array Value} {Z : State} (hw : ∀ d ∈ tables_1, d.before a0 Z = true) : (Jvm.Cond.constant "com/example/weft/weft/consensus/BitSpanContainsPinLaw" (7 : Nat) (2147483647 : Int32)).before a0 Z = true := hw _ (List.mem_of_getElem? (i := 0) rfl)
theorem tw1 {a0 : Array Value} {Z : State} (hw : ∀ d ∈ tables_1, d.before a0 Z = true) : (Jvm.Cond.constant "com/example/weft/weft/consensus/BitSpanContainsPinLaw" (8 : Nat) (33554429 : Int32)).before a0 Z = true := hw _ (List.mem_of_getElem? (i := 1) rfl)
theorem tw2 {a0 : Array Value} {Z : State} (hw : ∀ d ∈ tables_1, d.before a0 Z = true) : (Jvm.Cond.arrayClass Jvm.ClassFile.FieldType.long).before a0 Z = true := hw _ (List.mem_of_getElem? (i := 2) rfl)
theorem tw3 {a0 : Array Value} {Z : State} (hw : ∀ d ∈ tables_1, d.before a0 Z = true) : (Jvm.Cond.classLink "com/example/weft/weft/consensus/BitSpanContainsPinLaw" (9 : Nat) "com/example/weft/weft/consensus/BitSpan").before a0 Z = true := hw _ (List.mem_of_getElem? (i := 3) rfl)
theorem tw4 {a0 : Array Value} {Z : State} (hw : ∀ d ∈ tables_1, d.before a0 Z = true) : (Jvm.Cond.instantiable "com/example/weft/weft/consensus/BitSpan" (2 : Nat)).before a0 Z = true := hw _ (List.mem_of_getElem? (i := 4) rfl)
theorem tw5 {a0 : Array Value} {Z : State} (hw : ∀ d ∈ tables_1, d.before a0 Z = true) : (Jvm.Cond.initialized "com/example/weft/weft/consensus/BitSpan").before a0 Z = true := hw _ (List.mem_of_getElem? (i := 5) rfl)
theorem tw6 {a0 : Array Value} {Z : State} (hw : ∀ d ∈ tables_1, d.before a0 Z = true) : (Jvm.Cond.methodLink "com/example/weft/weft/consensus/BitSpanContainsPinLaw" (11 : Nat) ({ cls := "com/example/weft/weft/consensus/BitSpan", name := "<init>", desc := "(I[J)V" } : Jvm.MethodName)).before a0 Z = true := hw _ (List.mem_of_getElem? (i := 6) rfl)
theorem tw7 {a0 : Array Value} {Z : State} (hw : ∀ d ∈ tables_1, d.before a0 Z = true) : (Jvm.Cond.instanceMethod ({ cls := "com/example/weft/weft/consensus/BitSpan", name := "<init>", desc := "(I[J)V" } : Jvm.MethodName)).before a0 Z = true := hw _ (List.mem_of_getElem? (i := 7) rfl)
theorem tw8 {a0 : Array Value} {Z : State} (hw : ∀ d ∈ tables_1, d.before a0 Z = true) : (Jvm.Cond.code ({ cls := "com/example/weft/weft/consensus/BitSpan", name := "<init>", desc := "(I[J)V" } : Jvm.MethodName) prog_7_method_1_code (3 : Nat) (Option.none : Option Jvm.ClassFile.FieldType)).before a0 Z = true := hw _ (List.mem_of_getElem? (i := 8) rfl)
theorem tw9 {a0 : Array Value} {Z : State} (hw : ∀ d ∈ tables_1, d.before a0 Z = true) : (Jvm.Cond.methodLink "com/example/weft/weft/consensus/BitSpan" (1 : Nat) ({ cls := "java/lang/Object", name := "<init>", desc := "()V" } : Jvm.MethodName)).before a0 Z = true := hw _ (List.mem_of_getElem? (i := 9) rfl)
theorem tw10 {a0 : Array Value} {Z : State} (hw : ∀ d ∈ tables_1, d.before a0 Z = true) : (Jvm.Cond.instanceMethod ({ cls := "java/lang/Object", name := "<init>", desc := "()V" } : Jvm.MethodName)).before a0 Z = true := hw _ (List.mem_of_getElem? (i := 10) rfl)
theorem tw11 {a0 : Array Value} {Z : State} (hw : ∀ d ∈ tables_1, d.before a0 Z = true) : (Jvm.Cond.code ({ cls := "java/lang/Object", name := "<init>", desc := "()V" } : Jvm.MethodName) object_method_1_code (1 : Nat) (Option.none : Option Jvm.ClassFile.FieldType)).before a0 Z = true := hw _ (List.mem_of_getElem? (i := 11) rfl)
theorem tw12 {a0 : Array Value} {Z : State} (hw : ∀ d ∈ tables_1, d.before a0 Z = true) : (Jvm.Cond.fieldLink "com/example/weft/weft/consensus/BitSpan" (7 : Nat) "com/example/weft/weft/consensus/BitSpan" "first" "I").before a0 Z = true := hw _ (List.mem_of_getElem? (i := 12) rfl)
theorem tw13 {a0 : Array Value} {Z : State} (hw : ∀ d ∈ tables_1, d.before a0 Z = true) : (Jvm.Cond.laysFinal "com/example/weft/weft/consensus/BitSpan" "com/example/weft/weft/consensus/BitSpan" "first" "I").before a0 Z = true := hw _ (List.mem_of_getElem? (i := 13) rfl)
theorem tw14 {a0 : Array Value} {Z : State} (hw : ∀ d ∈ tables_1, d.before a0 Z = true) : (Jvm.Cond.fieldLink "com/example/weft/weft/consensus/BitSpan" (13 : Nat) "com/example/weft/weft/consensus/BitSpan" "words" "[J").before a0 Z = true := hw _ (List.mem_of_getElem? (i := 14) rfl)
theorem tw15 {a0 : Array Value} {Z : State} (hw : ∀ d ∈ tables_1, d.before a0 Z = true) : (Jvm.Cond.laysFinal "com/example/weft/weft/consensus/BitSpan" "com/example/weft/weft/consensus/BitSpan" "words" "[J").before a0 Z = true := hw _ (List.mem_of_getElem? (i := 15) rfl)
theorem tw16 {a0 : Array Value} {Z : State} (hw : ∀ d ∈ tables_1, d.before a0 Z = true) : (Jvm.Cond.methodLink "com/example/weft/weft/consensus/BitSpanContainsPinLaw" (14 : Nat) ({ cls := "com/example/weft/weft/consensus/BitSpan", name := "contains", desc := "(I)Z" } : Jvm.MethodName)).before a0 Z = true := hw _ (List.mem_of_getElem? (i := 16) rfl)
theorem tw17 {a0 : Array Value} {Z : State} (hw : ∀ d ∈ tables_1, d.before a0 Z = true) : (Jvm.Cond.declares ({ cls := "com/example/weft/weft/consensus/BitSpan", name := "contains", desc := "(I)Z" } : Jvm.MethodName)).before a0 Z = true := hw _ (List.mem_of_getElem? (i := 17) rfl)
theorem tw18 {a0 : Array Value} {Z : State} (hw : ∀ d ∈ tables_1, d.before a0 Z = true) : (Jvm.Cond.instanceMethod ({ cls := "com/example/weft/weft/consensus/BitSpan", name := "contains", desc := "(I)Z" } : Jvm.MethodName)).before a0 Z = true := hw _ (List.mem_of_getElem? (i := 18) rfl)
theorem tw19 {a0 : Array Value} {Z : State} (hw : ∀ d ∈ tables_1, d.before a0 Z = true) : (Jvm.Cond.selects "com/example/weft/weft/consensus/BitSpan" ({ cls := "com/example/weft/weft/consensus/BitSpan", name := "contains", desc := "(I)Z" } : Jvm.MethodName) ({ cls := "com/example/weft/weft/consensus/BitSpan", name := "contains", desc := "(I)Z" } : Jvm.MethodName)).before a0 Z = true := hw _ (List.mem_of_getElem? (i := 19) rfl)
theorem tw20 {a0 : Array Value} {Z : State} (hw : ∀ d ∈ tables_1, d.before a0 Z = true) : (Jvm.Cond.code ({ cls := "com/example/weft/weft/consensus/BitSpan", name := "contains", desc := "(I)Z" } : Jvm.MethodName) prog_7_method_3_code (3 : Nat) (Option.some Jvm.ClassFile.FieldType.boolean)).before a0 Z = true := hw _ (List.mem_of_getElem? (i := 20) rfl)
theorem tw21 {a0 : Array Value} {Z : State} (hw : ∀ d ∈ tables_1, d.before a0 Z = true) : (Jvm.Cond.methodLink "com/example/weft/weft/consensus/BitSpanContainsPinLaw" (18 : Nat) ({ cls := "com/example/weft/weft/consensus/BitSpanContainsPinLaw", name := "expected", desc := "(IIJJJI)Z" } : Jvm.MethodName)).before a0 Z = true := hw _ (List.mem_of_getElem? (i := 21) rfl)
theorem tw22 {a0 : Array Value} {Z : State} (hw : ∀ d ∈ tables_1, d.before a0 Z = true) : (Jvm.Cond.static ({ cls := "com/example/weft/weft/consensus/BitSpanContainsPinLaw", name := "expected", desc := "(IIJJJI)Z" } : Jvm.MethodName)).before a0 Z = true := hw _ (List.mem_of_getElem? (i := 22) rfl)
theorem tw23 {a0 : Array Value} {Z : State} (hw : ∀ d ∈ tables_1, d.before a0 Z = true) : (Jvm.Cond.initialized "com/example/weft/weft/consensus/BitSpanContainsPinLaw").before a0 Z = true := hw _ (List.mem_of_getElem? (i := 23) rfl)
theorem tw24 {a0 : Array Value} {Z : State} (hw : ∀ d ∈ tables_1, d.before a0 Z = true) : (Jvm.Cond.code ({ cls := "com/example/weft/weft/consensus/BitSpanContainsPinLaw", name := "expected", desc := "(IIJJJI)Z" } : Jvm.MethodName) method_3_code (14 : Nat) (Option.some Jvm.ClassFile.FieldType.boolean)).before a0 Z = true := hw _ (List.mem_of_getElem? (i := 24) rfl)
theorem d1_0 : decode prog_7_method_1_code 0 = .ok (.aload_n 0, 1) := by decide +kernel
theorem d1_1 : decode prog_7_method_1_code 1 = .ok (.invokespecial 1, 3) := by decide +kernel
theorem d1_4 : decode prog_7_method_1_code 4 = .ok (.aload_n 0, 1) := by decide +kernel
theorem d1_5 : decode prog_7_method_1_code 5 = .ok (.iload_n 1, 1) := by decide +kernel
theorem d1_6 : decode prog_7_method_1_code 6 = .ok (.putfield 7, 3) := by decide +kernel
theorem d1_9 : decode prog_7_method_1_code 9 = .ok (.aload_n 0, 1) := by decide +kernel
theorem d1_10 : decode prog_7_method_1_code 10 = .ok (.aload_n 2, 1) := by decide +kernel
theorem d1_11 : decode prog_7_method_1_code 11 = .ok (.putfield 13, 3) := by decide +kernel
theorem d1_14 : decode prog_7_method_1_code 14 = .ok (.return_, 1) := by decide +kernel
theorem d3_0 : decode prog_7_method_3_code 0 = .ok (.iload_n 1, 1) := by decide +kernel
theorem d3_1 : decode prog_7_method_3_code 1 = .ok (.bipush 6, 2) := by decide +kernel
theorem d3_3 : decode prog_7_method_3_code 3 = .ok (.iushr, 1) := by decide +kernel
theorem d3_4 : decode prog_7_method_3_code 4 = .ok (.aload_n 0, 1) := by decide +kernel
theorem d3_5 : decode prog_7_method_3_code 5 = .ok (.getfield 7, 3) := by decide +kernel
theorem d3_8 : decode prog_7_method_3_code 8 = .ok (.isub, 1) := by decide +kernel
theorem d3_9 : decode prog_7_method_3_code 9 = .ok (.istore_n 2, 1) := by decide +kernel
theorem d3_10 : decode prog_7_method_3_code 10 = .ok (.iload_n 2, 1) := by decide +kernel
theorem d3_11 : decode prog_7_method_3_code 11 = .ok (.ifCond .lt 31, 3) := by decide +kernel
theorem d3_14 : decode prog_7_method_3_code 14 = .ok (.iload_n 2, 1) := by decide +kernel
theorem d3_15 : decode prog_7_method_3_code 15 = .ok (.aload_n 0, 1) := by decide +kernel
theorem d3_16 : decode prog_7_method_3_code 16 = .ok (.getfield 13, 3) := by decide +kernel
theorem d3_19 : decode prog_7_method_3_code 19 = .ok (.arraylength, 1) := by decide +kernel
theorem d3_20 : decode prog_7_method_3_code 20 = .ok (.if_icmp .ge 22, 3) := by decide +kernel
theorem d3_23 : decode prog_7_method_3_code 23 = .ok (.aload_n 0, 1) := by decide +kernel
theorem d3_24 : decode prog_7_method_3_code 24 = .ok (.getfield 13, 3) := by decide +kernel
theorem d3_27 : decode prog_7_method_3_code 27 = .ok (.iload_n 2, 1) := by decide +kernel
theorem d3_28 : decode prog_7_method_3_code 28 = .ok (.laload, 1) := by decide +kernel
theorem d3_29 : decode prog_7_method_3_code 29 = .ok (.lconst 1, 1) := by decide +kernel
theorem d3_30 : decode prog_7_method_3_code 30 = .ok (.iload_n 1, 1) := by decide +kernel
theorem d3_31 : decode prog_7_method_3_code 31 = .ok (.lshl, 1) := by decide +kernel
theorem d3_32 : decode prog_7_method_3_code 32 = .ok (.land, 1) := by decide +kernel
theorem d3_33 : decode prog_7_method_3_code 33 = .ok (.lconst 0, 1) := by decide +kernel
theorem d3_34 : decode prog_7_method_3_code 34 = .ok (.lcmp, 1) := by decide +kernel
theorem d3_35 : decode prog_7_method_3_code 35 = .ok (.ifCond .eq 7, 3) := by decide +kernel
theorem d3_38 : decode prog_7_method_3_code 38 = .ok (.iconst 1, 1) := by decide +kernel
theorem d3_39 : decode prog_7_method_3_code 39 = .ok (.goto 4, 3) := by decide +kernel
theorem d3_42 : decode prog_7_method_3_code 42 = .ok (.iconst 0, 1) := by decide +kernel
theorem d3_43 : decode prog_7_method_3_code 43 = .ok (.ireturn, 1) := by decide +kernel
theorem d4_0 : decode method_3_code 0 = .ok (.iload 8, 2) := by decide +kernel
theorem d4_2 : decode method_3_code 2 = .ok (.ifCond .ge 5, 3) := by decide +kernel
theorem d4_5 : decode method_3_code 5 = .ok (.iconst 0, 1) := by decide +kernel
theorem d4_6 : decode method_3_code 6 = .ok (.ireturn, 1) := by decide +kernel
theorem d4_7 : decode method_3_code 7 = .ok (.iload 8, 2) := by decide +kernel
theorem d4_9 : decode method_3_code 9 = .ok (.bipush 64, 2) := by decide +kernel
theorem d4_11 : decode method_3_code 11 = .ok (.idiv, 1) := by decide +kernel
theorem d4_12 : decode method_3_code 12 = .ok (.istore 9, 2) := by decide +kernel
theorem d4_14 : decode method_3_code 14 = .ok (.iload 8, 2) := by decide +kernel
theorem d4_16 : decode method_3_code 16 = .ok (.bipush 64, 2) := by decide +kernel
theorem d4_18 : decode method_3_code 18 = .ok (.irem, 1) := by decide +kernel
theorem d4_19 : decode method_3_code 19 = .ok (.istore 10, 2) := by decide +kernel
theorem d4_21 : decode method_3_code 21 = .ok (.iload 9, 2) := by decide +kernel
theorem d4_23 : decode method_3_code 23 = .ok (.iload_n 0, 1) := by decide +kernel
theorem d4_24 : decode method_3_code 24 = .ok (.isub, 1) := by decide +kernel
theorem d4_25 : decode method_3_code 25 = .ok (.istore 11, 2) := by decide +kernel
theorem d4_27 : decode method_3_code 27 = .ok (.iload 11, 2) := by decide +kernel
theorem d4_29 : decode method_3_code 29 = .ok (.ifCond .lt 9, 3) := by decide +kernel
theorem d4_32 : decode method_3_code 32 = .ok (.iload 11, 2) := by decide +kernel
theorem d4_34 : decode method_3_code 34 = .ok (.iload_n 1, 1) := by decide +kernel
theorem d4_35 : decode method_3_code 35 = .ok (.if_icmp .lt 5, 3) := by decide +kernel
theorem d4_38 : decode method_3_code 38 = .ok (.iconst 0, 1) := by decide +kernel
theorem d4_39 : decode method_3_code 39 = .ok (.ireturn, 1) := by decide +kernel
theorem d4_40 : decode method_3_code 40 = .ok (.iload 11, 2) := by decide +kernel
theorem d4_42 : decode method_3_code 42 = .ok (.ifCond .ne 9, 3) := by decide +kernel
theorem d4_45 : decode method_3_code 45 = .ok (.lload_n 2, 1) := by decide +kernel
theorem d4_46 : decode method_3_code 46 = .ok (.lstore 12, 2) := by decide +kernel
theorem d4_48 : decode method_3_code 48 = .ok (.goto 20, 3) := by decide +kernel
theorem d4_51 : decode method_3_code 51 = .ok (.iload 11, 2) := by decide +kernel
theorem d4_53 : decode method_3_code 53 = .ok (.iconst 1, 1) := by decide +kernel
theorem d4_54 : decode method_3_code 54 = .ok (.if_icmp .ne 10, 3) := by decide +kernel
theorem d4_57 : decode method_3_code 57 = .ok (.lload 4, 2) := by decide +kernel
theorem d4_59 : decode method_3_code 59 = .ok (.lstore 12, 2) := by decide +kernel
theorem d4_61 : decode method_3_code 61 = .ok (.goto 7, 3) := by decide +kernel
theorem d4_64 : decode method_3_code 64 = .ok (.lload 6, 2) := by decide +kernel
theorem d4_66 : decode method_3_code 66 = .ok (.lstore 12, 2) := by decide +kernel
theorem d4_68 : decode method_3_code 68 = .ok (.lload 12, 2) := by decide +kernel
theorem d4_70 : decode method_3_code 70 = .ok (.iload 10, 2) := by decide +kernel
theorem d4_72 : decode method_3_code 72 = .ok (.lushr, 1) := by decide +kernel
theorem d4_73 : decode method_3_code 73 = .ok (.lconst 1, 1) := by decide +kernel
theorem d4_74 : decode method_3_code 74 = .ok (.land, 1) := by decide +kernel
theorem d4_75 : decode method_3_code 75 = .ok (.lconst 1, 1) := by decide +kernel
theorem d4_76 : decode method_3_code 76 = .ok (.lcmp, 1) := by decide +kernel
theorem d4_77 : decode method_3_code 77 = .ok (.ifCond .ne 7, 3) := by decide +kernel
theorem d4_80 : decode method_3_code 80 = .ok (.iconst 1, 1) := by decide +kernel
theorem d4_81 : decode method_3_code 81 = .ok (.goto 4, 3) := by decide +kernel
theorem d4_84 : decode method_3_code 84 = .ok (.iconst 0, 1) := by decide +kernel
theorem d4_85 : decode method_3_code 85 = .ok (.ireturn, 1) := by decide +kernel
theorem pd0 : parseMethodDescriptor "(I[J)V" = some ⟨[.int, (.array .long)], none⟩ := by decide +kernel
theorem pd1 : parseMethodDescriptor "(I)Z" = some ⟨[.int], some .boolean⟩ := by decide +kernel
theorem pd2 : parseMethodDescriptor "(IIJJJI)Z" = some ⟨[.int, .int, .long, .long, .long, .int], some .boolean⟩ := by decide +kernel
def Bs (Z : State) (h : Heap) (a : Addr) (v0 v1 : Value) : Prop := Exa Z h a "com/example/weft/weft/consensus/BitSpan" ∧ Fld Z h a "com/example/weft/weft/consensus/BitSpan" "first" "I" v0 ∧ Fld Z h a "com/example/weft/weft/consensus/BitSpan" "words" "[J" v1
theorem Bs.exa {Z : State} {h : Heap} {a : Addr} {v0 v1 : Value} (O : Bs Z h a v0 v1) : Exa Z h a "com/example/weft/weft/consensus/BitSpan" := O.1
theorem Bs.lt {Z : State} {h : Heap} {a : Addr} {v0 v1 : Value} (O : Bs Z h a v0 v1) : a < h.size := O.1.lt
theorem Bs.ext {Z : State} {h h' : Heap} {a : Addr} {v0 v1 : Value} (O : Bs Z h a v0 v1) (X : Ext h h') : Bs Z h' a v0 v1 := by
  obtain ⟨E, F0, F1⟩ := O; exact ⟨E.ext X, F0.ext X, F1.ext X⟩
theorem Bs.keep {Z : State} {h h' : Heap} {a : Addr} {ws : List Addr} {v0 v1 : Value} (O : Bs Z h a v0 v1) (K : Keep h h' ws) (q : a ∉ ws) : Bs Z h' a v0 v1 := by
  obtain ⟨E, F0, F1⟩ := O; exact ⟨E.keep K, F0.keep K q, F1.keep K q⟩
theorem Bs.get_first {Z : State} {h : Heap} {a : Addr} {v0 v1 : Value} (O : Bs Z h a v0 v1) : Fld Z h a "com/example/weft/weft/consensus/BitSpan" "first" "I" v0 := by
  obtain ⟨E, F0, F1⟩ := O; exact F0
theorem Bs.put_first {a0 : Array Value} {Z : State} (hw : ∀ d ∈ tables_1, d.before a0 Z = true) {h h' : Heap} {a : Addr} {v0 v1 w : Value} (O : Bs Z h a v0 v1) (W : Wr h h' a (Jvm.RoadKit.slotOf Z "com/example/weft/weft/consensus/BitSpan" "first" "I") w) : Bs Z h' a w v1 := by
  obtain ⟨E, F0, F1⟩ := O; exact ⟨E.wr W, F0.same W, F1.other W (Or.inr (slot_ne (Or.inr (tw15 hw)) (Or.inr (tw13 hw)) (by decide) (t := (.array .long)) (t' := .int) (by decide) (by decide)))⟩
theorem Bs.get_words {Z : State} {h : Heap} {a : Addr} {v0 v1 : Value} (O : Bs Z h a v0 v1) : Fld Z h a "com/example/weft/weft/consensus/BitSpan" "words" "[J" v1 := by
  obtain ⟨E, F0, F1⟩ := O; exact F1
theorem Bs.put_words {a0 : Array Value} {Z : State} (hw : ∀ d ∈ tables_1, d.before a0 Z = true) {h h' : Heap} {a : Addr} {v0 v1 w : Value} (O : Bs Z h a v0 v1) (W : Wr h h' a (Jvm.RoadKit.slotOf Z "com/example/weft/weft/consensus/BitSpan" "words" "[J") w) : Bs Z h' a v0 w := by
  obtain ⟨E, F0, F1⟩ := O; exact ⟨E.wr W, F0.other W (Or.inr (slot_ne (Or.inr (tw13 hw)) (Or.inr (tw15 hw)) (by decide) (t := .int) (t' := (.array .long)) (by decide) (by decide))), F1.same W⟩
set_option maxRecDepth 65536 in
set_option maxHeartbeats 4000000 in
theorem ct_init (l : Launch) (Z : State) (a0 : Array Value) (hw : ∀ d ∈ tables_1, d.before a0 Z = true) (a : Addr) (v : Int32) (u : Addr) (h0 : Heap) (n0 : Nat) (Z0 : n0 ≤ h0.size) (ga : n0 ≤ a) (O : Bs Z h0 a (.int 0) .null) :
    Ct l Z (⟨"com/example/weft/weft/consensus/BitSpan", "<init>", "(I[J)V"⟩ : MethodName) prog_7_method_1_code 3 none ({ frames := 1, cells := 0, slots := 0, locals := 12 } : Room) #[(.ref a), (.int v), (.ref u)] h0 n0 (fun r h => r = none ∧ Keep h0 h [a] ∧ Bs Z h a (.int v) (.ref u)) := by
  refine Ct.intro (plainFor_of_name (by first | (simp [plainName, overriddenIn]; done) | decide +kernel)) Z0 ?_
  intro p e s m below meth c T X
  refine WP.cast (g' := (mkF m 0 #[.val (.ref a), .val (.int v), .val (.ref u)] [])) (by first | (simp [entryFrame, mkF, argsToLocals, Value.category]; done) | rfl) ?_
  have K := Keep.refl h0 [a]
  refine w_aloadN X d1_0 rfl rfl (pc' := 1) rfl ?_
  refine w_initO X (tw9 hw) (tw10 hw) (tw11 hw) d1_1 rfl (by decide) rfl (by decide) (pc' := 4) rfl ?_; intro T X
  refine w_aloadN X d1_4 rfl rfl (pc' := 5) rfl ?_
  refine w_iloadN X d1_5 rfl (pc' := 6) rfl ?_
  refine w_putF X (tw12 hw) O.get_first O.exa (Or.inr ⟨(tw13 hw), rfl, rfl⟩) (tw4 hw) ga d1_6 (ty := .int) (v' := (.int v)) (by decide) rfl rfl (pc' := 9) rfl ?_; intro T h1 X W2
  have O4 := O.put_first hw W2
  have K3 := Keep.of_wr W2
  have K5 := K.wr W2 (Or.inl (by simp))
  show WP _ _ _ _ _ _ _ _ _ (mkF m 9 #[.val (.ref a), .val (.int v), .val (.ref u)] [])
  refine w_aloadN X d1_9 rfl rfl (pc' := 10) rfl ?_
  refine w_aloadN X d1_10 rfl rfl (pc' := 11) rfl ?_
  refine w_putF X (tw14 hw) O4.get_words O4.exa (Or.inr ⟨(tw15 hw), rfl, rfl⟩) (tw4 hw) ga d1_11 (ty := (.array .long)) (v' := (.ref u)) (by decide) rfl rfl (pc' := 14) rfl ?_; intro T h6 X W7
  have O9 := O4.put_words hw W7
  have K8 := Keep.of_wr W7
  have K10 := K5.wr W7 (Or.inl (by simp))
  show WP _ _ _ _ _ _ _ _ _ (mkF m 14 #[.val (.ref a), .val (.int v), .val (.ref u)] [])
  exact w_retV X rfl d1_14 (by decide) (by decide) ⟨rfl, K10, O9⟩
def cWord (v bit : Int32) : Int32 := ((bit).toUInt32 >>> ((6 : Int32) &&& 31).toUInt32).toInt32 - v
def cCon (v bit z : Int32) (g : Nat → Int64) : Int32 :=
  if cWord v bit < 0 then 0 else if cWord v bit < z then (if (g (cWord v bit).toInt.toNat &&& ((1 : Int64) <<< (bit &&& 0x3f).toInt64)) = 0 then 0 else 1) else 0
theorem at_ok {d : Int32} (h : ¬ d < 0) : d.toInt = (d.toInt.toNat : Nat) := by
  rw [Int32.lt_iff_toInt_lt] at h; simp only [Int32.reduceToInt] at h; omega
theorem lt_ok {d z : Int32} {n : Nat} (h : ¬ d < 0) (h2 : d < z) (hz : n.toInt32 = z) (hn : n < 2 ^ 31) : d.toInt.toNat < n := by
  have q : n.toInt32.toInt = n := Int32.toInt_ofNat_small hn
  rw [Int32.lt_iff_toInt_lt] at h h2; simp only [Int32.reduceToInt] at h; rw [← hz, q] at h2; omega
set_option maxRecDepth 65536 in
set_option maxHeartbeats 4000000 in
theorem ct_con (l : Launch) (Z : State) (a0 : Array Value) (hw : ∀ d ∈ tables_1, d.before a0 Z = true) (a : Addr) (v bit z : Int32) (u : Addr) (n : Nat) (g : Nat → Int64) (h0 : Heap) (n0 : Nat) (Z0 : n0 ≤ h0.size) (ga : n0 ≤ a) (O : Bs Z h0 a (.int v) (.ref u)) (V : AJ Z h0 u n g) (hz : n.toInt32 = z) :
    Ct l Z (⟨"com/example/weft/weft/consensus/BitSpan", "contains", "(I)Z"⟩ : MethodName) prog_7_method_3_code 3 (some .boolean) ({ frames := 0, cells := 0, slots := 0, locals := 0 } : Room) #[(.ref a), (.int bit)] h0 n0 (fun r h => r = some (.int (cCon v bit z g)) ∧ h = h0) := by
  refine Ct.intro (plainFor_of_name (by first | (simp [plainName, overriddenIn]; done) | decide +kernel)) Z0 ?_
  intro p e s m below meth c T X
  refine WP.cast (g' := (mkF m 0 #[.val (.ref a), .val (.int bit), .unset] [])) (by first | (simp [entryFrame, mkF, argsToLocals, Value.category]; done) | rfl) ?_
  refine w_iloadN X d3_0 rfl (pc' := 1) rfl ?_
  refine w_bipush X d3_1 (v := (6 : Int32)) (by decide) (pc' := 3) rfl ?_
  refine w_iushr X d3_3 (pc' := 4) rfl ?_
  refine w_aloadN X d3_4 rfl rfl (pc' := 5) rfl ?_
  refine w_getF X (tw12 hw) O.get_first d3_5 (pc' := 8) rfl ?_; intro T X
  refine w_isub X d3_8 (pc' := 9) rfl ?_
  refine w_nameI ?_; intro wd h_wd
  refine w_istoreN X d3_9 (L' := #[.val (.ref a), .val (.int bit), .val (.int wd)]) rfl (pc' := 10) rfl ?_
  refine w_iloadN X d3_10 rfl (pc' := 11) rfl ?_
  refine w_if_lt X d3_11 (by decide) (p1 := 42) (by decide) (p2 := 14) rfl (fun c11 => ?_) (fun c11 => ?_)
  · -- c11 taken
    refine w_iconst X d3_42 (v := (0 : Int32)) (by decide) (pc' := 43) rfl ?_
    subst h_wd
    exact w_retZ X rfl d3_43 (by decide) (by decide) (by decide) ⟨by rw [cCon]; unfold cWord; simp only [if_pos c11], rfl⟩
  · -- c11 not taken
    refine w_iloadN X d3_14 rfl (pc' := 15) rfl ?_
    refine w_aloadN X d3_15 rfl rfl (pc' := 16) rfl ?_
    refine w_getF X (tw14 hw) O.get_words d3_16 (pc' := 19) rfl ?_; intro T X
    refine w_arraylength X V d3_19 (z := z) hz (pc' := 20) rfl ?_
    refine w_icmp_ge X d3_20 (by decide) (p1 := 42) (by decide) (p2 := 23) rfl (fun c20 => ?_) (fun c20 => ?_)
    · -- c20 taken
      refine w_iconst X d3_42 (v := (0 : Int32)) (by decide) (pc' := 43) rfl ?_
      subst h_wd
      exact w_retZ X rfl d3_43 (by decide) (by decide) (by decide) ⟨by rw [cCon]; unfold cWord; simp only [if_neg c11, if_neg c20], rfl⟩
    · -- c20 not taken
      refine w_aloadN X d3_23 rfl rfl (pc' := 24) rfl ?_
      refine w_getF X (tw14 hw) O.get_words d3_24 (pc' := 27) rfl ?_; intro T X
      refine w_iloadN X d3_27 rfl (pc' := 28) rfl ?_
      refine w_laload X (i := wd.toInt.toNat) V d3_28 (at_ok c11) (lt_ok c11 c20 hz V.len) rfl (pc' := 29) rfl ?_
      refine w_lconst X d3_29 (v := (1 : Int64)) (by decide) (pc' := 30) rfl ?_
      refine w_iloadN X d3_30 rfl (pc' := 31) rfl ?_
      refine w_lshl X d3_31 (pc' := 32) rfl ?_
      refine w_land X d3_32 (pc' := 33) rfl ?_
      refine w_lconst X d3_33 (v := (0 : Int64)) (by decide) (pc' := 34) rfl ?_
      refine w_lcmp_eq X d3_34 (p0 := 35) rfl d3_35 (by decide) (p1 := 42) (by decide) (p2 := 38) rfl (fun c34 => ?_) (fun c34 => ?_)
      · -- c34 taken
        refine w_iconst X d3_42 (v := (0 : Int32)) (by decide) (pc' := 43) rfl ?_
        subst h_wd
        exact w_retZ X rfl d3_43 (by decide) (by decide) (by decide) ⟨by rw [cCon]; unfold cWord; simp only [if_neg c11, if_pos c20, if_pos c34], rfl⟩
      · -- c34 not taken
        refine w_iconst X d3_38 (v := (1 : Int32)) (by decide) (pc' := 39) rfl ?_
        refine w_goto X d3_39 (by decide) (pc' := 43) (by decide) ?_
        subst h_wd
        exact w_retZ X rfl d3_43 (by decide) (by decide) (by decide) ⟨by rw [cCon]; unfold cWord; simp only [if_neg c11, if_pos c20, if_neg c34], rfl⟩
def fExp_38 (fi : Int32) (ln : Int32) (wa : Int64) (wb : Int64) (wc : Int64) (bit : Int32) : Int32 :=
  (0 : Int32)
def fExp (fi : Int32) (ln : Int32) (wa : Int64) (wb : Int64) (wc : Int64) (bit : Int32) : Int32 :=
  if bit < (0 : Int32) then
    (0 : Int32)
  else
    if ((bit / (64 : Int32)) - fi) < (0 : Int32) then
      fExp_38 fi ln wa wb wc bit
    else
      if ((bit / (64 : Int32)) - fi) < ln then
        if ((bit / (64 : Int32)) - fi) = (0 : Int32) then
          if (((wa).toUInt64 >>> ((bit % (64 : Int32)) &&& 0x3f).toInt64.toUInt64).toInt64 &&& (1 : Int64)) = (1 : Int64) then
            (1 : Int32)
          else
            (0 : Int32)
        else
          if ((bit / (64 : Int32)) - fi) = (1 : Int32) then
            if (((wb).toUInt64 >>> ((bit % (64 : Int32)) &&& 0x3f).toInt64.toUInt64).toInt64 &&& (1 : Int64)) = (1 : Int64) then
              (1 : Int32)
            else
              (0 : Int32)
          else
            if (((wc).toUInt64 >>> ((bit % (64 : Int32)) &&& 0x3f).toInt64.toUInt64).toInt64 &&& (1 : Int64)) = (1 : Int64) then
              (1 : Int32)
            else
              (0 : Int32)
      else
        fExp_38 fi ln wa wb wc bit
set_option maxRecDepth 65536 in
set_option maxHeartbeats 4000000 in
theorem ct_fExp (l : Launch) (Z : State) (a0 : Array Value) (hw : ∀ d ∈ tables_1, d.before a0 Z = true) (fi : Int32) (ln : Int32) (wa : Int64) (wb : Int64) (wc : Int64) (bit : Int32) (h0 : Heap) (n0 : Nat) (Z0 : n0 ≤ h0.size) :
    Ct l Z (⟨"com/example/weft/weft/consensus/BitSpanContainsPinLaw", "expected", "(IIJJJI)Z"⟩ : MethodName) method_3_code 14 (some .boolean) ({ frames := 0, cells := 0, slots := 0, locals := 0 } : Room) #[(.int fi), (.int ln), (.long wa), (.long wb), (.long wc), (.int bit)] h0 n0 (fun r_ h_ => r_ = some (.int (fExp fi ln wa wb wc bit)) ∧ h_ = h0) := by
  refine Ct.intro (plainFor_of_name (by first | (simp [plainName, overriddenIn]; done) | decide +kernel)) Z0 ?_
  intro p e s m below meth c T X
  have J38 : ∀ T, St p l e ({ frames := 0, cells := 0, slots := 0, locals := 0 } : Room) s m #[(.int fi), (.int ln), (.long wa), (.long wb), (.long wc), (.int bit)] below meth c Z n0 (⟨"com/example/weft/weft/consensus/BitSpanContainsPinLaw", "expected", "(IIJJJI)Z"⟩ : MethodName) method_3_code 14 (some .boolean) T h0 0 0 → WP p e below s n0 ({ frames := 0, cells := 0, slots := 0, locals := 0 } : Room).cells ({ frames := 0, cells := 0, slots := 0, locals := 0 } : Room).slots (fun r_ h_ => r_ = some (.int (fExp_38 fi ln wa wb wc bit)) ∧ h_ = h0) T (mkF m 38 #[.val (.int fi), .val (.int ln), .val (.long wa), .second, .val (.long wb), .second, .val (.long wc), .second, .val (.int bit), .val (.int (bit / (64 : Int32))), .val (.int (bit % (64 : Int32))), .val (.int ((bit / (64 : Int32)) - fi)), .unset, .unset] []) := by
    intro T X
    refine w_iconst X d4_38 (v := (0 : Int32)) (by decide) (pc' := 39) rfl ?_
    exact w_retZ X rfl d4_39 (by decide) (by decide) (by decide) ⟨by rw [fExp_38], rfl⟩
  refine WP.cast (g' := (mkF m 0 #[.val (.int fi), .val (.int ln), .val (.long wa), .second, .val (.long wb), .second, .val (.long wc), .second, .val (.int bit), .unset, .unset, .unset, .unset, .unset] [])) (by first | (simp [entryFrame, mkF, argsToLocals, Value.category]; done) | rfl) ?_
  refine w_iload X d4_0 rfl (pc' := 2) rfl ?_
  refine w_if_ge X d4_2 (by decide) (p1 := 7) (by decide) (p2 := 5) rfl (fun c2 => ?_) (fun c2 => ?_)
  · -- c2 taken
    refine w_iload X d4_7 rfl (pc' := 9) rfl ?_
    refine w_bipush X d4_9 (v := (64 : Int32)) (by decide) (pc' := 11) rfl ?_
    refine w_idiv X d4_11 (by decide) (pc' := 12) rfl ?_
    refine w_istore X d4_12 (L' := #[.val (.int fi), .val (.int ln), .val (.long wa), .second, .val (.long wb), .second, .val (.long wc), .second, .val (.int bit), .val (.int (bit / (64 : Int32))), .unset, .unset, .unset, .unset]) rfl (pc' := 14) rfl ?_
    refine w_iload X d4_14 rfl (pc' := 16) rfl ?_
    refine w_bipush X d4_16 (v := (64 : Int32)) (by decide) (pc' := 18) rfl ?_
    refine w_irem X d4_18 (by decide) (pc' := 19) rfl ?_
    refine w_istore X d4_19 (L' := #[.val (.int fi), .val (.int ln), .val (.long wa), .second, .val (.long wb), .second, .val (.long wc), .second, .val (.int bit), .val (.int (bit / (64 : Int32))), .val (.int (bit % (64 : Int32))), .unset, .unset, .unset]) rfl (pc' := 21) rfl ?_
    refine w_iload X d4_21 rfl (pc' := 23) rfl ?_
    refine w_iloadN X d4_23 rfl (pc' := 24) rfl ?_
    refine w_isub X d4_24 (pc' := 25) rfl ?_
    refine w_istore X d4_25 (L' := #[.val (.int fi), .val (.int ln), .val (.long wa), .second, .val (.long wb), .second, .val (.long wc), .second, .val (.int bit), .val (.int (bit / (64 : Int32))), .val (.int (bit % (64 : Int32))), .val (.int ((bit / (64 : Int32)) - fi)), .unset, .unset]) rfl (pc' := 27) rfl ?_
    refine w_iload X d4_27 rfl (pc' := 29) rfl ?_
    refine w_if_lt X d4_29 (by decide) (p1 := 38) (by decide) (p2 := 32) rfl (fun c29 => ?_) (fun c29 => ?_)
    · -- c29 taken
      exact (J38 T X).imp fun v h q => by rw [fExp, if_neg c2, if_pos c29]; exact q
    · -- c29 not taken
      refine w_iload X d4_32 rfl (pc' := 34) rfl ?_
      refine w_iloadN X d4_34 rfl (pc' := 35) rfl ?_
      refine w_icmp_lt X d4_35 (by decide) (p1 := 40) (by decide) (p2 := 38) rfl (fun c35 => ?_) (fun c35 => ?_)
      · -- c35 taken
        refine w_iload X d4_40 rfl (pc' := 42) rfl ?_
        refine w_if_ne X d4_42 (by decide) (p1 := 51) (by decide) (p2 := 45) rfl (fun c42 => ?_) (fun c42 => ?_)
        · -- c42 taken
          refine w_iload X d4_51 rfl (pc' := 53) rfl ?_
          refine w_iconst X d4_53 (v := (1 : Int32)) (by decide) (pc' := 54) rfl ?_
          refine w_icmp_ne X d4_54 (by decide) (p1 := 64) (by decide) (p2 := 57) rfl (fun c54 => ?_) (fun c54 => ?_)
          · -- c54 taken
            refine w_lload X d4_64 rfl (pc' := 66) rfl ?_
            refine w_lstore X d4_66 (L' := #[.val (.int fi), .val (.int ln), .val (.long wa), .second, .val (.long wb), .second, .val (.long wc), .second, .val (.int bit), .val (.int (bit / (64 : Int32))), .val (.int (bit % (64 : Int32))), .val (.int ((bit / (64 : Int32)) - fi)), .val (.long wc), .second]) rfl (pc' := 68) rfl ?_
            refine w_lload X d4_68 rfl (pc' := 70) rfl ?_
            refine w_iload X d4_70 rfl (pc' := 72) rfl ?_
            refine w_lushr X d4_72 (pc' := 73) rfl ?_
            refine w_lconst X d4_73 (v := (1 : Int64)) (by decide) (pc' := 74) rfl ?_
            refine w_land X d4_74 (pc' := 75) rfl ?_
            refine w_lconst X d4_75 (v := (1 : Int64)) (by decide) (pc' := 76) rfl ?_
            refine w_lcmp_ne X d4_76 (p0 := 77) rfl d4_77 (by decide) (p1 := 84) (by decide) (p2 := 80) rfl (fun c76 => ?_) (fun c76 => ?_)
            · -- c76 taken
              refine w_iconst X d4_84 (v := (0 : Int32)) (by decide) (pc' := 85) rfl ?_
              exact w_retZ X rfl d4_85 (by decide) (by decide) (by decide) ⟨by rw [fExp, if_neg c2, if_neg c29, if_pos c35, if_neg c42, if_neg c54, if_neg c76], rfl⟩
            · -- c76 not taken
              refine w_iconst X d4_80 (v := (1 : Int32)) (by decide) (pc' := 81) rfl ?_
              refine w_goto X d4_81 (by decide) (pc' := 85) (by decide) ?_
              exact w_retZ X rfl d4_85 (by decide) (by decide) (by decide) ⟨by rw [fExp, if_neg c2, if_neg c29, if_pos c35, if_neg c42, if_neg c54, if_pos c76], rfl⟩
          · -- c54 not taken
            refine w_lload X d4_57 rfl (pc' := 59) rfl ?_
            refine w_lstore X d4_59 (L' := #[.val (.int fi), .val (.int ln), .val (.long wa), .second, .val (.long wb), .second, .val (.long wc), .second, .val (.int bit), .val (.int (bit / (64 : Int32))), .val (.int (bit % (64 : Int32))), .val (.int ((bit / (64 : Int32)) - fi)), .val (.long wb), .second]) rfl (pc' := 61) rfl ?_
            refine w_goto X d4_61 (by decide) (pc' := 68) (by decide) ?_
            refine w_lload X d4_68 rfl (pc' := 70) rfl ?_
            refine w_iload X d4_70 rfl (pc' := 72) rfl ?_
            refine w_lushr X d4_72 (pc' := 73) rfl ?_
            refine w_lconst X d4_73 (v := (1 : Int64)) (by decide) (pc' := 74) rfl ?_
            refine w_land X d4_74 (pc' := 75) rfl ?_
            refine w_lconst X d4_75 (v := (1 : Int64)) (by decide) (pc' := 76) rfl ?_
            refine w_lcmp_ne X d4_76 (p0 := 77) rfl d4_77 (by decide) (p1 := 84) (by decide) (p2 := 80) rfl (fun c76 => ?_) (fun c76 => ?_)
            · -- c76 taken
              refine w_iconst X d4_84 (v := (0 : Int32)) (by decide) (pc' := 85) rfl ?_
              exact w_retZ X rfl d4_85 (by decide) (by decide) (by decide) ⟨by rw [fExp, if_neg c2, if_neg c29, if_pos c35, if_neg c42, if_pos c54, if_neg c76], rfl⟩
            · -- c76 not taken
              refine w_iconst X d4_80 (v := (1 : Int32)) (by decide) (pc' := 81) rfl ?_
              refine w_goto X d4_81 (by decide) (pc' := 85) (by decide) ?_
              exact w_retZ X rfl d4_85 (by decide) (by decide) (by decide) ⟨by rw [fExp, if_neg c2, if_neg c29, if_pos c35, if_neg c42, if_pos c54, if_pos c76], rfl⟩
        · -- c42 not taken
          refine w_lloadN X d4_45 rfl (pc' := 46) rfl ?_
          refine w_lstore X d4_46 (L' := #[.val (.int fi), .val (.int ln), .val (.long wa), .second, .val (.long wb), .second, .val (.long wc), .second, .val (.int bit), .val (.int (bit / (64 : Int32))), .val (.int (bit % (64 : Int32))), .val (.int ((bit / (64 : Int32)) - fi)), .val (.long wa), .second]) rfl (pc' := 48) rfl ?_
          refine w_goto X d4_48 (by decide) (pc' := 68) (by decide) ?_
          refine w_lload X d4_68 rfl (pc' := 70) rfl ?_
          refine w_iload X d4_70 rfl (pc' := 72) rfl ?_
          refine w_lushr X d4_72 (pc' := 73) rfl ?_
          refine w_lconst X d4_73 (v := (1 : Int64)) (by decide) (pc' := 74) rfl ?_
          refine w_land X d4_74 (pc' := 75) rfl ?_
          refine w_lconst X d4_75 (v := (1 : Int64)) (by decide) (pc' := 76) rfl ?_
          refine w_lcmp_ne X d4_76 (p0 := 77) rfl d4_77 (by decide) (p1 := 84) (by decide) (p2 := 80) rfl (fun c76 => ?_) (fun c76 => ?_)
          · -- c76 taken
            refine w_iconst X d4_84 (v := (0 : Int32)) (by decide) (pc' := 85) rfl ?_
            exact w_retZ X rfl d4_85 (by decide) (by decide) (by decide) ⟨by rw [fExp, if_neg c2, if_neg c29, if_pos c35, if_pos c42, if_neg c76], rfl⟩
          · -- c76 not taken
            refine w_iconst X d4_80 (v := (1 : Int32)) (by decide) (pc' := 81) rfl ?_
            refine w_goto X d4_81 (by decide) (pc' := 85) (by decide) ?_
            exact w_retZ X rfl d4_85 (by decide) (by decide) (by decide) ⟨by rw [fExp, if_neg c2, if_neg c29, if_pos c35, if_pos c42, if_pos c76], rfl⟩
      · -- c35 not taken
        exact (J38 T X).imp fun v h q => by rw [fExp, if_neg c2, if_neg c29, if_neg c35]; exact q
  · -- c2 not taken
    refine w_iconst X d4_5 (v := (0 : Int32)) (by decide) (pc' := 6) rfl ?_
    exact w_retZ X rfl d4_6 (by decide) (by decide) (by decide) ⟨by rw [fExp, if_pos c2], rfl⟩
theorem and3 {q s : Int32} (h : q = s &&& 3) : q = 0 ∨ q = 1 ∨ q = 2 ∨ q = 3 := by
  have h1 := c_mask s 3 2 (by decide) (by decide)
  rw [← h] at h1
  have h2 : q.toInt = 0 ∨ q.toInt = 1 ∨ q.toInt = 2 ∨ q.toInt = 3 := by omega
  rcases h2 with h2 | h2 | h2 | h2
  · exact Or.inl (Int32.toInt_inj.mp h2)
  · exact Or.inr (Or.inl (Int32.toInt_inj.mp h2))
  · exact Or.inr (Or.inr (Or.inl (Int32.toInt_inj.mp h2)))
  · exact Or.inr (Or.inr (Or.inr (Int32.toInt_inj.mp h2)))
theorem first_ok {fi f : Int32} (h : fi = (f &&& 2147483647) % 33554429) : 0 ≤ fi.toInt ∧ fi.toInt < 33554429 := by
  have h1 := c_mask f 2147483647 31 (by decide) (by decide)
  have h2 := c_irem (f &&& 2147483647) 33554429 33554429 (by decide)
  rw [← h] at h2
  have h3 := h2.1 (by omega)
  omega
theorem bit_shl (q : Int32) (w : Int64) : ((w <<< (q &&& 0x3f).toInt64)).toBitVec = w.toBitVec <<< (q.toBitVec.toNat % 64) := by
  have h := sm64 q (q.toBitVec.toNat % 64) rfl
  rw [Int64.toBitVec_shiftLeft, h.1, BitVec.shiftLeft_eq', smod64 _ h.2]
theorem bit_shr (q : Int32) (w : Int64) : ((w.toUInt64 >>> (q &&& 0x3f).toInt64.toUInt64).toInt64).toBitVec = w.toBitVec >>> (q.toBitVec.toNat % 64) := by
  have h := sm64 q (q.toBitVec.toNat % 64) rfl
  show w.toBitVec >>> ((q &&& 0x3f).toInt64.toBitVec % 64#64) = _
  rw [h.1, BitVec.ushiftRight_eq']
  congr 1
  rw [BitVec.toNat_umod]
  have := h.2
  simp only [BitVec.toNat_ofNat]
  rw [show (2 : Nat) ^ 64 = 18446744073709551616 from rfl, show (64 % 18446744073709551616 : Nat) = 64 from rfl]
  omega
theorem bit_and (w : Int64) (q : Int32) : ((w &&& ((1 : Int64) <<< (q &&& 0x3f).toInt64)) = 0) ↔ w.toBitVec.getLsbD (q.toBitVec.toNat % 64) = false := by
  rw [← Int64.toBitVec_inj, Int64.toBitVec_and, bit_shl]
  have hk : q.toBitVec.toNat % 64 < 64 := Nat.mod_lt _ (by decide)
  generalize q.toBitVec.toNat % 64 = k at *
  show w.toBitVec &&& (1#64 <<< k) = 0#64 ↔ _
  rw [← BitVec.twoPow_eq, BitVec.and_twoPow]
  by_cases h : w.toBitVec.getLsbD k
  · simp only [h, if_true]
    constructor
    · intro e
      have e2 := congrArg (fun z => BitVec.getLsbD z k) e
      simp [BitVec.getLsbD_twoPow, hk] at e2
    · intro e; cases e
  · simp [h]
theorem bit_one (w : Int64) (q : Int32) : (((w.toUInt64 >>> (q &&& 0x3f).toInt64.toUInt64).toInt64 &&& (1 : Int64)) = 1) ↔ w.toBitVec.getLsbD (q.toBitVec.toNat % 64) = true := by
  rw [← Int64.toBitVec_inj, Int64.toBitVec_and, bit_shr]
  generalize q.toBitVec.toNat % 64 = k at *
  show (w.toBitVec >>> k) &&& 1#64 = 1#64 ↔ _
  constructor
  · intro e
    have e2 := congrArg (fun z => BitVec.getLsbD z 0) e
    simpa using e2
  · intro e
    apply BitVec.eq_of_getLsbD_eq
    intro i hi
    simp only [BitVec.getLsbD_and, BitVec.getLsbD_ushiftRight, BitVec.getLsbD_one]
    by_cases hz : i = 0
    · subst hz; simp [e]
    · simp [hz]
theorem word_of {fi bit : Int32} (hf : 0 ≤ fi.toInt ∧ fi.toInt < 33554429) : (cWord fi bit).toInt = (bit.toInt % 4294967296) / 64 - fi.toInt := by
  have h1 := c_iushr bit 6 6 (by decide) (by decide)
  have h2 := c_isub ((bit.toUInt32 >>> ((6 : Int32) &&& 31).toUInt32).toInt32) fi
  have r1 := rng32 bit
  have r2 := rng32 (cWord fi bit)
  unfold cWord at *
  rw [h1] at h2
  rw [show ((2 ^ 6 : Nat) : Int) = 64 from rfl] at h2
  omega
theorem pos_bits {b : Int32} (h : 0 ≤ b.toInt) : (b % 64).toBitVec.toNat % 64 = b.toBitVec.toNat % 64 := by
  have h1 := (c_irem b 64 64 (by decide)).1 h
  have e1 : b.toInt = b.toBitVec.toNat := by
    have := b.toBitVec.isLt
    have e := BitVec.toInt_eq_toNat_cond b.toBitVec
    have e' : b.toBitVec.toInt = b.toInt := rfl
    rw [e'] at e
    split at e <;> omega
  have e2 : (b % 64).toInt = (b % 64).toBitVec.toNat := by
    have := (b % 64).toBitVec.isLt
    have e := BitVec.toInt_eq_toNat_cond (b % 64).toBitVec
    have e' : (b % 64).toBitVec.toInt = (b % 64).toInt := rfl
    rw [e'] at e
    split at e <;> omega
  omega
theorem exp_bit {bit : Int32} {w : Int64} (h : 0 ≤ bit.toInt) : (if (((w).toUInt64 >>> ((bit % (64 : Int32)) &&& 0x3f).toInt64.toUInt64).toInt64 &&& (1 : Int64)) = (1 : Int64) then (1 : Int32) else 0) = if (w &&& ((1 : Int64) <<< (bit &&& 0x3f).toInt64)) = 0 then 0 else 1 := by
  have h1 := bit_one w (bit % 64)
  have h2 := bit_and w bit
  rw [pos_bits h] at h1
  by_cases q : w.toBitVec.getLsbD (bit.toBitVec.toNat % 64) = true
  · rw [if_pos (h1.mpr q), if_neg (fun z => by rw [h2.mp z] at q; cases q)]
  · rw [if_neg (fun z => q (h1.mp z)), if_pos (h2.mpr (by simpa using q))]
theorem con_eq {fi bit ln : Int32} {wa wb wc : Int64} {g : Nat → Int64} (hf : 0 ≤ fi.toInt ∧ fi.toInt < 33554429) (h0 : 0 ≤ ln.toInt) (h3 : ln.toInt ≤ 3) (g0 : (0 : Int32) < ln → g 0 = wa) (g1 : (1 : Int32) < ln → g 1 = wb) (g2 : (2 : Int32) < ln → g 2 = wc) : cCon fi bit ln g = fExp fi ln wa wb wc bit := by
  have hw := word_of (bit := bit) hf
  have r1 := rng32 bit
  have z0 : (0 : Int32).toInt = 0 := rfl
  have z1 : (1 : Int32).toInt = 1 := rfl
  have z2 : (2 : Int32).toInt = 2 := rfl
  unfold fExp fExp_38
  by_cases hb : bit < 0
  · rw [if_pos hb]
    rw [Int32.lt_iff_toInt_lt, z0] at hb
    rw [cCon, if_neg (by rw [Int32.lt_iff_toInt_lt]; omega), if_neg (by rw [Int32.lt_iff_toInt_lt]; omega)]
  · rw [if_neg hb]
    rw [Int32.lt_iff_toInt_lt, z0] at hb
    have hd := (c_idiv bit 64 64 (by decide) (by decide)).1 (by omega)
    have hs := c_isub (bit / 64) fi
    have r2 := rng32 (bit / 64 - fi)
    have e : bit / 64 - fi = cWord fi bit := Int32.toInt_inj.mp (by omega)
    rw [e, exp_bit (by omega), exp_bit (by omega), exp_bit (by omega), cCon]
    by_cases c1 : cWord fi bit < 0
    · rw [if_pos c1, if_pos c1]
    · rw [if_neg c1, if_neg c1]
      by_cases c2 : cWord fi bit < ln
      · rw [if_pos c2, if_pos c2]
        rw [Int32.lt_iff_toInt_lt, z0] at c1
        have c2' := c2
        rw [Int32.lt_iff_toInt_lt] at c2
        by_cases c3 : cWord fi bit = 0
        · rw [if_pos c3, c3, show (0 : Int32).toInt.toNat = 0 from rfl, g0 (c3 ▸ c2')]
        · rw [if_neg c3]
          by_cases c4 : cWord fi bit = 1
          · rw [if_pos c4, c4, show (1 : Int32).toInt.toNat = 1 from rfl, g1 (c4 ▸ c2')]
          · rw [if_neg c4]
            have c5 : cWord fi bit = 2 := by
              apply Int32.toInt_inj.mp
              have n0 : ¬ (cWord fi bit).toInt = 0 := fun q => c3 (Int32.toInt_inj.mp q)
              have n1 : ¬ (cWord fi bit).toInt = 1 := fun q => c4 (Int32.toInt_inj.mp q)
              omega
            rw [c5, show (2 : Int32).toInt.toNat = 2 from rfl, g2 (c5 ▸ c2')]
      · rw [if_neg c2, if_neg c2]

set_option maxRecDepth 65536 in
set_option maxHeartbeats 4000000 in
theorem ct_law (l : Launch) (Z : State) (a0 : Array Value) (hw : ∀ d ∈ tables_1, d.before a0 Z = true) (f : Int32) (wa wb wc : Int64) (b t : Int32) (h0 : Heap) (n0 : Nat) (Z0 : n0 ≤ h0.size) :
    Ct l Z x code maxLocals ret room_1 #[(.int f), (.long wa), (.long wb), (.long wc), (.int b), (.int t)] h0 n0 (fun r _ => r = some (.int 1)) := by
  refine Ct.intro (plainFor_of_name (by first | (simp [plainName, overriddenIn, x]; done) | decide +kernel)) Z0 ?_
  intro p e s m below meth c T X
  refine WP.cast (g' := (mkF m 0 #[.val (.int f), .val (.long wa), .second, .val (.long wb), .second, .val (.long wc), .second, .val (.int b), .val (.int t), .unset, .unset, .unset, .unset, .unset, .unset] [])) (by first | (simp [entryFrame, mkF, argsToLocals, Value.category, maxLocals]; done) | rfl) ?_
  refine w_iload X at_0 rfl (pc' := 2) rfl ?_
  refine w_iconst X at_2 (v := (3 : Int32)) (by decide) (pc' := 3) rfl ?_
  refine w_iand X at_3 (pc' := 4) rfl ?_
  refine w_nameI ?_; intro ln h_ln
  refine w_istore X at_4 (L' := #[.val (.int f), .val (.long wa), .second, .val (.long wb), .second, .val (.long wc), .second, .val (.int b), .val (.int t), .val (.int ln), .unset, .unset, .unset, .unset, .unset]) rfl (pc' := 6) rfl ?_
  rcases and3 h_ln with rfl | rfl | rfl | rfl
  · -- of length 0
    refine w_iloadN X at_6 rfl (pc' := 7) rfl ?_
    refine w_ldcI X at_7 (tw0 hw) (pc' := 9) rfl ?_
    refine w_iand X at_9 (pc' := 10) rfl ?_
    refine w_ldcI X at_10 (tw1 hw) (pc' := 12) rfl ?_
    refine w_irem X at_12 (by decide) (pc' := 13) rfl ?_
    refine w_nameI ?_; intro fi h_fi
    refine w_istore X at_13 (L' := #[.val (.int f), .val (.long wa), .second, .val (.long wb), .second, .val (.long wc), .second, .val (.int b), .val (.int t), .val (.int (0 : Int32)), .val (.int fi), .unset, .unset, .unset, .unset]) rfl (pc' := 15) rfl ?_
    refine w_iload X at_15 rfl (pc' := 17) rfl ?_
    refine w_newarray X (aty := .long) 0 (tw2 hw) at_17 (by decide) (by decide) (by decide) (by decide) (by decide) (pc' := 19) rfl ?_; intro T h1 b1 cA1 X eq1 ga1 E1 A1
    have O2 : AJ Z h1 b1 0 (fun _ => 0) := AJ.new A1 (by decide)
    refine w_astore X at_19 (L' := #[.val (.int f), .val (.long wa), .second, .val (.long wb), .second, .val (.long wc), .second, .val (.int b), .val (.int t), .val (.int (0 : Int32)), .val (.int fi), .val (.ref b1), .unset, .unset, .unset]) rfl rfl (pc' := 21) rfl ?_
    refine w_iload X at_21 rfl (pc' := 23) rfl ?_
    refine w_if_le X at_23 (by decide) (p1 := 31) (by decide) (p2 := 26) rfl (fun c23 => ?_) (fun c23 => False.elim (absurd c23 (by decide)))
    refine w_iload X at_31 rfl (pc' := 33) rfl ?_
    refine w_iconst X at_33 (v := (1 : Int32)) (by decide) (pc' := 34) rfl ?_
    refine w_icmp_le X at_34 (by decide) (p1 := 42) (by decide) (p2 := 37) rfl (fun c34 => ?_) (fun c34 => False.elim (absurd c34 (by decide)))
    refine w_iload X at_42 rfl (pc' := 44) rfl ?_
    refine w_iconst X at_44 (v := (2 : Int32)) (by decide) (pc' := 45) rfl ?_
    refine w_icmp_le X at_45 (by decide) (p1 := 54) (by decide) (p2 := 48) rfl (fun c45 => ?_) (fun c45 => False.elim (absurd c45 (by decide)))
    have J3 : ∀ T, St p l e room_1 s m #[(.int f), (.long wa), (.long wb), (.long wc), (.int b), (.int t)] below meth c Z n0 x code maxLocals ret T h1 (0 + 1) (0 + 0) → ∀ (bit : Int32), WP p e below s n0 room_1.cells room_1.slots (fun r _ => r = some (.int 1)) T (mkF m 90 #[.val (.int f), .val (.long wa), .second, .val (.long wb), .second, .val (.long wc), .second, .val (.int b), .val (.int t), .val (.int (0 : Int32)), .val (.int fi), .val (.ref b1), .val (.int bit), .unset, .unset] []) := by
      intro T X bit
      refine w_new X (tw3 hw) (tw4 hw) (tw5 hw) at_90 (by decide) (by decide) (pc' := 93) rfl ?_; intro T h5 b5 X eq5 ga5 E5 A5 D5
      have ne6 : b1 ≠ b5 := Nat.ne_of_lt (Nat.lt_of_lt_of_eq O2.lt eq5.symm)
      have O7 := O2.ext E5
      have O8 : Bs Z h5 b5 (.int (0 : Int32)) .null := ⟨A5, D5 (Or.inr (tw13 hw)) (ty := .int) (by decide), D5 (Or.inr (tw15 hw)) (ty := (.array .long)) (by decide)⟩
      refine w_dup X at_93 rfl (pc' := 94) rfl ?_
      refine w_iload X at_94 rfl (pc' := 96) rfl ?_
      refine w_aload X at_96 rfl rfl (pc' := 98) rfl ?_
      refine w_callC X [(.int fi), (.ref b1)] [(.ref b5)] 1 rfl (tw6 hw) (tw7 hw) (tw5 hw) (tw8 hw) (ct_init l Z a0 hw b5 fi b1 h5 n0 X.n0le ga5 O8) at_98 pd0 rfl (by decide) rfl rfl rfl (by decide) (by decide) (by decide) (by decide) (pc' := 101) rfl ?_
      intro T h9 v X hQ
      obtain ⟨rfl, K10, O11⟩ := hQ
      have O12 := O7.keep K10 (ninS ne6 nin0)
      show WP _ _ _ _ _ _ _ _ _ (mkF m 101 #[.val (.int f), .val (.long wa), .second, .val (.long wb), .second, .val (.long wc), .second, .val (.int b), .val (.int t), .val (.int (0 : Int32)), .val (.int fi), .val (.ref b1), .val (.int bit), .unset, .unset] [(.ref b5)])
      refine w_astore X at_101 (L' := #[.val (.int f), .val (.long wa), .second, .val (.long wb), .second, .val (.long wc), .second, .val (.int b), .val (.int t), .val (.int (0 : Int32)), .val (.int fi), .val (.ref b1), .val (.int bit), .val (.ref b5), .unset]) rfl rfl (pc' := 103) rfl ?_
      refine w_aload X at_103 rfl rfl (pc' := 105) rfl ?_
      refine w_iload X at_105 rfl (pc' := 107) rfl ?_
      refine w_callV X [(.int bit)] [] 0 (tw16 hw) (tw17 hw) (tw19 hw) (tw18 hw) (tw5 hw) (tw20 hw) O11.exa (ct_con l Z a0 hw b5 fi bit (0 : Int32) b1 0 (fun _ => 0) h9 n0 X.n0le ga5 O11 O12 (by decide)) at_107 pd1 rfl (by decide) rfl rfl rfl (by decide) (by decide) (by decide) (by decide) (pc' := 110) rfl ?_
      intro T hz v X hQ
      obtain ⟨rfl, hz1⟩ := hQ; replace hz1 := hz1.symm; subst hz1
      show WP _ _ _ _ _ _ _ _ _ (mkF m 110 #[.val (.int f), .val (.long wa), .second, .val (.long wb), .second, .val (.long wc), .second, .val (.int b), .val (.int t), .val (.int (0 : Int32)), .val (.int fi), .val (.ref b1), .val (.int bit), .val (.ref b5), .unset] [(.int (cCon fi bit (0 : Int32) (fun _ => 0)))])
      refine w_istore X at_110 (L' := #[.val (.int f), .val (.long wa), .second, .val (.long wb), .second, .val (.long wc), .second, .val (.int b), .val (.int t), .val (.int (0 : Int32)), .val (.int fi), .val (.ref b1), .val (.int bit), .val (.ref b5), .val (.int (cCon fi bit (0 : Int32) (fun _ => 0)))]) rfl (pc' := 112) rfl ?_
      refine w_iload X at_112 rfl (pc' := 114) rfl ?_
      refine w_iload X at_114 rfl (pc' := 116) rfl ?_
      refine w_iload X at_116 rfl (pc' := 118) rfl ?_
      refine w_lloadN X at_118 rfl (pc' := 119) rfl ?_
      refine w_lloadN X at_119 rfl (pc' := 120) rfl ?_
      refine w_lload X at_120 rfl (pc' := 122) rfl ?_
      refine w_iload X at_122 rfl (pc' := 124) rfl ?_
      refine w_callS X [(.int fi), (.int (0 : Int32)), (.long wa), (.long wb), (.long wc), (.int bit)] [(.int (cCon fi bit (0 : Int32) (fun _ => 0)))] 1 (tw21 hw) (tw22 hw) (tw23 hw) (tw24 hw) (ct_fExp l Z a0 hw fi (0 : Int32) wa wb wc bit h9 n0 X.n0le) at_124 pd2 rfl (by decide) rfl rfl rfl (by decide) (by decide) (by decide) (by decide) (pc' := 127) rfl ?_
      intro T hz v X hQ
      obtain ⟨rfl, hz1⟩ := hQ; replace hz1 := hz1.symm; subst hz1
      show WP _ _ _ _ _ _ _ _ _ (mkF m 127 #[.val (.int f), .val (.long wa), .second, .val (.long wb), .second, .val (.long wc), .second, .val (.int b), .val (.int t), .val (.int (0 : Int32)), .val (.int fi), .val (.ref b1), .val (.int bit), .val (.ref b5), .val (.int (cCon fi bit (0 : Int32) (fun _ => 0)))] [(.int (fExp fi (0 : Int32) wa wb wc bit)), (.int (cCon fi bit (0 : Int32) (fun _ => 0)))])
      refine w_icmp_ne X at_127 (by decide) (p1 := 134) (by decide) (p2 := 130) rfl (fun c127 => False.elim (c127 (con_eq (first_ok h_fi) (by decide) (by decide) (fun q => absurd q (by decide)) (fun q => absurd q (by decide)) (fun q => absurd q (by decide))))) (fun c127 => ?_)
      refine w_iconst X at_130 (v := (1 : Int32)) (by decide) (pc' := 131) rfl ?_
      refine w_goto X at_131 (by decide) (pc' := 135) (by decide) ?_
      exact w_retZ X rfl at_135 (by decide) (by decide) (by decide) rfl
    refine w_iload X at_54 rfl (pc' := 56) rfl ?_
    refine w_iconst X at_56 (v := (2 : Int32)) (by decide) (pc' := 57) rfl ?_
    refine w_iushr X at_57 (pc' := 58) rfl ?_
    refine w_iconst X at_58 (v := (1 : Int32)) (by decide) (pc' := 59) rfl ?_
    refine w_iand X at_59 (pc' := 60) rfl ?_
    refine w_if_ne X at_60 (by decide) (p1 := 70) (by decide) (p2 := 63) rfl (fun c60 => ?_) (fun c60 => ?_)
    · -- c60 taken
      refine w_iload X at_70 rfl (pc' := 72) rfl ?_
      refine w_bipush X at_72 (v := (64 : Int32)) (by decide) (pc' := 74) rfl ?_
      refine w_imul X at_74 (pc' := 75) rfl ?_
      refine w_bipush X at_75 (v := (64 : Int32)) (by decide) (pc' := 77) rfl ?_
      refine w_isub X at_77 (pc' := 78) rfl ?_
      refine w_iload X at_78 rfl (pc' := 80) rfl ?_
      refine w_ldcI X at_80 (tw0 hw) (pc' := 82) rfl ?_
      refine w_iand X at_82 (pc' := 83) rfl ?_
      refine w_sipush X at_83 (v := (320 : Int32)) (by decide) (pc' := 86) rfl ?_
      refine w_irem X at_86 (by decide) (pc' := 87) rfl ?_
      refine w_iadd X at_87 (pc' := 88) rfl ?_
      refine w_istore X at_88 (L' := #[.val (.int f), .val (.long wa), .second, .val (.long wb), .second, .val (.long wc), .second, .val (.int b), .val (.int t), .val (.int (0 : Int32)), .val (.int fi), .val (.ref b1), .val (.int (((fi * (64 : Int32)) - (64 : Int32)) + ((b &&& (2147483647 : Int32)) % (320 : Int32)))), .unset, .unset]) rfl (pc' := 90) rfl ?_
      exact J3 T X (((fi * (64 : Int32)) - (64 : Int32)) + ((b &&& (2147483647 : Int32)) % (320 : Int32)))
    · -- c60 not taken
      refine w_iload X at_63 rfl (pc' := 65) rfl ?_
      refine w_istore X at_65 (L' := #[.val (.int f), .val (.long wa), .second, .val (.long wb), .second, .val (.long wc), .second, .val (.int b), .val (.int t), .val (.int (0 : Int32)), .val (.int fi), .val (.ref b1), .val (.int b), .unset, .unset]) rfl (pc' := 67) rfl ?_
      refine w_goto X at_67 (by decide) (pc' := 90) (by decide) ?_
      exact J3 T X b
  · -- of length 1
    refine w_iloadN X at_6 rfl (pc' := 7) rfl ?_
    refine w_ldcI X at_7 (tw0 hw) (pc' := 9) rfl ?_
    refine w_iand X at_9 (pc' := 10) rfl ?_
    refine w_ldcI X at_10 (tw1 hw) (pc' := 12) rfl ?_
    refine w_irem X at_12 (by decide) (pc' := 13) rfl ?_
    refine w_nameI ?_; intro fi h_fi
    refine w_istore X at_13 (L' := #[.val (.int f), .val (.long wa), .second, .val (.long wb), .second, .val (.long wc), .second, .val (.int b), .val (.int t), .val (.int (1 : Int32)), .val (.int fi), .unset, .unset, .unset, .unset]) rfl (pc' := 15) rfl ?_
    refine w_iload X at_15 rfl (pc' := 17) rfl ?_
    refine w_newarray X (aty := .long) 1 (tw2 hw) at_17 (by decide) (by decide) (by decide) (by decide) (by decide) (pc' := 19) rfl ?_; intro T h13 b13 cA13 X eq13 ga13 E13 A13
    have O14 : AJ Z h13 b13 1 (fun _ => 0) := AJ.new A13 (by decide)
    refine w_astore X at_19 (L' := #[.val (.int f), .val (.long wa), .second, .val (.long wb), .second, .val (.long wc), .second, .val (.int b), .val (.int t), .val (.int (1 : Int32)), .val (.int fi), .val (.ref b13), .unset, .unset, .unset]) rfl rfl (pc' := 21) rfl ?_
    refine w_iload X at_21 rfl (pc' := 23) rfl ?_
    refine w_if_le X at_23 (by decide) (p1 := 31) (by decide) (p2 := 26) rfl (fun c23 => False.elim (absurd c23 (by decide))) (fun c23 => ?_)
    refine w_aload X at_26 rfl rfl (pc' := 28) rfl ?_
    refine w_iconst X at_28 (v := (0 : Int32)) (by decide) (pc' := 29) rfl ?_
    refine w_lloadN X at_29 rfl (pc' := 30) rfl ?_
    refine w_lastore X (i := 0) (x' := wa) O14 ga13 at_30 (by decide) (by decide) rfl (pc' := 31) rfl ?_; intro T h15 X K16 O17
    refine w_iload X at_31 rfl (pc' := 33) rfl ?_
    refine w_iconst X at_33 (v := (1 : Int32)) (by decide) (pc' := 34) rfl ?_
    refine w_icmp_le X at_34 (by decide) (p1 := 42) (by decide) (p2 := 37) rfl (fun c34 => ?_) (fun c34 => False.elim (absurd c34 (by decide)))
    refine w_iload X at_42 rfl (pc' := 44) rfl ?_
    refine w_iconst X at_44 (v := (2 : Int32)) (by decide) (pc' := 45) rfl ?_
    refine w_icmp_le X at_45 (by decide) (p1 := 54) (by decide) (p2 := 48) rfl (fun c45 => ?_) (fun c45 => False.elim (absurd c45 (by decide)))
    have J18 : ∀ T, St p l e room_1 s m #[(.int f), (.long wa), (.long wb), (.long wc), (.int b), (.int t)] below meth c Z n0 x code maxLocals ret T h15 (0 + 1) (0 + 1) → ∀ (bit : Int32), WP p e below s n0 room_1.cells room_1.slots (fun r _ => r = some (.int 1)) T (mkF m 90 #[.val (.int f), .val (.long wa), .second, .val (.long wb), .second, .val (.long wc), .second, .val (.int b), .val (.int t), .val (.int (1 : Int32)), .val (.int fi), .val (.ref b13), .val (.int bit), .unset, .unset] []) := by
      intro T X bit
      refine w_new X (tw3 hw) (tw4 hw) (tw5 hw) at_90 (by decide) (by decide) (pc' := 93) rfl ?_; intro T h20 b20 X eq20 ga20 E20 A20 D20
      have ne21 : b13 ≠ b20 := Nat.ne_of_lt (Nat.lt_of_lt_of_eq O17.lt eq20.symm)
      have O22 := O17.ext E20
      have O23 : Bs Z h20 b20 (.int (0 : Int32)) .null := ⟨A20, D20 (Or.inr (tw13 hw)) (ty := .int) (by decide), D20 (Or.inr (tw15 hw)) (ty := (.array .long)) (by decide)⟩
      refine w_dup X at_93 rfl (pc' := 94) rfl ?_
      refine w_iload X at_94 rfl (pc' := 96) rfl ?_
      refine w_aload X at_96 rfl rfl (pc' := 98) rfl ?_
      refine w_callC X [(.int fi), (.ref b13)] [(.ref b20)] 1 rfl (tw6 hw) (tw7 hw) (tw5 hw) (tw8 hw) (ct_init l Z a0 hw b20 fi b13 h20 n0 X.n0le ga20 O23) at_98 pd0 rfl (by decide) rfl rfl rfl (by decide) (by decide) (by decide) (by decide) (pc' := 101) rfl ?_
      intro T h24 v X hQ
      obtain ⟨rfl, K25, O26⟩ := hQ
      have O27 := O22.keep K25 (ninS ne21 nin0)
      show WP _ _ _ _ _ _ _ _ _ (mkF m 101 #[.val (.int f), .val (.long wa), .second, .val (.long wb), .second, .val (.long wc), .second, .val (.int b), .val (.int t), .val (.int (1 : Int32)), .val (.int fi), .val (.ref b13), .val (.int bit), .unset, .unset] [(.ref b20)])
      refine w_astore X at_101 (L' := #[.val (.int f), .val (.long wa), .second, .val (.long wb), .second, .val (.long wc), .second, .val (.int b), .val (.int t), .val (.int (1 : Int32)), .val (.int fi), .val (.ref b13), .val (.int bit), .val (.ref b20), .unset]) rfl rfl (pc' := 103) rfl ?_
      refine w_aload X at_103 rfl rfl (pc' := 105) rfl ?_
      refine w_iload X at_105 rfl (pc' := 107) rfl ?_
      refine w_callV X [(.int bit)] [] 0 (tw16 hw) (tw17 hw) (tw19 hw) (tw18 hw) (tw5 hw) (tw20 hw) O26.exa (ct_con l Z a0 hw b20 fi bit (1 : Int32) b13 1 (fun q => if q = 0 then wa else (fun _ => 0) q) h24 n0 X.n0le ga20 O26 O27 (by decide)) at_107 pd1 rfl (by decide) rfl rfl rfl (by decide) (by decide) (by decide) (by decide) (pc' := 110) rfl ?_
      intro T hz v X hQ
      obtain ⟨rfl, hz1⟩ := hQ; replace hz1 := hz1.symm; subst hz1
      show WP _ _ _ _ _ _ _ _ _ (mkF m 110 #[.val (.int f), .val (.long wa), .second, .val (.long wb), .second, .val (.long wc), .second, .val (.int b), .val (.int t), .val (.int (1 : Int32)), .val (.int fi), .val (.ref b13), .val (.int bit), .val (.ref b20), .unset] [(.int (cCon fi bit (1 : Int32) (fun q => if q = 0 then wa else (fun _ => 0) q)))])
      refine w_istore X at_110 (L' := #[.val (.int f), .val (.long wa), .second, .val (.long wb), .second, .val (.long wc), .second, .val (.int b), .val (.int t), .val (.int (1 : Int32)), .val (.int fi), .val (.ref b13), .val (.int bit), .val (.ref b20), .val (.int (cCon fi bit (1 : Int32) (fun q => if q = 0 then wa else (fun _ => 0) q)))]) rfl (pc' := 112) rfl ?_
      refine w_iload X at_112 rfl (pc' := 114) rfl ?_
      refine w_iload X at_114 rfl (pc' := 116) rfl ?_
      refine w_iload X at_116 rfl (pc' := 118) rfl ?_
      refine w_lloadN X at_118 rfl (pc' := 119) rfl ?_
      refine w_lloadN X at_119 rfl (pc' := 120) rfl ?_
      refine w_lload X at_120 rfl (pc' := 122) rfl ?_
      refine w_iload X at_122 rfl (pc' := 124) rfl ?_
      refine w_callS X [(.int fi), (.int (1 : Int32)), (.long wa), (.long wb), (.long wc), (.int bit)] [(.int (cCon fi bit (1 : Int32) (fun q => if q = 0 then wa else (fun _ => 0) q)))] 1 (tw21 hw) (tw22 hw) (tw23 hw) (tw24 hw) (ct_fExp l Z a0 hw fi (1 : Int32) wa wb wc bit h24 n0 X.n0le) at_124 pd2 rfl (by decide) rfl rfl rfl (by decide) (by decide) (by decide) (by decide) (pc' := 127) rfl ?_
      intro T hz v X hQ
      obtain ⟨rfl, hz1⟩ := hQ; replace hz1 := hz1.symm; subst hz1
      show WP _ _ _ _ _ _ _ _ _ (mkF m 127 #[.val (.int f), .val (.long wa), .second, .val (.long wb), .second, .val (.long wc), .second, .val (.int b), .val (.int t), .val (.int (1 : Int32)), .val (.int fi), .val (.ref b13), .val (.int bit), .val (.ref b20), .val (.int (cCon fi bit (1 : Int32) (fun q => if q = 0 then wa else (fun _ => 0) q)))] [(.int (fExp fi (1 : Int32) wa wb wc bit)), (.int (cCon fi bit (1 : Int32) (fun q => if q = 0 then wa else (fun _ => 0) q)))])
      refine w_icmp_ne X at_127 (by decide) (p1 := 134) (by decide) (p2 := 130) rfl (fun c127 => False.elim (c127 (con_eq (first_ok h_fi) (by decide) (by decide) (fun _ => rfl) (fun q => absurd q (by decide)) (fun q => absurd q (by decide))))) (fun c127 => ?_)
      refine w_iconst X at_130 (v := (1 : Int32)) (by decide) (pc' := 131) rfl ?_
      refine w_goto X at_131 (by decide) (pc' := 135) (by decide) ?_
      exact w_retZ X rfl at_135 (by decide) (by decide) (by decide) rfl
    refine w_iload X at_54 rfl (pc' := 56) rfl ?_
    refine w_iconst X at_56 (v := (2 : Int32)) (by decide) (pc' := 57) rfl ?_
    refine w_iushr X at_57 (pc' := 58) rfl ?_
    refine w_iconst X at_58 (v := (1 : Int32)) (by decide) (pc' := 59) rfl ?_
    refine w_iand X at_59 (pc' := 60) rfl ?_
    refine w_if_ne X at_60 (by decide) (p1 := 70) (by decide) (p2 := 63) rfl (fun c60 => ?_) (fun c60 => ?_)
    · -- c60 taken
      refine w_iload X at_70 rfl (pc' := 72) rfl ?_
      refine w_bipush X at_72 (v := (64 : Int32)) (by decide) (pc' := 74) rfl ?_
      refine w_imul X at_74 (pc' := 75) rfl ?_
      refine w_bipush X at_75 (v := (64 : Int32)) (by decide) (pc' := 77) rfl ?_
      refine w_isub X at_77 (pc' := 78) rfl ?_
      refine w_iload X at_78 rfl (pc' := 80) rfl ?_
      refine w_ldcI X at_80 (tw0 hw) (pc' := 82) rfl ?_
      refine w_iand X at_82 (pc' := 83) rfl ?_
      refine w_sipush X at_83 (v := (320 : Int32)) (by decide) (pc' := 86) rfl ?_
      refine w_irem X at_86 (by decide) (pc' := 87) rfl ?_
      refine w_iadd X at_87 (pc' := 88) rfl ?_
      refine w_istore X at_88 (L' := #[.val (.int f), .val (.long wa), .second, .val (.long wb), .second, .val (.long wc), .second, .val (.int b), .val (.int t), .val (.int (1 : Int32)), .val (.int fi), .val (.ref b13), .val (.int (((fi * (64 : Int32)) - (64 : Int32)) + ((b &&& (2147483647 : Int32)) % (320 : Int32)))), .unset, .unset]) rfl (pc' := 90) rfl ?_
      exact J18 T X (((fi * (64 : Int32)) - (64 : Int32)) + ((b &&& (2147483647 : Int32)) % (320 : Int32)))
    · -- c60 not taken
      refine w_iload X at_63 rfl (pc' := 65) rfl ?_
      refine w_istore X at_65 (L' := #[.val (.int f), .val (.long wa), .second, .val (.long wb), .second, .val (.long wc), .second, .val (.int b), .val (.int t), .val (.int (1 : Int32)), .val (.int fi), .val (.ref b13), .val (.int b), .unset, .unset]) rfl (pc' := 67) rfl ?_
      refine w_goto X at_67 (by decide) (pc' := 90) (by decide) ?_
      exact J18 T X b
  · -- of length 2
    refine w_iloadN X at_6 rfl (pc' := 7) rfl ?_
    refine w_ldcI X at_7 (tw0 hw) (pc' := 9) rfl ?_
    refine w_iand X at_9 (pc' := 10) rfl ?_
    refine w_ldcI X at_10 (tw1 hw) (pc' := 12) rfl ?_
    refine w_irem X at_12 (by decide) (pc' := 13) rfl ?_
    refine w_nameI ?_; intro fi h_fi
    refine w_istore X at_13 (L' := #[.val (.int f), .val (.long wa), .second, .val (.long wb), .second, .val (.long wc), .second, .val (.int b), .val (.int t), .val (.int (2 : Int32)), .val (.int fi), .unset, .unset, .unset, .unset]) rfl (pc' := 15) rfl ?_
    refine w_iload X at_15 rfl (pc' := 17) rfl ?_
    refine w_newarray X (aty := .long) 2 (tw2 hw) at_17 (by decide) (by decide) (by decide) (by decide) (by decide) (pc' := 19) rfl ?_; intro T h28 b28 cA28 X eq28 ga28 E28 A28
    have O29 : AJ Z h28 b28 2 (fun _ => 0) := AJ.new A28 (by decide)
    refine w_astore X at_19 (L' := #[.val (.int f), .val (.long wa), .second, .val (.long wb), .second, .val (.long wc), .second, .val (.int b), .val (.int t), .val (.int (2 : Int32)), .val (.int fi), .val (.ref b28), .unset, .unset, .unset]) rfl rfl (pc' := 21) rfl ?_
    refine w_iload X at_21 rfl (pc' := 23) rfl ?_
    refine w_if_le X at_23 (by decide) (p1 := 31) (by decide) (p2 := 26) rfl (fun c23 => False.elim (absurd c23 (by decide))) (fun c23 => ?_)
    refine w_aload X at_26 rfl rfl (pc' := 28) rfl ?_
    refine w_iconst X at_28 (v := (0 : Int32)) (by decide) (pc' := 29) rfl ?_
    refine w_lloadN X at_29 rfl (pc' := 30) rfl ?_
    refine w_lastore X (i := 0) (x' := wa) O29 ga28 at_30 (by decide) (by decide) rfl (pc' := 31) rfl ?_; intro T h30 X K31 O32
    refine w_iload X at_31 rfl (pc' := 33) rfl ?_
    refine w_iconst X at_33 (v := (1 : Int32)) (by decide) (pc' := 34) rfl ?_
    refine w_icmp_le X at_34 (by decide) (p1 := 42) (by decide) (p2 := 37) rfl (fun c34 => False.elim (absurd c34 (by decide))) (fun c34 => ?_)
    refine w_aload X at_37 rfl rfl (pc' := 39) rfl ?_
    refine w_iconst X at_39 (v := (1 : Int32)) (by decide) (pc' := 40) rfl ?_
    refine w_lloadN X at_40 rfl (pc' := 41) rfl ?_
    refine w_lastore X (i := 1) (x' := wb) O32 ga28 at_41 (by decide) (by decide) rfl (pc' := 42) rfl ?_; intro T h33 X K34 O35
    refine w_iload X at_42 rfl (pc' := 44) rfl ?_
    refine w_iconst X at_44 (v := (2 : Int32)) (by decide) (pc' := 45) rfl ?_
    refine w_icmp_le X at_45 (by decide) (p1 := 54) (by decide) (p2 := 48) rfl (fun c45 => ?_) (fun c45 => False.elim (absurd c45 (by decide)))
    have J36 : ∀ T, St p l e room_1 s m #[(.int f), (.long wa), (.long wb), (.long wc), (.int b), (.int t)] below meth c Z n0 x code maxLocals ret T h33 (0 + 1) (0 + 2) → ∀ (bit : Int32), WP p e below s n0 room_1.cells room_1.slots (fun r _ => r = some (.int 1)) T (mkF m 90 #[.val (.int f), .val (.long wa), .second, .val (.long wb), .second, .val (.long wc), .second, .val (.int b), .val (.int t), .val (.int (2 : Int32)), .val (.int fi), .val (.ref b28), .val (.int bit), .unset, .unset] []) := by
      intro T X bit
      refine w_new X (tw3 hw) (tw4 hw) (tw5 hw) at_90 (by decide) (by decide) (pc' := 93) rfl ?_; intro T h38 b38 X eq38 ga38 E38 A38 D38
      have ne39 : b28 ≠ b38 := Nat.ne_of_lt (Nat.lt_of_lt_of_eq O35.lt eq38.symm)
      have O40 := O35.ext E38
      have O41 : Bs Z h38 b38 (.int (0 : Int32)) .null := ⟨A38, D38 (Or.inr (tw13 hw)) (ty := .int) (by decide), D38 (Or.inr (tw15 hw)) (ty := (.array .long)) (by decide)⟩
      refine w_dup X at_93 rfl (pc' := 94) rfl ?_
      refine w_iload X at_94 rfl (pc' := 96) rfl ?_
      refine w_aload X at_96 rfl rfl (pc' := 98) rfl ?_
      refine w_callC X [(.int fi), (.ref b28)] [(.ref b38)] 1 rfl (tw6 hw) (tw7 hw) (tw5 hw) (tw8 hw) (ct_init l Z a0 hw b38 fi b28 h38 n0 X.n0le ga38 O41) at_98 pd0 rfl (by decide) rfl rfl rfl (by decide) (by decide) (by decide) (by decide) (pc' := 101) rfl ?_
      intro T h42 v X hQ
      obtain ⟨rfl, K43, O44⟩ := hQ
      have O45 := O40.keep K43 (ninS ne39 nin0)
      show WP _ _ _ _ _ _ _ _ _ (mkF m 101 #[.val (.int f), .val (.long wa), .second, .val (.long wb), .second, .val (.long wc), .second, .val (.int b), .val (.int t), .val (.int (2 : Int32)), .val (.int fi), .val (.ref b28), .val (.int bit), .unset, .unset] [(.ref b38)])
      refine w_astore X at_101 (L' := #[.val (.int f), .val (.long wa), .second, .val (.long wb), .second, .val (.long wc), .second, .val (.int b), .val (.int t), .val (.int (2 : Int32)), .val (.int fi), .val (.ref b28), .val (.int bit), .val (.ref b38), .unset]) rfl rfl (pc' := 103) rfl ?_
      refine w_aload X at_103 rfl rfl (pc' := 105) rfl ?_
      refine w_iload X at_105 rfl (pc' := 107) rfl ?_
      refine w_callV X [(.int bit)] [] 0 (tw16 hw) (tw17 hw) (tw19 hw) (tw18 hw) (tw5 hw) (tw20 hw) O44.exa (ct_con l Z a0 hw b38 fi bit (2 : Int32) b28 2 (fun q => if q = 1 then wb else (fun q => if q = 0 then wa else (fun _ => 0) q) q) h42 n0 X.n0le ga38 O44 O45 (by decide)) at_107 pd1 rfl (by decide) rfl rfl rfl (by decide) (by decide) (by decide) (by decide) (pc' := 110) rfl ?_
      intro T hz v X hQ
      obtain ⟨rfl, hz1⟩ := hQ; replace hz1 := hz1.symm; subst hz1
      show WP _ _ _ _ _ _ _ _ _ (mkF m 110 #[.val (.int f), .val (.long wa), .second, .val (.long wb), .second, .val (.long wc), .second, .val (.int b), .val (.int t), .val (.int (2 : Int32)), .val (.int fi), .val (.ref b28), .val (.int bit), .val (.ref b38), .unset] [(.int (cCon fi bit (2 : Int32) (fun q => if q = 1 then wb else (fun q => if q = 0 then wa else (fun _ => 0) q) q)))])
      refine w_istore X at_110 (L' := #[.val (.int f), .val (.long wa), .second, .val (.long wb), .second, .val (.long wc), .second, .val (.int b), .val (.int t), .val (.int (2 : Int32)), .val (.int fi), .val (.ref b28), .val (.int bit), .val (.ref b38), .val (.int (cCon fi bit (2 : Int32) (fun q => if q = 1 then wb else (fun q => if q = 0 then wa else (fun _ => 0) q) q)))]) rfl (pc' := 112) rfl ?_
      refine w_iload X at_112 rfl (pc' := 114) rfl ?_
      refine w_iload X at_114 rfl (pc' := 116) rfl ?_
      refine w_iload X at_116 rfl (pc' := 118) rfl ?_
      refine w_lloadN X at_118 rfl (pc' := 119) rfl ?_
      refine w_lloadN X at_119 rfl (pc' := 120) rfl ?_
      refine w_lload X at_120 rfl (pc' := 122) rfl ?_
      refine w_iload X at_122 rfl (pc' := 124) rfl ?_
      refine w_callS X [(.int fi), (.int (2 : Int32)), (.long wa), (.long wb), (.long wc), (.int bit)] [(.int (cCon fi bit (2 : Int32) (fun q => if q = 1 then wb else (fun q => if q = 0 then wa else (fun _ => 0) q) q)))] 1 (tw21 hw) (tw22 hw) (tw23 hw) (tw24 hw) (ct_fExp l Z a0 hw fi (2 : Int32) wa wb wc bit h42 n0 X.n0le) at_124 pd2 rfl (by decide) rfl rfl rfl (by decide) (by decide) (by decide) (by decide) (pc' := 127) rfl ?_
      intro T hz v X hQ
      obtain ⟨rfl, hz1⟩ := hQ; replace hz1 := hz1.symm; subst hz1
      show WP _ _ _ _ _ _ _ _ _ (mkF m 127 #[.val (.int f), .val (.long wa), .second, .val (.long wb), .second, .val (.long wc), .second, .val (.int b), .val (.int t), .val (.int (2 : Int32)), .val (.int fi), .val (.ref b28), .val (.int bit), .val (.ref b38), .val (.int (cCon fi bit (2 : Int32) (fun q => if q = 1 then wb else (fun q => if q = 0 then wa else (fun _ => 0) q) q)))] [(.int (fExp fi (2 : Int32) wa wb wc bit)), (.int (cCon fi bit (2 : Int32) (fun q => if q = 1 then wb else (fun q => if q = 0 then wa else (fun _ => 0) q) q)))])
      refine w_icmp_ne X at_127 (by decide) (p1 := 134) (by decide) (p2 := 130) rfl (fun c127 => False.elim (c127 (con_eq (first_ok h_fi) (by decide) (by decide) (fun _ => rfl) (fun _ => rfl) (fun q => absurd q (by decide))))) (fun c127 => ?_)
      refine w_iconst X at_130 (v := (1 : Int32)) (by decide) (pc' := 131) rfl ?_
      refine w_goto X at_131 (by decide) (pc' := 135) (by decide) ?_
      exact w_retZ X rfl at_135 (by decide) (by decide) (by decide) rfl
    refine w_iload X at_54 rfl (pc' := 56) rfl ?_
    refine w_iconst X at_56 (v := (2 : Int32)) (by decide) (pc' := 57) rfl ?_
    refine w_iushr X at_57 (pc' := 58) rfl ?_
    refine w_iconst X at_58 (v := (1 : Int32)) (by decide) (pc' := 59) rfl ?_
    refine w_iand X at_59 (pc' := 60) rfl ?_
    refine w_if_ne X at_60 (by decide) (p1 := 70) (by decide) (p2 := 63) rfl (fun c60 => ?_) (fun c60 => ?_)
    · -- c60 taken
      refine w_iload X at_70 rfl (pc' := 72) rfl ?_
      refine w_bipush X at_72 (v := (64 : Int32)) (by decide) (pc' := 74) rfl ?_
      refine w_imul X at_74 (pc' := 75) rfl ?_
      refine w_bipush X at_75 (v := (64 : Int32)) (by decide) (pc' := 77) rfl ?_
      refine w_isub X at_77 (pc' := 78) rfl ?_
      refine w_iload X at_78 rfl (pc' := 80) rfl ?_
      refine w_ldcI X at_80 (tw0 hw) (pc' := 82) rfl ?_
      refine w_iand X at_82 (pc' := 83) rfl ?_
      refine w_sipush X at_83 (v := (320 : Int32)) (by decide) (pc' := 86) rfl ?_
      refine w_irem X at_86 (by decide) (pc' := 87) rfl ?_
      refine w_iadd X at_87 (pc' := 88) rfl ?_
      refine w_istore X at_88 (L' := #[.val (.int f), .val (.long wa), .second, .val (.long wb), .second, .val (.long wc), .second, .val (.int b), .val (.int t), .val (.int (2 : Int32)), .val (.int fi), .val (.ref b28), .val (.int (((fi * (64 : Int32)) - (64 : Int32)) + ((b &&& (2147483647 : Int32)) % (320 : Int32)))), .unset, .unset]) rfl (pc' := 90) rfl ?_
      exact J36 T X (((fi * (64 : Int32)) - (64 : Int32)) + ((b &&& (2147483647 : Int32)) % (320 : Int32)))
    · -- c60 not taken
      refine w_iload X at_63 rfl (pc' := 65) rfl ?_
      refine w_istore X at_65 (L' := #[.val (.int f), .val (.long wa), .second, .val (.long wb), .second, .val (.long wc), .second, .val (.int b), .val (.int t), .val (.int (2 : Int32)), .val (.int fi), .val (.ref b28), .val (.int b), .unset, .unset]) rfl (pc' := 67) rfl ?_
      refine w_goto X at_67 (by decide) (pc' := 90) (by decide) ?_
      exact J36 T X b
  · -- of length 3
    refine w_iloadN X at_6 rfl (pc' := 7) rfl ?_
    refine w_ldcI X at_7 (tw0 hw) (pc' := 9) rfl ?_
    refine w_iand X at_9 (pc' := 10) rfl ?_
    refine w_ldcI X at_10 (tw1 hw) (pc' := 12) rfl ?_
    refine w_irem X at_12 (by decide) (pc' := 13) rfl ?_
    refine w_nameI ?_; intro fi h_fi
    refine w_istore X at_13 (L' := #[.val (.int f), .val (.long wa), .second, .val (.long wb), .second, .val (.long wc), .second, .val (.int b), .val (.int t), .val (.int (3 : Int32)), .val (.int fi), .unset, .unset, .unset, .unset]) rfl (pc' := 15) rfl ?_
    refine w_iload X at_15 rfl (pc' := 17) rfl ?_
    refine w_newarray X (aty := .long) 3 (tw2 hw) at_17 (by decide) (by decide) (by decide) (by decide) (by decide) (pc' := 19) rfl ?_; intro T h46 b46 cA46 X eq46 ga46 E46 A46
    have O47 : AJ Z h46 b46 3 (fun _ => 0) := AJ.new A46 (by decide)
    refine w_astore X at_19 (L' := #[.val (.int f), .val (.long wa), .second, .val (.long wb), .second, .val (.long wc), .second, .val (.int b), .val (.int t), .val (.int (3 : Int32)), .val (.int fi), .val (.ref b46), .unset, .unset, .unset]) rfl rfl (pc' := 21) rfl ?_
    refine w_iload X at_21 rfl (pc' := 23) rfl ?_
    refine w_if_le X at_23 (by decide) (p1 := 31) (by decide) (p2 := 26) rfl (fun c23 => False.elim (absurd c23 (by decide))) (fun c23 => ?_)
    refine w_aload X at_26 rfl rfl (pc' := 28) rfl ?_
    refine w_iconst X at_28 (v := (0 : Int32)) (by decide) (pc' := 29) rfl ?_
    refine w_lloadN X at_29 rfl (pc' := 30) rfl ?_
    refine w_lastore X (i := 0) (x' := wa) O47 ga46 at_30 (by decide) (by decide) rfl (pc' := 31) rfl ?_; intro T h48 X K49 O50
    refine w_iload X at_31 rfl (pc' := 33) rfl ?_
    refine w_iconst X at_33 (v := (1 : Int32)) (by decide) (pc' := 34) rfl ?_
    refine w_icmp_le X at_34 (by decide) (p1 := 42) (by decide) (p2 := 37) rfl (fun c34 => False.elim (absurd c34 (by decide))) (fun c34 => ?_)
    refine w_aload X at_37 rfl rfl (pc' := 39) rfl ?_
    refine w_iconst X at_39 (v := (1 : Int32)) (by decide) (pc' := 40) rfl ?_
    refine w_lloadN X at_40 rfl (pc' := 41) rfl ?_
    refine w_lastore X (i := 1) (x' := wb) O50 ga46 at_41 (by decide) (by decide) rfl (pc' := 42) rfl ?_; intro T h51 X K52 O53
    refine w_iload X at_42 rfl (pc' := 44) rfl ?_
    refine w_iconst X at_44 (v := (2 : Int32)) (by decide) (pc' := 45) rfl ?_
    refine w_icmp_le X at_45 (by decide) (p1 := 54) (by decide) (p2 := 48) rfl (fun c45 => False.elim (absurd c45 (by decide))) (fun c45 => ?_)
    refine w_aload X at_48 rfl rfl (pc' := 50) rfl ?_
    refine w_iconst X at_50 (v := (2 : Int32)) (by decide) (pc' := 51) rfl ?_
    refine w_lload X at_51 rfl (pc' := 53) rfl ?_
    refine w_lastore X (i := 2) (x' := wc) O53 ga46 at_53 (by decide) (by decide) rfl (pc' := 54) rfl ?_; intro T h54 X K55 O56
    have J57 : ∀ T, St p l e room_1 s m #[(.int f), (.long wa), (.long wb), (.long wc), (.int b), (.int t)] below meth c Z n0 x code maxLocals ret T h54 (0 + 1) (0 + 3) → ∀ (bit : Int32), WP p e below s n0 room_1.cells room_1.slots (fun r _ => r = some (.int 1)) T (mkF m 90 #[.val (.int f), .val (.long wa), .second, .val (.long wb), .second, .val (.long wc), .second, .val (.int b), .val (.int t), .val (.int (3 : Int32)), .val (.int fi), .val (.ref b46), .val (.int bit), .unset, .unset] []) := by
      intro T X bit
      refine w_new X (tw3 hw) (tw4 hw) (tw5 hw) at_90 (by decide) (by decide) (pc' := 93) rfl ?_; intro T h59 b59 X eq59 ga59 E59 A59 D59
      have ne60 : b46 ≠ b59 := Nat.ne_of_lt (Nat.lt_of_lt_of_eq O56.lt eq59.symm)
      have O61 := O56.ext E59
      have O62 : Bs Z h59 b59 (.int (0 : Int32)) .null := ⟨A59, D59 (Or.inr (tw13 hw)) (ty := .int) (by decide), D59 (Or.inr (tw15 hw)) (ty := (.array .long)) (by decide)⟩
      refine w_dup X at_93 rfl (pc' := 94) rfl ?_
      refine w_iload X at_94 rfl (pc' := 96) rfl ?_
      refine w_aload X at_96 rfl rfl (pc' := 98) rfl ?_
      refine w_callC X [(.int fi), (.ref b46)] [(.ref b59)] 1 rfl (tw6 hw) (tw7 hw) (tw5 hw) (tw8 hw) (ct_init l Z a0 hw b59 fi b46 h59 n0 X.n0le ga59 O62) at_98 pd0 rfl (by decide) rfl rfl rfl (by decide) (by decide) (by decide) (by decide) (pc' := 101) rfl ?_
      intro T h63 v X hQ
      obtain ⟨rfl, K64, O65⟩ := hQ
      have O66 := O61.keep K64 (ninS ne60 nin0)
      show WP _ _ _ _ _ _ _ _ _ (mkF m 101 #[.val (.int f), .val (.long wa), .second, .val (.long wb), .second, .val (.long wc), .second, .val (.int b), .val (.int t), .val (.int (3 : Int32)), .val (.int fi), .val (.ref b46), .val (.int bit), .unset, .unset] [(.ref b59)])
      refine w_astore X at_101 (L' := #[.val (.int f), .val (.long wa), .second, .val (.long wb), .second, .val (.long wc), .second, .val (.int b), .val (.int t), .val (.int (3 : Int32)), .val (.int fi), .val (.ref b46), .val (.int bit), .val (.ref b59), .unset]) rfl rfl (pc' := 103) rfl ?_
      refine w_aload X at_103 rfl rfl (pc' := 105) rfl ?_
      refine w_iload X at_105 rfl (pc' := 107) rfl ?_
      refine w_callV X [(.int bit)] [] 0 (tw16 hw) (tw17 hw) (tw19 hw) (tw18 hw) (tw5 hw) (tw20 hw) O65.exa (ct_con l Z a0 hw b59 fi bit (3 : Int32) b46 3 (fun q => if q = 2 then wc else (fun q => if q = 1 then wb else (fun q => if q = 0 then wa else (fun _ => 0) q) q) q) h63 n0 X.n0le ga59 O65 O66 (by decide)) at_107 pd1 rfl (by decide) rfl rfl rfl (by decide) (by decide) (by decide) (by decide) (pc' := 110) rfl ?_
      intro T hz v X hQ
      obtain ⟨rfl, hz1⟩ := hQ; replace hz1 := hz1.symm; subst hz1
      show WP _ _ _ _ _ _ _ _ _ (mkF m 110 #[.val (.int f), .val (.long wa), .second, .val (.long wb), .second, .val (.long wc), .second, .val (.int b), .val (.int t), .val (.int (3 : Int32)), .val (.int fi), .val (.ref b46), .val (.int bit), .val (.ref b59), .unset] [(.int (cCon fi bit (3 : Int32) (fun q => if q = 2 then wc else (fun q => if q = 1 then wb else (fun q => if q = 0 then wa else (fun _ => 0) q) q) q)))])
      refine w_istore X at_110 (L' := #[.val (.int f), .val (.long wa), .second, .val (.long wb), .second, .val (.long wc), .second, .val (.int b), .val (.int t), .val (.int (3 : Int32)), .val (.int fi), .val (.ref b46), .val (.int bit), .val (.ref b59), .val (.int (cCon fi bit (3 : Int32) (fun q => if q = 2 then wc else (fun q => if q = 1 then wb else (fun q => if q = 0 then wa else (fun _ => 0) q) q) q)))]) rfl (pc' := 112) rfl ?_
      refine w_iload X at_112 rfl (pc' := 114) rfl ?_
      refine w_iload X at_114 rfl (pc' := 116) rfl ?_
      refine w_iload X at_116 rfl (pc' := 118) rfl ?_
      refine w_lloadN X at_118 rfl (pc' := 119) rfl ?_
      refine w_lloadN X at_119 rfl (pc' := 120) rfl ?_
      refine w_lload X at_120 rfl (pc' := 122) rfl ?_
      refine w_iload X at_122 rfl (pc' := 124) rfl ?_
      refine w_callS X [(.int fi), (.int (3 : Int32)), (.long wa), (.long wb), (.long wc), (.int bit)] [(.int (cCon fi bit (3 : Int32) (fun q => if q = 2 then wc else (fun q => if q = 1 then wb else (fun q => if q = 0 then wa else (fun _ => 0) q) q) q)))] 1 (tw21 hw) (tw22 hw) (tw23 hw) (tw24 hw) (ct_fExp l Z a0 hw fi (3 : Int32) wa wb wc bit h63 n0 X.n0le) at_124 pd2 rfl (by decide) rfl rfl rfl (by decide) (by decide) (by decide) (by decide) (pc' := 127) rfl ?_
      intro T hz v X hQ
      obtain ⟨rfl, hz1⟩ := hQ; replace hz1 := hz1.symm; subst hz1
      show WP _ _ _ _ _ _ _ _ _ (mkF m 127 #[.val (.int f), .val (.long wa), .second, .val (.long wb), .second, .val (.long wc), .second, .val (.int b), .val (.int t), .val (.int (3 : Int32)), .val (.int fi), .val (.ref b46), .val (.int bit), .val (.ref b59), .val (.int (cCon fi bit (3 : Int32) (fun q => if q = 2 then wc else (fun q => if q = 1 then wb else (fun q => if q = 0 then wa else (fun _ => 0) q) q) q)))] [(.int (fExp fi (3 : Int32) wa wb wc bit)), (.int (cCon fi bit (3 : Int32) (fun q => if q = 2 then wc else (fun q => if q = 1 then wb else (fun q => if q = 0 then wa else (fun _ => 0) q) q) q)))])
      refine w_icmp_ne X at_127 (by decide) (p1 := 134) (by decide) (p2 := 130) rfl (fun c127 => False.elim (c127 (con_eq (first_ok h_fi) (by decide) (by decide) (fun _ => rfl) (fun _ => rfl) (fun _ => rfl)))) (fun c127 => ?_)
      refine w_iconst X at_130 (v := (1 : Int32)) (by decide) (pc' := 131) rfl ?_
      refine w_goto X at_131 (by decide) (pc' := 135) (by decide) ?_
      exact w_retZ X rfl at_135 (by decide) (by decide) (by decide) rfl
    refine w_iload X at_54 rfl (pc' := 56) rfl ?_
    refine w_iconst X at_56 (v := (2 : Int32)) (by decide) (pc' := 57) rfl ?_
    refine w_iushr X at_57 (pc' := 58) rfl ?_
    refine w_iconst X at_58 (v := (1 : Int32)) (by decide) (pc' := 59) rfl ?_
    refine w_iand X at_59 (pc' := 60) rfl ?_
    refine w_if_ne X at_60 (by decide) (p1 := 70) (by decide) (p2 := 63) rfl (fun c60 => ?_) (fun c60 => ?_)
    · -- c60 taken
      refine w_iload X at_70 rfl (pc' := 72) rfl ?_
      refine w_bipush X at_72 (v := (64 : Int32)) (by decide) (pc' := 74) rfl ?_
      refine w_imul X at_74 (pc' := 75) rfl ?_
      refine w_bipush X at_75 (v := (64 : Int32)) (by decide) (pc' := 77) rfl ?_
      refine w_isub X at_77 (pc' := 78) rfl ?_
      refine w_iload X at_78 rfl (pc' := 80) rfl ?_
      refine w_ldcI X at_80 (tw0 hw) (pc' := 82) rfl ?_
      refine w_iand X at_82 (pc' := 83) rfl ?_
      refine w_sipush X at_83 (v := (320 : Int32)) (by decide) (pc' := 86) rfl ?_
      refine w_irem X at_86 (by decide) (pc' := 87) rfl ?_
      refine w_iadd X at_87 (pc' := 88) rfl ?_
      refine w_istore X at_88 (L' := #[.val (.int f), .val (.long wa), .second, .val (.long wb), .second, .val (.long wc), .second, .val (.int b), .val (.int t), .val (.int (3 : Int32)), .val (.int fi), .val (.ref b46), .val (.int (((fi * (64 : Int32)) - (64 : Int32)) + ((b &&& (2147483647 : Int32)) % (320 : Int32)))), .unset, .unset]) rfl (pc' := 90) rfl ?_
      exact J57 T X (((fi * (64 : Int32)) - (64 : Int32)) + ((b &&& (2147483647 : Int32)) % (320 : Int32)))
    · -- c60 not taken
      refine w_iload X at_63 rfl (pc' := 65) rfl ?_
      refine w_istore X at_65 (L' := #[.val (.int f), .val (.long wa), .second, .val (.long wb), .second, .val (.long wc), .second, .val (.int b), .val (.int t), .val (.int (3 : Int32)), .val (.int fi), .val (.ref b46), .val (.int b), .unset, .unset]) rfl (pc' := 67) rfl ?_
      refine w_goto X at_67 (by decide) (pc' := 90) (by decide) ?_
      exact J57 T X b
set_option maxRecDepth 65536 in
set_option maxHeartbeats 4000000 in
theorem comes_1 {Post : Tables → Env → Array Value → State → Outcome → State → Prop} (hpost : ∀ tb e args s v u, (limb_1_1.after args s (.returned v) u = true ∧ limb_1_2.after args s (.returned v) u = true ∧ True) → FrameEnd s (.returned v) u (Jvm.fieldLocs frame_1_writes args s ++ Jvm.arrayLocs frame_1_arrays args s ++ Jvm.staticLocs frame_1_statics s) 16 128 → Post tb e args s (.returned v) u) :
    ArmFor flags0 classFile x code maxLocals ret World_1 tables_1 room_1 Calls_1 rest_1 Pre_1 Post := by
  intro l hfl _ _ p e ha hc hk s m args below hf hA hF happ hP
  obtain ⟨hcalls, hrest, hpre⟩ := hP
  obtain ⟨-, -, -, hnamed, -, -, -, hat⟩ := (Spec.applies_iff hf).mp happ
  obtain ⟨hg, hn⟩ := and_e (Cond.before_iff.mp (show (Jvm.Cond.and given_1 narrow_1).before args s = true from hpre))
  obtain ⟨g1a, g1b⟩ := and_e hg
  obtain ⟨g2a, g2b⟩ := and_e g1b
  obtain ⟨g3a, g3b⟩ := and_e g2b
  obtain ⟨g4a, g4b⟩ := and_e g3b
  obtain ⟨g5a, g5b⟩ := and_e g4b
  obtain ⟨g6a, g6b⟩ := and_e g5b
  obtain ⟨w0, w1, w2, w3, w4, w5, rfl⟩ : ∃ w0 w1 w2 w3 w4 w5 : Value, args = #[w0, w1, w2, w3, w4, w5] := by
    have hs : args.size = 6 := by simpa [Cond.value, given_1] using g1a
    obtain ⟨L⟩ := args
    match L, hs with
    | [w0, w1, w2, w3, w4, w5], _ => exact ⟨w0, w1, w2, w3, w4, w5, rfl⟩
  have hw := fun d (hd : d ∈ tables_1) => atoms_spec (ws := Jvm.Cond.code x code maxLocals ret :: tables_1) hat d (List.mem_cons_of_mem _ hd)
  obtain ⟨i0, ei0⟩ := is_v g2a
  obtain rfl : w0 = (.int i0) := Option.some.inj ei0
  obtain ⟨i1, ei1⟩ := isL_v g3a
  obtain rfl : w1 = (.long i1) := Option.some.inj ei1
  obtain ⟨i2, ei2⟩ := isL_v g4a
  obtain rfl : w2 = (.long i2) := Option.some.inj ei2
  obtain ⟨i3, ei3⟩ := isL_v g5a
  obtain rfl : w3 = (.long i3) := Option.some.inj ei3
  obtain ⟨i4, ei4⟩ := is_v g6a
  obtain rfl : w4 = (.int i4) := Option.some.inj ei4
  obtain ⟨i5, ei5⟩ := is_v g6b
  obtain rfl : w5 = (.int i5) := Option.some.inj ei5
  obtain ⟨n, o, h1, h2, h3, _, L, rfl, ⟨rfl, N⟩, hq⟩ := ct_law l s _ hw i0 i1 i2 i3 i4 i5 s.heap s.heap.size (Nat.le_refl _) tables_1 p e ha hc hk s m _ below hf ((Spec.applies_iff_loose hf).mp happ).1 ⟨rfl, State.Warmed39.refl s, rfl⟩ trivial
  exact ⟨n, _, h1, h2, h3, hpost _ _ _ _ _ _ ⟨Cond.after_iff.mpr rfl, Cond.after_iff.mpr (eq_i res_at (Term.int_eval (1)) rfl), trivial⟩ ⟨hq.1, hq.2.1, (hq.2.2.sift fun y hy => Or.inr (N y hy)).mono (by decide) (by decide)⟩⟩
theorem main_1_1 : Claimed_1_1 := comes_1 fun _ _ _ _ _ _ h hF => ⟨h.1, hF⟩
theorem main_1_2 : Claimed_1_2 := comes_1 fun _ _ _ _ _ _ h hF => ⟨h.2.1, hF⟩
end Jvm.Pilot.@@N@@
namespace Jvm.Pilot.@@N@@
open Jvm Jvm.ClassFile Sem Op Lib Jvm.Free Jvm.Stand Jvm.Pilot.@@N@@.Jvm.D
/-! MADE BY PROGRAM (witnessworld.py) out of the Statement's table words and the real class files: 11 classes; the members and pool entries that the words name. The judged class is class 1, her method 1. -/
namespace start1
open Jvm.ClassFile
def u (s : String) : CpInfo := .utf8 (stringToUtf16 s)
/-- a pool by its gaps: so many unusable entries, then the entry; so many at the end -/
def gap : Nat → List CpInfo → List CpInfo
  | 0, r => r
  | n + 1, r => .unusable :: gap n r
def poolList (es : List (Nat × CpInfo)) (last : Nat) : List CpInfo := es.foldr (fun e r => gap e.1 (e.2 :: r)) (gap last [])
def pool (es : List (Nat × CpInfo)) (last : Nat) : Array CpInfo := ⟨poolList es last⟩
def fileOf (pool : Array CpInfo) (this : Nat) (attrs : Array Attribute := #[]) (ms : Array MethodInfo := #[]) (fl : Nat := 33) (sup : Nat := 0) (ifs : Array Nat := #[]) (fds : Array FieldInfo := #[]) : ClassFile where
  minorVersion := 0
  majorVersion := 65
  constantPool := pool
  accessFlags := fl
  thisClass := this
  superClass := sup
  interfaces := ifs
  fields := fds
  methods := ms
  attributes := attrs
def plain (name : String) (sup : Option ClassId) : Class where
  name := name
  kind := .ordinary
  loader := none
  accessFlags := 33
  super := sup
  interfaces := #[]
  cf := none
  fields := #[]
  methods := #[]
  instanceTypes := #[]
  staticTypes := #[]
  resolved := #[]
  callSites := []
  init := .initialized
  statics := none
  mirror := none

def pool0 : Array CpInfo := pool [(5, u "<init>"), (0, u "()V"), (1, .class_ 10), (1, u "java/lang/Object")] 113

def k0c0 : Code := { maxStack := 0, maxLocals := 1, code := object_method_1_code, exceptionTable := #[], attributes := #[] }
def k0m0 : Method := { name := "<init>", desc := "()V", sig := { parameters := [], returnType := none }, accessFlags := 1, code := some k0c0 }
/-- java/lang/Object -/
def k0 : Class := { plain "java/lang/Object" none with
  accessFlags := 33
  interfaces := #[]
  cf := some (fileOf pool0 8 #[] #[{ accessFlags := 1, nameIndex := 5, descriptorIndex := 6, attributes := #[] }] 33 0 #[] #[])
  fields := #[]
  methods := #[k0m0]
  instanceTypes := #[]
  staticTypes := #[]
  resolved := Array.replicate 124 none
  statics := none }

def pool1 : Array CpInfo := pool [(2, .class_ 4), (1, u "java/lang/Object"), (0, u "<init>"), (0, u "()V"), (0, .integer 2147483647), (0, .integer 33554429), (0, .class_ 10), (0, u "com/example/weft/weft/consensus/BitSpan"), (0, .methodref 9 12), (0, .nameAndType 5 13), (0, u "(I[J)V"), (0, .methodref 9 15), (0, .nameAndType 16 17), (0, u "contains"), (0, u "(I)Z"), (0, .methodref 19 20), (0, .class_ 21), (0, .nameAndType 22 23), (0, u "com/example/weft/weft/consensus/BitSpanContainsPinLaw"), (0, u "expected"), (0, u "(IIJJJI)Z"), (2, u "law"), (0, u "(IJJJII)Z")] 5

def k1m0 : Method := { name := "<init>", desc := "()V", sig := { parameters := [], returnType := none }, accessFlags := 1, code := none }
def k1c1 : Code := { maxStack := 10, maxLocals := 15, code := code, exceptionTable := #[], attributes := #[] }
def k1m1 : Method := { name := "law", desc := "(IJJJII)Z", sig := { parameters := [.int, .long, .long, .long, .int, .int], returnType := some .boolean }, accessFlags := 9, code := some k1c1 }
def k1c2 : Code := { maxStack := 4, maxLocals := 14, code := method_3_code, exceptionTable := #[], attributes := #[] }
def k1m2 : Method := { name := "expected", desc := "(IIJJJI)Z", sig := { parameters := [.int, .int, .long, .long, .long, .int], returnType := some .boolean }, accessFlags := 10, code := some k1c2 }
/-- com/example/weft/weft/consensus/BitSpanContainsPinLaw -/
def k1 : Class := { plain "com/example/weft/weft/consensus/BitSpanContainsPinLaw" (some 0) with
  accessFlags := 49
  interfaces := #[]
  cf := some (fileOf pool1 19 #[] #[{ accessFlags := 1, nameIndex := 5, descriptorIndex := 6, attributes := #[] }, { accessFlags := 9, nameIndex := 26, descriptorIndex := 27, attributes := #[] }, { accessFlags := 10, nameIndex := 22, descriptorIndex := 23, attributes := #[] }] 49 2 #[] #[])
  fields := #[]
  methods := #[k1m0, k1m1, k1m2]
  instanceTypes := #[]
  staticTypes := #[]
  resolved := Array.replicate 33 none
  statics := none }

def pool2 : Array CpInfo := pool [(1, .methodref 2 3), (0, .class_ 4), (0, .nameAndType 5 6), (0, u "java/lang/Object"), (0, u "<init>"), (0, u "()V"), (0, .fieldref 8 9), (0, .class_ 10), (0, .nameAndType 11 12), (0, u "com/example/weft/weft/consensus/BitSpan"), (0, u "first"), (0, u "I"), (0, .fieldref 8 14), (0, .nameAndType 15 16), (0, u "words"), (0, u "[J"), (2, u "(I[J)V"), (2, u "EMPTY"), (0, u "Lcom/example/weft/weft/consensus/BitSpan;"), (5, u "contains"), (0, u "(I)Z")] 8

def k2c0 : Code := { maxStack := 2, maxLocals := 3, code := prog_7_method_1_code, exceptionTable := #[], attributes := #[] }
def k2m0 : Method := { name := "<init>", desc := "(I[J)V", sig := { parameters := [.int, (.array .long)], returnType := none }, accessFlags := 0, code := some k2c0 }
def k2c1 : Code := { maxStack := 5, maxLocals := 3, code := prog_7_method_3_code, exceptionTable := #[], attributes := #[] }
def k2m1 : Method := { name := "contains", desc := "(I)Z", sig := { parameters := [.int], returnType := some .boolean }, accessFlags := 0, code := some k2c1 }
/-- com/example/weft/weft/consensus/BitSpan -/
def k2 : Class := { plain "com/example/weft/weft/consensus/BitSpan" (some 0) with
  accessFlags := 48
  interfaces := #[]
  cf := some (fileOf pool2 8 #[] #[{ accessFlags := 0, nameIndex := 5, descriptorIndex := 19, attributes := #[] }, { accessFlags := 0, nameIndex := 29, descriptorIndex := 30, attributes := #[] }] 48 2 #[] #[{ accessFlags := 24, nameIndex := 22, descriptorIndex := 23, attributes := #[] }, { accessFlags := 18, nameIndex := 11, descriptorIndex := 12, attributes := #[] }, { accessFlags := 18, nameIndex := 15, descriptorIndex := 16, attributes := #[] }])
  fields := #[{ name := "EMPTY", type := (.object "com/example/weft/weft/consensus/BitSpan"), accessFlags := 24, slot := 0, constantValue := 0 }, { name := "first", type := .int, accessFlags := 18, slot := 0, constantValue := 0 }, { name := "words", type := (.array .long), accessFlags := 18, slot := 1, constantValue := 0 }]
  methods := #[k2m0, k2m1]
  instanceTypes := #[.int, (.array .long)]
  staticTypes := #[(.object "com/example/weft/weft/consensus/BitSpan")]
  resolved := Array.replicate 39 none
  statics := none }

def pool3 : Array CpInfo := pool [(1, u "java/lang/Cloneable"), (0, .class_ 1), (0, u "java/lang/Object"), (0, .class_ 3)] 3

/-- java/lang/Cloneable -/
def k3 : Class := { plain "java/lang/Cloneable" (some 0) with
  accessFlags := 1537
  interfaces := #[]
  cf := some (fileOf pool3 2 #[] #[] 1537 4 #[] #[])
  fields := #[]
  methods := #[]
  instanceTypes := #[]
  staticTypes := #[]
  resolved := Array.replicate 8 none
  statics := none }

def pool4 : Array CpInfo := pool [(1, u "java/io/Serializable"), (0, .class_ 1), (0, u "java/lang/Object"), (0, .class_ 3)] 3

/-- java/io/Serializable -/
def k4 : Class := { plain "java/io/Serializable" (some 0) with
  accessFlags := 1537
  interfaces := #[]
  cf := some (fileOf pool4 2 #[] #[] 1537 4 #[] #[])
  fields := #[]
  methods := #[]
  instanceTypes := #[]
  staticTypes := #[]
  resolved := Array.replicate 8 none
  statics := none }

/-- the primitive byte -/
def k5 : Class := { plain "byte" none with kind := .primitive 'B', accessFlags := 0x411 }
/-- [B -/
def k6 : Class := { plain "[B" (some 0) with kind := .array 5 .byte, interfaces := #[3, 4], accessFlags := 1041 }

/-- the primitive int -/
def k7 : Class := { plain "int" none with kind := .primitive 'I', accessFlags := 0x411 }
/-- [I -/
def k8 : Class := { plain "[I" (some 0) with kind := .array 7 .int, interfaces := #[3, 4], accessFlags := 1041 }

/-- the primitive long -/
def k9 : Class := { plain "long" none with kind := .primitive 'J', accessFlags := 0x411 }
/-- [J -/
def k10 : Class := { plain "[J" (some 0) with kind := .array 9 .long, interfaces := #[3, 4], accessFlags := 1041 }

def heap : Heap := #[]
def classes : Array Class := #[k0, k1, k2, k3, k4, k5, k6, k7, k8, k9, k10]
def interned : List (Array UInt16 × Addr) := []
def slotsUsed : Nat := 0
def theMethod : MethodId := ⟨1, 1⟩
def args0 : Array Value := #[.int 5, .long 7, .long 8, .long 9, .int 330, .int 3]
def aboutOver (below : List Frame) : State where
  vm := { classes := classes, interned := interned.toArray }
  heap := heap
  slotsUsed := slotsUsed
  threads := #[{ frames := .invoking theMethod args0 :: below }]
def below0 : List Frame := [.native { method := ⟨0, 0⟩, args := #[] }]
def about1 : State := aboutOver below0
def p0 : Program := .bare "" "" ""
def e0 : Env := launch0.env 0 0 0
theorem w_frames : about1.frames = Frame.invoking theMethod args0 :: below0 := rfl
set_option maxRecDepth 65536 in
theorem w_args : argsFit about1.vm theMethod args0 = true := by decide +kernel
set_option maxRecDepth 65536 in
theorem w_heap : heapFits about1 = true := by decide +kernel
set_option maxRecDepth 65536 in
theorem w_runnable : about1.curStatus? = some .runnable := by decide +kernel
set_option maxRecDepth 65536 in
theorem w_alone : about1.alone = true := by decide +kernel
set_option maxRecDepth 65536 in
theorem w_named : about1.methodNamed? x = some theMethod := by decide +kernel
set_option maxRecDepth 65536 in
theorem w_hears : about1.hears theMethod below0 = true := by decide +kernel
set_option maxRecDepth 65536 in
theorem w_ripe : about1.ripe theMethod args0 below0 = true := by decide +kernel
theorem w_running : about1.status = .running := rfl
set_option maxRecDepth 65536 in
theorem w_room : about1.hasRoom e0.platform room_1 = true :=
  launch0.hasRoom_least _ room_1 (by decide +kernel) (by decide +kernel) (by decide +kernel) (by decide +kernel) (by decide +kernel) (by decide +kernel)
theorem allAtoms_all (ts : List Jvm.Cond) (a : Array Jvm.Value) (st : Jvm.State) : (allAtoms ts).before a st = ts.all (fun c => c.before a st) := by
  induction ts with
  | nil => rfl
  | cons c t ih =>
    show (Jvm.Cond.and c (allAtoms t)).before a st = _
    rw [Jvm.Cond.before_and, ih, List.all_cons]
def words1 : List Jvm.Cond := Jvm.Cond.code x code maxLocals ret :: tables_1
/-- a 'code' word, met by the world's own term for the bytes: nothing is compared byte by byte -/
theorem code_word {y : MethodName} {bytes : ByteArray} {mx : Nat} {rt : Option FieldType} {a : Array Value} {s : State} {m : MethodId} {meth : Method} {c : Code} (h1 : s.methodNamed? y = some m) (h2 : s.vm.method? m = some meth) (h3 : meth.code = some c) (h4 : c.code = bytes)
    (h5 : (c.maxLocals == mx && c.exceptionTable.isEmpty && decide (c.maxStack ≤ mostOperands) && decide (meth.sig.returnType = rt) && !meth.locks && decide (parseMethodDescriptor y.desc = some meth.sig)) = true) : (Jvm.Cond.code y bytes mx rt).before a s = true := by
  simp only [Bool.and_eq_true, beq_iff_eq, Bool.not_eq_true', decide_eq_true_eq] at h5
  obtain ⟨⟨⟨⟨⟨g1, g2⟩, g3⟩, g4⟩, g5⟩, g6⟩ := h5
  simp [Cond.before, Cond.holds, Cond.value, h1, h2, h3, h4, g1, g2, g3, g4, g5, g6]
def isCode : Jvm.Cond → Bool
  | .code _ _ _ _ => true
  | _ => false
theorem all_split {L : List Jvm.Cond} {P : Jvm.Cond → Bool} (h1 : L.all (fun c => isCode c || P c) = true) (h2 : ∀ c ∈ L.filter isCode, P c = true) : L.all P = true := by
  refine List.all_eq_true.mpr fun c hc => ?_
  have h := List.all_eq_true.mp h1 c hc
  rcases Bool.eq_false_or_eq_true (isCode c) with hi | hi
  · exact h2 c (List.mem_filter.mpr ⟨hc, hi⟩)
  · simpa [hi] using h
set_option maxRecDepth 65536 in
theorem w_c0 : (Jvm.Cond.code x code maxLocals ret).before args0 about1 = true := code_word (m := ⟨1, 1⟩) (meth := k1m1) (c := k1c1) (by decide +kernel) rfl rfl rfl (by decide +kernel)
set_option maxRecDepth 65536 in
theorem w_c1 : (Jvm.Cond.code ({ cls := "com/example/weft/weft/consensus/BitSpan", name := "<init>", desc := "(I[J)V" } : Jvm.MethodName) prog_7_method_1_code (3 : Nat) (Option.none : Option Jvm.ClassFile.FieldType)).before args0 about1 = true := code_word (m := ⟨2, 0⟩) (meth := k2m0) (c := k2c0) (by decide +kernel) rfl rfl rfl (by decide +kernel)
set_option maxRecDepth 65536 in
theorem w_c2 : (Jvm.Cond.code ({ cls := "java/lang/Object", name := "<init>", desc := "()V" } : Jvm.MethodName) object_method_1_code (1 : Nat) (Option.none : Option Jvm.ClassFile.FieldType)).before args0 about1 = true := code_word (m := ⟨0, 0⟩) (meth := k0m0) (c := k0c0) (by decide +kernel) rfl rfl rfl (by decide +kernel)
set_option maxRecDepth 65536 in
theorem w_c3 : (Jvm.Cond.code ({ cls := "com/example/weft/weft/consensus/BitSpan", name := "contains", desc := "(I)Z" } : Jvm.MethodName) prog_7_method_3_code (3 : Nat) (Option.some Jvm.ClassFile.FieldType.boolean)).before args0 about1 = true := code_word (m := ⟨2, 1⟩) (meth := k2m1) (c := k2c1) (by decide +kernel) rfl rfl rfl (by decide +kernel)
set_option maxRecDepth 65536 in
theorem w_c4 : (Jvm.Cond.code ({ cls := "com/example/weft/weft/consensus/BitSpanContainsPinLaw", name := "expected", desc := "(IIJJJI)Z" } : Jvm.MethodName) method_3_code (14 : Nat) (Option.some Jvm.ClassFile.FieldType.boolean)).before args0 about1 = true := code_word (m := ⟨1, 2⟩) (meth := k1m2) (c := k1c2) (by decide +kernel) rfl rfl rfl (by decide +kernel)
def codes1 : List Jvm.Cond := [Jvm.Cond.code x code maxLocals ret, Jvm.Cond.code ({ cls := "com/example/weft/weft/consensus/BitSpan", name := "<init>", desc := "(I[J)V" } : Jvm.MethodName) prog_7_method_1_code (3 : Nat) (Option.none : Option Jvm.ClassFile.FieldType), Jvm.Cond.code ({ cls := "java/lang/Object", name := "<init>", desc := "()V" } : Jvm.MethodName) object_method_1_code (1 : Nat) (Option.none : Option Jvm.ClassFile.FieldType), Jvm.Cond.code ({ cls := "com/example/weft/weft/consensus/BitSpan", name := "contains", desc := "(I)Z" } : Jvm.MethodName) prog_7_method_3_code (3 : Nat) (Option.some Jvm.ClassFile.FieldType.boolean), Jvm.Cond.code ({ cls := "com/example/weft/weft/consensus/BitSpanContainsPinLaw", name := "expected", desc := "(IIJJJI)Z" } : Jvm.MethodName) method_3_code (14 : Nat) (Option.some Jvm.ClassFile.FieldType.boolean)]
set_option maxRecDepth 65536 in
theorem codes_eq : words1.filter isCode = codes1 := rfl
theorem w_codes : ∀ c ∈ words1.filter isCode, c.before args0 about1 = true := by
  rw [codes_eq]
  intro c hc
  simp only [codes1, List.mem_cons, List.not_mem_nil, or_false] at hc
  rcases hc with rfl | rfl | rfl | rfl | rfl
  · exact w_c0
  · exact w_c1
  · exact w_c2
  · exact w_c3
  · exact w_c4
set_option maxRecDepth 65536 in
theorem w_t1 : (words1.take 24).all (fun c => isCode c || c.before args0 about1) = true := by decide +kernel
set_option maxRecDepth 65536 in
theorem w_t2 : (words1.drop 24).all (fun c => isCode c || c.before args0 about1) = true := by decide +kernel
theorem w_tables : (allAtoms (Jvm.Cond.code x code maxLocals ret :: tables_1)).before args0 about1 = true := by
  rw [allAtoms_all]
  show words1.all (fun c => c.before args0 about1) = true
  refine all_split ?_ w_codes
  rw [← List.take_append_drop 24 words1, List.all_append, w_t1, w_t2]
  rfl
set_option maxRecDepth 65536 in
theorem w_case : (Jvm.Cond.and given_1 narrow_1).before args0 about1 = true := by decide +kernel
theorem w_applies : (headSpec (Jvm.Cond.code x code maxLocals ret :: tables_1) room_1).applies x e0.platform about1 = true :=
  (Spec.applies_iff w_frames).mpr ⟨w_running, w_runnable, w_alone, w_named, w_hears, w_ripe, w_room, w_tables⟩
theorem atStart : AtStart classFile x code maxLocals ret World_1 tables_1 room_1 Calls_1 rest_1 Pre_1 launch0 p0 e0 about1 theMethod args0 below0 :=
  ⟨lists_1, trivial, launch0.admits_env _ _ _, launch0.least_env, fairChoices_fair.cas, fairChoices_fair.clock, w_frames, w_args, w_heap, w_applies, trivial, trivial, w_case⟩
end start1
theorem witness_1 : WitnessClaimed_1 := ⟨start1.p0, start1.e0, start1.about1, start1.theMethod, start1.args0, start1.below0, start1.atStart⟩
end Jvm.Pilot.@@N@@
