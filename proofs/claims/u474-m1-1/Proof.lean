import JvmDerived
import JvmDerived.Pilot.@@N@@Statement
import JvmDerived.Pilot.@@N@@Code
set_option linter.unusedVariables false
set_option linter.unusedSimpArgs false
namespace Jvm.Own
open Jvm Jvm.ClassFile Sem Op Lib Jvm.Free Jvm.Stand Jvm.LawKit Jvm.RoadKit Bundle
/-- where the run stands inside a body: what is fixed, the heap, the room used -/
def St (p : Program) (l : Launch) (e : Env) (R : Room) (s : State) (m : MethodId) (args : Array Value) (below : List Frame) (meth : Method) (c : Code) (Z : State) (n0 : Nat) (y : MethodName) (code : ByteArray) (maxL : Nat) (ret : Option FieldType) (T : State) (h : Heap) (cells slots : Nat) : Prop :=
  (p.tables.exec = Jvm.exec ∧ Z.Warmed39 s.vm ∧ c.code = code ∧ c.maxLocals = maxL ∧ s.vm.findClass y.cls = some m.cls ∧ meth.name = y.name ∧ meth.sig.returnType = ret ∧ meth.locks = false ∧ n0 ≤ s.heap.size) ∧ T.heap = h ∧ ∃ locs, Stand p l e R s m args below meth c T locs cells slots ∧ Fr n0 locs
/-- from here the body comes to its end with Q -/
def WP (p : Program) (e : Env) (below : List Frame) (s : State) (n0 k n : Nat) (Q : Option Value → Heap → Prop) (T : State) (g : JFrame) : Prop :=
  ∃ s₂ o, Steps p.tables e below (T.setTop g) s₂ ∧ s₂.status = .running ∧ Ended s₂ below o ∧ ∃ v L, o = .returned v ∧ (Q v s₂.heap ∧ Fr n0 L) ∧ FrameEnd s o s₂ L k n
/-- a body's contract -/
def Ct (l : Launch) (Z : State) (y : MethodName) (code : ByteArray) (maxL : Nat) (ret : Option FieldType) (rm : Room) (as : Array Value) (h0 : Heap) (n0 : Nat) (Q : Option Value → Heap → Prop) : Prop :=
  ∀ ws, MetFree l y (head1 (Jvm.Cond.code y code maxL ret :: ws) rm) (fun a U => a = as ∧ Z.Warmed39 U.vm ∧ U.heap = h0) (fun _ _ _ _ _ => True) (fun _ U o U' => ∃ v L, o = .returned v ∧ (Q v U'.heap ∧ Fr n0 L) ∧ FrameEnd U o U' L rm.cells rm.slots)
section Steps
variable {p : Program} {l : Launch} {e : Env} {R : Room} {s : State} {m : MethodId} {args : Array Value} {below : List Frame} {meth : Method} {c : Code} {Z : State} {n0 : Nat} {y : MethodName} {code : ByteArray} {maxL : Nat} {ret : Option FieldType} {T : State} {h : Heap} {cells slots k n : Nat} {Q : Option Value → Heap → Prop} {pc pc' : Nat} {Ls : Array Slot} {S : List Value} {a0 : Array Value}
theorem WP.step {T' : State} {g g' : JFrame} (w : WP p e below s n0 k n Q T' g') (st : ∀ t, Steps p.tables e below (T'.setTop g') t → Steps p.tables e below (T.setTop g) t) : WP p e below s n0 k n Q T g := by
  obtain ⟨s₂, o, h1, r⟩ := w; exact ⟨s₂, o, st _ h1, r⟩
theorem WP.trans {T' : State} {g g' : JFrame} (w : WP p e below s n0 k n Q T' g') (st : Steps p.tables e below (T.setTop g) (T'.setTop g')) : WP p e below s n0 k n Q T g := by
  obtain ⟨s₂, o, h1, r⟩ := w; exact ⟨s₂, o, st.trans h1, r⟩
theorem WP.imp {Q' : Option Value → Heap → Prop} {g : JFrame} (w : WP p e below s n0 k n Q' T g) (hq : ∀ v h, Q' v h → Q v h) : WP p e below s n0 k n Q T g := by
  obtain ⟨s₂, o, h1, h2, h3, v, L, h4, ⟨h5, h6⟩, h7⟩ := w; exact ⟨s₂, o, h1, h2, h3, v, L, h4, ⟨hq _ _ h5, h6⟩, h7⟩
theorem WP.cast {g g' : JFrame} (q : g = g') (w : WP p e below s n0 k n Q T g') : WP p e below s n0 k n Q T g := q ▸ w
theorem Ct.imp {as : Array Value} {rm : Room} {Q' : Option Value → Heap → Prop} (ct : Ct l Z y code maxL ret rm as h n0 Q') (hq : ∀ v h, Q' v h → Q v h) : Ct l Z y code maxL ret rm as h n0 Q := by
  intro ws p e ha hc hk s m args below hf happ hP hK
  obtain ⟨n, o, h1, h2, h3, v, L, h4, ⟨h5, h6⟩, h7⟩ := ct ws p e ha hc hk s m args below hf happ hP hK
  exact ⟨n, o, h1, h2, h3, v, L, h4, ⟨hq _ _ h5, h6⟩, h7⟩
theorem Ct.intro {rm : Room} {as : Array Value} {h0 : Heap} (hpl : plainFor y = true) (Z0 : n0 ≤ h0.size)
    (body : ∀ p e s m below meth c T, St p l e rm s m as below meth c Z n0 y code maxL ret T h0 0 0 → WP p e below s n0 rm.cells rm.slots Q T (entryFrame m as maxL)) : Ct l Z y code maxL ret rm as h0 n0 Q := by
  intro ws
  refine MetFree.of_bodySF hpl hisR ?_
  intro p e s m args below meth c s₁ Bd hml0 hP hK
  obtain ⟨rfl, hZ, hh⟩ := hP
  exact body p e s m below meth c s₁ ⟨⟨Bd.exec, hZ, Bd.bytes, hml0, findClass_of_methodNamed Bd.named, (name_of_methodNamed Bd.named Bd.method).1, Bd.returns, BodyLoose.notSynchronized Bd, hh ▸ Z0⟩, by rw [← hh, Bd.state]; rfl, [], Stand.of_body Bd, Fr.nil n0⟩
theorem St.n0le (X : St p l e R s m args below meth c Z n0 y code maxL ret T h cells slots) : n0 ≤ h.size := by
  obtain ⟨⟨-, -, -, -, -, -, -, -, h0⟩, hT, locs, X, -⟩ := X
  have q : s.heap.size ≤ T.heap.size := X.same.2.1
  rw [hT] at q; exact Nat.le_trans h0 q
theorem St.mono (X : St p l e R s m args below meth c Z n0 y code maxL ret T h cells slots) {cells' slots' : Nat} (hc : cells ≤ cells') (hs : slots ≤ slots') : St p l e R s m args below meth c Z n0 y code maxL ret T h cells' slots' := by
  obtain ⟨h0, hT, locs, X, N⟩ := X
  exact ⟨h0, hT, locs, ⟨X.admits, X.cas, X.clock, X.frames, X.room, X.hears, X.method, X.code, X.here, X.tail, X.warmed, X.limits, X.bytes, X.same.mono hc hs⟩, N⟩
theorem w_nameI {v : Int32} (w : ∀ z, z = v → WP p e below s n0 k n Q T (mkF m pc Ls (.int z :: S))) : WP p e below s n0 k n Q T (mkF m pc Ls (.int v :: S)) := w v rfl
theorem w_nameJ {v : Int64} (w : ∀ z, z = v → WP p e below s n0 k n Q T (mkF m pc Ls (.long z :: S))) : WP p e below s n0 k n Q T (mkF m pc Ls (.long v :: S)) := w v rfl
theorem w_nameR {v : Addr} (w : ∀ z, z = v → WP p e below s n0 k n Q T (mkF m pc Ls (.ref z :: S))) : WP p e below s n0 k n Q T (mkF m pc Ls (.ref v :: S)) := w v rfl
theorem w_iload (X : St p l e R s m args below meth c Z n0 y code maxL ret T h cells slots) {i : Nat} {v : Int32} (hd : decode code pc = .ok (.iload i, 2)) (hl : Ls[i]? = some (.val (.int v))) (hp : pc' = pc + 2) (w : WP p e below s n0 k n Q T (mkF m pc' Ls (.int v :: S))) : WP p e below s n0 k n Q T (mkF m pc Ls (S)) := by
  obtain ⟨⟨hx, hZ, hby, hml, hown, hnm, hret, hlk, h00⟩, hT, locs, X, N⟩ := X
  subst hp
  exact w.step fun t kk => XS.iload X.here hx rfl (hb hby hd) hl kk
theorem w_iloadN (X : St p l e R s m args below meth c Z n0 y code maxL ret T h cells slots) {i : Fin 4} {v : Int32} (hd : decode code pc = .ok (.iload_n i, 1)) (hl : Ls[i.val]? = some (.val (.int v))) (hp : pc' = pc + 1) (w : WP p e below s n0 k n Q T (mkF m pc' Ls (.int v :: S))) : WP p e below s n0 k n Q T (mkF m pc Ls (S)) := by
  obtain ⟨⟨hx, hZ, hby, hml, hown, hnm, hret, hlk, h00⟩, hT, locs, X, N⟩ := X
  subst hp
  exact w.step fun t kk => XS.iloadN X.here hx rfl (hb hby hd) hl kk
theorem w_lload (X : St p l e R s m args below meth c Z n0 y code maxL ret T h cells slots) {i : Nat} {v : Int64} (hd : decode code pc = .ok (.lload i, 2)) (hl : Ls[i]? = some (.val (.long v))) (hp : pc' = pc + 2) (w : WP p e below s n0 k n Q T (mkF m pc' Ls (.long v :: S))) : WP p e below s n0 k n Q T (mkF m pc Ls (S)) := by
  obtain ⟨⟨hx, hZ, hby, hml, hown, hnm, hret, hlk, h00⟩, hT, locs, X, N⟩ := X
  subst hp
  exact w.step fun t kk => XS.lload X.here hx rfl (hb hby hd) hl kk
theorem w_lloadN (X : St p l e R s m args below meth c Z n0 y code maxL ret T h cells slots) {i : Fin 4} {v : Int64} (hd : decode code pc = .ok (.lload_n i, 1)) (hl : Ls[i.val]? = some (.val (.long v))) (hp : pc' = pc + 1) (w : WP p e below s n0 k n Q T (mkF m pc' Ls (.long v :: S))) : WP p e below s n0 k n Q T (mkF m pc Ls (S)) := by
  obtain ⟨⟨hx, hZ, hby, hml, hown, hnm, hret, hlk, h00⟩, hT, locs, X, N⟩ := X
  subst hp
  exact w.step fun t kk => XS.lloadN X.here hx rfl (hb hby hd) hl kk
theorem w_aload (X : St p l e R s m args below meth c Z n0 y code maxL ret T h cells slots) {i : Nat} {v : Value} (hd : decode code pc = .ok (.aload i, 2)) (hl : Ls[i]? = some (.val v)) (hv : v.isRef = true) (hp : pc' = pc + 2) (w : WP p e below s n0 k n Q T (mkF m pc' Ls (v :: S))) : WP p e below s n0 k n Q T (mkF m pc Ls (S)) := by
  obtain ⟨⟨hx, hZ, hby, hml, hown, hnm, hret, hlk, h00⟩, hT, locs, X, N⟩ := X
  subst hp
  exact w.step fun t kk => XS.aload X.here hx rfl (hb hby hd) hl hv kk
theorem w_aloadN (X : St p l e R s m args below meth c Z n0 y code maxL ret T h cells slots) {i : Fin 4} {v : Value} (hd : decode code pc = .ok (.aload_n i, 1)) (hl : Ls[i.val]? = some (.val v)) (hv : v.isRef = true) (hp : pc' = pc + 1) (w : WP p e below s n0 k n Q T (mkF m pc' Ls (v :: S))) : WP p e below s n0 k n Q T (mkF m pc Ls (S)) := by
  obtain ⟨⟨hx, hZ, hby, hml, hown, hnm, hret, hlk, h00⟩, hT, locs, X, N⟩ := X
  subst hp
  exact w.step fun t kk => XS.aloadN X.here hx rfl (hb hby hd) hl hv kk
theorem w_istore (X : St p l e R s m args below meth c Z n0 y code maxL ret T h cells slots) {i : Nat} {v : Int32} {L' : Array Slot} (hd : decode code pc = .ok (.istore i, 2)) (hl : storeLocals Ls i (.int v) = some L') (hp : pc' = pc + 2) (w : WP p e below s n0 k n Q T (mkF m pc' L' (S))) : WP p e below s n0 k n Q T (mkF m pc Ls (.int v :: S)) := by
  obtain ⟨⟨hx, hZ, hby, hml, hown, hnm, hret, hlk, h00⟩, hT, locs, X, N⟩ := X
  subst hp
  exact w.step fun t kk => XS.istore X.here hx rfl (hb hby hd) rfl hl kk
theorem w_istoreN (X : St p l e R s m args below meth c Z n0 y code maxL ret T h cells slots) {i : Fin 4} {v : Int32} {L' : Array Slot} (hd : decode code pc = .ok (.istore_n i, 1)) (hl : storeLocals Ls i.val (.int v) = some L') (hp : pc' = pc + 1) (w : WP p e below s n0 k n Q T (mkF m pc' L' (S))) : WP p e below s n0 k n Q T (mkF m pc Ls (.int v :: S)) := by
  obtain ⟨⟨hx, hZ, hby, hml, hown, hnm, hret, hlk, h00⟩, hT, locs, X, N⟩ := X
  subst hp
  exact w.step fun t kk => XS.istoreN X.here hx rfl (hb hby hd) rfl hl kk
theorem w_lstore (X : St p l e R s m args below meth c Z n0 y code maxL ret T h cells slots) {i : Nat} {v : Int64} {L' : Array Slot} (hd : decode code pc = .ok (.lstore i, 2)) (hl : storeLocals Ls i (.long v) = some L') (hp : pc' = pc + 2) (w : WP p e below s n0 k n Q T (mkF m pc' L' (S))) : WP p e below s n0 k n Q T (mkF m pc Ls (.long v :: S)) := by
  obtain ⟨⟨hx, hZ, hby, hml, hown, hnm, hret, hlk, h00⟩, hT, locs, X, N⟩ := X
  subst hp
  exact w.step fun t kk => XS.lstore X.here hx rfl (hb hby hd) rfl hl kk
theorem w_lstoreN (X : St p l e R s m args below meth c Z n0 y code maxL ret T h cells slots) {i : Fin 4} {v : Int64} {L' : Array Slot} (hd : decode code pc = .ok (.lstore_n i, 1)) (hl : storeLocals Ls i.val (.long v) = some L') (hp : pc' = pc + 1) (w : WP p e below s n0 k n Q T (mkF m pc' L' (S))) : WP p e below s n0 k n Q T (mkF m pc Ls (.long v :: S)) := by
  obtain ⟨⟨hx, hZ, hby, hml, hown, hnm, hret, hlk, h00⟩, hT, locs, X, N⟩ := X
  subst hp
  exact w.step fun t kk => XS.lstoreN X.here hx rfl (hb hby hd) rfl hl kk
theorem w_astore (X : St p l e R s m args below meth c Z n0 y code maxL ret T h cells slots) {i : Nat} {v : Value} {L' : Array Slot} (hd : decode code pc = .ok (.astore i, 2)) (hv : v.isRef = true) (hl : storeLocals Ls i v = some L') (hp : pc' = pc + 2) (w : WP p e below s n0 k n Q T (mkF m pc' L' (S))) : WP p e below s n0 k n Q T (mkF m pc Ls (v :: S)) := by
  obtain ⟨⟨hx, hZ, hby, hml, hown, hnm, hret, hlk, h00⟩, hT, locs, X, N⟩ := X
  subst hp
  exact w.step fun t kk => XS.astore X.here hx rfl (hb hby hd) rfl hv hl kk
theorem w_astoreN (X : St p l e R s m args below meth c Z n0 y code maxL ret T h cells slots) {i : Fin 4} {v : Value} {L' : Array Slot} (hd : decode code pc = .ok (.astore_n i, 1)) (hv : v.isRef = true) (hl : storeLocals Ls i.val v = some L') (hp : pc' = pc + 1) (w : WP p e below s n0 k n Q T (mkF m pc' L' (S))) : WP p e below s n0 k n Q T (mkF m pc Ls (v :: S)) := by
  obtain ⟨⟨hx, hZ, hby, hml, hown, hnm, hret, hlk, h00⟩, hT, locs, X, N⟩ := X
  subst hp
  exact w.step fun t kk => XS.astoreN X.here hx rfl (hb hby hd) rfl hv hl kk
theorem w_iinc (X : St p l e R s m args below meth c Z n0 y code maxL ret T h cells slots) {i : Nat} {d : Int} {v v' : Int32} {L' : Array Slot} (hd : decode code pc = .ok (.iinc i d, 3)) (hl : Ls[i]? = some (.val (.int v))) (hv : v + Int32.ofInt d = v') (hl' : storeLocals Ls i (.int v') = some L') (hp : pc' = pc + 3) (w : WP p e below s n0 k n Q T (mkF m pc' L' (S))) : WP p e below s n0 k n Q T (mkF m pc Ls (S)) := by
  obtain ⟨⟨hx, hZ, hby, hml, hown, hnm, hret, hlk, h00⟩, hT, locs, X, N⟩ := X
  subst hp hv
  exact w.step fun t kk => XS.iinc X.here hx rfl (hb hby hd) hl hl' kk
theorem w_iconst (X : St p l e R s m args below meth c Z n0 y code maxL ret T h cells slots) {i : Int} {v : Int32} (hd : decode code pc = .ok (.iconst i, 1)) (hv : Int32.ofInt i = v) (hp : pc' = pc + 1) (w : WP p e below s n0 k n Q T (mkF m pc' Ls (.int v :: S))) : WP p e below s n0 k n Q T (mkF m pc Ls (S)) := by
  obtain ⟨⟨hx, hZ, hby, hml, hown, hnm, hret, hlk, h00⟩, hT, locs, X, N⟩ := X
  subst hp hv
  exact w.step fun t kk => XS.iconst X.here hx rfl (hb hby hd) kk
theorem w_bipush (X : St p l e R s m args below meth c Z n0 y code maxL ret T h cells slots) {i : Int} {v : Int32} (hd : decode code pc = .ok (.bipush i, 2)) (hv : (Int8.ofInt i).toInt32 = v) (hp : pc' = pc + 2) (w : WP p e below s n0 k n Q T (mkF m pc' Ls (.int v :: S))) : WP p e below s n0 k n Q T (mkF m pc Ls (S)) := by
  obtain ⟨⟨hx, hZ, hby, hml, hown, hnm, hret, hlk, h00⟩, hT, locs, X, N⟩ := X
  subst hp hv
  exact w.step fun t kk => XS.bipush X.here hx rfl (hb hby hd) kk
theorem w_sipush (X : St p l e R s m args below meth c Z n0 y code maxL ret T h cells slots) {i : Int} {v : Int32} (hd : decode code pc = .ok (.sipush i, 3)) (hv : (Int16.ofInt i).toInt32 = v) (hp : pc' = pc + 3) (w : WP p e below s n0 k n Q T (mkF m pc' Ls (.int v :: S))) : WP p e below s n0 k n Q T (mkF m pc Ls (S)) := by
  obtain ⟨⟨hx, hZ, hby, hml, hown, hnm, hret, hlk, h00⟩, hT, locs, X, N⟩ := X
  subst hp hv
  exact w.step fun t kk => XS.sipush X.here hx rfl (hb hby hd) kk
theorem w_lconst (X : St p l e R s m args below meth c Z n0 y code maxL ret T h cells slots) {i : Fin 2} {v : Int64} (hd : decode code pc = .ok (.lconst i, 1)) (hv : Int64.ofNat i = v) (hp : pc' = pc + 1) (w : WP p e below s n0 k n Q T (mkF m pc' Ls (.long v :: S))) : WP p e below s n0 k n Q T (mkF m pc Ls (S)) := by
  obtain ⟨⟨hx, hZ, hby, hml, hown, hnm, hret, hlk, h00⟩, hT, locs, X, N⟩ := X
  subst hp hv
  exact w.step fun t kk => XS.lconst X.here hx rfl (hb hby hd) kk
theorem w_aconst_null (X : St p l e R s m args below meth c Z n0 y code maxL ret T h cells slots)  (hd : decode code pc = .ok (.aconst_null, 1)) (hp : pc' = pc + 1) (w : WP p e below s n0 k n Q T (mkF m pc' Ls (.null :: S))) : WP p e below s n0 k n Q T (mkF m pc Ls (S)) := by
  obtain ⟨⟨hx, hZ, hby, hml, hown, hnm, hret, hlk, h00⟩, hT, locs, X, N⟩ := X
  subst hp
  exact w.step fun t kk => XS.aconstNull X.here hx rfl (hb hby hd) kk
theorem w_ldcI (X : St p l e R s m args below meth c Z n0 y code maxL ret T h cells slots) {i : Nat} {v : Int32} (hd : decode code pc = .ok (.ldc i, 2)) (wc : (Jvm.Cond.constant y.cls i v).before a0 Z = true) (hp : pc' = pc + 2) (w : WP p e below s n0 k n Q T (mkF m pc' Ls (.int v :: S))) : WP p e below s n0 k n Q T (mkF m pc Ls (S)) := by
  obtain ⟨⟨hx, hZ, hby, hml, hown, hnm, hret, hlk, h00⟩, hT, locs, X, N⟩ := X
  subst hp
  exact w.step fun t kk => X.ldcInt hx hown (mvT (d := Jvm.Cond.constant y.cls i v) hZ wc) (g := mkF m pc Ls S) rfl (hb hby hd) t kk
theorem w_ldcWI (X : St p l e R s m args below meth c Z n0 y code maxL ret T h cells slots) {i : Nat} {v : Int32} (hd : decode code pc = .ok (.ldc_w i, 3)) (wc : (Jvm.Cond.constant y.cls i v).before a0 Z = true) (hp : pc' = pc + 3) (w : WP p e below s n0 k n Q T (mkF m pc' Ls (.int v :: S))) : WP p e below s n0 k n Q T (mkF m pc Ls (S)) := by
  obtain ⟨⟨hx, hZ, hby, hml, hown, hnm, hret, hlk, h00⟩, hT, locs, X, N⟩ := X
  subst hp
  exact w.step fun t kk => X.ldcwInt hx hown (mvT (d := Jvm.Cond.constant y.cls i v) hZ wc) (g := mkF m pc Ls S) rfl (hb hby hd) t kk
theorem w_ldcJ (X : St p l e R s m args below meth c Z n0 y code maxL ret T h cells slots) {i : Nat} {v : Int64} (hd : decode code pc = .ok (.ldc2_w i, 3)) (wc : (Jvm.Cond.constantLong y.cls i v).before a0 Z = true) (hp : pc' = pc + 3) (w : WP p e below s n0 k n Q T (mkF m pc' Ls (.long v :: S))) : WP p e below s n0 k n Q T (mkF m pc Ls (S)) := by
  obtain ⟨⟨hx, hZ, hby, hml, hown, hnm, hret, hlk, h00⟩, hT, locs, X, N⟩ := X
  subst hp
  exact w.step fun t kk => X.ldc2Long hx hown (mvT (d := Jvm.Cond.constantLong y.cls i v) hZ wc) (g := mkF m pc Ls S) rfl (hb hby hd) t kk
theorem w_iadd (X : St p l e R s m args below meth c Z n0 y code maxL ret T h cells slots) {x z : Int32} (hd : decode code pc = .ok (.iadd, 1)) (hp : pc' = pc + 1) (w : WP p e below s n0 k n Q T (mkF m pc' Ls (.int (x + z) :: S))) : WP p e below s n0 k n Q T (mkF m pc Ls (.int z :: .int x :: S)) := by
  obtain ⟨⟨hx, hZ, hby, hml, hown, hnm, hret, hlk, h00⟩, hT, locs, X, N⟩ := X
  subst hp
  exact w.step fun t kk => XS.iadd X.here hx rfl (hb hby hd) rfl kk
theorem w_ladd (X : St p l e R s m args below meth c Z n0 y code maxL ret T h cells slots) {x z : Int64} (hd : decode code pc = .ok (.ladd, 1)) (hp : pc' = pc + 1) (w : WP p e below s n0 k n Q T (mkF m pc' Ls (.long (x + z) :: S))) : WP p e below s n0 k n Q T (mkF m pc Ls (.long z :: .long x :: S)) := by
  obtain ⟨⟨hx, hZ, hby, hml, hown, hnm, hret, hlk, h00⟩, hT, locs, X, N⟩ := X
  subst hp
  exact w.step fun t kk => XS.ladd X.here hx rfl (hb hby hd) rfl kk
theorem w_isub (X : St p l e R s m args below meth c Z n0 y code maxL ret T h cells slots) {x z : Int32} (hd : decode code pc = .ok (.isub, 1)) (hp : pc' = pc + 1) (w : WP p e below s n0 k n Q T (mkF m pc' Ls (.int (x - z) :: S))) : WP p e below s n0 k n Q T (mkF m pc Ls (.int z :: .int x :: S)) := by
  obtain ⟨⟨hx, hZ, hby, hml, hown, hnm, hret, hlk, h00⟩, hT, locs, X, N⟩ := X
  subst hp
  exact w.step fun t kk => XS.isub X.here hx rfl (hb hby hd) rfl kk
theorem w_lsub (X : St p l e R s m args below meth c Z n0 y code maxL ret T h cells slots) {x z : Int64} (hd : decode code pc = .ok (.lsub, 1)) (hp : pc' = pc + 1) (w : WP p e below s n0 k n Q T (mkF m pc' Ls (.long (x - z) :: S))) : WP p e below s n0 k n Q T (mkF m pc Ls (.long z :: .long x :: S)) := by
  obtain ⟨⟨hx, hZ, hby, hml, hown, hnm, hret, hlk, h00⟩, hT, locs, X, N⟩ := X
  subst hp
  exact w.step fun t kk => XS.lsub X.here hx rfl (hb hby hd) rfl kk
theorem w_imul (X : St p l e R s m args below meth c Z n0 y code maxL ret T h cells slots) {x z : Int32} (hd : decode code pc = .ok (.imul, 1)) (hp : pc' = pc + 1) (w : WP p e below s n0 k n Q T (mkF m pc' Ls (.int (x * z) :: S))) : WP p e below s n0 k n Q T (mkF m pc Ls (.int z :: .int x :: S)) := by
  obtain ⟨⟨hx, hZ, hby, hml, hown, hnm, hret, hlk, h00⟩, hT, locs, X, N⟩ := X
  subst hp
  exact w.step fun t kk => XS.imul X.here hx rfl (hb hby hd) rfl kk
theorem w_lmul (X : St p l e R s m args below meth c Z n0 y code maxL ret T h cells slots) {x z : Int64} (hd : decode code pc = .ok (.lmul, 1)) (hp : pc' = pc + 1) (w : WP p e below s n0 k n Q T (mkF m pc' Ls (.long (x * z) :: S))) : WP p e below s n0 k n Q T (mkF m pc Ls (.long z :: .long x :: S)) := by
  obtain ⟨⟨hx, hZ, hby, hml, hown, hnm, hret, hlk, h00⟩, hT, locs, X, N⟩ := X
  subst hp
  exact w.step fun t kk => XS.lmul X.here hx rfl (hb hby hd) rfl kk
theorem w_iand (X : St p l e R s m args below meth c Z n0 y code maxL ret T h cells slots) {x z : Int32} (hd : decode code pc = .ok (.iand, 1)) (hp : pc' = pc + 1) (w : WP p e below s n0 k n Q T (mkF m pc' Ls (.int (x &&& z) :: S))) : WP p e below s n0 k n Q T (mkF m pc Ls (.int z :: .int x :: S)) := by
  obtain ⟨⟨hx, hZ, hby, hml, hown, hnm, hret, hlk, h00⟩, hT, locs, X, N⟩ := X
  subst hp
  exact w.step fun t kk => XS.iand X.here hx rfl (hb hby hd) rfl kk
theorem w_land (X : St p l e R s m args below meth c Z n0 y code maxL ret T h cells slots) {x z : Int64} (hd : decode code pc = .ok (.land, 1)) (hp : pc' = pc + 1) (w : WP p e below s n0 k n Q T (mkF m pc' Ls (.long (x &&& z) :: S))) : WP p e below s n0 k n Q T (mkF m pc Ls (.long z :: .long x :: S)) := by
  obtain ⟨⟨hx, hZ, hby, hml, hown, hnm, hret, hlk, h00⟩, hT, locs, X, N⟩ := X
  subst hp
  exact w.step fun t kk => XS.land X.here hx rfl (hb hby hd) rfl kk
theorem w_ior (X : St p l e R s m args below meth c Z n0 y code maxL ret T h cells slots) {x z : Int32} (hd : decode code pc = .ok (.ior, 1)) (hp : pc' = pc + 1) (w : WP p e below s n0 k n Q T (mkF m pc' Ls (.int (x ||| z) :: S))) : WP p e below s n0 k n Q T (mkF m pc Ls (.int z :: .int x :: S)) := by
  obtain ⟨⟨hx, hZ, hby, hml, hown, hnm, hret, hlk, h00⟩, hT, locs, X, N⟩ := X
  subst hp
  exact w.step fun t kk => XS.ior X.here hx rfl (hb hby hd) rfl kk
theorem w_lor (X : St p l e R s m args below meth c Z n0 y code maxL ret T h cells slots) {x z : Int64} (hd : decode code pc = .ok (.lor, 1)) (hp : pc' = pc + 1) (w : WP p e below s n0 k n Q T (mkF m pc' Ls (.long (x ||| z) :: S))) : WP p e below s n0 k n Q T (mkF m pc Ls (.long z :: .long x :: S)) := by
  obtain ⟨⟨hx, hZ, hby, hml, hown, hnm, hret, hlk, h00⟩, hT, locs, X, N⟩ := X
  subst hp
  exact w.step fun t kk => XS.lor X.here hx rfl (hb hby hd) rfl kk
theorem w_ixor (X : St p l e R s m args below meth c Z n0 y code maxL ret T h cells slots) {x z : Int32} (hd : decode code pc = .ok (.ixor, 1)) (hp : pc' = pc + 1) (w : WP p e below s n0 k n Q T (mkF m pc' Ls (.int (x ^^^ z) :: S))) : WP p e below s n0 k n Q T (mkF m pc Ls (.int z :: .int x :: S)) := by
  obtain ⟨⟨hx, hZ, hby, hml, hown, hnm, hret, hlk, h00⟩, hT, locs, X, N⟩ := X
  subst hp
  exact w.step fun t kk => XS.ixor X.here hx rfl (hb hby hd) rfl kk
theorem w_lxor (X : St p l e R s m args below meth c Z n0 y code maxL ret T h cells slots) {x z : Int64} (hd : decode code pc = .ok (.lxor, 1)) (hp : pc' = pc + 1) (w : WP p e below s n0 k n Q T (mkF m pc' Ls (.long (x ^^^ z) :: S))) : WP p e below s n0 k n Q T (mkF m pc Ls (.long z :: .long x :: S)) := by
  obtain ⟨⟨hx, hZ, hby, hml, hown, hnm, hret, hlk, h00⟩, hT, locs, X, N⟩ := X
  subst hp
  exact w.step fun t kk => XS.lxor X.here hx rfl (hb hby hd) rfl kk
theorem w_ineg (X : St p l e R s m args below meth c Z n0 y code maxL ret T h cells slots) {x : Int32} (hd : decode code pc = .ok (.ineg, 1)) (hp : pc' = pc + 1) (w : WP p e below s n0 k n Q T (mkF m pc' Ls (.int (-x) :: S))) : WP p e below s n0 k n Q T (mkF m pc Ls (.int x :: S)) := by
  obtain ⟨⟨hx, hZ, hby, hml, hown, hnm, hret, hlk, h00⟩, hT, locs, X, N⟩ := X
  subst hp
  exact w.step fun t kk => XS.ineg X.here hx rfl (hb hby hd) rfl kk
theorem w_lneg (X : St p l e R s m args below meth c Z n0 y code maxL ret T h cells slots) {x : Int64} (hd : decode code pc = .ok (.lneg, 1)) (hp : pc' = pc + 1) (w : WP p e below s n0 k n Q T (mkF m pc' Ls (.long (-x) :: S))) : WP p e below s n0 k n Q T (mkF m pc Ls (.long x :: S)) := by
  obtain ⟨⟨hx, hZ, hby, hml, hown, hnm, hret, hlk, h00⟩, hT, locs, X, N⟩ := X
  subst hp
  exact w.step fun t kk => XS.lneg X.here hx rfl (hb hby hd) rfl kk
theorem w_idiv (X : St p l e R s m args below meth c Z n0 y code maxL ret T h cells slots) {x z : Int32} (hd : decode code pc = .ok (.idiv, 1)) (hz : z ≠ 0) (hp : pc' = pc + 1) (w : WP p e below s n0 k n Q T (mkF m pc' Ls (.int (x / z) :: S))) : WP p e below s n0 k n Q T (mkF m pc Ls (.int z :: .int x :: S)) := by
  obtain ⟨⟨hx, hZ, hby, hml, hown, hnm, hret, hlk, h00⟩, hT, locs, X, N⟩ := X
  subst hp
  exact w.step fun t kk => XS.idiv X.here hx rfl (hb hby hd) rfl hz kk
theorem w_irem (X : St p l e R s m args below meth c Z n0 y code maxL ret T h cells slots) {x z : Int32} (hd : decode code pc = .ok (.irem, 1)) (hz : z ≠ 0) (hp : pc' = pc + 1) (w : WP p e below s n0 k n Q T (mkF m pc' Ls (.int (x % z) :: S))) : WP p e below s n0 k n Q T (mkF m pc Ls (.int z :: .int x :: S)) := by
  obtain ⟨⟨hx, hZ, hby, hml, hown, hnm, hret, hlk, h00⟩, hT, locs, X, N⟩ := X
  subst hp
  exact w.step fun t kk => iremM X hx rfl (hb hby hd) rfl hz kk
theorem w_ldiv (X : St p l e R s m args below meth c Z n0 y code maxL ret T h cells slots) {x z : Int64} (hd : decode code pc = .ok (.ldiv, 1)) (hz : z ≠ 0) (hp : pc' = pc + 1) (w : WP p e below s n0 k n Q T (mkF m pc' Ls (.long (x / z) :: S))) : WP p e below s n0 k n Q T (mkF m pc Ls (.long z :: .long x :: S)) := by
  obtain ⟨⟨hx, hZ, hby, hml, hown, hnm, hret, hlk, h00⟩, hT, locs, X, N⟩ := X
  subst hp
  exact w.step fun t kk => XS.ldiv X.here hx rfl (hb hby hd) rfl hz kk
theorem w_lrem (X : St p l e R s m args below meth c Z n0 y code maxL ret T h cells slots) {x z : Int64} (hd : decode code pc = .ok (.lrem, 1)) (hz : z ≠ 0) (hp : pc' = pc + 1) (w : WP p e below s n0 k n Q T (mkF m pc' Ls (.long (x % z) :: S))) : WP p e below s n0 k n Q T (mkF m pc Ls (.long z :: .long x :: S)) := by
  obtain ⟨⟨hx, hZ, hby, hml, hown, hnm, hret, hlk, h00⟩, hT, locs, X, N⟩ := X
  subst hp
  exact w.step fun t kk => XS.lrem X.here hx rfl (hb hby hd) rfl hz (by rw [lrem_mod]; exact kk)
theorem w_ishl (X : St p l e R s m args below meth c Z n0 y code maxL ret T h cells slots) {x z : Int32} (hd : decode code pc = .ok (.ishl, 1)) (hp : pc' = pc + 1) (w : WP p e below s n0 k n Q T (mkF m pc' Ls (.int (x <<< (z &&& 31)) :: S))) : WP p e below s n0 k n Q T (mkF m pc Ls (.int z :: .int x :: S)) := by
  obtain ⟨⟨hx, hZ, hby, hml, hown, hnm, hret, hlk, h00⟩, hT, locs, X, N⟩ := X
  subst hp
  exact w.step fun t kk => XS.ishl X.here hx rfl (hb hby hd) rfl kk
theorem w_ishr (X : St p l e R s m args below meth c Z n0 y code maxL ret T h cells slots) {x z : Int32} (hd : decode code pc = .ok (.ishr, 1)) (hp : pc' = pc + 1) (w : WP p e below s n0 k n Q T (mkF m pc' Ls (.int (x >>> (z &&& 31)) :: S))) : WP p e below s n0 k n Q T (mkF m pc Ls (.int z :: .int x :: S)) := by
  obtain ⟨⟨hx, hZ, hby, hml, hown, hnm, hret, hlk, h00⟩, hT, locs, X, N⟩ := X
  subst hp
  exact w.step fun t kk => XS.ishr X.here hx rfl (hb hby hd) rfl kk
theorem w_iushr (X : St p l e R s m args below meth c Z n0 y code maxL ret T h cells slots) {x z : Int32} (hd : decode code pc = .ok (.iushr, 1)) (hp : pc' = pc + 1) (w : WP p e below s n0 k n Q T (mkF m pc' Ls (.int ((x.toUInt32 >>> (z &&& 31).toUInt32).toInt32) :: S))) : WP p e below s n0 k n Q T (mkF m pc Ls (.int z :: .int x :: S)) := by
  obtain ⟨⟨hx, hZ, hby, hml, hown, hnm, hret, hlk, h00⟩, hT, locs, X, N⟩ := X
  subst hp
  exact w.step fun t kk => XS.iushr X.here hx rfl (hb hby hd) rfl kk
theorem w_lshl (X : St p l e R s m args below meth c Z n0 y code maxL ret T h cells slots) {x : Int64} {z : Int32} (hd : decode code pc = .ok (.lshl, 1)) (hp : pc' = pc + 1) (w : WP p e below s n0 k n Q T (mkF m pc' Ls (.long (x <<< (z &&& 0x3f).toInt64) :: S))) : WP p e below s n0 k n Q T (mkF m pc Ls (.int z :: .long x :: S)) := by
  obtain ⟨⟨hx, hZ, hby, hml, hown, hnm, hret, hlk, h00⟩, hT, locs, X, N⟩ := X
  subst hp
  exact w.step fun t kk => XS.lshl X.here hx rfl (hb hby hd) rfl kk
theorem w_lshr (X : St p l e R s m args below meth c Z n0 y code maxL ret T h cells slots) {x : Int64} {z : Int32} (hd : decode code pc = .ok (.lshr, 1)) (hp : pc' = pc + 1) (w : WP p e below s n0 k n Q T (mkF m pc' Ls (.long (x >>> (z &&& 0x3f).toInt64) :: S))) : WP p e below s n0 k n Q T (mkF m pc Ls (.int z :: .long x :: S)) := by
  obtain ⟨⟨hx, hZ, hby, hml, hown, hnm, hret, hlk, h00⟩, hT, locs, X, N⟩ := X
  subst hp
  exact w.step fun t kk => XS.lshr X.here hx rfl (hb hby hd) rfl kk
theorem w_lushr (X : St p l e R s m args below meth c Z n0 y code maxL ret T h cells slots) {x : Int64} {z : Int32} (hd : decode code pc = .ok (.lushr, 1)) (hp : pc' = pc + 1) (w : WP p e below s n0 k n Q T (mkF m pc' Ls (.long ((x.toUInt64 >>> (z &&& 0x3f).toInt64.toUInt64).toInt64) :: S))) : WP p e below s n0 k n Q T (mkF m pc Ls (.int z :: .long x :: S)) := by
  obtain ⟨⟨hx, hZ, hby, hml, hown, hnm, hret, hlk, h00⟩, hT, locs, X, N⟩ := X
  subst hp
  exact w.step fun t kk => XS.lushr X.here hx rfl (hb hby hd) rfl kk
theorem w_i2b (X : St p l e R s m args below meth c Z n0 y code maxL ret T h cells slots) {x : Int32} (hd : decode code pc = .ok (.i2b, 1)) (hp : pc' = pc + 1) (w : WP p e below s n0 k n Q T (mkF m pc' Ls (.int x.toInt8.toInt32 :: S))) : WP p e below s n0 k n Q T (mkF m pc Ls (.int x :: S)) := by
  obtain ⟨⟨hx, hZ, hby, hml, hown, hnm, hret, hlk, h00⟩, hT, locs, X, N⟩ := X
  subst hp
  exact w.step fun t kk => XS.i2b X.here hx rfl (hb hby hd) rfl kk
theorem w_i2c (X : St p l e R s m args below meth c Z n0 y code maxL ret T h cells slots) {x : Int32} (hd : decode code pc = .ok (.i2c, 1)) (hp : pc' = pc + 1) (w : WP p e below s n0 k n Q T (mkF m pc' Ls (.int x.toUInt32.toUInt16.toUInt32.toInt32 :: S))) : WP p e below s n0 k n Q T (mkF m pc Ls (.int x :: S)) := by
  obtain ⟨⟨hx, hZ, hby, hml, hown, hnm, hret, hlk, h00⟩, hT, locs, X, N⟩ := X
  subst hp
  exact w.step fun t kk => XS.i2c X.here hx rfl (hb hby hd) rfl kk
theorem w_i2s (X : St p l e R s m args below meth c Z n0 y code maxL ret T h cells slots) {x : Int32} (hd : decode code pc = .ok (.i2s, 1)) (hp : pc' = pc + 1) (w : WP p e below s n0 k n Q T (mkF m pc' Ls (.int x.toInt16.toInt32 :: S))) : WP p e below s n0 k n Q T (mkF m pc Ls (.int x :: S)) := by
  obtain ⟨⟨hx, hZ, hby, hml, hown, hnm, hret, hlk, h00⟩, hT, locs, X, N⟩ := X
  subst hp
  exact w.step fun t kk => XS.i2s X.here hx rfl (hb hby hd) rfl kk
theorem w_i2l (X : St p l e R s m args below meth c Z n0 y code maxL ret T h cells slots) {x : Int32} (hd : decode code pc = .ok (.i2l, 1)) (hp : pc' = pc + 1) (w : WP p e below s n0 k n Q T (mkF m pc' Ls (.long x.toInt64 :: S))) : WP p e below s n0 k n Q T (mkF m pc Ls (.int x :: S)) := by
  obtain ⟨⟨hx, hZ, hby, hml, hown, hnm, hret, hlk, h00⟩, hT, locs, X, N⟩ := X
  subst hp
  exact w.step fun t kk => XS.i2l X.here hx rfl (hb hby hd) rfl kk
theorem w_l2i (X : St p l e R s m args below meth c Z n0 y code maxL ret T h cells slots) {x : Int64} (hd : decode code pc = .ok (.l2i, 1)) (hp : pc' = pc + 1) (w : WP p e below s n0 k n Q T (mkF m pc' Ls (.int x.toInt32 :: S))) : WP p e below s n0 k n Q T (mkF m pc Ls (.long x :: S)) := by
  obtain ⟨⟨hx, hZ, hby, hml, hown, hnm, hret, hlk, h00⟩, hT, locs, X, N⟩ := X
  subst hp
  exact w.step fun t kk => XS.l2i X.here hx rfl (hb hby hd) rfl kk
theorem w_lcmp (X : St p l e R s m args below meth c Z n0 y code maxL ret T h cells slots) {x z : Int64} (hd : decode code pc = .ok (.lcmp, 1)) (hp : pc' = pc + 1) (w : WP p e below s n0 k n Q T (mkF m pc' Ls (.int (lcmpW x z) :: S))) : WP p e below s n0 k n Q T (mkF m pc Ls (.long z :: .long x :: S)) := by
  obtain ⟨⟨hx, hZ, hby, hml, hown, hnm, hret, hlk, h00⟩, hT, locs, X, N⟩ := X
  subst hp
  exact w.step fun t kk => XS.lcmp X.here hx rfl (hb hby hd) rfl kk
theorem w_dup (X : St p l e R s m args below meth c Z n0 y code maxL ret T h cells slots) {v : Value} (hd : decode code pc = .ok (.dup, 1)) (hv : v.category = 1) (hp : pc' = pc + 1) (w : WP p e below s n0 k n Q T (mkF m pc' Ls (v :: v :: S))) : WP p e below s n0 k n Q T (mkF m pc Ls (v :: S)) := by
  obtain ⟨⟨hx, hZ, hby, hml, hown, hnm, hret, hlk, h00⟩, hT, locs, X, N⟩ := X
  subst hp
  exact w.step fun t kk => XS.dup X.here hx rfl (hb hby hd) rfl hv kk
theorem w_pop (X : St p l e R s m args below meth c Z n0 y code maxL ret T h cells slots) {v : Value} (hd : decode code pc = .ok (.pop, 1)) (hv : v.category = 1) (hp : pc' = pc + 1) (w : WP p e below s n0 k n Q T (mkF m pc' Ls (S))) : WP p e below s n0 k n Q T (mkF m pc Ls (v :: S)) := by
  obtain ⟨⟨hx, hZ, hby, hml, hown, hnm, hret, hlk, h00⟩, hT, locs, X, N⟩ := X
  subst hp
  exact w.step fun t kk => XS.pop X.here hx rfl (hb hby hd) rfl hv kk
theorem w_dup_x1 (X : St p l e R s m args below meth c Z n0 y code maxL ret T h cells slots) {v u : Value} (hd : decode code pc = .ok (.dup_x1, 1)) (hv : v.category = 1) (hu : u.category = 1) (hp : pc' = pc + 1) (w : WP p e below s n0 k n Q T (mkF m pc' Ls (v :: u :: v :: S))) : WP p e below s n0 k n Q T (mkF m pc Ls (v :: u :: S)) := by
  obtain ⟨⟨hx, hZ, hby, hml, hown, hnm, hret, hlk, h00⟩, hT, locs, X, N⟩ := X
  subst hp
  exact w.step fun t kk => XS.dupX1 X.here hx rfl (hb hby hd) rfl hv hu kk
theorem w_dup2 (X : St p l e R s m args below meth c Z n0 y code maxL ret T h cells slots) {j : Int32} {a : Addr} (hd : decode code pc = .ok (.dup2, 1)) (hp : pc' = pc + 1) (w : WP p e below s n0 k n Q T (mkF m pc' Ls (.int j :: .ref a :: .int j :: .ref a :: S))) : WP p e below s n0 k n Q T (mkF m pc Ls (.int j :: .ref a :: S)) := by
  obtain ⟨⟨hx, hZ, hby, hml, hown, hnm, hret, hlk, h00⟩, hT, locs, X, N⟩ := X
  subst hp
  refine w.step fun t kk => ?_
  have hd' := hb hby hd
  jvm_step X.here [X.here.top, hx, hd', Value.category]
  exact kk
theorem w_goto (X : St p l e R s m args below meth c Z n0 y code maxL ret T h cells slots) {o : Int} (hd : decode code pc = .ok (.goto o, 3)) (ho : 0 ≤ (pc : Int) + o) (hp : ((pc : Int) + o).toNat = pc') (w : WP p e below s n0 k n Q T (mkF m pc' Ls S)) : WP p e below s n0 k n Q T (mkF m pc Ls S) := by
  obtain ⟨⟨hx, hZ, hby, hml, hown, hnm, hret, hlk, h00⟩, hT, locs, X, N⟩ := X
  exact w.step fun t kk => XS.goto X.here hx rfl rfl (hb hby hd) ho hp kk
theorem w_icmp_lt (X : St p l e R s m args below meth c Z n0 y code maxL ret T h cells slots) {o : Int} {x z : Int32} {p1 p2 : Nat} (hd : decode code pc = .ok (.if_icmp .lt o, 3)) (ho : 0 ≤ (pc : Int) + o) (h1 : ((pc : Int) + o).toNat = p1) (h2 : p2 = pc + 3) (wt : x < z → WP p e below s n0 k n Q T (mkF m p1 Ls S)) (wf : ¬ x < z → WP p e below s n0 k n Q T (mkF m p2 Ls S)) : WP p e below s n0 k n Q T (mkF m pc Ls (.int z :: .int x :: S)) := by
  obtain ⟨⟨hx, hZ, hby, hml, hown, hnm, hret, hlk, h00⟩, hT, locs, X, N⟩ := X
  subst h2
  by_cases q0 : x < z
  · have q := q0
    exact (wt q).step fun t kk => XS.icmpYes X.here hx rfl rfl (hb hby hd) rfl (tlt q).1 ho h1 kk
  · have q := q0
    exact (wf q).step fun t kk => XS.icmpNo X.here hx rfl (hb hby hd) rfl (flt q).1 kk
theorem w_if_lt (X : St p l e R s m args below meth c Z n0 y code maxL ret T h cells slots) {o : Int} {x : Int32} {p1 p2 : Nat} (hd : decode code pc = .ok (.ifCond .lt o, 3)) (ho : 0 ≤ (pc : Int) + o) (h1 : ((pc : Int) + o).toNat = p1) (h2 : p2 = pc + 3) (wt : x < (0 : Int32) → WP p e below s n0 k n Q T (mkF m p1 Ls S)) (wf : ¬ x < (0 : Int32) → WP p e below s n0 k n Q T (mkF m p2 Ls S)) : WP p e below s n0 k n Q T (mkF m pc Ls (.int x :: S)) := by
  obtain ⟨⟨hx, hZ, hby, hml, hown, hnm, hret, hlk, h00⟩, hT, locs, X, N⟩ := X
  subst h2
  by_cases q0 : x < (0 : Int32)
  · have q := q0
    exact (wt q).step fun t kk => XS.ifYes X.here hx rfl rfl (hb hby hd) rfl ((if0 _ _).trans (tlt q).1) ho h1 kk
  · have q := q0
    exact (wf q).step fun t kk => XS.ifNo X.here hx rfl (hb hby hd) rfl ((if0 _ _).trans (flt q).1) kk
theorem w_lcmp_lt (X : St p l e R s m args below meth c Z n0 y code maxL ret T h cells slots) {o : Int} {x z : Int64} {p0 p1 p2 : Nat} (hd0 : decode code pc = .ok (.lcmp, 1)) (h0 : p0 = pc + 1) (hd : decode code p0 = .ok (.ifCond .lt o, 3)) (ho : 0 ≤ (p0 : Int) + o) (h1 : ((p0 : Int) + o).toNat = p1) (h2 : p2 = p0 + 3) (wt : x < z → WP p e below s n0 k n Q T (mkF m p1 Ls S)) (wf : ¬ x < z → WP p e below s n0 k n Q T (mkF m p2 Ls S)) : WP p e below s n0 k n Q T (mkF m pc Ls (.long z :: .long x :: S)) :=
  w_lcmp X hd0 h0 (w_if_lt X hd ho h1 h2 (fun q => wt ((lw_lt _ _).mp q)) (fun q => wf (fun u => q ((lw_lt _ _).mpr u))))
theorem w_icmp_ge (X : St p l e R s m args below meth c Z n0 y code maxL ret T h cells slots) {o : Int} {x z : Int32} {p1 p2 : Nat} (hd : decode code pc = .ok (.if_icmp .ge o, 3)) (ho : 0 ≤ (pc : Int) + o) (h1 : ((pc : Int) + o).toNat = p1) (h2 : p2 = pc + 3) (wt : ¬ x < z → WP p e below s n0 k n Q T (mkF m p1 Ls S)) (wf : x < z → WP p e below s n0 k n Q T (mkF m p2 Ls S)) : WP p e below s n0 k n Q T (mkF m pc Ls (.int z :: .int x :: S)) := by
  obtain ⟨⟨hx, hZ, hby, hml, hown, hnm, hret, hlk, h00⟩, hT, locs, X, N⟩ := X
  subst h2
  by_cases q0 : x < z
  · have q := q0
    exact (wf q).step fun t kk => XS.icmpNo X.here hx rfl (hb hby hd) rfl (tlt q).2.1 kk
  · have q := q0
    exact (wt q).step fun t kk => XS.icmpYes X.here hx rfl rfl (hb hby hd) rfl (flt q).2.1 ho h1 kk
theorem w_if_ge (X : St p l e R s m args below meth c Z n0 y code maxL ret T h cells slots) {o : Int} {x : Int32} {p1 p2 : Nat} (hd : decode code pc = .ok (.ifCond .ge o, 3)) (ho : 0 ≤ (pc : Int) + o) (h1 : ((pc : Int) + o).toNat = p1) (h2 : p2 = pc + 3) (wt : ¬ x < (0 : Int32) → WP p e below s n0 k n Q T (mkF m p1 Ls S)) (wf : x < (0 : Int32) → WP p e below s n0 k n Q T (mkF m p2 Ls S)) : WP p e below s n0 k n Q T (mkF m pc Ls (.int x :: S)) := by
  obtain ⟨⟨hx, hZ, hby, hml, hown, hnm, hret, hlk, h00⟩, hT, locs, X, N⟩ := X
  subst h2
  by_cases q0 : x < (0 : Int32)
  · have q := q0
    exact (wf q).step fun t kk => XS.ifNo X.here hx rfl (hb hby hd) rfl ((if0 _ _).trans (tlt q).2.1) kk
  · have q := q0
    exact (wt q).step fun t kk => XS.ifYes X.here hx rfl rfl (hb hby hd) rfl ((if0 _ _).trans (flt q).2.1) ho h1 kk
theorem w_lcmp_ge (X : St p l e R s m args below meth c Z n0 y code maxL ret T h cells slots) {o : Int} {x z : Int64} {p0 p1 p2 : Nat} (hd0 : decode code pc = .ok (.lcmp, 1)) (h0 : p0 = pc + 1) (hd : decode code p0 = .ok (.ifCond .ge o, 3)) (ho : 0 ≤ (p0 : Int) + o) (h1 : ((p0 : Int) + o).toNat = p1) (h2 : p2 = p0 + 3) (wt : ¬ x < z → WP p e below s n0 k n Q T (mkF m p1 Ls S)) (wf : x < z → WP p e below s n0 k n Q T (mkF m p2 Ls S)) : WP p e below s n0 k n Q T (mkF m pc Ls (.long z :: .long x :: S)) :=
  w_lcmp X hd0 h0 (w_if_ge X hd ho h1 h2 (fun q => wt (fun u => q ((lw_lt _ _).mpr u))) (fun q => wf ((lw_lt _ _).mp q)))
theorem w_icmp_gt (X : St p l e R s m args below meth c Z n0 y code maxL ret T h cells slots) {o : Int} {x z : Int32} {p1 p2 : Nat} (hd : decode code pc = .ok (.if_icmp .gt o, 3)) (ho : 0 ≤ (pc : Int) + o) (h1 : ((pc : Int) + o).toNat = p1) (h2 : p2 = pc + 3) (wt : z < x → WP p e below s n0 k n Q T (mkF m p1 Ls S)) (wf : ¬ z < x → WP p e below s n0 k n Q T (mkF m p2 Ls S)) : WP p e below s n0 k n Q T (mkF m pc Ls (.int z :: .int x :: S)) := by
  obtain ⟨⟨hx, hZ, hby, hml, hown, hnm, hret, hlk, h00⟩, hT, locs, X, N⟩ := X
  subst h2
  by_cases q0 : z < x
  · have q := q0
    exact (wt q).step fun t kk => XS.icmpYes X.here hx rfl rfl (hb hby hd) rfl (tlt q).2.2.1 ho h1 kk
  · have q := q0
    exact (wf q).step fun t kk => XS.icmpNo X.here hx rfl (hb hby hd) rfl (flt q).2.2.1 kk
theorem w_if_gt (X : St p l e R s m args below meth c Z n0 y code maxL ret T h cells slots) {o : Int} {x : Int32} {p1 p2 : Nat} (hd : decode code pc = .ok (.ifCond .gt o, 3)) (ho : 0 ≤ (pc : Int) + o) (h1 : ((pc : Int) + o).toNat = p1) (h2 : p2 = pc + 3) (wt : (0 : Int32) < x → WP p e below s n0 k n Q T (mkF m p1 Ls S)) (wf : ¬ (0 : Int32) < x → WP p e below s n0 k n Q T (mkF m p2 Ls S)) : WP p e below s n0 k n Q T (mkF m pc Ls (.int x :: S)) := by
  obtain ⟨⟨hx, hZ, hby, hml, hown, hnm, hret, hlk, h00⟩, hT, locs, X, N⟩ := X
  subst h2
  by_cases q0 : (0 : Int32) < x
  · have q := q0
    exact (wt q).step fun t kk => XS.ifYes X.here hx rfl rfl (hb hby hd) rfl ((if0 _ _).trans (tlt q).2.2.1) ho h1 kk
  · have q := q0
    exact (wf q).step fun t kk => XS.ifNo X.here hx rfl (hb hby hd) rfl ((if0 _ _).trans (flt q).2.2.1) kk
theorem w_lcmp_gt (X : St p l e R s m args below meth c Z n0 y code maxL ret T h cells slots) {o : Int} {x z : Int64} {p0 p1 p2 : Nat} (hd0 : decode code pc = .ok (.lcmp, 1)) (h0 : p0 = pc + 1) (hd : decode code p0 = .ok (.ifCond .gt o, 3)) (ho : 0 ≤ (p0 : Int) + o) (h1 : ((p0 : Int) + o).toNat = p1) (h2 : p2 = p0 + 3) (wt : z < x → WP p e below s n0 k n Q T (mkF m p1 Ls S)) (wf : ¬ z < x → WP p e below s n0 k n Q T (mkF m p2 Ls S)) : WP p e below s n0 k n Q T (mkF m pc Ls (.long z :: .long x :: S)) :=
  w_lcmp X hd0 h0 (w_if_gt X hd ho h1 h2 (fun q => wt ((lw_gt _ _).mp q)) (fun q => wf (fun u => q ((lw_gt _ _).mpr u))))
theorem w_icmp_le (X : St p l e R s m args below meth c Z n0 y code maxL ret T h cells slots) {o : Int} {x z : Int32} {p1 p2 : Nat} (hd : decode code pc = .ok (.if_icmp .le o, 3)) (ho : 0 ≤ (pc : Int) + o) (h1 : ((pc : Int) + o).toNat = p1) (h2 : p2 = pc + 3) (wt : ¬ z < x → WP p e below s n0 k n Q T (mkF m p1 Ls S)) (wf : z < x → WP p e below s n0 k n Q T (mkF m p2 Ls S)) : WP p e below s n0 k n Q T (mkF m pc Ls (.int z :: .int x :: S)) := by
  obtain ⟨⟨hx, hZ, hby, hml, hown, hnm, hret, hlk, h00⟩, hT, locs, X, N⟩ := X
  subst h2
  by_cases q0 : z < x
  · have q := q0
    exact (wf q).step fun t kk => XS.icmpNo X.here hx rfl (hb hby hd) rfl (tlt q).2.2.2 kk
  · have q := q0
    exact (wt q).step fun t kk => XS.icmpYes X.here hx rfl rfl (hb hby hd) rfl (flt q).2.2.2 ho h1 kk
theorem w_if_le (X : St p l e R s m args below meth c Z n0 y code maxL ret T h cells slots) {o : Int} {x : Int32} {p1 p2 : Nat} (hd : decode code pc = .ok (.ifCond .le o, 3)) (ho : 0 ≤ (pc : Int) + o) (h1 : ((pc : Int) + o).toNat = p1) (h2 : p2 = pc + 3) (wt : ¬ (0 : Int32) < x → WP p e below s n0 k n Q T (mkF m p1 Ls S)) (wf : (0 : Int32) < x → WP p e below s n0 k n Q T (mkF m p2 Ls S)) : WP p e below s n0 k n Q T (mkF m pc Ls (.int x :: S)) := by
  obtain ⟨⟨hx, hZ, hby, hml, hown, hnm, hret, hlk, h00⟩, hT, locs, X, N⟩ := X
  subst h2
  by_cases q0 : (0 : Int32) < x
  · have q := q0
    exact (wf q).step fun t kk => XS.ifNo X.here hx rfl (hb hby hd) rfl ((if0 _ _).trans (tlt q).2.2.2) kk
  · have q := q0
    exact (wt q).step fun t kk => XS.ifYes X.here hx rfl rfl (hb hby hd) rfl ((if0 _ _).trans (flt q).2.2.2) ho h1 kk
theorem w_lcmp_le (X : St p l e R s m args below meth c Z n0 y code maxL ret T h cells slots) {o : Int} {x z : Int64} {p0 p1 p2 : Nat} (hd0 : decode code pc = .ok (.lcmp, 1)) (h0 : p0 = pc + 1) (hd : decode code p0 = .ok (.ifCond .le o, 3)) (ho : 0 ≤ (p0 : Int) + o) (h1 : ((p0 : Int) + o).toNat = p1) (h2 : p2 = p0 + 3) (wt : ¬ z < x → WP p e below s n0 k n Q T (mkF m p1 Ls S)) (wf : z < x → WP p e below s n0 k n Q T (mkF m p2 Ls S)) : WP p e below s n0 k n Q T (mkF m pc Ls (.long z :: .long x :: S)) :=
  w_lcmp X hd0 h0 (w_if_le X hd ho h1 h2 (fun q => wt (fun u => q ((lw_gt _ _).mpr u))) (fun q => wf ((lw_gt _ _).mp q)))
theorem w_icmp_eq (X : St p l e R s m args below meth c Z n0 y code maxL ret T h cells slots) {o : Int} {x z : Int32} {p1 p2 : Nat} (hd : decode code pc = .ok (.if_icmp .eq o, 3)) (ho : 0 ≤ (pc : Int) + o) (h1 : ((pc : Int) + o).toNat = p1) (h2 : p2 = pc + 3) (wt : x = z → WP p e below s n0 k n Q T (mkF m p1 Ls S)) (wf : ¬ x = z → WP p e below s n0 k n Q T (mkF m p2 Ls S)) : WP p e below s n0 k n Q T (mkF m pc Ls (.int z :: .int x :: S)) := by
  obtain ⟨⟨hx, hZ, hby, hml, hown, hnm, hret, hlk, h00⟩, hT, locs, X, N⟩ := X
  subst h2
  by_cases q0 : x = z
  · have q := q0
    exact (wt q).step fun t kk => XS.icmpYes X.here hx rfl rfl (hb hby hd) rfl (teq q).1 ho h1 kk
  · have q := q0
    exact (wf q).step fun t kk => XS.icmpNo X.here hx rfl (hb hby hd) rfl (feq q).1 kk
theorem w_if_eq (X : St p l e R s m args below meth c Z n0 y code maxL ret T h cells slots) {o : Int} {x : Int32} {p1 p2 : Nat} (hd : decode code pc = .ok (.ifCond .eq o, 3)) (ho : 0 ≤ (pc : Int) + o) (h1 : ((pc : Int) + o).toNat = p1) (h2 : p2 = pc + 3) (wt : x = (0 : Int32) → WP p e below s n0 k n Q T (mkF m p1 Ls S)) (wf : ¬ x = (0 : Int32) → WP p e below s n0 k n Q T (mkF m p2 Ls S)) : WP p e below s n0 k n Q T (mkF m pc Ls (.int x :: S)) := by
  obtain ⟨⟨hx, hZ, hby, hml, hown, hnm, hret, hlk, h00⟩, hT, locs, X, N⟩ := X
  subst h2
  by_cases q0 : x = (0 : Int32)
  · have q := q0
    exact (wt q).step fun t kk => XS.ifYes X.here hx rfl rfl (hb hby hd) rfl ((if0 _ _).trans (teq q).1) ho h1 kk
  · have q := q0
    exact (wf q).step fun t kk => XS.ifNo X.here hx rfl (hb hby hd) rfl ((if0 _ _).trans (feq q).1) kk
theorem w_lcmp_eq (X : St p l e R s m args below meth c Z n0 y code maxL ret T h cells slots) {o : Int} {x z : Int64} {p0 p1 p2 : Nat} (hd0 : decode code pc = .ok (.lcmp, 1)) (h0 : p0 = pc + 1) (hd : decode code p0 = .ok (.ifCond .eq o, 3)) (ho : 0 ≤ (p0 : Int) + o) (h1 : ((p0 : Int) + o).toNat = p1) (h2 : p2 = p0 + 3) (wt : x = z → WP p e below s n0 k n Q T (mkF m p1 Ls S)) (wf : ¬ x = z → WP p e below s n0 k n Q T (mkF m p2 Ls S)) : WP p e below s n0 k n Q T (mkF m pc Ls (.long z :: .long x :: S)) :=
  w_lcmp X hd0 h0 (w_if_eq X hd ho h1 h2 (fun q => wt ((lw_eq _ _).mp q)) (fun q => wf (fun u => q ((lw_eq _ _).mpr u))))
theorem w_icmp_ne (X : St p l e R s m args below meth c Z n0 y code maxL ret T h cells slots) {o : Int} {x z : Int32} {p1 p2 : Nat} (hd : decode code pc = .ok (.if_icmp .ne o, 3)) (ho : 0 ≤ (pc : Int) + o) (h1 : ((pc : Int) + o).toNat = p1) (h2 : p2 = pc + 3) (wt : ¬ x = z → WP p e below s n0 k n Q T (mkF m p1 Ls S)) (wf : x = z → WP p e below s n0 k n Q T (mkF m p2 Ls S)) : WP p e below s n0 k n Q T (mkF m pc Ls (.int z :: .int x :: S)) := by
  obtain ⟨⟨hx, hZ, hby, hml, hown, hnm, hret, hlk, h00⟩, hT, locs, X, N⟩ := X
  subst h2
  by_cases q0 : x = z
  · have q := q0
    exact (wf q).step fun t kk => XS.icmpNo X.here hx rfl (hb hby hd) rfl (teq q).2 kk
  · have q := q0
    exact (wt q).step fun t kk => XS.icmpYes X.here hx rfl rfl (hb hby hd) rfl (feq q).2 ho h1 kk
theorem w_if_ne (X : St p l e R s m args below meth c Z n0 y code maxL ret T h cells slots) {o : Int} {x : Int32} {p1 p2 : Nat} (hd : decode code pc = .ok (.ifCond .ne o, 3)) (ho : 0 ≤ (pc : Int) + o) (h1 : ((pc : Int) + o).toNat = p1) (h2 : p2 = pc + 3) (wt : ¬ x = (0 : Int32) → WP p e below s n0 k n Q T (mkF m p1 Ls S)) (wf : x = (0 : Int32) → WP p e below s n0 k n Q T (mkF m p2 Ls S)) : WP p e below s n0 k n Q T (mkF m pc Ls (.int x :: S)) := by
  obtain ⟨⟨hx, hZ, hby, hml, hown, hnm, hret, hlk, h00⟩, hT, locs, X, N⟩ := X
  subst h2
  by_cases q0 : x = (0 : Int32)
  · have q := q0
    exact (wf q).step fun t kk => XS.ifNo X.here hx rfl (hb hby hd) rfl ((if0 _ _).trans (teq q).2) kk
  · have q := q0
    exact (wt q).step fun t kk => XS.ifYes X.here hx rfl rfl (hb hby hd) rfl ((if0 _ _).trans (feq q).2) ho h1 kk
theorem w_lcmp_ne (X : St p l e R s m args below meth c Z n0 y code maxL ret T h cells slots) {o : Int} {x z : Int64} {p0 p1 p2 : Nat} (hd0 : decode code pc = .ok (.lcmp, 1)) (h0 : p0 = pc + 1) (hd : decode code p0 = .ok (.ifCond .ne o, 3)) (ho : 0 ≤ (p0 : Int) + o) (h1 : ((p0 : Int) + o).toNat = p1) (h2 : p2 = p0 + 3) (wt : ¬ x = z → WP p e below s n0 k n Q T (mkF m p1 Ls S)) (wf : x = z → WP p e below s n0 k n Q T (mkF m p2 Ls S)) : WP p e below s n0 k n Q T (mkF m pc Ls (.long z :: .long x :: S)) :=
  w_lcmp X hd0 h0 (w_if_ne X hd ho h1 h2 (fun q => wt (fun u => q ((lw_eq _ _).mpr u))) (fun q => wf ((lw_eq _ _).mp q)))
theorem w_ifnull_ref (X : St p l e R s m args below meth c Z n0 y code maxL ret T h cells slots) {o : Int} {a : Addr} (hd : decode code pc = .ok (.ifnull o, 3)) (hp : pc' = pc + 3) (w : WP p e below s n0 k n Q T (mkF m pc' Ls S)) : WP p e below s n0 k n Q T (mkF m pc Ls (.ref a :: S)) := by
  obtain ⟨⟨hx, hZ, hby, hml, hown, hnm, hret, hlk, h00⟩, hT, locs, X, N⟩ := X
  subst hp
  exact w.step fun t kk => XS.ifnullNo X.here hx rfl (hb hby hd) rfl kk
theorem w_end (X : St p l e R s m args below meth c Z n0 y code maxL ret T h cells slots) {g : JFrame} {v : Option Value} (hv : ret = none → v = none) (hk : cells ≤ k) (hn : slots ≤ n) (hq : Q v h)
    (st : ∀ (locs : List Loc) (fs : List Frame), p.tables.exec = Jvm.exec → c.code = code → meth.sig.returnType = ret → Stand p l e R s m args below meth c T locs cells slots → (∀ (f : JFrame) (acts : List Action), f.method = m → f.locked = none → f.entered = [] → (doReturn e (T.setTop f) acts v).1 = T.setFrames fs) → Steps p.tables e below (T.setTop g) (T.setFrames fs)) : WP p e below s n0 k n Q T g := by
  obtain ⟨⟨hx, hZ, hby, hml, hown, hnm, hret, hlk, h00⟩, hT, locs, X, N⟩ := X
  obtain ⟨fs, hr, hrun, hended, hW, hsame⟩ := X.leave (v := v) (fun q => hv (hret ▸ q)) hlk
  refine ⟨_, _, st locs fs hx hby hret X hr, hrun, hended, _, _, rfl, ⟨?_, N⟩, ⟨_, rfl⟩, hW, hsame.mono hk hn⟩
  show Q v T.heap
  rw [hT]; exact hq
theorem w_retI (X : St p l e R s m args below meth c Z n0 y code maxL ret T h cells slots) {z : Int32} (hr : ret = some .int) (hd : decode code pc = .ok (.ireturn, 1)) (hk : cells ≤ k) (hn : slots ≤ n) (hq : Q (some (.int z)) h) : WP p e below s n0 k n Q T (mkF m pc Ls (.int z :: S)) :=
  w_end X (v := some (.int z)) (fun q => by rw [hr] at q; cases q) hk hn hq fun locs fs hx hby hret X hl => retOut X hx (hret.trans hr) rfl (Or.inl ⟨rfl, Or.inl rfl, z, rfl⟩) (hb hby hd) hl
theorem w_retJ (X : St p l e R s m args below meth c Z n0 y code maxL ret T h cells slots) {z : Int64} (hr : ret = some .long) (hd : decode code pc = .ok (.lreturn, 1)) (hk : cells ≤ k) (hn : slots ≤ n) (hq : Q (some (.long z)) h) : WP p e below s n0 k n Q T (mkF m pc Ls (.long z :: S)) :=
  w_end X (v := some (.long z)) (fun q => by rw [hr] at q; cases q) hk hn hq fun locs fs hx hby hret X hl => retOut X hx (hret.trans hr) rfl (Or.inr (Or.inl ⟨rfl, rfl, z, rfl⟩)) (hb hby hd) hl
theorem w_retA (X : St p l e R s m args below meth c Z n0 y code maxL ret T h cells slots) {a : Addr} {t : FieldType} (hr : ret = some t) (ht : t.isReference = true) (hnn : narrow t (.ref a) = .ref a) (hd : decode code pc = .ok (.areturn, 1)) (hk : cells ≤ k) (hn : slots ≤ n) (hq : Q (some (.ref a)) h) : WP p e below s n0 k n Q T (mkF m pc Ls (.ref a :: S)) :=
  w_end X (v := some (.ref a)) (fun q => by rw [hr] at q; cases q) hk hn hq fun locs fs hx hby hret X hl => retOut X hx (hret.trans hr) hnn (Or.inr (Or.inr (Or.inr (Or.inr ⟨rfl, ht, rfl⟩)))) (hb hby hd) hl
theorem w_retN (X : St p l e R s m args below meth c Z n0 y code maxL ret T h cells slots) {z z' : Int32} {t : FieldType} (hr : ret = some t) (ht : t = .boolean ∨ t = .byte ∨ t = .char ∨ t = .short) (hd : decode code pc = .ok (.ireturn, 1)) (hz : nar t z = z') (hk : cells ≤ k) (hn : slots ≤ n) (hq : Q (some (.int z')) h) : WP p e below s n0 k n Q T (mkF m pc Ls (.int z :: S)) :=
  w_end X (v := some (.int z')) (fun q => by rw [hr] at q; cases q) hk hn hq fun locs fs hx hby hret X hl => retN X hx (hret.trans hr) ht (hb hby hd) (by rw [hz]; exact hl)
theorem w_retZ (X : St p l e R s m args below meth c Z n0 y code maxL ret T h cells slots) {z : Int32} (hr : ret = some .boolean) (hd : decode code pc = .ok (.ireturn, 1)) (hz : z &&& 1 = z) (hk : cells ≤ k) (hn : slots ≤ n) (hq : Q (some (.int z)) h) : WP p e below s n0 k n Q T (mkF m pc Ls (.int z :: S)) :=
  w_retN X hr (Or.inl rfl) hd hz hk hn hq
theorem w_retV (X : St p l e R s m args below meth c Z n0 y code maxL ret T h cells slots) (hr : ret = none) (hd : decode code pc = .ok (.return_, 1)) (hk : cells ≤ k) (hn : slots ≤ n) (hq : Q none h) : WP p e below s n0 k n Q T (mkF m pc Ls []) :=
  w_end X (v := none) (fun _ => rfl) hk hn hq fun locs fs hx hby hret X hl => X.returnOut hx (hret.trans hr) (hb hby hd) hl
theorem St.of_back (X : St p l e R s m args below meth c Z n0 y code maxL ret T h cells slots) {locs : List Loc} (N : Fr n0 locs) {T' : State} {L' : List Loc} {cells' slots' : Nat} (X' : Stand p l e R s m args below meth c T' (locs ++ L') cells' slots') (N' : Fr n0 L') : St p l e R s m args below meth c Z n0 y code maxL ret T' T'.heap cells' slots' :=
  ⟨X.1, rfl, _, X', N.app N'⟩
theorem w_callS (X : St p l e R s m args below meth c Z n0 y code maxL ret T h cells slots) {z : MethodName} {idx : Nat} {code' : ByteArray} {maxL' : Nat} {ret' : Option FieldType} {rm : Room} (argsL rest : List Value) {Q' : Option Value → Heap → Prop} {ps : List FieldType} {r : Option FieldType} (W : Nat)
    (wl : (Jvm.Cond.methodLink y.cls idx z).before a0 Z = true) (wt : (Jvm.Cond.static z).before a0 Z = true) (wi : (Jvm.Cond.initialized z.cls).before a0 Z = true) (wc : (Jvm.Cond.code z code' maxL' ret').before a0 Z = true)
    (ct : Ct l Z z code' maxL' ret' rm argsL.toArray h n0 Q') (hd : decode code pc = .ok (.invokestatic idx, 3)) (pd : parseMethodDescriptor z.desc = some ⟨ps, r⟩) (hlen : argsL.length = ps.length) (hy : z.cls ≠ "java/lang/invoke/MethodHandle" ∧ z.cls ≠ "java/lang/invoke/VarHandle")
    (hsz : Ls.size = maxL) (hS : S = argsL.reverse ++ rest) (hW : (rest.map fun v => v.category).sum = W) (hfr : rm.frames + 1 ≤ R.frames) (hlo : W + (maxL' + 11) + rm.locals ≤ R.locals) (hc : cells + rm.cells ≤ R.cells) (hs : slots + rm.slots ≤ R.slots) (hp : pc' = pc + 3)
    (w : ∀ T' h' v, St p l e R s m args below meth c Z n0 y code maxL ret T' h' (cells + rm.cells) (slots + rm.slots) → Q' v h' → WP p e below s n0 k n Q T' (mkF m pc' Ls (v.toList ++ rest))) : WP p e below s n0 k n Q T (mkF m pc Ls S) := by
  have X1 := X
  obtain ⟨⟨hx, hZ, hby, hml, hown, hnm, hret, hlk, h00⟩, hT, locs, X, N⟩ := X
  subst hp hS
  obtain ⟨v, _, ⟨T', L', k', n'⟩, -, X', ⟨Lc, hQ, l1, y1, z1⟩, st⟩ := Jvm.LawKit.callS X hx (y := z) hown (mvT hZ wl) (mvT hZ wt) (mvT hZ wi) (mvT hZ wc) hy (backOf (W := W) (Q := fun v h L => Q' v h ∧ Fr n0 L) (ct []) hZ wc wi hfr hlo) (g := mkF m pc Ls (argsL.reverse ++ rest)) rfl (hsz.trans hml.symm) (argsL := argsL) (rest := rest) (lenOf pd hlen) rfl (by show 2 * 0 + _ ≤ _; omega) (hb hby hd) (fun _ _ => ⟨rfl, hT, hc, hs⟩)
  dsimp only [Pt.U, Pt.locs, Pt.cells, Pt.slots] at X' l1 y1 z1 st hQ
  subst l1 y1 z1
  exact (w T' T'.heap v (X1.of_back N X' hQ.2) hQ.1).step fun t kk => st t kk
theorem w_callV (X : St p l e R s m args below meth c Z n0 y code maxL ret T h cells slots) {z : MethodName} {C : String} {idx : Nat} {code' : ByteArray} {maxL' : Nat} {ret' : Option FieldType} {rm : Room} {a : Addr} (argsL rest : List Value) {Q' : Option Value → Heap → Prop} {ps : List FieldType} {r : Option FieldType} (W : Nat)
    (wl : (Jvm.Cond.methodLink y.cls idx z).before a0 Z = true) (wdc : (Jvm.Cond.declares z).before a0 Z = true) (wsel : (Jvm.Cond.selects C z z).before a0 Z = true) (wt : (Jvm.Cond.instanceMethod z).before a0 Z = true) (wi : (Jvm.Cond.initialized z.cls).before a0 Z = true) (wc : (Jvm.Cond.code z code' maxL' ret').before a0 Z = true)
    (E : Exa Z h a C) (ct : Ct l Z z code' maxL' ret' rm (.ref a :: argsL).toArray h n0 Q') (hd : decode code pc = .ok (.invokevirtual idx, 3)) (pd : parseMethodDescriptor z.desc = some ⟨ps, r⟩) (hlen : argsL.length = ps.length) (hy : z.cls ≠ "java/lang/invoke/MethodHandle" ∧ z.cls ≠ "java/lang/invoke/VarHandle")
    (hsz : Ls.size = maxL) (hS : S = argsL.reverse ++ .ref a :: rest) (hW : (rest.map fun v => v.category).sum = W) (hfr : rm.frames + 1 ≤ R.frames) (hlo : W + (maxL' + 11) + rm.locals ≤ R.locals) (hc : cells + rm.cells ≤ R.cells) (hs : slots + rm.slots ≤ R.slots) (hp : pc' = pc + 3)
    (w : ∀ T' h' v, St p l e R s m args below meth c Z n0 y code maxL ret T' h' (cells + rm.cells) (slots + rm.slots) → Q' v h' → WP p e below s n0 k n Q T' (mkF m pc' Ls (v.toList ++ rest))) : WP p e below s n0 k n Q T (mkF m pc Ls S) := by
  have X1 := X
  obtain ⟨⟨hx, hZ, hby, hml, hown, hnm, hret, hlk, h00⟩, hT, locs, X, N⟩ := X
  subst hp hS
  obtain ⟨cq, kq, qa, qb, qc⟩ := isOf hZ hT E
  obtain ⟨v, _, ⟨T', L', k', n'⟩, -, X', ⟨Lc, hQ, l1, y1, z1⟩, st⟩ := X.virtualBack hx (y := z) (z := z) hown (mvT hZ wl) (mvT hZ wdc) (notFace_of_selects (args := #[]) (mvT hZ wsel)) (mvT hZ wsel) (mvT hZ wt) hy (backOf (W := W) (Q := fun v h L => Q' v h ∧ Fr n0 L) (ct []) hZ wc wi hfr hlo) qa qc (g := mkF m pc Ls (argsL.reverse ++ .ref a :: rest)) rfl (hsz.trans hml.symm) (Steps.refl _) (argsL := argsL) (rest := rest) (lenOf pd hlen) rfl (by show 2 * 0 + _ ≤ _; omega) (hb hby hd) (fun _ _ => ⟨rfl, hT, hc, hs⟩)
  dsimp only [Pt.U, Pt.locs, Pt.cells, Pt.slots] at X' l1 y1 z1 st hQ
  subst l1 y1 z1
  exact (w T' T'.heap v (X1.of_back N X' hQ.2) hQ.1).trans st
theorem w_callC (X : St p l e R s m args below meth c Z n0 y code maxL ret T h cells slots) {z : MethodName} {idx : Nat} {code' : ByteArray} {maxL' : Nat} {rm : Room} {a : Addr} (argsL rest : List Value) {Q' : Option Value → Heap → Prop} {ps : List FieldType} {r : Option FieldType} (W : Nat)
    (hi : z.name = "<init>") (wl : (Jvm.Cond.methodLink y.cls idx z).before a0 Z = true) (wt : (Jvm.Cond.instanceMethod z).before a0 Z = true) (wi : (Jvm.Cond.initialized z.cls).before a0 Z = true) (wc : (Jvm.Cond.code z code' maxL' none).before a0 Z = true)
    (ct : Ct l Z z code' maxL' none rm (.ref a :: argsL).toArray h n0 Q') (hd : decode code pc = .ok (.invokespecial idx, 3)) (pd : parseMethodDescriptor z.desc = some ⟨ps, r⟩) (hlen : argsL.length = ps.length) (hy : z.cls ≠ "java/lang/invoke/MethodHandle" ∧ z.cls ≠ "java/lang/invoke/VarHandle")
    (hsz : Ls.size = maxL) (hS : S = argsL.reverse ++ .ref a :: rest) (hW : (rest.map fun v => v.category).sum = W) (hfr : rm.frames + 1 ≤ R.frames) (hlo : W + (maxL' + 11) + rm.locals ≤ R.locals) (hc : cells + rm.cells ≤ R.cells) (hs : slots + rm.slots ≤ R.slots) (hp : pc' = pc + 3)
    (w : ∀ T' h' v, St p l e R s m args below meth c Z n0 y code maxL ret T' h' (cells + rm.cells) (slots + rm.slots) → Q' v h' → WP p e below s n0 k n Q T' (mkF m pc' Ls (v.toList ++ rest))) : WP p e below s n0 k n Q T (mkF m pc Ls S) := by
  have X1 := X
  obtain ⟨⟨hx, hZ, hby, hml, hown, hnm, hret, hlk, h00⟩, hT, locs, X, N⟩ := X
  subst hp hS
  obtain ⟨v, _, ⟨T', L', k', n'⟩, -, X', ⟨Lc, hQ, l1, y1, z1⟩, st⟩ := X.specialBack hx (y := z) hi hown (mvT hZ wl) (mvT hZ wt) (mvT hZ wc) hy (backOf (W := W) (Q := fun v h L => Q' v h ∧ Fr n0 L) (ct []) hZ wc wi hfr hlo) (g := mkF m pc Ls (argsL.reverse ++ .ref a :: rest)) rfl (hsz.trans hml.symm) (Steps.refl _) (a := a) (argsL := argsL) (rest := rest) (lenOf pd hlen) rfl (by show 2 * 0 + _ ≤ _; omega) (hb hby hd) (fun _ _ => ⟨rfl, hT, hc, hs⟩)
  dsimp only [Pt.U, Pt.locs, Pt.cells, Pt.slots] at X' l1 y1 z1 st hQ
  subst l1 y1 z1
  exact (w T' T'.heap v (X1.of_back N X' hQ.2) hQ.1).trans st
theorem w_callP (X : St p l e R s m args below meth c Z n0 y code maxL ret T h cells slots) {z z0 : MethodName} {idx : Nat} {code' : ByteArray} {maxL' : Nat} {ret' : Option FieldType} {rm : Room} {a : Addr} (argsL rest : List Value) {Q' : Option Value → Heap → Prop} {ps : List FieldType} {r : Option FieldType} (W : Nat)
    (wl : (Jvm.Cond.methodLink y.cls idx z).before a0 Z = true) (wt : (Jvm.Cond.instanceMethod z).before a0 Z = true) (wp : (Jvm.Cond.privateMethod z).before a0 Z = true) (wsel : (Jvm.Cond.selects z0.cls z0 z0).before a0 Z = true) (h0 : z0.cls = z.cls) (wi : (Jvm.Cond.initialized z.cls).before a0 Z = true) (wc : (Jvm.Cond.code z code' maxL' ret').before a0 Z = true)
    (E : Exa Z h a z.cls) (ct : Ct l Z z code' maxL' ret' rm (.ref a :: argsL).toArray h n0 Q') (hd : decode code pc = .ok (.invokevirtual idx, 3)) (pd : parseMethodDescriptor z.desc = some ⟨ps, r⟩) (hlen : argsL.length = ps.length) (hy : z.cls ≠ "java/lang/invoke/MethodHandle" ∧ z.cls ≠ "java/lang/invoke/VarHandle")
    (hsz : Ls.size = maxL) (hS : S = argsL.reverse ++ .ref a :: rest) (hW : (rest.map fun v => v.category).sum = W) (hfr : rm.frames + 1 ≤ R.frames) (hlo : W + (maxL' + 11) + rm.locals ≤ R.locals) (hc : cells + rm.cells ≤ R.cells) (hs : slots + rm.slots ≤ R.slots) (hp : pc' = pc + 3)
    (w : ∀ T' h' v, St p l e R s m args below meth c Z n0 y code maxL ret T' h' (cells + rm.cells) (slots + rm.slots) → Q' v h' → WP p e below s n0 k n Q T' (mkF m pc' Ls (v.toList ++ rest))) : WP p e below s n0 k n Q T (mkF m pc Ls S) := by
  have X1 := X
  obtain ⟨⟨hx, hZ, hby, hml, hown, hnm, hret, hlk, h00⟩, hT, locs, X, N⟩ := X
  subst hp hS
  obtain ⟨cq, q, q'⟩ := E.cell
  obtain ⟨c2, r2, m2, e1, e2, e3, e4, kP, hkP, hkPi⟩ := Cond.selects_spec (mvT (args := args) hZ wsel)
  have e5 : s.vm.findClass z.cls = some m2.cls := h0 ▸ findClass_of_methodNamed e3
  have hpr : s.PrivateAt z := Cond.privateMethod_at (mvP hZ wp (args := args))
  have hsel : (Jvm.Cond.selects z.cls z z).before args s = true := selects_self_of_private e5 hkP hkPi hpr (mvT hZ wt) hy
  obtain ⟨v, _, ⟨T', L', k', n'⟩, -, X', ⟨Lc, hQ, l1, y1, z1⟩, st⟩ := X.privateBack hx (y := z) hown (mvT hZ wl) (mvT hZ wt) hsel hpr (mvT hZ wc) hy (backOf (W := W) (Q := fun v h L => Q' v h ∧ Fr n0 L) (ct []) hZ wc wi hfr hlo) (g := mkF m pc Ls (argsL.reverse ++ .ref a :: rest)) rfl (hsz.trans hml.symm) (Steps.refl _) (a := a) (by rw [hT]; exact q) q' (argsL := argsL) (rest := rest) (lenOf pd hlen) rfl (by show 2 * 0 + _ ≤ _; omega) (hb hby hd) (fun _ _ => ⟨rfl, hT, hc, hs⟩)
  dsimp only [Pt.U, Pt.locs, Pt.cells, Pt.slots] at X' l1 y1 z1 st hQ
  subst l1 y1 z1
  exact (w T' T'.heap v (X1.of_back N X' hQ.2) hQ.1).trans st
theorem w_initO (X : St p l e R s m args below meth c Z n0 y code maxL ret T h cells slots) {idx : Nat} {a : Addr} {W : Nat} (w1 : (Jvm.Cond.methodLink y.cls idx Lib.objectInit).before a0 Z = true) (w2 : (Jvm.Cond.instanceMethod Lib.objectInit).before a0 Z = true) (w3 : (Jvm.Cond.code Lib.objectInit ⟨#[0xb1]⟩ 1 none).before a0 Z = true)
    (hd : decode code pc = .ok (.invokespecial idx, 3)) (hsz : Ls.size = maxL) (hf : 1 ≤ R.frames) (hW : (S.map fun v => v.category).sum = W) (hl : W + 12 ≤ R.locals) (hp : pc' = pc + 3)
    (w : ∀ T', St p l e R s m args below meth c Z n0 y code maxL ret T' h cells slots → WP p e below s n0 k n Q T' (mkF m pc' Ls S)) : WP p e below s n0 k n Q T (mkF m pc Ls (.ref a :: S)) := by
  have X1 := X
  obtain ⟨⟨hx, hZ, hby, hml, hown, hnm, hret, hlk, h00⟩, hT, locs, X, N⟩ := X
  subst hp
  obtain ⟨T', X', e', st⟩ := initO X hx hZ hown w1 w2 w3 hT (g := mkF m pc Ls (.ref a :: S)) rfl (hsz.trans hml.symm) rfl (hb hby hd) hf (W := W) (by show 2 * 0 + _ ≤ _; omega) hl
  exact (w T' ⟨X1.1, e', locs, X', N⟩).step st
theorem w_getF (X : St p l e R s m args below meth c Z n0 y code maxL ret T h cells slots) {idx : Nat} {O nm d : String} {a : Addr} {v : Value} (wl : (Jvm.Cond.fieldLink y.cls idx O nm d).before a0 Z = true) (F : Fld Z h a O nm d v) (hd : decode code pc = .ok (.getfield idx, 3)) (hp : pc' = pc + 3)
    (w : ∀ T', St p l e R s m args below meth c Z n0 y code maxL ret T' h cells slots → WP p e below s n0 k n Q T' (mkF m pc' Ls (v :: S))) : WP p e below s n0 k n Q T (mkF m pc Ls (.ref a :: S)) := by
  have X1 := X
  obtain ⟨⟨hx, hZ, hby, hml, hown, hnm, hret, hlk, h00⟩, hT, locs, X, N⟩ := X
  subst hp
  obtain ⟨T', X', e', st⟩ := getF X hx hZ hown (host := "") (Or.inl wl) Via.refl hT F (g := mkF m pc Ls (.ref a :: S)) rfl rfl (hb hby hd)
  exact (w T' ⟨X1.1, e', locs, X', N⟩).step st
theorem w_putF (X : St p l e R s m args below meth c Z n0 y code maxL ret T h cells slots) {idx kk : Nat} {O nm d C : String} {ty : FieldType} {a : Addr} {v v' old : Value} (wl : (Jvm.Cond.fieldLink y.cls idx O nm d).before a0 Z = true) (F : Fld Z h a O nm d old) (E : Exa Z h a C) (L : (Jvm.Cond.lays C O nm d).before a0 Z = true ∨ ((Jvm.Cond.laysFinal C O nm d).before a0 Z = true ∧ y.cls = O ∧ y.name = "<init>")) (wi : (Jvm.Cond.instantiable C kk).before a0 Z = true) (ga : n0 ≤ a)
    (hd : decode code pc = .ok (.putfield idx, 3)) (hty : parseFieldDescriptor d = some ty) (hv : narrow ty v = v') (hf : fits ty v' = true) (hp : pc' = pc + 3)
    (w : ∀ T' h', St p l e R s m args below meth c Z n0 y code maxL ret T' h' cells slots → Wr h h' a (Jvm.RoadKit.slotOf Z O nm d) v' → WP p e below s n0 k n Q T' (mkF m pc' Ls S)) : WP p e below s n0 k n Q T (mkF m pc Ls (v :: .ref a :: S)) := by
  have X1 := X
  obtain ⟨⟨hx, hZ, hby, hml, hown, hnm, hret, hlk, h00⟩, hT, locs, X, N⟩ := X
  subst hp
  obtain ⟨T', h', X', e', W', st⟩ := putFN X hx hZ hown wl Via.refl hT F E (L.imp id fun q => ⟨q.1, q.2.1, hnm.trans q.2.2⟩) wi hty hv hf (g := mkF m pc Ls (v :: .ref a :: S)) rfl rfl (hb hby hd)
  exact (w T' h' ⟨X1.1, e', _, X', Fr.snoc X' N ga⟩ W').step st
theorem w_new (X : St p l e R s m args below meth c Z n0 y code maxL ret T h cells slots) {idx nn : Nat} {C : String} (wl : (Jvm.Cond.classLink y.cls idx C).before a0 Z = true) (wi : (Jvm.Cond.instantiable C nn).before a0 Z = true) (wz : (Jvm.Cond.initialized C).before a0 Z = true) (hd : decode code pc = .ok (.new idx, 3)) (hc : cells + 1 ≤ R.cells) (hl : slots + nn ≤ R.slots) (hp : pc' = pc + 3)
    (w : ∀ T' h' a, St p l e R s m args below meth c Z n0 y code maxL ret T' h' (cells + 1) (slots + nn) → a = h.size → n0 ≤ a → Ext h h' → Exa Z h' a C → (∀ {O f d : String} {ty : FieldType}, Laid Z a0 C O f d → parseFieldDescriptor d = some ty → Fld Z h' a O f d (defaultValue ty)) → WP p e below s n0 k n Q T' (mkF m pc' Ls (.ref a :: S))) : WP p e below s n0 k n Q T (mkF m pc Ls S) := by
  have X1 := X
  obtain ⟨⟨hx, hZ, hby, hml, hown, hnm, hret, hlk, h00⟩, hT, locs, X, N⟩ := X
  subst hp
  obtain ⟨T', h', X', e', E', A', D', -, st⟩ := newO X hx hZ hown wl wi wz hT (g := mkF m pc Ls S) rfl (hb hby hd) hc hl
  exact (w T' h' h.size ⟨X1.1, e', _, X', N⟩ rfl X1.n0le E' A' D').step st
theorem w_newarray (X : St p l e R s m args below meth c Z n0 y code maxL ret T h cells slots) {aty : ArrayType} {sz : Int32} (cap : Nat) (wa : (Jvm.Cond.arrayClass (newarray.typeOf aty)).before a0 Z = true) (hd : decode code pc = .ok (.newarray aty, 2)) (hz : ¬ sz < 0) (hcap : sz.toNatClampNeg ≤ cap) (hbig : cap * 8 ≤ 536870912) (hc : cells + 1 ≤ R.cells) (hl : slots + cap ≤ R.slots) (hp : pc' = pc + 2)
    (w : ∀ T' h' a cA, St p l e R s m args below meth c Z n0 y code maxL ret T' h' (cells + 1) (slots + cap) → a = h.size → n0 ≤ a → Ext h h' → Arr Z h' a (newA cA (newarray.typeOf aty) sz) (newarray.typeOf aty) → WP p e below s n0 k n Q T' (mkF m pc' Ls (.ref a :: S))) : WP p e below s n0 k n Q T (mkF m pc Ls (.int sz :: S)) := by
  have X1 := X
  obtain ⟨⟨hx, hZ, hby, hml, hown, hnm, hret, hlk, h00⟩, hT, locs, X, N⟩ := X
  subst hp
  obtain ⟨T', h', cA, X', e', E', A', st⟩ := newP X hx hZ wa hT (g := mkF m pc Ls (.int sz :: S)) rfl (hb hby hd) rfl hz hcap hbig hc hl
  exact (w T' h' h.size cA ⟨X1.1, e', _, X', N⟩ rfl X1.n0le E' A').step st
/-- the array at a: its kind, its length, what stands at each place -/
def AV (Z : State) (h : Heap) (a : Addr) (ty : FieldType) (n : Nat) (f : Nat → Value) : Prop := ∃ c : Cell, Arr Z h a c ty ∧ c.slots.size = n ∧ n < 2 ^ 31 ∧ ∀ i, i < n → c.slots[i]? = some (f i)
theorem AV.ext {a : Addr} {ty : FieldType} {n : Nat} {f : Nat → Value} {h' : Heap} (A : AV Z h a ty n f) (E : Ext h h') : AV Z h' a ty n f := by
  obtain ⟨c, A, r⟩ := A; exact ⟨c, A.ext E, r⟩
theorem AV.keep {a : Addr} {ty : FieldType} {n : Nat} {f : Nat → Value} {h' : Heap} {ws : List Addr} (A : AV Z h a ty n f) (K : Keep h h' ws) (q : a ∉ ws) : AV Z h' a ty n f := by
  obtain ⟨c, A, r⟩ := A; exact ⟨c, ⟨K.2.1 a c A.1 q, A.2⟩, r⟩
theorem AV.lt {a : Addr} {ty : FieldType} {n : Nat} {f : Nat → Value} (A : AV Z h a ty n f) : a < h.size := by
  obtain ⟨c, A, r⟩ := A; exact A.lt
theorem AV.len {a : Addr} {ty : FieldType} {n : Nat} {f : Nat → Value} (A : AV Z h a ty n f) : n < 2 ^ 31 := by
  obtain ⟨c, A, r⟩ := A; exact r.2.1
theorem AV.congr {a : Addr} {ty : FieldType} {n : Nat} {f g : Nat → Value} (A : AV Z h a ty n f) (q : ∀ i, i < n → f i = g i) : AV Z h a ty n g := by
  obtain ⟨c, A, r1, r2, r3⟩ := A; exact ⟨c, A, r1, r2, fun i hi => by rw [← q i hi]; exact r3 i hi⟩
theorem AV.new {a : Addr} {ty : FieldType} {sz : Int32} {cA : ClassId} {n : Nat} (A : Arr Z h a (newA cA ty sz) ty) (hn : sz.toInt = n) : AV Z h a ty n (fun _ => defaultValue ty) := by
  have q1 : sz.toNatClampNeg = n := by simp only [Int32.toNatClampNeg, hn]; omega
  have q2 := Int32.toInt_lt sz
  refine ⟨_, A, by rw [sz_new, q1], by omega, fun i hi => ?_⟩
  simp [newA, q1, hi]
theorem nat_at {j : Int32} {i : Nat} (hi : j.toInt = i) : j.toNatClampNeg = i := by simp only [Int32.toNatClampNeg, hi]; omega
theorem in_at {j : Int32} {i sz n : Nat} (hi : j.toInt = i) (hz : sz = n) (hlt : i < n) : ¬ (j < 0 ∨ sz ≤ j.toNatClampNeg) := by
  rw [nat_at hi, Int32.lt_iff_toInt_lt, hi]; simp only [Int32.reduceToInt]; omega
theorem AV.set {a : Addr} {ty : FieldType} {n i : Nat} {f : Nat → Value} {h' : Heap} {v : Value} (A : AV Z h a ty n f) (W : Wr h h' a i v) : AV Z h' a ty n (fun q => if q = i then v else f q) := by
  obtain ⟨c, A, r1, r2, r3⟩ := A
  obtain ⟨cell, w1, w2, w3, w4⟩ := id W
  have e1 : cell = c := by have := w1.symm.trans A.1; exact Option.some.inj this
  subst e1
  refine ⟨_, A.same W, by rw [sz_set]; exact r1, r2, fun q hq => ?_⟩
  by_cases e : q = i
  · subst e; simp [Cell.setSlot, w3]
  · have e' : ¬ i = q := fun u => e u.symm
    simp only [e, if_false, Cell.setSlot]
    rw [Array.getElem?_setIfInBounds_ne e']; exact r3 q hq
abbrev AI (Z : State) (h : Heap) (a : Addr) (ty : FieldType) (n : Nat) (g : Nat → Int32) : Prop := AV Z h a ty n (fun q => .int (g q))
abbrev AJ (Z : State) (h : Heap) (a : Addr) (n : Nat) (g : Nat → Int64) : Prop := AV Z h a .long n (fun q => .long (g q))
theorem AI.new {a : Addr} {ty : FieldType} {sz : Int32} {cA : ClassId} {n : Nat} (A : Arr Z h a (newA cA ty sz) ty) (hn : sz.toInt = n) (hd : defaultValue ty = .int 0) : AI Z h a ty n (fun _ => 0) := by
  have q := AV.new A hn; rw [hd] at q; exact q
theorem AJ.new {a : Addr} {sz : Int32} {cA : ClassId} {n : Nat} (A : Arr Z h a (newA cA .long sz) .long) (hn : sz.toInt = n) : AJ Z h a n (fun _ => 0) := AV.new A hn
theorem AI.set {a : Addr} {ty : FieldType} {n i : Nat} {g : Nat → Int32} {h' : Heap} {x : Int32} (A : AI Z h a ty n g) (W : Wr h h' a i (.int x)) : AI Z h' a ty n (fun q => if q = i then x else g q) :=
  (AV.set A W).congr fun q _ => by by_cases e : q = i <;> simp [e]
theorem AJ.set {a : Addr} {n i : Nat} {g : Nat → Int64} {h' : Heap} {x : Int64} (A : AJ Z h a n g) (W : Wr h h' a i (.long x)) : AJ Z h' a n (fun q => if q = i then x else g q) :=
  (AV.set A W).congr fun q _ => by by_cases e : q = i <;> simp [e]
theorem AI.congr {a : Addr} {ty : FieldType} {n : Nat} {f g : Nat → Int32} (A : AI Z h a ty n f) (q : ∀ i, i < n → f i = g i) : AI Z h a ty n g := AV.congr A fun i hi => by rw [q i hi]
theorem AJ.congr {a : Addr} {n : Nat} {f g : Nat → Int64} (A : AJ Z h a n f) (q : ∀ i, i < n → f i = g i) : AJ Z h a n g := AV.congr A fun i hi => by rw [q i hi]
theorem w_iaload (X : St p l e R s m args below meth c Z n0 y code maxL ret T h cells slots) {a : Addr} {N : Nat} {g : Nat → Int32} {j : Int32} {i : Nat} {v : Int32} (A : AI Z h a .int N g) (hd : decode code pc = .ok (.iaload, 1)) (hi : j.toInt = i) (hlt : i < N) (hv : g i = v) (hp : pc' = pc + 1) (w : WP p e below s n0 k n Q T (mkF m pc' Ls (.int v :: S))) : WP p e below s n0 k n Q T (mkF m pc Ls (.int j :: .ref a :: S)) := by
  obtain ⟨⟨hx, hZ, hby, hml, hown, hnm, hret, hlk, h00⟩, hT, locs, X, N⟩ := X
  subst hp hv
  obtain ⟨cl, A, r1, r2, r3⟩ := A
  exact w.step fun t kk => X.iaload hx (j := j) (v := .int (g i)) (by rw [hT]; exact A.1) (State.isArrayOf_alike hZ.alike A.2.1) A.2.2 (in_at hi r1 hlt) (by rw [nat_at hi]; exact r3 i hlt) (g := mkF m pc Ls (.int j :: .ref a :: S)) rfl rfl (hb hby hd) t kk
theorem w_laload (X : St p l e R s m args below meth c Z n0 y code maxL ret T h cells slots) {a : Addr} {N : Nat} {g : Nat → Int64} {j : Int32} {i : Nat} {v : Int64} (A : AJ Z h a N g) (hd : decode code pc = .ok (.laload, 1)) (hi : j.toInt = i) (hlt : i < N) (hv : g i = v) (hp : pc' = pc + 1) (w : WP p e below s n0 k n Q T (mkF m pc' Ls (.long v :: S))) : WP p e below s n0 k n Q T (mkF m pc Ls (.int j :: .ref a :: S)) := by
  obtain ⟨⟨hx, hZ, hby, hml, hown, hnm, hret, hlk, h00⟩, hT, locs, X, N⟩ := X
  subst hp hv
  obtain ⟨cl, A, r1, r2, r3⟩ := A
  exact w.step fun t kk => X.laload hx (j := j) (v := .long (g i)) (by rw [hT]; exact A.1) (State.isArrayOf_alike hZ.alike A.2.1) A.2.2 (in_at hi r1 hlt) (by rw [nat_at hi]; exact r3 i hlt) (g := mkF m pc Ls (.int j :: .ref a :: S)) rfl rfl (hb hby hd) t kk
theorem w_caload (X : St p l e R s m args below meth c Z n0 y code maxL ret T h cells slots) {a : Addr} {N : Nat} {g : Nat → Int32} {j : Int32} {i : Nat} {v : Int32} (A : AI Z h a .char N g) (hd : decode code pc = .ok (.caload, 1)) (hi : j.toInt = i) (hlt : i < N) (hv : g i = v) (hp : pc' = pc + 1) (w : WP p e below s n0 k n Q T (mkF m pc' Ls (.int v :: S))) : WP p e below s n0 k n Q T (mkF m pc Ls (.int j :: .ref a :: S)) := by
  obtain ⟨⟨hx, hZ, hby, hml, hown, hnm, hret, hlk, h00⟩, hT, locs, X, N⟩ := X
  subst hp hv
  obtain ⟨cl, A, r1, r2, r3⟩ := A
  exact w.step fun t kk => X.caload hx (j := j) (v := .int (g i)) (by rw [hT]; exact A.1) (State.isArrayOf_alike hZ.alike A.2.1) A.2.2 (in_at hi r1 hlt) (by rw [nat_at hi]; exact r3 i hlt) (g := mkF m pc Ls (.int j :: .ref a :: S)) rfl rfl (hb hby hd) t kk
theorem w_baload (X : St p l e R s m args below meth c Z n0 y code maxL ret T h cells slots) {a : Addr} {N : Nat} {g : Nat → Int32} {j : Int32} {i : Nat} {v : Int32} (A : AI Z h a .byte N g) (hd : decode code pc = .ok (.baload, 1)) (hi : j.toInt = i) (hlt : i < N) (hv : g i = v) (hp : pc' = pc + 1) (w : WP p e below s n0 k n Q T (mkF m pc' Ls (.int v :: S))) : WP p e below s n0 k n Q T (mkF m pc Ls (.int j :: .ref a :: S)) := by
  obtain ⟨⟨hx, hZ, hby, hml, hown, hnm, hret, hlk, h00⟩, hT, locs, X, N⟩ := X
  subst hp hv
  obtain ⟨cl, A, r1, r2, r3⟩ := A
  exact w.step fun t kk => X.baloadBytes hx (j := j) (v := .int (g i)) (by rw [hT]; exact A.1) (State.isArrayOf_alike hZ.alike A.2.1) A.2.2 (in_at hi r1 hlt) (by rw [nat_at hi]; exact r3 i hlt) (g := mkF m pc Ls (.int j :: .ref a :: S)) rfl rfl (hb hby hd) t kk
theorem w_arraylength (X : St p l e R s m args below meth c Z n0 y code maxL ret T h cells slots) {a : Addr} {ty : FieldType} {N : Nat} {f : Nat → Value} {z : Int32} (A : AV Z h a ty N f) (hd : decode code pc = .ok (.arraylength, 1)) (hz : N.toInt32 = z) (hp : pc' = pc + 1) (w : WP p e below s n0 k n Q T (mkF m pc' Ls (.int z :: S))) : WP p e below s n0 k n Q T (mkF m pc Ls (.ref a :: S)) := by
  obtain ⟨⟨hx, hZ, hby, hml, hown, hnm, hret, hlk, h00⟩, hT, locs, X, N⟩ := X
  subst hp hz
  obtain ⟨cl, A, r1, r2, r3⟩ := A
  refine w.step fun t kk => X.arraylength hx (by rw [hT]; exact A.1) (State.isArrayOf_alike hZ.alike A.2.1) (g := mkF m pc Ls (.ref a :: S)) rfl rfl (hb hby hd) t ?_
  rw [r1]; exact kk
theorem w_iastore (X : St p l e R s m args below meth c Z n0 y code maxL ret T h cells slots) {a : Addr} {N : Nat} {g : Nat → Int32} {j : Int32} {i : Nat} {x x' : Int32} (A : AI Z h a .int N g) (ga : n0 ≤ a) (hd : decode code pc = .ok (.iastore, 1)) (hi : j.toInt = i) (hlt : i < N) (hx' : x = x') (hp : pc' = pc + 1) (w : ∀ T' h', St p l e R s m args below meth c Z n0 y code maxL ret T' h' cells slots → Keep h h' [a] → AI Z h' a .int N (fun q => if q = i then x' else g q) → WP p e below s n0 k n Q T' (mkF m pc' Ls S)) : WP p e below s n0 k n Q T (mkF m pc Ls (.int x :: .int j :: .ref a :: S)) := by
  have X1 := X
  have A1 := A
  obtain ⟨⟨hx, hZ, hby, hml, hown, hnm, hret, hlk, h00⟩, hT, locs, X, N⟩ := X
  subst hp hx'
  obtain ⟨cl, A, r1, r2, r3⟩ := A
  obtain ⟨T', h', X', e', W', st⟩ := stI X hx hZ hT A (j := j) (x := x) (in_at hi r1 hlt) (g := mkF m pc Ls (.int x :: .int j :: .ref a :: S)) rfl rfl (hb hby hd)
  have N' := Fr.snoc X' N ga
  rw [nat_at hi] at W'
  exact (w T' h' ⟨X1.1, e', _, X', N'⟩ (Keep.of_wr W') (AI.set A1 W')).step st
theorem w_lastore (X : St p l e R s m args below meth c Z n0 y code maxL ret T h cells slots) {a : Addr} {N : Nat} {g : Nat → Int64} {j : Int32} {i : Nat} {x x' : Int64} (A : AJ Z h a N g) (ga : n0 ≤ a) (hd : decode code pc = .ok (.lastore, 1)) (hi : j.toInt = i) (hlt : i < N) (hx' : x = x') (hp : pc' = pc + 1) (w : ∀ T' h', St p l e R s m args below meth c Z n0 y code maxL ret T' h' cells slots → Keep h h' [a] → AJ Z h' a N (fun q => if q = i then x' else g q) → WP p e below s n0 k n Q T' (mkF m pc' Ls S)) : WP p e below s n0 k n Q T (mkF m pc Ls (.long x :: .int j :: .ref a :: S)) := by
  have X1 := X
  have A1 := A
  obtain ⟨⟨hx, hZ, hby, hml, hown, hnm, hret, hlk, h00⟩, hT, locs, X, N⟩ := X
  subst hp hx'
  obtain ⟨cl, A, r1, r2, r3⟩ := A
  obtain ⟨T', h', X', e', W', st⟩ := stJ X hx hZ hT A (j := j) (x := x) (in_at hi r1 hlt) (g := mkF m pc Ls (.long x :: .int j :: .ref a :: S)) rfl rfl (hb hby hd)
  have N' := Fr.snoc X' N ga
  rw [nat_at hi] at W'
  exact (w T' h' ⟨X1.1, e', _, X', N'⟩ (Keep.of_wr W') (AJ.set A1 W')).step st
theorem w_castore (X : St p l e R s m args below meth c Z n0 y code maxL ret T h cells slots) {a : Addr} {N : Nat} {g : Nat → Int32} {j : Int32} {i : Nat} {x x' : Int32} (A : AI Z h a .char N g) (ga : n0 ≤ a) (hd : decode code pc = .ok (.castore, 1)) (hi : j.toInt = i) (hlt : i < N) (hx' : nar .char x = x') (hp : pc' = pc + 1) (w : ∀ T' h', St p l e R s m args below meth c Z n0 y code maxL ret T' h' cells slots → Keep h h' [a] → AI Z h' a .char N (fun q => if q = i then x' else g q) → WP p e below s n0 k n Q T' (mkF m pc' Ls S)) : WP p e below s n0 k n Q T (mkF m pc Ls (.int x :: .int j :: .ref a :: S)) := by
  have X1 := X
  have A1 := A
  obtain ⟨⟨hx, hZ, hby, hml, hown, hnm, hret, hlk, h00⟩, hT, locs, X, N⟩ := X
  subst hp hx'
  obtain ⟨cl, A, r1, r2, r3⟩ := A
  obtain ⟨T', h', X', e', W', st⟩ := stC X hx hZ hT A (j := j) (x := x) (in_at hi r1 hlt) (g := mkF m pc Ls (.int x :: .int j :: .ref a :: S)) rfl rfl (hb hby hd)
  have N' := Fr.snoc X' N ga
  rw [nat_at hi] at W'
  exact (w T' h' ⟨X1.1, e', _, X', N'⟩ (Keep.of_wr W') (AI.set A1 W')).step st
theorem w_bastore (X : St p l e R s m args below meth c Z n0 y code maxL ret T h cells slots) {a : Addr} {N : Nat} {g : Nat → Int32} {j : Int32} {i : Nat} {x x' : Int32} (A : AI Z h a .byte N g) (ga : n0 ≤ a) (hd : decode code pc = .ok (.bastore, 1)) (hi : j.toInt = i) (hlt : i < N) (hx' : nar .byte x = x') (hp : pc' = pc + 1) (w : ∀ T' h', St p l e R s m args below meth c Z n0 y code maxL ret T' h' cells slots → Keep h h' [a] → AI Z h' a .byte N (fun q => if q = i then x' else g q) → WP p e below s n0 k n Q T' (mkF m pc' Ls S)) : WP p e below s n0 k n Q T (mkF m pc Ls (.int x :: .int j :: .ref a :: S)) := by
  have X1 := X
  have A1 := A
  obtain ⟨⟨hx, hZ, hby, hml, hown, hnm, hret, hlk, h00⟩, hT, locs, X, N⟩ := X
  subst hp hx'
  obtain ⟨cl, A, r1, r2, r3⟩ := A
  obtain ⟨T', h', X', e', W', st⟩ := stB X hx hZ hT A (j := j) (x := x) (in_at hi r1 hlt) (g := mkF m pc Ls (.int x :: .int j :: .ref a :: S)) rfl rfl (hb hby hd)
  have N' := Fr.snoc X' N ga
  rw [nat_at hi] at W'
  exact (w T' h' ⟨X1.1, e', _, X', N'⟩ (Keep.of_wr W') (AI.set A1 W')).step st
end Steps
end Jvm.Own
namespace Jvm.Pilot.@@N@@
open Jvm Jvm.ClassFile Sem Op Lib Jvm.Free Jvm.Stand Jvm.LawKit Jvm.RoadKit Bundle Jvm.Own Jvm.Pilot.@@N@@.Jvm.D
theorem tw0 {a0 : Array Value} {Z : State} (hw : ∀ d ∈ tables_1, d.before a0 Z = true) : (Jvm.Cond.constant "com/example/xtent/xtent/document/XmlNamesIsNameStartPinLaw" (18 : Nat) (65535 : Int32)).before a0 Z = true := hw _ (List.mem_of_getElem? (i := 0) rfl)
theorem tw1 {a0 : Array Value} {Z : State} (hw : ∀ d ∈ tables_1, d.before a0 Z = true) : (Jvm.Cond.methodLink "com/example/xtent/xtent/document/XmlNamesIsNameStartPinLaw" (24 : Nat) ({ cls := "com/example/xtent/xtent/document/XmlNames", name := "isNameStart", desc := "(I)Z" } : Jvm.MethodName)).before a0 Z = true := hw _ (List.mem_of_getElem? (i := 1) rfl)
theorem tw2 {a0 : Array Value} {Z : State} (hw : ∀ d ∈ tables_1, d.before a0 Z = true) : (Jvm.Cond.static ({ cls := "com/example/xtent/xtent/document/XmlNames", name := "isNameStart", desc := "(I)Z" } : Jvm.MethodName)).before a0 Z = true := hw _ (List.mem_of_getElem? (i := 2) rfl)
theorem tw3 {a0 : Array Value} {Z : State} (hw : ∀ d ∈ tables_1, d.before a0 Z = true) : (Jvm.Cond.initialized "com/example/xtent/xtent/document/XmlNames").before a0 Z = true := hw _ (List.mem_of_getElem? (i := 3) rfl)
theorem tw4 {a0 : Array Value} {Z : State} (hw : ∀ d ∈ tables_1, d.before a0 Z = true) : (Jvm.Cond.code ({ cls := "com/example/xtent/xtent/document/XmlNames", name := "isNameStart", desc := "(I)Z" } : Jvm.MethodName) prog_26_method_10_code (1 : Nat) (Option.some Jvm.ClassFile.FieldType.boolean)).before a0 Z = true := hw _ (List.mem_of_getElem? (i := 4) rfl)
theorem tw5 {a0 : Array Value} {Z : State} (hw : ∀ d ∈ tables_1, d.before a0 Z = true) : (Jvm.Cond.constant "com/example/xtent/xtent/document/XmlNames" (97 : Nat) (63744 : Int32)).before a0 Z = true := hw _ (List.mem_of_getElem? (i := 5) rfl)
theorem tw6 {a0 : Array Value} {Z : State} (hw : ∀ d ∈ tables_1, d.before a0 Z = true) : (Jvm.Cond.constant "com/example/xtent/xtent/document/XmlNames" (99 : Nat) (65008 : Int32)).before a0 Z = true := hw _ (List.mem_of_getElem? (i := 6) rfl)
theorem tw7 {a0 : Array Value} {Z : State} (hw : ∀ d ∈ tables_1, d.before a0 Z = true) : (Jvm.Cond.constant "com/example/xtent/xtent/document/XmlNames" (63 : Nat) (65536 : Int32)).before a0 Z = true := hw _ (List.mem_of_getElem? (i := 7) rfl)
theorem tw8 {a0 : Array Value} {Z : State} (hw : ∀ d ∈ tables_1, d.before a0 Z = true) : (Jvm.Cond.methodLink "com/example/xtent/xtent/document/XmlNamesIsNameStartPinLaw" (29 : Nat) ({ cls := "com/example/xtent/xtent/document/XmlNamesIsNameStartPinLaw", name := "expected", desc := "(I)Z" } : Jvm.MethodName)).before a0 Z = true := hw _ (List.mem_of_getElem? (i := 8) rfl)
theorem tw9 {a0 : Array Value} {Z : State} (hw : ∀ d ∈ tables_1, d.before a0 Z = true) : (Jvm.Cond.static ({ cls := "com/example/xtent/xtent/document/XmlNamesIsNameStartPinLaw", name := "expected", desc := "(I)Z" } : Jvm.MethodName)).before a0 Z = true := hw _ (List.mem_of_getElem? (i := 9) rfl)
theorem tw10 {a0 : Array Value} {Z : State} (hw : ∀ d ∈ tables_1, d.before a0 Z = true) : (Jvm.Cond.initialized "com/example/xtent/xtent/document/XmlNamesIsNameStartPinLaw").before a0 Z = true := hw _ (List.mem_of_getElem? (i := 10) rfl)
theorem tw11 {a0 : Array Value} {Z : State} (hw : ∀ d ∈ tables_1, d.before a0 Z = true) : (Jvm.Cond.code ({ cls := "com/example/xtent/xtent/document/XmlNamesIsNameStartPinLaw", name := "expected", desc := "(I)Z" } : Jvm.MethodName) method_4_code (1 : Nat) (Option.some Jvm.ClassFile.FieldType.boolean)).before a0 Z = true := hw _ (List.mem_of_getElem? (i := 11) rfl)
theorem tw12 {a0 : Array Value} {Z : State} (hw : ∀ d ∈ tables_1, d.before a0 Z = true) : (Jvm.Cond.constant "com/example/xtent/xtent/document/XmlNamesIsNameStartPinLaw" (19 : Nat) (983039 : Int32)).before a0 Z = true := hw _ (List.mem_of_getElem? (i := 12) rfl)
theorem tw13 {a0 : Array Value} {Z : State} (hw : ∀ d ∈ tables_1, d.before a0 Z = true) : (Jvm.Cond.methodLink "com/example/xtent/xtent/document/XmlNamesIsNameStartPinLaw" (20 : Nat) ({ cls := "com/example/xtent/xtent/document/XmlNamesIsNameStartPinLaw", name := "inGap", desc := "(I)Z" } : Jvm.MethodName)).before a0 Z = true := hw _ (List.mem_of_getElem? (i := 13) rfl)
theorem tw14 {a0 : Array Value} {Z : State} (hw : ∀ d ∈ tables_1, d.before a0 Z = true) : (Jvm.Cond.static ({ cls := "com/example/xtent/xtent/document/XmlNamesIsNameStartPinLaw", name := "inGap", desc := "(I)Z" } : Jvm.MethodName)).before a0 Z = true := hw _ (List.mem_of_getElem? (i := 14) rfl)
theorem tw15 {a0 : Array Value} {Z : State} (hw : ∀ d ∈ tables_1, d.before a0 Z = true) : (Jvm.Cond.code ({ cls := "com/example/xtent/xtent/document/XmlNamesIsNameStartPinLaw", name := "inGap", desc := "(I)Z" } : Jvm.MethodName) method_3_code (1 : Nat) (Option.some Jvm.ClassFile.FieldType.boolean)).before a0 Z = true := hw _ (List.mem_of_getElem? (i := 15) rfl)
theorem tw16 {a0 : Array Value} {Z : State} (hw : ∀ d ∈ tables_1, d.before a0 Z = true) : (Jvm.Cond.methodLink "com/example/xtent/xtent/document/XmlNamesIsNameStartPinLaw" (7 : Nat) ({ cls := "com/example/xtent/xtent/document/XmlNamesIsNameStartPinLaw", name := "between", desc := "(III)Z" } : Jvm.MethodName)).before a0 Z = true := hw _ (List.mem_of_getElem? (i := 16) rfl)
theorem tw17 {a0 : Array Value} {Z : State} (hw : ∀ d ∈ tables_1, d.before a0 Z = true) : (Jvm.Cond.static ({ cls := "com/example/xtent/xtent/document/XmlNamesIsNameStartPinLaw", name := "between", desc := "(III)Z" } : Jvm.MethodName)).before a0 Z = true := hw _ (List.mem_of_getElem? (i := 17) rfl)
theorem tw18 {a0 : Array Value} {Z : State} (hw : ∀ d ∈ tables_1, d.before a0 Z = true) : (Jvm.Cond.code ({ cls := "com/example/xtent/xtent/document/XmlNamesIsNameStartPinLaw", name := "between", desc := "(III)Z" } : Jvm.MethodName) method_2_code (3 : Nat) (Option.some Jvm.ClassFile.FieldType.boolean)).before a0 Z = true := hw _ (List.mem_of_getElem? (i := 18) rfl)
theorem tw19 {a0 : Array Value} {Z : State} (hw : ∀ d ∈ tables_1, d.before a0 Z = true) : (Jvm.Cond.constant "com/example/xtent/xtent/document/XmlNamesIsNameStartPinLaw" (13 : Nat) (55296 : Int32)).before a0 Z = true := hw _ (List.mem_of_getElem? (i := 19) rfl)
theorem tw20 {a0 : Array Value} {Z : State} (hw : ∀ d ∈ tables_1, d.before a0 Z = true) : (Jvm.Cond.constant "com/example/xtent/xtent/document/XmlNamesIsNameStartPinLaw" (14 : Nat) (63743 : Int32)).before a0 Z = true := hw _ (List.mem_of_getElem? (i := 20) rfl)
theorem tw21 {a0 : Array Value} {Z : State} (hw : ∀ d ∈ tables_1, d.before a0 Z = true) : (Jvm.Cond.constant "com/example/xtent/xtent/document/XmlNamesIsNameStartPinLaw" (15 : Nat) (64976 : Int32)).before a0 Z = true := hw _ (List.mem_of_getElem? (i := 21) rfl)
theorem tw22 {a0 : Array Value} {Z : State} (hw : ∀ d ∈ tables_1, d.before a0 Z = true) : (Jvm.Cond.constant "com/example/xtent/xtent/document/XmlNamesIsNameStartPinLaw" (16 : Nat) (65007 : Int32)).before a0 Z = true := hw _ (List.mem_of_getElem? (i := 22) rfl)
theorem tw23 {a0 : Array Value} {Z : State} (hw : ∀ d ∈ tables_1, d.before a0 Z = true) : (Jvm.Cond.constant "com/example/xtent/xtent/document/XmlNamesIsNameStartPinLaw" (17 : Nat) (65534 : Int32)).before a0 Z = true := hw _ (List.mem_of_getElem? (i := 23) rfl)
theorem tw24 {a0 : Array Value} {Z : State} (hw : ∀ d ∈ tables_1, d.before a0 Z = true) : (Jvm.Cond.constant "com/example/xtent/xtent/document/XmlNames" (60 : Nat) (55295 : Int32)).before a0 Z = true := hw _ (List.mem_of_getElem? (i := 24) rfl)
theorem tw25 {a0 : Array Value} {Z : State} (hw : ∀ d ∈ tables_1, d.before a0 Z = true) : (Jvm.Cond.constant "com/example/xtent/xtent/document/XmlNames" (98 : Nat) (64975 : Int32)).before a0 Z = true := hw _ (List.mem_of_getElem? (i := 25) rfl)
theorem tw26 {a0 : Array Value} {Z : State} (hw : ∀ d ∈ tables_1, d.before a0 Z = true) : (Jvm.Cond.constant "com/example/xtent/xtent/document/XmlNames" (62 : Nat) (65533 : Int32)).before a0 Z = true := hw _ (List.mem_of_getElem? (i := 26) rfl)
theorem tw27 {a0 : Array Value} {Z : State} (hw : ∀ d ∈ tables_1, d.before a0 Z = true) : (Jvm.Cond.constant "com/example/xtent/xtent/document/XmlNames" (100 : Nat) (983039 : Int32)).before a0 Z = true := hw _ (List.mem_of_getElem? (i := 27) rfl)
theorem d1_0 : decode prog_26_method_10_code 0 = .ok (.iload_n 0, 1) := by decide +kernel
theorem d1_1 : decode prog_26_method_10_code 1 = .ok (.bipush 65, 2) := by decide +kernel
theorem d1_3 : decode prog_26_method_10_code 3 = .ok (.if_icmp .lt 9, 3) := by decide +kernel
theorem d1_6 : decode prog_26_method_10_code 6 = .ok (.iload_n 0, 1) := by decide +kernel
theorem d1_7 : decode prog_26_method_10_code 7 = .ok (.bipush 90, 2) := by decide +kernel
theorem d1_9 : decode prog_26_method_10_code 9 = .ok (.if_icmp .le 182, 3) := by decide +kernel
theorem d1_12 : decode prog_26_method_10_code 12 = .ok (.iload_n 0, 1) := by decide +kernel
theorem d1_13 : decode prog_26_method_10_code 13 = .ok (.bipush 95, 2) := by decide +kernel
theorem d1_15 : decode prog_26_method_10_code 15 = .ok (.if_icmp .eq 176, 3) := by decide +kernel
theorem d1_18 : decode prog_26_method_10_code 18 = .ok (.iload_n 0, 1) := by decide +kernel
theorem d1_19 : decode prog_26_method_10_code 19 = .ok (.bipush 97, 2) := by decide +kernel
theorem d1_21 : decode prog_26_method_10_code 21 = .ok (.if_icmp .lt 9, 3) := by decide +kernel
theorem d1_24 : decode prog_26_method_10_code 24 = .ok (.iload_n 0, 1) := by decide +kernel
theorem d1_25 : decode prog_26_method_10_code 25 = .ok (.bipush 122, 2) := by decide +kernel
theorem d1_27 : decode prog_26_method_10_code 27 = .ok (.if_icmp .le 164, 3) := by decide +kernel
theorem d1_30 : decode prog_26_method_10_code 30 = .ok (.iload_n 0, 1) := by decide +kernel
theorem d1_31 : decode prog_26_method_10_code 31 = .ok (.sipush 192, 3) := by decide +kernel
theorem d1_34 : decode prog_26_method_10_code 34 = .ok (.if_icmp .lt 10, 3) := by decide +kernel
theorem d1_37 : decode prog_26_method_10_code 37 = .ok (.iload_n 0, 1) := by decide +kernel
theorem d1_38 : decode prog_26_method_10_code 38 = .ok (.sipush 214, 3) := by decide +kernel
theorem d1_41 : decode prog_26_method_10_code 41 = .ok (.if_icmp .le 150, 3) := by decide +kernel
theorem d1_44 : decode prog_26_method_10_code 44 = .ok (.iload_n 0, 1) := by decide +kernel
theorem d1_45 : decode prog_26_method_10_code 45 = .ok (.sipush 216, 3) := by decide +kernel
theorem d1_48 : decode prog_26_method_10_code 48 = .ok (.if_icmp .lt 10, 3) := by decide +kernel
theorem d1_51 : decode prog_26_method_10_code 51 = .ok (.iload_n 0, 1) := by decide +kernel
theorem d1_52 : decode prog_26_method_10_code 52 = .ok (.sipush 246, 3) := by decide +kernel
theorem d1_55 : decode prog_26_method_10_code 55 = .ok (.if_icmp .le 136, 3) := by decide +kernel
theorem d1_58 : decode prog_26_method_10_code 58 = .ok (.iload_n 0, 1) := by decide +kernel
theorem d1_59 : decode prog_26_method_10_code 59 = .ok (.sipush 248, 3) := by decide +kernel
theorem d1_62 : decode prog_26_method_10_code 62 = .ok (.if_icmp .lt 10, 3) := by decide +kernel
theorem d1_65 : decode prog_26_method_10_code 65 = .ok (.iload_n 0, 1) := by decide +kernel
theorem d1_66 : decode prog_26_method_10_code 66 = .ok (.sipush 767, 3) := by decide +kernel
theorem d1_69 : decode prog_26_method_10_code 69 = .ok (.if_icmp .le 122, 3) := by decide +kernel
theorem d1_72 : decode prog_26_method_10_code 72 = .ok (.iload_n 0, 1) := by decide +kernel
theorem d1_73 : decode prog_26_method_10_code 73 = .ok (.sipush 880, 3) := by decide +kernel
theorem d1_76 : decode prog_26_method_10_code 76 = .ok (.if_icmp .lt 10, 3) := by decide +kernel
theorem d1_79 : decode prog_26_method_10_code 79 = .ok (.iload_n 0, 1) := by decide +kernel
theorem d1_80 : decode prog_26_method_10_code 80 = .ok (.sipush 893, 3) := by decide +kernel
theorem d1_83 : decode prog_26_method_10_code 83 = .ok (.if_icmp .le 108, 3) := by decide +kernel
theorem d1_86 : decode prog_26_method_10_code 86 = .ok (.iload_n 0, 1) := by decide +kernel
theorem d1_87 : decode prog_26_method_10_code 87 = .ok (.sipush 895, 3) := by decide +kernel
theorem d1_90 : decode prog_26_method_10_code 90 = .ok (.if_icmp .lt 10, 3) := by decide +kernel
theorem d1_93 : decode prog_26_method_10_code 93 = .ok (.iload_n 0, 1) := by decide +kernel
theorem d1_94 : decode prog_26_method_10_code 94 = .ok (.sipush 8191, 3) := by decide +kernel
theorem d1_97 : decode prog_26_method_10_code 97 = .ok (.if_icmp .le 94, 3) := by decide +kernel
theorem d1_100 : decode prog_26_method_10_code 100 = .ok (.iload_n 0, 1) := by decide +kernel
theorem d1_101 : decode prog_26_method_10_code 101 = .ok (.sipush 8204, 3) := by decide +kernel
theorem d1_104 : decode prog_26_method_10_code 104 = .ok (.if_icmp .lt 10, 3) := by decide +kernel
theorem d1_107 : decode prog_26_method_10_code 107 = .ok (.iload_n 0, 1) := by decide +kernel
theorem d1_108 : decode prog_26_method_10_code 108 = .ok (.sipush 8205, 3) := by decide +kernel
theorem d1_111 : decode prog_26_method_10_code 111 = .ok (.if_icmp .le 80, 3) := by decide +kernel
theorem d1_114 : decode prog_26_method_10_code 114 = .ok (.iload_n 0, 1) := by decide +kernel
theorem d1_115 : decode prog_26_method_10_code 115 = .ok (.sipush 8304, 3) := by decide +kernel
theorem d1_118 : decode prog_26_method_10_code 118 = .ok (.if_icmp .lt 10, 3) := by decide +kernel
theorem d1_121 : decode prog_26_method_10_code 121 = .ok (.iload_n 0, 1) := by decide +kernel
theorem d1_122 : decode prog_26_method_10_code 122 = .ok (.sipush 8591, 3) := by decide +kernel
theorem d1_125 : decode prog_26_method_10_code 125 = .ok (.if_icmp .le 66, 3) := by decide +kernel
theorem d1_128 : decode prog_26_method_10_code 128 = .ok (.iload_n 0, 1) := by decide +kernel
theorem d1_129 : decode prog_26_method_10_code 129 = .ok (.sipush 11264, 3) := by decide +kernel
theorem d1_132 : decode prog_26_method_10_code 132 = .ok (.if_icmp .lt 10, 3) := by decide +kernel
theorem d1_135 : decode prog_26_method_10_code 135 = .ok (.iload_n 0, 1) := by decide +kernel
theorem d1_136 : decode prog_26_method_10_code 136 = .ok (.sipush 12271, 3) := by decide +kernel
theorem d1_139 : decode prog_26_method_10_code 139 = .ok (.if_icmp .le 52, 3) := by decide +kernel
theorem d1_142 : decode prog_26_method_10_code 142 = .ok (.iload_n 0, 1) := by decide +kernel
theorem d1_143 : decode prog_26_method_10_code 143 = .ok (.sipush 12289, 3) := by decide +kernel
theorem d1_146 : decode prog_26_method_10_code 146 = .ok (.if_icmp .lt 9, 3) := by decide +kernel
theorem d1_149 : decode prog_26_method_10_code 149 = .ok (.iload_n 0, 1) := by decide +kernel
theorem d1_150 : decode prog_26_method_10_code 150 = .ok (.ldc 60, 2) := by decide +kernel
theorem d1_152 : decode prog_26_method_10_code 152 = .ok (.if_icmp .le 39, 3) := by decide +kernel
theorem d1_155 : decode prog_26_method_10_code 155 = .ok (.iload_n 0, 1) := by decide +kernel
theorem d1_156 : decode prog_26_method_10_code 156 = .ok (.ldc 97, 2) := by decide +kernel
theorem d1_158 : decode prog_26_method_10_code 158 = .ok (.if_icmp .lt 9, 3) := by decide +kernel
theorem d1_161 : decode prog_26_method_10_code 161 = .ok (.iload_n 0, 1) := by decide +kernel
theorem d1_162 : decode prog_26_method_10_code 162 = .ok (.ldc 98, 2) := by decide +kernel
theorem d1_164 : decode prog_26_method_10_code 164 = .ok (.if_icmp .le 27, 3) := by decide +kernel
theorem d1_167 : decode prog_26_method_10_code 167 = .ok (.iload_n 0, 1) := by decide +kernel
theorem d1_168 : decode prog_26_method_10_code 168 = .ok (.ldc 99, 2) := by decide +kernel
theorem d1_170 : decode prog_26_method_10_code 170 = .ok (.if_icmp .lt 9, 3) := by decide +kernel
theorem d1_173 : decode prog_26_method_10_code 173 = .ok (.iload_n 0, 1) := by decide +kernel
theorem d1_174 : decode prog_26_method_10_code 174 = .ok (.ldc 62, 2) := by decide +kernel
theorem d1_176 : decode prog_26_method_10_code 176 = .ok (.if_icmp .le 15, 3) := by decide +kernel
theorem d1_179 : decode prog_26_method_10_code 179 = .ok (.iload_n 0, 1) := by decide +kernel
theorem d1_180 : decode prog_26_method_10_code 180 = .ok (.ldc 63, 2) := by decide +kernel
theorem d1_182 : decode prog_26_method_10_code 182 = .ok (.if_icmp .lt 13, 3) := by decide +kernel
theorem d1_185 : decode prog_26_method_10_code 185 = .ok (.iload_n 0, 1) := by decide +kernel
theorem d1_186 : decode prog_26_method_10_code 186 = .ok (.ldc 100, 2) := by decide +kernel
theorem d1_188 : decode prog_26_method_10_code 188 = .ok (.if_icmp .gt 7, 3) := by decide +kernel
theorem d1_191 : decode prog_26_method_10_code 191 = .ok (.iconst 1, 1) := by decide +kernel
theorem d1_192 : decode prog_26_method_10_code 192 = .ok (.goto 4, 3) := by decide +kernel
theorem d1_195 : decode prog_26_method_10_code 195 = .ok (.iconst 0, 1) := by decide +kernel
theorem d1_196 : decode prog_26_method_10_code 196 = .ok (.ireturn, 1) := by decide +kernel
theorem d2_0 : decode method_4_code 0 = .ok (.iload_n 0, 1) := by decide +kernel
theorem d2_1 : decode method_4_code 1 = .ok (.ifCond .lt 9, 3) := by decide +kernel
theorem d2_4 : decode method_4_code 4 = .ok (.iload_n 0, 1) := by decide +kernel
theorem d2_5 : decode method_4_code 5 = .ok (.ldc 19, 2) := by decide +kernel
theorem d2_7 : decode method_4_code 7 = .ok (.if_icmp .le 5, 3) := by decide +kernel
theorem d2_10 : decode method_4_code 10 = .ok (.iconst 0, 1) := by decide +kernel
theorem d2_11 : decode method_4_code 11 = .ok (.ireturn, 1) := by decide +kernel
theorem d2_12 : decode method_4_code 12 = .ok (.iload_n 0, 1) := by decide +kernel
theorem d2_13 : decode method_4_code 13 = .ok (.invokestatic 20, 3) := by decide +kernel
theorem d2_16 : decode method_4_code 16 = .ok (.ifCond .ne 7, 3) := by decide +kernel
theorem d2_19 : decode method_4_code 19 = .ok (.iconst 1, 1) := by decide +kernel
theorem d2_20 : decode method_4_code 20 = .ok (.goto 4, 3) := by decide +kernel
theorem d2_23 : decode method_4_code 23 = .ok (.iconst 0, 1) := by decide +kernel
theorem d2_24 : decode method_4_code 24 = .ok (.ireturn, 1) := by decide +kernel
theorem d3_0 : decode method_3_code 0 = .ok (.iload_n 0, 1) := by decide +kernel
theorem d3_1 : decode method_3_code 1 = .ok (.iconst 0, 1) := by decide +kernel
theorem d3_2 : decode method_3_code 2 = .ok (.bipush 64, 2) := by decide +kernel
theorem d3_4 : decode method_3_code 4 = .ok (.invokestatic 7, 3) := by decide +kernel
theorem d3_7 : decode method_3_code 7 = .ok (.ifCond .ne 151, 3) := by decide +kernel
theorem d3_10 : decode method_3_code 10 = .ok (.iload_n 0, 1) := by decide +kernel
theorem d3_11 : decode method_3_code 11 = .ok (.bipush 91, 2) := by decide +kernel
theorem d3_13 : decode method_3_code 13 = .ok (.bipush 94, 2) := by decide +kernel
theorem d3_15 : decode method_3_code 15 = .ok (.invokestatic 7, 3) := by decide +kernel
theorem d3_18 : decode method_3_code 18 = .ok (.ifCond .ne 140, 3) := by decide +kernel
theorem d3_21 : decode method_3_code 21 = .ok (.iload_n 0, 1) := by decide +kernel
theorem d3_22 : decode method_3_code 22 = .ok (.bipush 96, 2) := by decide +kernel
theorem d3_24 : decode method_3_code 24 = .ok (.if_icmp .eq 134, 3) := by decide +kernel
theorem d3_27 : decode method_3_code 27 = .ok (.iload_n 0, 1) := by decide +kernel
theorem d3_28 : decode method_3_code 28 = .ok (.bipush 123, 2) := by decide +kernel
theorem d3_30 : decode method_3_code 30 = .ok (.sipush 191, 3) := by decide +kernel
theorem d3_33 : decode method_3_code 33 = .ok (.invokestatic 7, 3) := by decide +kernel
theorem d3_36 : decode method_3_code 36 = .ok (.ifCond .ne 122, 3) := by decide +kernel
theorem d3_39 : decode method_3_code 39 = .ok (.iload_n 0, 1) := by decide +kernel
theorem d3_40 : decode method_3_code 40 = .ok (.sipush 215, 3) := by decide +kernel
theorem d3_43 : decode method_3_code 43 = .ok (.if_icmp .eq 115, 3) := by decide +kernel
theorem d3_46 : decode method_3_code 46 = .ok (.iload_n 0, 1) := by decide +kernel
theorem d3_47 : decode method_3_code 47 = .ok (.sipush 247, 3) := by decide +kernel
theorem d3_50 : decode method_3_code 50 = .ok (.if_icmp .eq 108, 3) := by decide +kernel
theorem d3_53 : decode method_3_code 53 = .ok (.iload_n 0, 1) := by decide +kernel
theorem d3_54 : decode method_3_code 54 = .ok (.sipush 768, 3) := by decide +kernel
theorem d3_57 : decode method_3_code 57 = .ok (.sipush 879, 3) := by decide +kernel
theorem d3_60 : decode method_3_code 60 = .ok (.invokestatic 7, 3) := by decide +kernel
theorem d3_63 : decode method_3_code 63 = .ok (.ifCond .ne 95, 3) := by decide +kernel
theorem d3_66 : decode method_3_code 66 = .ok (.iload_n 0, 1) := by decide +kernel
theorem d3_67 : decode method_3_code 67 = .ok (.sipush 894, 3) := by decide +kernel
theorem d3_70 : decode method_3_code 70 = .ok (.if_icmp .eq 88, 3) := by decide +kernel
theorem d3_73 : decode method_3_code 73 = .ok (.iload_n 0, 1) := by decide +kernel
theorem d3_74 : decode method_3_code 74 = .ok (.sipush 8192, 3) := by decide +kernel
theorem d3_77 : decode method_3_code 77 = .ok (.sipush 8203, 3) := by decide +kernel
theorem d3_80 : decode method_3_code 80 = .ok (.invokestatic 7, 3) := by decide +kernel
theorem d3_83 : decode method_3_code 83 = .ok (.ifCond .ne 75, 3) := by decide +kernel
theorem d3_86 : decode method_3_code 86 = .ok (.iload_n 0, 1) := by decide +kernel
theorem d3_87 : decode method_3_code 87 = .ok (.sipush 8206, 3) := by decide +kernel
theorem d3_90 : decode method_3_code 90 = .ok (.sipush 8303, 3) := by decide +kernel
theorem d3_93 : decode method_3_code 93 = .ok (.invokestatic 7, 3) := by decide +kernel
theorem d3_96 : decode method_3_code 96 = .ok (.ifCond .ne 62, 3) := by decide +kernel
theorem d3_99 : decode method_3_code 99 = .ok (.iload_n 0, 1) := by decide +kernel
theorem d3_100 : decode method_3_code 100 = .ok (.sipush 8592, 3) := by decide +kernel
theorem d3_103 : decode method_3_code 103 = .ok (.sipush 11263, 3) := by decide +kernel
theorem d3_106 : decode method_3_code 106 = .ok (.invokestatic 7, 3) := by decide +kernel
theorem d3_109 : decode method_3_code 109 = .ok (.ifCond .ne 49, 3) := by decide +kernel
theorem d3_112 : decode method_3_code 112 = .ok (.iload_n 0, 1) := by decide +kernel
theorem d3_113 : decode method_3_code 113 = .ok (.sipush 12272, 3) := by decide +kernel
theorem d3_116 : decode method_3_code 116 = .ok (.sipush 12288, 3) := by decide +kernel
theorem d3_119 : decode method_3_code 119 = .ok (.invokestatic 7, 3) := by decide +kernel
theorem d3_122 : decode method_3_code 122 = .ok (.ifCond .ne 36, 3) := by decide +kernel
theorem d3_125 : decode method_3_code 125 = .ok (.iload_n 0, 1) := by decide +kernel
theorem d3_126 : decode method_3_code 126 = .ok (.ldc 13, 2) := by decide +kernel
theorem d3_128 : decode method_3_code 128 = .ok (.ldc 14, 2) := by decide +kernel
theorem d3_130 : decode method_3_code 130 = .ok (.invokestatic 7, 3) := by decide +kernel
theorem d3_133 : decode method_3_code 133 = .ok (.ifCond .ne 25, 3) := by decide +kernel
theorem d3_136 : decode method_3_code 136 = .ok (.iload_n 0, 1) := by decide +kernel
theorem d3_137 : decode method_3_code 137 = .ok (.ldc 15, 2) := by decide +kernel
theorem d3_139 : decode method_3_code 139 = .ok (.ldc 16, 2) := by decide +kernel
theorem d3_141 : decode method_3_code 141 = .ok (.invokestatic 7, 3) := by decide +kernel
theorem d3_144 : decode method_3_code 144 = .ok (.ifCond .ne 14, 3) := by decide +kernel
theorem d3_147 : decode method_3_code 147 = .ok (.iload_n 0, 1) := by decide +kernel
theorem d3_148 : decode method_3_code 148 = .ok (.ldc 17, 2) := by decide +kernel
theorem d3_150 : decode method_3_code 150 = .ok (.ldc 18, 2) := by decide +kernel
theorem d3_152 : decode method_3_code 152 = .ok (.invokestatic 7, 3) := by decide +kernel
theorem d3_155 : decode method_3_code 155 = .ok (.ifCond .eq 7, 3) := by decide +kernel
theorem d3_158 : decode method_3_code 158 = .ok (.iconst 1, 1) := by decide +kernel
theorem d3_159 : decode method_3_code 159 = .ok (.goto 4, 3) := by decide +kernel
theorem d3_162 : decode method_3_code 162 = .ok (.iconst 0, 1) := by decide +kernel
theorem d3_163 : decode method_3_code 163 = .ok (.ireturn, 1) := by decide +kernel
theorem d4_0 : decode method_2_code 0 = .ok (.iload_n 0, 1) := by decide +kernel
theorem d4_1 : decode method_2_code 1 = .ok (.iload_n 1, 1) := by decide +kernel
theorem d4_2 : decode method_2_code 2 = .ok (.if_icmp .lt 12, 3) := by decide +kernel
theorem d4_5 : decode method_2_code 5 = .ok (.iload_n 0, 1) := by decide +kernel
theorem d4_6 : decode method_2_code 6 = .ok (.iload_n 2, 1) := by decide +kernel
theorem d4_7 : decode method_2_code 7 = .ok (.if_icmp .gt 7, 3) := by decide +kernel
theorem d4_10 : decode method_2_code 10 = .ok (.iconst 1, 1) := by decide +kernel
theorem d4_11 : decode method_2_code 11 = .ok (.goto 4, 3) := by decide +kernel
theorem d4_14 : decode method_2_code 14 = .ok (.iconst 0, 1) := by decide +kernel
theorem d4_15 : decode method_2_code 15 = .ok (.ireturn, 1) := by decide +kernel
theorem pd0 : parseMethodDescriptor "(III)Z" = some ⟨[.int, .int, .int], some .boolean⟩ := by decide +kernel
theorem pd1 : parseMethodDescriptor "(I)Z" = some ⟨[.int], some .boolean⟩ := by decide +kernel
def fNs_195 (a : Int32) : Int32 :=
  (0 : Int32)
def fNs_191 (a : Int32) : Int32 :=
  (1 : Int32)
def fNs_179 (a : Int32) : Int32 :=
  if a < (65536 : Int32) then
    fNs_195 a
  else
    if (983039 : Int32) < a then
      fNs_195 a
    else
      fNs_191 a
def fNs_167 (a : Int32) : Int32 :=
  if a < (65008 : Int32) then
    fNs_179 a
  else
    if (65533 : Int32) < a then
      fNs_179 a
    else
      fNs_191 a
def fNs_155 (a : Int32) : Int32 :=
  if a < (63744 : Int32) then
    fNs_167 a
  else
    if (64975 : Int32) < a then
      fNs_167 a
    else
      fNs_191 a
def fNs_142 (a : Int32) : Int32 :=
  if a < (12289 : Int32) then
    fNs_155 a
  else
    if (55295 : Int32) < a then
      fNs_155 a
    else
      fNs_191 a
def fNs_128 (a : Int32) : Int32 :=
  if a < (11264 : Int32) then
    fNs_142 a
  else
    if (12271 : Int32) < a then
      fNs_142 a
    else
      fNs_191 a
def fNs_114 (a : Int32) : Int32 :=
  if a < (8304 : Int32) then
    fNs_128 a
  else
    if (8591 : Int32) < a then
      fNs_128 a
    else
      fNs_191 a
def fNs_100 (a : Int32) : Int32 :=
  if a < (8204 : Int32) then
    fNs_114 a
  else
    if (8205 : Int32) < a then
      fNs_114 a
    else
      fNs_191 a
def fNs_86 (a : Int32) : Int32 :=
  if a < (895 : Int32) then
    fNs_100 a
  else
    if (8191 : Int32) < a then
      fNs_100 a
    else
      fNs_191 a
def fNs_72 (a : Int32) : Int32 :=
  if a < (880 : Int32) then
    fNs_86 a
  else
    if (893 : Int32) < a then
      fNs_86 a
    else
      fNs_191 a
def fNs_58 (a : Int32) : Int32 :=
  if a < (248 : Int32) then
    fNs_72 a
  else
    if (767 : Int32) < a then
      fNs_72 a
    else
      fNs_191 a
def fNs_44 (a : Int32) : Int32 :=
  if a < (216 : Int32) then
    fNs_58 a
  else
    if (246 : Int32) < a then
      fNs_58 a
    else
      fNs_191 a
def fNs_30 (a : Int32) : Int32 :=
  if a < (192 : Int32) then
    fNs_44 a
  else
    if (214 : Int32) < a then
      fNs_44 a
    else
      fNs_191 a
def fNs_12 (a : Int32) : Int32 :=
  if a = (95 : Int32) then
    fNs_191 a
  else
    if a < (97 : Int32) then
      fNs_30 a
    else
      if (122 : Int32) < a then
        fNs_30 a
      else
        fNs_191 a
def fNs (a : Int32) : Int32 :=
  if a < (65 : Int32) then
    fNs_12 a
  else
    if (90 : Int32) < a then
      fNs_12 a
    else
      fNs_191 a
set_option maxRecDepth 65536 in
set_option maxHeartbeats 4000000 in
theorem ct_fNs (l : Launch) (Z : State) (a0 : Array Value) (hw : ∀ d ∈ tables_1, d.before a0 Z = true) (a : Int32) (h0 : Heap) (n0 : Nat) (Z0 : n0 ≤ h0.size) :
    Ct l Z (⟨"com/example/xtent/xtent/document/XmlNames", "isNameStart", "(I)Z"⟩ : MethodName) prog_26_method_10_code 1 (some .boolean) ({ frames := 0, cells := 0, slots := 0, locals := 0 } : Room) #[(.int a)] h0 n0 (fun r_ h_ => r_ = some (.int (fNs a)) ∧ h_ = h0) := by
  refine Ct.intro (plainFor_of_name (by first | (simp [plainName, overriddenIn]; done) | decide +kernel)) Z0 ?_
  intro p e s m below meth c T X
  have J195 : ∀ T, St p l e ({ frames := 0, cells := 0, slots := 0, locals := 0 } : Room) s m #[(.int a)] below meth c Z n0 (⟨"com/example/xtent/xtent/document/XmlNames", "isNameStart", "(I)Z"⟩ : MethodName) prog_26_method_10_code 1 (some .boolean) T h0 0 0 → WP p e below s n0 ({ frames := 0, cells := 0, slots := 0, locals := 0 } : Room).cells ({ frames := 0, cells := 0, slots := 0, locals := 0 } : Room).slots (fun r_ h_ => r_ = some (.int (fNs_195 a)) ∧ h_ = h0) T (mkF m 195 #[.val (.int a)] []) := by
    intro T X
    refine w_iconst X d1_195 (v := (0 : Int32)) (by decide) (pc' := 196) rfl ?_
    exact w_retZ X rfl d1_196 (by decide) (by decide) (by decide) ⟨by rw [fNs_195], rfl⟩
  have J191 : ∀ T, St p l e ({ frames := 0, cells := 0, slots := 0, locals := 0 } : Room) s m #[(.int a)] below meth c Z n0 (⟨"com/example/xtent/xtent/document/XmlNames", "isNameStart", "(I)Z"⟩ : MethodName) prog_26_method_10_code 1 (some .boolean) T h0 0 0 → WP p e below s n0 ({ frames := 0, cells := 0, slots := 0, locals := 0 } : Room).cells ({ frames := 0, cells := 0, slots := 0, locals := 0 } : Room).slots (fun r_ h_ => r_ = some (.int (fNs_191 a)) ∧ h_ = h0) T (mkF m 191 #[.val (.int a)] []) := by
    intro T X
    refine w_iconst X d1_191 (v := (1 : Int32)) (by decide) (pc' := 192) rfl ?_
    refine w_goto X d1_192 (by decide) (pc' := 196) (by decide) ?_
    exact w_retZ X rfl d1_196 (by decide) (by decide) (by decide) ⟨by rw [fNs_191], rfl⟩
  have J179 : ∀ T, St p l e ({ frames := 0, cells := 0, slots := 0, locals := 0 } : Room) s m #[(.int a)] below meth c Z n0 (⟨"com/example/xtent/xtent/document/XmlNames", "isNameStart", "(I)Z"⟩ : MethodName) prog_26_method_10_code 1 (some .boolean) T h0 0 0 → WP p e below s n0 ({ frames := 0, cells := 0, slots := 0, locals := 0 } : Room).cells ({ frames := 0, cells := 0, slots := 0, locals := 0 } : Room).slots (fun r_ h_ => r_ = some (.int (fNs_179 a)) ∧ h_ = h0) T (mkF m 179 #[.val (.int a)] []) := by
    intro T X
    refine w_iloadN X d1_179 rfl (pc' := 180) rfl ?_
    refine w_ldcI X d1_180 (tw7 hw) (pc' := 182) rfl ?_
    refine w_icmp_lt X d1_182 (by decide) (p1 := 195) (by decide) (p2 := 185) rfl (fun c182 => ?_) (fun c182 => ?_)
    · -- c182 taken
      exact (J195 T X).imp fun v h q => by rw [fNs_179, if_pos c182]; exact q
    · -- c182 not taken
      refine w_iloadN X d1_185 rfl (pc' := 186) rfl ?_
      refine w_ldcI X d1_186 (tw27 hw) (pc' := 188) rfl ?_
      refine w_icmp_gt X d1_188 (by decide) (p1 := 195) (by decide) (p2 := 191) rfl (fun c188 => ?_) (fun c188 => ?_)
      · -- c188 taken
        exact (J195 T X).imp fun v h q => by rw [fNs_179, if_neg c182, if_pos c188]; exact q
      · -- c188 not taken
        exact (J191 T X).imp fun v h q => by rw [fNs_179, if_neg c182, if_neg c188]; exact q
  have J167 : ∀ T, St p l e ({ frames := 0, cells := 0, slots := 0, locals := 0 } : Room) s m #[(.int a)] below meth c Z n0 (⟨"com/example/xtent/xtent/document/XmlNames", "isNameStart", "(I)Z"⟩ : MethodName) prog_26_method_10_code 1 (some .boolean) T h0 0 0 → WP p e below s n0 ({ frames := 0, cells := 0, slots := 0, locals := 0 } : Room).cells ({ frames := 0, cells := 0, slots := 0, locals := 0 } : Room).slots (fun r_ h_ => r_ = some (.int (fNs_167 a)) ∧ h_ = h0) T (mkF m 167 #[.val (.int a)] []) := by
    intro T X
    refine w_iloadN X d1_167 rfl (pc' := 168) rfl ?_
    refine w_ldcI X d1_168 (tw6 hw) (pc' := 170) rfl ?_
    refine w_icmp_lt X d1_170 (by decide) (p1 := 179) (by decide) (p2 := 173) rfl (fun c170 => ?_) (fun c170 => ?_)
    · -- c170 taken
      exact (J179 T X).imp fun v h q => by rw [fNs_167, if_pos c170]; exact q
    · -- c170 not taken
      refine w_iloadN X d1_173 rfl (pc' := 174) rfl ?_
      refine w_ldcI X d1_174 (tw26 hw) (pc' := 176) rfl ?_
      refine w_icmp_le X d1_176 (by decide) (p1 := 191) (by decide) (p2 := 179) rfl (fun c176 => ?_) (fun c176 => ?_)
      · -- c176 taken
        exact (J191 T X).imp fun v h q => by rw [fNs_167, if_neg c170, if_neg c176]; exact q
      · -- c176 not taken
        exact (J179 T X).imp fun v h q => by rw [fNs_167, if_neg c170, if_pos c176]; exact q
  have J155 : ∀ T, St p l e ({ frames := 0, cells := 0, slots := 0, locals := 0 } : Room) s m #[(.int a)] below meth c Z n0 (⟨"com/example/xtent/xtent/document/XmlNames", "isNameStart", "(I)Z"⟩ : MethodName) prog_26_method_10_code 1 (some .boolean) T h0 0 0 → WP p e below s n0 ({ frames := 0, cells := 0, slots := 0, locals := 0 } : Room).cells ({ frames := 0, cells := 0, slots := 0, locals := 0 } : Room).slots (fun r_ h_ => r_ = some (.int (fNs_155 a)) ∧ h_ = h0) T (mkF m 155 #[.val (.int a)] []) := by
    intro T X
    refine w_iloadN X d1_155 rfl (pc' := 156) rfl ?_
    refine w_ldcI X d1_156 (tw5 hw) (pc' := 158) rfl ?_
    refine w_icmp_lt X d1_158 (by decide) (p1 := 167) (by decide) (p2 := 161) rfl (fun c158 => ?_) (fun c158 => ?_)
    · -- c158 taken
      exact (J167 T X).imp fun v h q => by rw [fNs_155, if_pos c158]; exact q
    · -- c158 not taken
      refine w_iloadN X d1_161 rfl (pc' := 162) rfl ?_
      refine w_ldcI X d1_162 (tw25 hw) (pc' := 164) rfl ?_
      refine w_icmp_le X d1_164 (by decide) (p1 := 191) (by decide) (p2 := 167) rfl (fun c164 => ?_) (fun c164 => ?_)
      · -- c164 taken
        exact (J191 T X).imp fun v h q => by rw [fNs_155, if_neg c158, if_neg c164]; exact q
      · -- c164 not taken
        exact (J167 T X).imp fun v h q => by rw [fNs_155, if_neg c158, if_pos c164]; exact q
  have J142 : ∀ T, St p l e ({ frames := 0, cells := 0, slots := 0, locals := 0 } : Room) s m #[(.int a)] below meth c Z n0 (⟨"com/example/xtent/xtent/document/XmlNames", "isNameStart", "(I)Z"⟩ : MethodName) prog_26_method_10_code 1 (some .boolean) T h0 0 0 → WP p e below s n0 ({ frames := 0, cells := 0, slots := 0, locals := 0 } : Room).cells ({ frames := 0, cells := 0, slots := 0, locals := 0 } : Room).slots (fun r_ h_ => r_ = some (.int (fNs_142 a)) ∧ h_ = h0) T (mkF m 142 #[.val (.int a)] []) := by
    intro T X
    refine w_iloadN X d1_142 rfl (pc' := 143) rfl ?_
    refine w_sipush X d1_143 (v := (12289 : Int32)) (by decide) (pc' := 146) rfl ?_
    refine w_icmp_lt X d1_146 (by decide) (p1 := 155) (by decide) (p2 := 149) rfl (fun c146 => ?_) (fun c146 => ?_)
    · -- c146 taken
      exact (J155 T X).imp fun v h q => by rw [fNs_142, if_pos c146]; exact q
    · -- c146 not taken
      refine w_iloadN X d1_149 rfl (pc' := 150) rfl ?_
      refine w_ldcI X d1_150 (tw24 hw) (pc' := 152) rfl ?_
      refine w_icmp_le X d1_152 (by decide) (p1 := 191) (by decide) (p2 := 155) rfl (fun c152 => ?_) (fun c152 => ?_)
      · -- c152 taken
        exact (J191 T X).imp fun v h q => by rw [fNs_142, if_neg c146, if_neg c152]; exact q
      · -- c152 not taken
        exact (J155 T X).imp fun v h q => by rw [fNs_142, if_neg c146, if_pos c152]; exact q
  have J128 : ∀ T, St p l e ({ frames := 0, cells := 0, slots := 0, locals := 0 } : Room) s m #[(.int a)] below meth c Z n0 (⟨"com/example/xtent/xtent/document/XmlNames", "isNameStart", "(I)Z"⟩ : MethodName) prog_26_method_10_code 1 (some .boolean) T h0 0 0 → WP p e below s n0 ({ frames := 0, cells := 0, slots := 0, locals := 0 } : Room).cells ({ frames := 0, cells := 0, slots := 0, locals := 0 } : Room).slots (fun r_ h_ => r_ = some (.int (fNs_128 a)) ∧ h_ = h0) T (mkF m 128 #[.val (.int a)] []) := by
    intro T X
    refine w_iloadN X d1_128 rfl (pc' := 129) rfl ?_
    refine w_sipush X d1_129 (v := (11264 : Int32)) (by decide) (pc' := 132) rfl ?_
    refine w_icmp_lt X d1_132 (by decide) (p1 := 142) (by decide) (p2 := 135) rfl (fun c132 => ?_) (fun c132 => ?_)
    · -- c132 taken
      exact (J142 T X).imp fun v h q => by rw [fNs_128, if_pos c132]; exact q
    · -- c132 not taken
      refine w_iloadN X d1_135 rfl (pc' := 136) rfl ?_
      refine w_sipush X d1_136 (v := (12271 : Int32)) (by decide) (pc' := 139) rfl ?_
      refine w_icmp_le X d1_139 (by decide) (p1 := 191) (by decide) (p2 := 142) rfl (fun c139 => ?_) (fun c139 => ?_)
      · -- c139 taken
        exact (J191 T X).imp fun v h q => by rw [fNs_128, if_neg c132, if_neg c139]; exact q
      · -- c139 not taken
        exact (J142 T X).imp fun v h q => by rw [fNs_128, if_neg c132, if_pos c139]; exact q
  have J114 : ∀ T, St p l e ({ frames := 0, cells := 0, slots := 0, locals := 0 } : Room) s m #[(.int a)] below meth c Z n0 (⟨"com/example/xtent/xtent/document/XmlNames", "isNameStart", "(I)Z"⟩ : MethodName) prog_26_method_10_code 1 (some .boolean) T h0 0 0 → WP p e below s n0 ({ frames := 0, cells := 0, slots := 0, locals := 0 } : Room).cells ({ frames := 0, cells := 0, slots := 0, locals := 0 } : Room).slots (fun r_ h_ => r_ = some (.int (fNs_114 a)) ∧ h_ = h0) T (mkF m 114 #[.val (.int a)] []) := by
    intro T X
    refine w_iloadN X d1_114 rfl (pc' := 115) rfl ?_
    refine w_sipush X d1_115 (v := (8304 : Int32)) (by decide) (pc' := 118) rfl ?_
    refine w_icmp_lt X d1_118 (by decide) (p1 := 128) (by decide) (p2 := 121) rfl (fun c118 => ?_) (fun c118 => ?_)
    · -- c118 taken
      exact (J128 T X).imp fun v h q => by rw [fNs_114, if_pos c118]; exact q
    · -- c118 not taken
      refine w_iloadN X d1_121 rfl (pc' := 122) rfl ?_
      refine w_sipush X d1_122 (v := (8591 : Int32)) (by decide) (pc' := 125) rfl ?_
      refine w_icmp_le X d1_125 (by decide) (p1 := 191) (by decide) (p2 := 128) rfl (fun c125 => ?_) (fun c125 => ?_)
      · -- c125 taken
        exact (J191 T X).imp fun v h q => by rw [fNs_114, if_neg c118, if_neg c125]; exact q
      · -- c125 not taken
        exact (J128 T X).imp fun v h q => by rw [fNs_114, if_neg c118, if_pos c125]; exact q
  have J100 : ∀ T, St p l e ({ frames := 0, cells := 0, slots := 0, locals := 0 } : Room) s m #[(.int a)] below meth c Z n0 (⟨"com/example/xtent/xtent/document/XmlNames", "isNameStart", "(I)Z"⟩ : MethodName) prog_26_method_10_code 1 (some .boolean) T h0 0 0 → WP p e below s n0 ({ frames := 0, cells := 0, slots := 0, locals := 0 } : Room).cells ({ frames := 0, cells := 0, slots := 0, locals := 0 } : Room).slots (fun r_ h_ => r_ = some (.int (fNs_100 a)) ∧ h_ = h0) T (mkF m 100 #[.val (.int a)] []) := by
    intro T X
    refine w_iloadN X d1_100 rfl (pc' := 101) rfl ?_
    refine w_sipush X d1_101 (v := (8204 : Int32)) (by decide) (pc' := 104) rfl ?_
    refine w_icmp_lt X d1_104 (by decide) (p1 := 114) (by decide) (p2 := 107) rfl (fun c104 => ?_) (fun c104 => ?_)
    · -- c104 taken
      exact (J114 T X).imp fun v h q => by rw [fNs_100, if_pos c104]; exact q
    · -- c104 not taken
      refine w_iloadN X d1_107 rfl (pc' := 108) rfl ?_
      refine w_sipush X d1_108 (v := (8205 : Int32)) (by decide) (pc' := 111) rfl ?_
      refine w_icmp_le X d1_111 (by decide) (p1 := 191) (by decide) (p2 := 114) rfl (fun c111 => ?_) (fun c111 => ?_)
      · -- c111 taken
        exact (J191 T X).imp fun v h q => by rw [fNs_100, if_neg c104, if_neg c111]; exact q
      · -- c111 not taken
        exact (J114 T X).imp fun v h q => by rw [fNs_100, if_neg c104, if_pos c111]; exact q
  have J86 : ∀ T, St p l e ({ frames := 0, cells := 0, slots := 0, locals := 0 } : Room) s m #[(.int a)] below meth c Z n0 (⟨"com/example/xtent/xtent/document/XmlNames", "isNameStart", "(I)Z"⟩ : MethodName) prog_26_method_10_code 1 (some .boolean) T h0 0 0 → WP p e below s n0 ({ frames := 0, cells := 0, slots := 0, locals := 0 } : Room).cells ({ frames := 0, cells := 0, slots := 0, locals := 0 } : Room).slots (fun r_ h_ => r_ = some (.int (fNs_86 a)) ∧ h_ = h0) T (mkF m 86 #[.val (.int a)] []) := by
    intro T X
    refine w_iloadN X d1_86 rfl (pc' := 87) rfl ?_
    refine w_sipush X d1_87 (v := (895 : Int32)) (by decide) (pc' := 90) rfl ?_
    refine w_icmp_lt X d1_90 (by decide) (p1 := 100) (by decide) (p2 := 93) rfl (fun c90 => ?_) (fun c90 => ?_)
    · -- c90 taken
      exact (J100 T X).imp fun v h q => by rw [fNs_86, if_pos c90]; exact q
    · -- c90 not taken
      refine w_iloadN X d1_93 rfl (pc' := 94) rfl ?_
      refine w_sipush X d1_94 (v := (8191 : Int32)) (by decide) (pc' := 97) rfl ?_
      refine w_icmp_le X d1_97 (by decide) (p1 := 191) (by decide) (p2 := 100) rfl (fun c97 => ?_) (fun c97 => ?_)
      · -- c97 taken
        exact (J191 T X).imp fun v h q => by rw [fNs_86, if_neg c90, if_neg c97]; exact q
      · -- c97 not taken
        exact (J100 T X).imp fun v h q => by rw [fNs_86, if_neg c90, if_pos c97]; exact q
  have J72 : ∀ T, St p l e ({ frames := 0, cells := 0, slots := 0, locals := 0 } : Room) s m #[(.int a)] below meth c Z n0 (⟨"com/example/xtent/xtent/document/XmlNames", "isNameStart", "(I)Z"⟩ : MethodName) prog_26_method_10_code 1 (some .boolean) T h0 0 0 → WP p e below s n0 ({ frames := 0, cells := 0, slots := 0, locals := 0 } : Room).cells ({ frames := 0, cells := 0, slots := 0, locals := 0 } : Room).slots (fun r_ h_ => r_ = some (.int (fNs_72 a)) ∧ h_ = h0) T (mkF m 72 #[.val (.int a)] []) := by
    intro T X
    refine w_iloadN X d1_72 rfl (pc' := 73) rfl ?_
    refine w_sipush X d1_73 (v := (880 : Int32)) (by decide) (pc' := 76) rfl ?_
    refine w_icmp_lt X d1_76 (by decide) (p1 := 86) (by decide) (p2 := 79) rfl (fun c76 => ?_) (fun c76 => ?_)
    · -- c76 taken
      exact (J86 T X).imp fun v h q => by rw [fNs_72, if_pos c76]; exact q
    · -- c76 not taken
      refine w_iloadN X d1_79 rfl (pc' := 80) rfl ?_
      refine w_sipush X d1_80 (v := (893 : Int32)) (by decide) (pc' := 83) rfl ?_
      refine w_icmp_le X d1_83 (by decide) (p1 := 191) (by decide) (p2 := 86) rfl (fun c83 => ?_) (fun c83 => ?_)
      · -- c83 taken
        exact (J191 T X).imp fun v h q => by rw [fNs_72, if_neg c76, if_neg c83]; exact q
      · -- c83 not taken
        exact (J86 T X).imp fun v h q => by rw [fNs_72, if_neg c76, if_pos c83]; exact q
  have J58 : ∀ T, St p l e ({ frames := 0, cells := 0, slots := 0, locals := 0 } : Room) s m #[(.int a)] below meth c Z n0 (⟨"com/example/xtent/xtent/document/XmlNames", "isNameStart", "(I)Z"⟩ : MethodName) prog_26_method_10_code 1 (some .boolean) T h0 0 0 → WP p e below s n0 ({ frames := 0, cells := 0, slots := 0, locals := 0 } : Room).cells ({ frames := 0, cells := 0, slots := 0, locals := 0 } : Room).slots (fun r_ h_ => r_ = some (.int (fNs_58 a)) ∧ h_ = h0) T (mkF m 58 #[.val (.int a)] []) := by
    intro T X
    refine w_iloadN X d1_58 rfl (pc' := 59) rfl ?_
    refine w_sipush X d1_59 (v := (248 : Int32)) (by decide) (pc' := 62) rfl ?_
    refine w_icmp_lt X d1_62 (by decide) (p1 := 72) (by decide) (p2 := 65) rfl (fun c62 => ?_) (fun c62 => ?_)
    · -- c62 taken
      exact (J72 T X).imp fun v h q => by rw [fNs_58, if_pos c62]; exact q
    · -- c62 not taken
      refine w_iloadN X d1_65 rfl (pc' := 66) rfl ?_
      refine w_sipush X d1_66 (v := (767 : Int32)) (by decide) (pc' := 69) rfl ?_
      refine w_icmp_le X d1_69 (by decide) (p1 := 191) (by decide) (p2 := 72) rfl (fun c69 => ?_) (fun c69 => ?_)
      · -- c69 taken
        exact (J191 T X).imp fun v h q => by rw [fNs_58, if_neg c62, if_neg c69]; exact q
      · -- c69 not taken
        exact (J72 T X).imp fun v h q => by rw [fNs_58, if_neg c62, if_pos c69]; exact q
  have J44 : ∀ T, St p l e ({ frames := 0, cells := 0, slots := 0, locals := 0 } : Room) s m #[(.int a)] below meth c Z n0 (⟨"com/example/xtent/xtent/document/XmlNames", "isNameStart", "(I)Z"⟩ : MethodName) prog_26_method_10_code 1 (some .boolean) T h0 0 0 → WP p e below s n0 ({ frames := 0, cells := 0, slots := 0, locals := 0 } : Room).cells ({ frames := 0, cells := 0, slots := 0, locals := 0 } : Room).slots (fun r_ h_ => r_ = some (.int (fNs_44 a)) ∧ h_ = h0) T (mkF m 44 #[.val (.int a)] []) := by
    intro T X
    refine w_iloadN X d1_44 rfl (pc' := 45) rfl ?_
    refine w_sipush X d1_45 (v := (216 : Int32)) (by decide) (pc' := 48) rfl ?_
    refine w_icmp_lt X d1_48 (by decide) (p1 := 58) (by decide) (p2 := 51) rfl (fun c48 => ?_) (fun c48 => ?_)
    · -- c48 taken
      exact (J58 T X).imp fun v h q => by rw [fNs_44, if_pos c48]; exact q
    · -- c48 not taken
      refine w_iloadN X d1_51 rfl (pc' := 52) rfl ?_
      refine w_sipush X d1_52 (v := (246 : Int32)) (by decide) (pc' := 55) rfl ?_
      refine w_icmp_le X d1_55 (by decide) (p1 := 191) (by decide) (p2 := 58) rfl (fun c55 => ?_) (fun c55 => ?_)
      · -- c55 taken
        exact (J191 T X).imp fun v h q => by rw [fNs_44, if_neg c48, if_neg c55]; exact q
      · -- c55 not taken
        exact (J58 T X).imp fun v h q => by rw [fNs_44, if_neg c48, if_pos c55]; exact q
  have J30 : ∀ T, St p l e ({ frames := 0, cells := 0, slots := 0, locals := 0 } : Room) s m #[(.int a)] below meth c Z n0 (⟨"com/example/xtent/xtent/document/XmlNames", "isNameStart", "(I)Z"⟩ : MethodName) prog_26_method_10_code 1 (some .boolean) T h0 0 0 → WP p e below s n0 ({ frames := 0, cells := 0, slots := 0, locals := 0 } : Room).cells ({ frames := 0, cells := 0, slots := 0, locals := 0 } : Room).slots (fun r_ h_ => r_ = some (.int (fNs_30 a)) ∧ h_ = h0) T (mkF m 30 #[.val (.int a)] []) := by
    intro T X
    refine w_iloadN X d1_30 rfl (pc' := 31) rfl ?_
    refine w_sipush X d1_31 (v := (192 : Int32)) (by decide) (pc' := 34) rfl ?_
    refine w_icmp_lt X d1_34 (by decide) (p1 := 44) (by decide) (p2 := 37) rfl (fun c34 => ?_) (fun c34 => ?_)
    · -- c34 taken
      exact (J44 T X).imp fun v h q => by rw [fNs_30, if_pos c34]; exact q
    · -- c34 not taken
      refine w_iloadN X d1_37 rfl (pc' := 38) rfl ?_
      refine w_sipush X d1_38 (v := (214 : Int32)) (by decide) (pc' := 41) rfl ?_
      refine w_icmp_le X d1_41 (by decide) (p1 := 191) (by decide) (p2 := 44) rfl (fun c41 => ?_) (fun c41 => ?_)
      · -- c41 taken
        exact (J191 T X).imp fun v h q => by rw [fNs_30, if_neg c34, if_neg c41]; exact q
      · -- c41 not taken
        exact (J44 T X).imp fun v h q => by rw [fNs_30, if_neg c34, if_pos c41]; exact q
  have J12 : ∀ T, St p l e ({ frames := 0, cells := 0, slots := 0, locals := 0 } : Room) s m #[(.int a)] below meth c Z n0 (⟨"com/example/xtent/xtent/document/XmlNames", "isNameStart", "(I)Z"⟩ : MethodName) prog_26_method_10_code 1 (some .boolean) T h0 0 0 → WP p e below s n0 ({ frames := 0, cells := 0, slots := 0, locals := 0 } : Room).cells ({ frames := 0, cells := 0, slots := 0, locals := 0 } : Room).slots (fun r_ h_ => r_ = some (.int (fNs_12 a)) ∧ h_ = h0) T (mkF m 12 #[.val (.int a)] []) := by
    intro T X
    refine w_iloadN X d1_12 rfl (pc' := 13) rfl ?_
    refine w_bipush X d1_13 (v := (95 : Int32)) (by decide) (pc' := 15) rfl ?_
    refine w_icmp_eq X d1_15 (by decide) (p1 := 191) (by decide) (p2 := 18) rfl (fun c15 => ?_) (fun c15 => ?_)
    · -- c15 taken
      exact (J191 T X).imp fun v h q => by rw [fNs_12, if_pos c15]; exact q
    · -- c15 not taken
      refine w_iloadN X d1_18 rfl (pc' := 19) rfl ?_
      refine w_bipush X d1_19 (v := (97 : Int32)) (by decide) (pc' := 21) rfl ?_
      refine w_icmp_lt X d1_21 (by decide) (p1 := 30) (by decide) (p2 := 24) rfl (fun c21 => ?_) (fun c21 => ?_)
      · -- c21 taken
        exact (J30 T X).imp fun v h q => by rw [fNs_12, if_neg c15, if_pos c21]; exact q
      · -- c21 not taken
        refine w_iloadN X d1_24 rfl (pc' := 25) rfl ?_
        refine w_bipush X d1_25 (v := (122 : Int32)) (by decide) (pc' := 27) rfl ?_
        refine w_icmp_le X d1_27 (by decide) (p1 := 191) (by decide) (p2 := 30) rfl (fun c27 => ?_) (fun c27 => ?_)
        · -- c27 taken
          exact (J191 T X).imp fun v h q => by rw [fNs_12, if_neg c15, if_neg c21, if_neg c27]; exact q
        · -- c27 not taken
          exact (J30 T X).imp fun v h q => by rw [fNs_12, if_neg c15, if_neg c21, if_pos c27]; exact q
  refine WP.cast (g' := (mkF m 0 #[.val (.int a)] [])) (by first | rfl | (simp [entryFrame, mkF, argsToLocals, Value.category]; done)) ?_
  refine w_iloadN X d1_0 rfl (pc' := 1) rfl ?_
  refine w_bipush X d1_1 (v := (65 : Int32)) (by decide) (pc' := 3) rfl ?_
  refine w_icmp_lt X d1_3 (by decide) (p1 := 12) (by decide) (p2 := 6) rfl (fun c3 => ?_) (fun c3 => ?_)
  · -- c3 taken
    exact (J12 T X).imp fun v h q => by rw [fNs, if_pos c3]; exact q
  · -- c3 not taken
    refine w_iloadN X d1_6 rfl (pc' := 7) rfl ?_
    refine w_bipush X d1_7 (v := (90 : Int32)) (by decide) (pc' := 9) rfl ?_
    refine w_icmp_le X d1_9 (by decide) (p1 := 191) (by decide) (p2 := 12) rfl (fun c9 => ?_) (fun c9 => ?_)
    · -- c9 taken
      exact (J191 T X).imp fun v h q => by rw [fNs, if_neg c3, if_neg c9]; exact q
    · -- c9 not taken
      exact (J12 T X).imp fun v h q => by rw [fNs, if_neg c3, if_pos c9]; exact q
def fBt_14 (a : Int32) (b : Int32) (d : Int32) : Int32 :=
  (0 : Int32)
def fBt (a : Int32) (b : Int32) (d : Int32) : Int32 :=
  if a < b then
    fBt_14 a b d
  else
    if d < a then
      fBt_14 a b d
    else
      (1 : Int32)
set_option maxRecDepth 65536 in
set_option maxHeartbeats 4000000 in
theorem ct_fBt (l : Launch) (Z : State) (a0 : Array Value) (hw : ∀ d ∈ tables_1, d.before a0 Z = true) (a : Int32) (b : Int32) (d : Int32) (h0 : Heap) (n0 : Nat) (Z0 : n0 ≤ h0.size) :
    Ct l Z (⟨"com/example/xtent/xtent/document/XmlNamesIsNameStartPinLaw", "between", "(III)Z"⟩ : MethodName) method_2_code 3 (some .boolean) ({ frames := 0, cells := 0, slots := 0, locals := 0 } : Room) #[(.int a), (.int b), (.int d)] h0 n0 (fun r_ h_ => r_ = some (.int (fBt a b d)) ∧ h_ = h0) := by
  refine Ct.intro (plainFor_of_name (by first | (simp [plainName, overriddenIn]; done) | decide +kernel)) Z0 ?_
  intro p e s m below meth c T X
  have J14 : ∀ T, St p l e ({ frames := 0, cells := 0, slots := 0, locals := 0 } : Room) s m #[(.int a), (.int b), (.int d)] below meth c Z n0 (⟨"com/example/xtent/xtent/document/XmlNamesIsNameStartPinLaw", "between", "(III)Z"⟩ : MethodName) method_2_code 3 (some .boolean) T h0 0 0 → WP p e below s n0 ({ frames := 0, cells := 0, slots := 0, locals := 0 } : Room).cells ({ frames := 0, cells := 0, slots := 0, locals := 0 } : Room).slots (fun r_ h_ => r_ = some (.int (fBt_14 a b d)) ∧ h_ = h0) T (mkF m 14 #[.val (.int a), .val (.int b), .val (.int d)] []) := by
    intro T X
    refine w_iconst X d4_14 (v := (0 : Int32)) (by decide) (pc' := 15) rfl ?_
    exact w_retZ X rfl d4_15 (by decide) (by decide) (by decide) ⟨by rw [fBt_14], rfl⟩
  refine WP.cast (g' := (mkF m 0 #[.val (.int a), .val (.int b), .val (.int d)] [])) (by first | rfl | (simp [entryFrame, mkF, argsToLocals, Value.category]; done)) ?_
  refine w_iloadN X d4_0 rfl (pc' := 1) rfl ?_
  refine w_iloadN X d4_1 rfl (pc' := 2) rfl ?_
  refine w_icmp_lt X d4_2 (by decide) (p1 := 14) (by decide) (p2 := 5) rfl (fun c2 => ?_) (fun c2 => ?_)
  · -- c2 taken
    exact (J14 T X).imp fun v h q => by rw [fBt, if_pos c2]; exact q
  · -- c2 not taken
    refine w_iloadN X d4_5 rfl (pc' := 6) rfl ?_
    refine w_iloadN X d4_6 rfl (pc' := 7) rfl ?_
    refine w_icmp_gt X d4_7 (by decide) (p1 := 14) (by decide) (p2 := 10) rfl (fun c7 => ?_) (fun c7 => ?_)
    · -- c7 taken
      exact (J14 T X).imp fun v h q => by rw [fBt, if_neg c2, if_pos c7]; exact q
    · -- c7 not taken
      refine w_iconst X d4_10 (v := (1 : Int32)) (by decide) (pc' := 11) rfl ?_
      refine w_goto X d4_11 (by decide) (pc' := 15) (by decide) ?_
      exact w_retZ X rfl d4_15 (by decide) (by decide) (by decide) ⟨by rw [fBt, if_neg c2, if_neg c7], rfl⟩
def fGap_158 (a : Int32) : Int32 :=
  (1 : Int32)
def fGap (a : Int32) : Int32 :=
  if (fBt a (0 : Int32) (64 : Int32)) = (0 : Int32) then
    if (fBt a (91 : Int32) (94 : Int32)) = (0 : Int32) then
      if a = (96 : Int32) then
        fGap_158 a
      else
        if (fBt a (123 : Int32) (191 : Int32)) = (0 : Int32) then
          if a = (215 : Int32) then
            fGap_158 a
          else
            if a = (247 : Int32) then
              fGap_158 a
            else
              if (fBt a (768 : Int32) (879 : Int32)) = (0 : Int32) then
                if a = (894 : Int32) then
                  fGap_158 a
                else
                  if (fBt a (8192 : Int32) (8203 : Int32)) = (0 : Int32) then
                    if (fBt a (8206 : Int32) (8303 : Int32)) = (0 : Int32) then
                      if (fBt a (8592 : Int32) (11263 : Int32)) = (0 : Int32) then
                        if (fBt a (12272 : Int32) (12288 : Int32)) = (0 : Int32) then
                          if (fBt a (55296 : Int32) (63743 : Int32)) = (0 : Int32) then
                            if (fBt a (64976 : Int32) (65007 : Int32)) = (0 : Int32) then
                              if (fBt a (65534 : Int32) (65535 : Int32)) = (0 : Int32) then
                                (0 : Int32)
                              else
                                fGap_158 a
                            else
                              fGap_158 a
                          else
                            fGap_158 a
                        else
                          fGap_158 a
                      else
                        fGap_158 a
                    else
                      fGap_158 a
                  else
                    fGap_158 a
              else
                fGap_158 a
        else
          fGap_158 a
    else
      fGap_158 a
  else
    fGap_158 a
set_option maxRecDepth 65536 in
set_option maxHeartbeats 4000000 in
theorem ct_fGap (l : Launch) (Z : State) (a0 : Array Value) (hw : ∀ d ∈ tables_1, d.before a0 Z = true) (a : Int32) (h0 : Heap) (n0 : Nat) (Z0 : n0 ≤ h0.size) :
    Ct l Z (⟨"com/example/xtent/xtent/document/XmlNamesIsNameStartPinLaw", "inGap", "(I)Z"⟩ : MethodName) method_3_code 1 (some .boolean) ({ frames := 1, cells := 0, slots := 0, locals := 20 } : Room) #[(.int a)] h0 n0 (fun r_ h_ => r_ = some (.int (fGap a)) ∧ h_ = h0) := by
  refine Ct.intro (plainFor_of_name (by first | (simp [plainName, overriddenIn]; done) | decide +kernel)) Z0 ?_
  intro p e s m below meth c T X
  have J158 : ∀ T, St p l e ({ frames := 1, cells := 0, slots := 0, locals := 20 } : Room) s m #[(.int a)] below meth c Z n0 (⟨"com/example/xtent/xtent/document/XmlNamesIsNameStartPinLaw", "inGap", "(I)Z"⟩ : MethodName) method_3_code 1 (some .boolean) T h0 0 0 → WP p e below s n0 ({ frames := 1, cells := 0, slots := 0, locals := 20 } : Room).cells ({ frames := 1, cells := 0, slots := 0, locals := 20 } : Room).slots (fun r_ h_ => r_ = some (.int (fGap_158 a)) ∧ h_ = h0) T (mkF m 158 #[.val (.int a)] []) := by
    intro T X
    refine w_iconst X d3_158 (v := (1 : Int32)) (by decide) (pc' := 159) rfl ?_
    refine w_goto X d3_159 (by decide) (pc' := 163) (by decide) ?_
    exact w_retZ X rfl d3_163 (by decide) (by decide) (by decide) ⟨by rw [fGap_158], rfl⟩
  refine WP.cast (g' := (mkF m 0 #[.val (.int a)] [])) (by first | rfl | (simp [entryFrame, mkF, argsToLocals, Value.category]; done)) ?_
  refine w_iloadN X d3_0 rfl (pc' := 1) rfl ?_
  refine w_iconst X d3_1 (v := (0 : Int32)) (by decide) (pc' := 2) rfl ?_
  refine w_bipush X d3_2 (v := (64 : Int32)) (by decide) (pc' := 4) rfl ?_
  refine w_callS X [(.int a), (.int (0 : Int32)), (.int (64 : Int32))] [] 0 (tw16 hw) (tw17 hw) (tw10 hw) (tw18 hw) (ct_fBt l Z a0 hw a (0 : Int32) (64 : Int32) h0 n0 Z0) d3_4 pd0 rfl (by decide) rfl rfl rfl (by decide) (by decide) (by decide) (by decide) (pc' := 7) rfl ?_
  intro T h1 v X hQ; obtain ⟨rfl, hz1⟩ := hQ; replace hz1 := hz1.symm; subst hz1
  show WP _ _ _ _ _ _ _ _ _ (mkF m 7 #[.val (.int a)] [(.int (fBt a (0 : Int32) (64 : Int32)))])
  refine w_if_ne X d3_7 (by decide) (p1 := 158) (by decide) (p2 := 10) rfl (fun c7 => ?_) (fun c7 => ?_)
  · -- c7 taken
    exact (J158 T X).imp fun v h q => by rw [fGap, if_neg c7]; exact q
  · -- c7 not taken
    refine w_iloadN X d3_10 rfl (pc' := 11) rfl ?_
    refine w_bipush X d3_11 (v := (91 : Int32)) (by decide) (pc' := 13) rfl ?_
    refine w_bipush X d3_13 (v := (94 : Int32)) (by decide) (pc' := 15) rfl ?_
    refine w_callS X [(.int a), (.int (91 : Int32)), (.int (94 : Int32))] [] 0 (tw16 hw) (tw17 hw) (tw10 hw) (tw18 hw) (ct_fBt l Z a0 hw a (91 : Int32) (94 : Int32) h0 n0 Z0) d3_15 pd0 rfl (by decide) rfl rfl rfl (by decide) (by decide) (by decide) (by decide) (pc' := 18) rfl ?_
    intro T h1 v X hQ; obtain ⟨rfl, hz1⟩ := hQ; replace hz1 := hz1.symm; subst hz1
    show WP _ _ _ _ _ _ _ _ _ (mkF m 18 #[.val (.int a)] [(.int (fBt a (91 : Int32) (94 : Int32)))])
    refine w_if_ne X d3_18 (by decide) (p1 := 158) (by decide) (p2 := 21) rfl (fun c18 => ?_) (fun c18 => ?_)
    · -- c18 taken
      exact (J158 T X).imp fun v h q => by rw [fGap, if_pos c7, if_neg c18]; exact q
    · -- c18 not taken
      refine w_iloadN X d3_21 rfl (pc' := 22) rfl ?_
      refine w_bipush X d3_22 (v := (96 : Int32)) (by decide) (pc' := 24) rfl ?_
      refine w_icmp_eq X d3_24 (by decide) (p1 := 158) (by decide) (p2 := 27) rfl (fun c24 => ?_) (fun c24 => ?_)
      · -- c24 taken
        exact (J158 T X).imp fun v h q => by rw [fGap, if_pos c7, if_pos c18, if_pos c24]; exact q
      · -- c24 not taken
        refine w_iloadN X d3_27 rfl (pc' := 28) rfl ?_
        refine w_bipush X d3_28 (v := (123 : Int32)) (by decide) (pc' := 30) rfl ?_
        refine w_sipush X d3_30 (v := (191 : Int32)) (by decide) (pc' := 33) rfl ?_
        refine w_callS X [(.int a), (.int (123 : Int32)), (.int (191 : Int32))] [] 0 (tw16 hw) (tw17 hw) (tw10 hw) (tw18 hw) (ct_fBt l Z a0 hw a (123 : Int32) (191 : Int32) h0 n0 Z0) d3_33 pd0 rfl (by decide) rfl rfl rfl (by decide) (by decide) (by decide) (by decide) (pc' := 36) rfl ?_
        intro T h1 v X hQ; obtain ⟨rfl, hz1⟩ := hQ; replace hz1 := hz1.symm; subst hz1
        show WP _ _ _ _ _ _ _ _ _ (mkF m 36 #[.val (.int a)] [(.int (fBt a (123 : Int32) (191 : Int32)))])
        refine w_if_ne X d3_36 (by decide) (p1 := 158) (by decide) (p2 := 39) rfl (fun c36 => ?_) (fun c36 => ?_)
        · -- c36 taken
          exact (J158 T X).imp fun v h q => by rw [fGap, if_pos c7, if_pos c18, if_neg c24, if_neg c36]; exact q
        · -- c36 not taken
          refine w_iloadN X d3_39 rfl (pc' := 40) rfl ?_
          refine w_sipush X d3_40 (v := (215 : Int32)) (by decide) (pc' := 43) rfl ?_
          refine w_icmp_eq X d3_43 (by decide) (p1 := 158) (by decide) (p2 := 46) rfl (fun c43 => ?_) (fun c43 => ?_)
          · -- c43 taken
            exact (J158 T X).imp fun v h q => by rw [fGap, if_pos c7, if_pos c18, if_neg c24, if_pos c36, if_pos c43]; exact q
          · -- c43 not taken
            refine w_iloadN X d3_46 rfl (pc' := 47) rfl ?_
            refine w_sipush X d3_47 (v := (247 : Int32)) (by decide) (pc' := 50) rfl ?_
            refine w_icmp_eq X d3_50 (by decide) (p1 := 158) (by decide) (p2 := 53) rfl (fun c50 => ?_) (fun c50 => ?_)
            · -- c50 taken
              exact (J158 T X).imp fun v h q => by rw [fGap, if_pos c7, if_pos c18, if_neg c24, if_pos c36, if_neg c43, if_pos c50]; exact q
            · -- c50 not taken
              refine w_iloadN X d3_53 rfl (pc' := 54) rfl ?_
              refine w_sipush X d3_54 (v := (768 : Int32)) (by decide) (pc' := 57) rfl ?_
              refine w_sipush X d3_57 (v := (879 : Int32)) (by decide) (pc' := 60) rfl ?_
              refine w_callS X [(.int a), (.int (768 : Int32)), (.int (879 : Int32))] [] 0 (tw16 hw) (tw17 hw) (tw10 hw) (tw18 hw) (ct_fBt l Z a0 hw a (768 : Int32) (879 : Int32) h0 n0 Z0) d3_60 pd0 rfl (by decide) rfl rfl rfl (by decide) (by decide) (by decide) (by decide) (pc' := 63) rfl ?_
              intro T h1 v X hQ; obtain ⟨rfl, hz1⟩ := hQ; replace hz1 := hz1.symm; subst hz1
              show WP _ _ _ _ _ _ _ _ _ (mkF m 63 #[.val (.int a)] [(.int (fBt a (768 : Int32) (879 : Int32)))])
              refine w_if_ne X d3_63 (by decide) (p1 := 158) (by decide) (p2 := 66) rfl (fun c63 => ?_) (fun c63 => ?_)
              · -- c63 taken
                exact (J158 T X).imp fun v h q => by rw [fGap, if_pos c7, if_pos c18, if_neg c24, if_pos c36, if_neg c43, if_neg c50, if_neg c63]; exact q
              · -- c63 not taken
                refine w_iloadN X d3_66 rfl (pc' := 67) rfl ?_
                refine w_sipush X d3_67 (v := (894 : Int32)) (by decide) (pc' := 70) rfl ?_
                refine w_icmp_eq X d3_70 (by decide) (p1 := 158) (by decide) (p2 := 73) rfl (fun c70 => ?_) (fun c70 => ?_)
                · -- c70 taken
                  exact (J158 T X).imp fun v h q => by rw [fGap, if_pos c7, if_pos c18, if_neg c24, if_pos c36, if_neg c43, if_neg c50, if_pos c63, if_pos c70]; exact q
                · -- c70 not taken
                  refine w_iloadN X d3_73 rfl (pc' := 74) rfl ?_
                  refine w_sipush X d3_74 (v := (8192 : Int32)) (by decide) (pc' := 77) rfl ?_
                  refine w_sipush X d3_77 (v := (8203 : Int32)) (by decide) (pc' := 80) rfl ?_
                  refine w_callS X [(.int a), (.int (8192 : Int32)), (.int (8203 : Int32))] [] 0 (tw16 hw) (tw17 hw) (tw10 hw) (tw18 hw) (ct_fBt l Z a0 hw a (8192 : Int32) (8203 : Int32) h0 n0 Z0) d3_80 pd0 rfl (by decide) rfl rfl rfl (by decide) (by decide) (by decide) (by decide) (pc' := 83) rfl ?_
                  intro T h1 v X hQ; obtain ⟨rfl, hz1⟩ := hQ; replace hz1 := hz1.symm; subst hz1
                  show WP _ _ _ _ _ _ _ _ _ (mkF m 83 #[.val (.int a)] [(.int (fBt a (8192 : Int32) (8203 : Int32)))])
                  refine w_if_ne X d3_83 (by decide) (p1 := 158) (by decide) (p2 := 86) rfl (fun c83 => ?_) (fun c83 => ?_)
                  · -- c83 taken
                    exact (J158 T X).imp fun v h q => by rw [fGap, if_pos c7, if_pos c18, if_neg c24, if_pos c36, if_neg c43, if_neg c50, if_pos c63, if_neg c70, if_neg c83]; exact q
                  · -- c83 not taken
                    refine w_iloadN X d3_86 rfl (pc' := 87) rfl ?_
                    refine w_sipush X d3_87 (v := (8206 : Int32)) (by decide) (pc' := 90) rfl ?_
                    refine w_sipush X d3_90 (v := (8303 : Int32)) (by decide) (pc' := 93) rfl ?_
                    refine w_callS X [(.int a), (.int (8206 : Int32)), (.int (8303 : Int32))] [] 0 (tw16 hw) (tw17 hw) (tw10 hw) (tw18 hw) (ct_fBt l Z a0 hw a (8206 : Int32) (8303 : Int32) h0 n0 Z0) d3_93 pd0 rfl (by decide) rfl rfl rfl (by decide) (by decide) (by decide) (by decide) (pc' := 96) rfl ?_
                    intro T h1 v X hQ; obtain ⟨rfl, hz1⟩ := hQ; replace hz1 := hz1.symm; subst hz1
                    show WP _ _ _ _ _ _ _ _ _ (mkF m 96 #[.val (.int a)] [(.int (fBt a (8206 : Int32) (8303 : Int32)))])
                    refine w_if_ne X d3_96 (by decide) (p1 := 158) (by decide) (p2 := 99) rfl (fun c96 => ?_) (fun c96 => ?_)
                    · -- c96 taken
                      exact (J158 T X).imp fun v h q => by rw [fGap, if_pos c7, if_pos c18, if_neg c24, if_pos c36, if_neg c43, if_neg c50, if_pos c63, if_neg c70, if_pos c83, if_neg c96]; exact q
                    · -- c96 not taken
                      refine w_iloadN X d3_99 rfl (pc' := 100) rfl ?_
                      refine w_sipush X d3_100 (v := (8592 : Int32)) (by decide) (pc' := 103) rfl ?_
                      refine w_sipush X d3_103 (v := (11263 : Int32)) (by decide) (pc' := 106) rfl ?_
                      refine w_callS X [(.int a), (.int (8592 : Int32)), (.int (11263 : Int32))] [] 0 (tw16 hw) (tw17 hw) (tw10 hw) (tw18 hw) (ct_fBt l Z a0 hw a (8592 : Int32) (11263 : Int32) h0 n0 Z0) d3_106 pd0 rfl (by decide) rfl rfl rfl (by decide) (by decide) (by decide) (by decide) (pc' := 109) rfl ?_
                      intro T h1 v X hQ; obtain ⟨rfl, hz1⟩ := hQ; replace hz1 := hz1.symm; subst hz1
                      show WP _ _ _ _ _ _ _ _ _ (mkF m 109 #[.val (.int a)] [(.int (fBt a (8592 : Int32) (11263 : Int32)))])
                      refine w_if_ne X d3_109 (by decide) (p1 := 158) (by decide) (p2 := 112) rfl (fun c109 => ?_) (fun c109 => ?_)
                      · -- c109 taken
                        exact (J158 T X).imp fun v h q => by rw [fGap, if_pos c7, if_pos c18, if_neg c24, if_pos c36, if_neg c43, if_neg c50, if_pos c63, if_neg c70, if_pos c83, if_pos c96, if_neg c109]; exact q
                      · -- c109 not taken
                        refine w_iloadN X d3_112 rfl (pc' := 113) rfl ?_
                        refine w_sipush X d3_113 (v := (12272 : Int32)) (by decide) (pc' := 116) rfl ?_
                        refine w_sipush X d3_116 (v := (12288 : Int32)) (by decide) (pc' := 119) rfl ?_
                        refine w_callS X [(.int a), (.int (12272 : Int32)), (.int (12288 : Int32))] [] 0 (tw16 hw) (tw17 hw) (tw10 hw) (tw18 hw) (ct_fBt l Z a0 hw a (12272 : Int32) (12288 : Int32) h0 n0 Z0) d3_119 pd0 rfl (by decide) rfl rfl rfl (by decide) (by decide) (by decide) (by decide) (pc' := 122) rfl ?_
                        intro T h1 v X hQ; obtain ⟨rfl, hz1⟩ := hQ; replace hz1 := hz1.symm; subst hz1
                        show WP _ _ _ _ _ _ _ _ _ (mkF m 122 #[.val (.int a)] [(.int (fBt a (12272 : Int32) (12288 : Int32)))])
                        refine w_if_ne X d3_122 (by decide) (p1 := 158) (by decide) (p2 := 125) rfl (fun c122 => ?_) (fun c122 => ?_)
                        · -- c122 taken
                          exact (J158 T X).imp fun v h q => by rw [fGap, if_pos c7, if_pos c18, if_neg c24, if_pos c36, if_neg c43, if_neg c50, if_pos c63, if_neg c70, if_pos c83, if_pos c96, if_pos c109, if_neg c122]; exact q
                        · -- c122 not taken
                          refine w_iloadN X d3_125 rfl (pc' := 126) rfl ?_
                          refine w_ldcI X d3_126 (tw19 hw) (pc' := 128) rfl ?_
                          refine w_ldcI X d3_128 (tw20 hw) (pc' := 130) rfl ?_
                          refine w_callS X [(.int a), (.int (55296 : Int32)), (.int (63743 : Int32))] [] 0 (tw16 hw) (tw17 hw) (tw10 hw) (tw18 hw) (ct_fBt l Z a0 hw a (55296 : Int32) (63743 : Int32) h0 n0 Z0) d3_130 pd0 rfl (by decide) rfl rfl rfl (by decide) (by decide) (by decide) (by decide) (pc' := 133) rfl ?_
                          intro T h1 v X hQ; obtain ⟨rfl, hz1⟩ := hQ; replace hz1 := hz1.symm; subst hz1
                          show WP _ _ _ _ _ _ _ _ _ (mkF m 133 #[.val (.int a)] [(.int (fBt a (55296 : Int32) (63743 : Int32)))])
                          refine w_if_ne X d3_133 (by decide) (p1 := 158) (by decide) (p2 := 136) rfl (fun c133 => ?_) (fun c133 => ?_)
                          · -- c133 taken
                            exact (J158 T X).imp fun v h q => by rw [fGap, if_pos c7, if_pos c18, if_neg c24, if_pos c36, if_neg c43, if_neg c50, if_pos c63, if_neg c70, if_pos c83, if_pos c96, if_pos c109, if_pos c122, if_neg c133]; exact q
                          · -- c133 not taken
                            refine w_iloadN X d3_136 rfl (pc' := 137) rfl ?_
                            refine w_ldcI X d3_137 (tw21 hw) (pc' := 139) rfl ?_
                            refine w_ldcI X d3_139 (tw22 hw) (pc' := 141) rfl ?_
                            refine w_callS X [(.int a), (.int (64976 : Int32)), (.int (65007 : Int32))] [] 0 (tw16 hw) (tw17 hw) (tw10 hw) (tw18 hw) (ct_fBt l Z a0 hw a (64976 : Int32) (65007 : Int32) h0 n0 Z0) d3_141 pd0 rfl (by decide) rfl rfl rfl (by decide) (by decide) (by decide) (by decide) (pc' := 144) rfl ?_
                            intro T h1 v X hQ; obtain ⟨rfl, hz1⟩ := hQ; replace hz1 := hz1.symm; subst hz1
                            show WP _ _ _ _ _ _ _ _ _ (mkF m 144 #[.val (.int a)] [(.int (fBt a (64976 : Int32) (65007 : Int32)))])
                            refine w_if_ne X d3_144 (by decide) (p1 := 158) (by decide) (p2 := 147) rfl (fun c144 => ?_) (fun c144 => ?_)
                            · -- c144 taken
                              exact (J158 T X).imp fun v h q => by rw [fGap, if_pos c7, if_pos c18, if_neg c24, if_pos c36, if_neg c43, if_neg c50, if_pos c63, if_neg c70, if_pos c83, if_pos c96, if_pos c109, if_pos c122, if_pos c133, if_neg c144]; exact q
                            · -- c144 not taken
                              refine w_iloadN X d3_147 rfl (pc' := 148) rfl ?_
                              refine w_ldcI X d3_148 (tw23 hw) (pc' := 150) rfl ?_
                              refine w_ldcI X d3_150 (tw0 hw) (pc' := 152) rfl ?_
                              refine w_callS X [(.int a), (.int (65534 : Int32)), (.int (65535 : Int32))] [] 0 (tw16 hw) (tw17 hw) (tw10 hw) (tw18 hw) (ct_fBt l Z a0 hw a (65534 : Int32) (65535 : Int32) h0 n0 Z0) d3_152 pd0 rfl (by decide) rfl rfl rfl (by decide) (by decide) (by decide) (by decide) (pc' := 155) rfl ?_
                              intro T h1 v X hQ; obtain ⟨rfl, hz1⟩ := hQ; replace hz1 := hz1.symm; subst hz1
                              show WP _ _ _ _ _ _ _ _ _ (mkF m 155 #[.val (.int a)] [(.int (fBt a (65534 : Int32) (65535 : Int32)))])
                              refine w_if_eq X d3_155 (by decide) (p1 := 162) (by decide) (p2 := 158) rfl (fun c155 => ?_) (fun c155 => ?_)
                              · -- c155 taken
                                refine w_iconst X d3_162 (v := (0 : Int32)) (by decide) (pc' := 163) rfl ?_
                                exact w_retZ X rfl d3_163 (by decide) (by decide) (by decide) ⟨by rw [fGap, if_pos c7, if_pos c18, if_neg c24, if_pos c36, if_neg c43, if_neg c50, if_pos c63, if_neg c70, if_pos c83, if_pos c96, if_pos c109, if_pos c122, if_pos c133, if_pos c144, if_pos c155], rfl⟩
                              · -- c155 not taken
                                exact (J158 T X).imp fun v h q => by rw [fGap, if_pos c7, if_pos c18, if_neg c24, if_pos c36, if_neg c43, if_neg c50, if_pos c63, if_neg c70, if_pos c83, if_pos c96, if_pos c109, if_pos c122, if_pos c133, if_pos c144, if_neg c155]; exact q
def fExp_10 (a : Int32) : Int32 :=
  (0 : Int32)
def fExp (a : Int32) : Int32 :=
  if a < (0 : Int32) then
    fExp_10 a
  else
    if (983039 : Int32) < a then
      fExp_10 a
    else
      if (fGap a) = (0 : Int32) then
        (1 : Int32)
      else
        (0 : Int32)
set_option maxRecDepth 65536 in
set_option maxHeartbeats 4000000 in
theorem ct_fExp (l : Launch) (Z : State) (a0 : Array Value) (hw : ∀ d ∈ tables_1, d.before a0 Z = true) (a : Int32) (h0 : Heap) (n0 : Nat) (Z0 : n0 ≤ h0.size) :
    Ct l Z (⟨"com/example/xtent/xtent/document/XmlNamesIsNameStartPinLaw", "expected", "(I)Z"⟩ : MethodName) method_4_code 1 (some .boolean) ({ frames := 2, cells := 0, slots := 0, locals := 40 } : Room) #[(.int a)] h0 n0 (fun r_ h_ => r_ = some (.int (fExp a)) ∧ h_ = h0) := by
  refine Ct.intro (plainFor_of_name (by first | (simp [plainName, overriddenIn]; done) | decide +kernel)) Z0 ?_
  intro p e s m below meth c T X
  have J10 : ∀ T, St p l e ({ frames := 2, cells := 0, slots := 0, locals := 40 } : Room) s m #[(.int a)] below meth c Z n0 (⟨"com/example/xtent/xtent/document/XmlNamesIsNameStartPinLaw", "expected", "(I)Z"⟩ : MethodName) method_4_code 1 (some .boolean) T h0 0 0 → WP p e below s n0 ({ frames := 2, cells := 0, slots := 0, locals := 40 } : Room).cells ({ frames := 2, cells := 0, slots := 0, locals := 40 } : Room).slots (fun r_ h_ => r_ = some (.int (fExp_10 a)) ∧ h_ = h0) T (mkF m 10 #[.val (.int a)] []) := by
    intro T X
    refine w_iconst X d2_10 (v := (0 : Int32)) (by decide) (pc' := 11) rfl ?_
    exact w_retZ X rfl d2_11 (by decide) (by decide) (by decide) ⟨by rw [fExp_10], rfl⟩
  refine WP.cast (g' := (mkF m 0 #[.val (.int a)] [])) (by first | rfl | (simp [entryFrame, mkF, argsToLocals, Value.category]; done)) ?_
  refine w_iloadN X d2_0 rfl (pc' := 1) rfl ?_
  refine w_if_lt X d2_1 (by decide) (p1 := 10) (by decide) (p2 := 4) rfl (fun c1 => ?_) (fun c1 => ?_)
  · -- c1 taken
    exact (J10 T X).imp fun v h q => by rw [fExp, if_pos c1]; exact q
  · -- c1 not taken
    refine w_iloadN X d2_4 rfl (pc' := 5) rfl ?_
    refine w_ldcI X d2_5 (tw12 hw) (pc' := 7) rfl ?_
    refine w_icmp_le X d2_7 (by decide) (p1 := 12) (by decide) (p2 := 10) rfl (fun c7 => ?_) (fun c7 => ?_)
    · -- c7 taken
      refine w_iloadN X d2_12 rfl (pc' := 13) rfl ?_
      refine w_callS X [(.int a)] [] 0 (tw13 hw) (tw14 hw) (tw10 hw) (tw15 hw) (ct_fGap l Z a0 hw a h0 n0 Z0) d2_13 pd1 rfl (by decide) rfl rfl rfl (by decide) (by decide) (by decide) (by decide) (pc' := 16) rfl ?_
      intro T h1 v X hQ; obtain ⟨rfl, hz1⟩ := hQ; replace hz1 := hz1.symm; subst hz1
      show WP _ _ _ _ _ _ _ _ _ (mkF m 16 #[.val (.int a)] [(.int (fGap a))])
      refine w_if_ne X d2_16 (by decide) (p1 := 23) (by decide) (p2 := 19) rfl (fun c16 => ?_) (fun c16 => ?_)
      · -- c16 taken
        refine w_iconst X d2_23 (v := (0 : Int32)) (by decide) (pc' := 24) rfl ?_
        exact w_retZ X rfl d2_24 (by decide) (by decide) (by decide) ⟨by rw [fExp, if_neg c1, if_neg c7, if_neg c16], rfl⟩
      · -- c16 not taken
        refine w_iconst X d2_19 (v := (1 : Int32)) (by decide) (pc' := 20) rfl ?_
        refine w_goto X d2_20 (by decide) (pc' := 24) (by decide) ?_
        exact w_retZ X rfl d2_24 (by decide) (by decide) (by decide) ⟨by rw [fExp, if_neg c1, if_neg c7, if_pos c16], rfl⟩
    · -- c7 not taken
      exact (J10 T X).imp fun v h q => by rw [fExp, if_neg c1, if_pos c7]; exact q
def fLaw_31 (a : Int32) (b : Int32) : Int32 :=
  (0 : Int32)
def fLaw (a : Int32) (b : Int32) : Int32 :=
  if (fNs a) = (fExp a) then
    if (fNs (b &&& (65535 : Int32))) = (fExp (b &&& (65535 : Int32))) then
      (1 : Int32)
    else
      fLaw_31 a b
  else
    fLaw_31 a b
set_option maxRecDepth 65536 in
set_option maxHeartbeats 4000000 in
theorem ct_fLaw (l : Launch) (Z : State) (a0 : Array Value) (hw : ∀ d ∈ tables_1, d.before a0 Z = true) (a : Int32) (b : Int32) (h0 : Heap) (n0 : Nat) (Z0 : n0 ≤ h0.size) :
    Ct l Z x code maxLocals ret room_1 #[(.int a), (.int b)] h0 n0 (fun r_ h_ => r_ = some (.int (fLaw a b)) ∧ h_ = h0) := by
  refine Ct.intro (plainFor_of_name (by first | (simp [plainName, overriddenIn, x]; done) | decide +kernel)) Z0 ?_
  intro p e s m below meth c T X
  have J31 : ∀ T, St p l e room_1 s m #[(.int a), (.int b)] below meth c Z n0 x code maxLocals ret T h0 0 0 → WP p e below s n0 room_1.cells room_1.slots (fun r_ h_ => r_ = some (.int (fLaw_31 a b)) ∧ h_ = h0) T (mkF m 31 #[.val (.int a), .val (.int b), .val (.int (b &&& (65535 : Int32)))] []) := by
    intro T X
    refine w_iconst X at_31 (v := (0 : Int32)) (by decide) (pc' := 32) rfl ?_
    exact w_retZ X rfl at_32 (by decide) (by decide) (by decide) ⟨by rw [fLaw_31], rfl⟩
  refine WP.cast (g' := (mkF m 0 #[.val (.int a), .val (.int b), .unset] [])) (by first | rfl | (simp [entryFrame, mkF, argsToLocals, Value.category, maxLocals]; done)) ?_
  refine w_iloadN X at_0 rfl (pc' := 1) rfl ?_
  refine w_ldcI X at_1 (tw0 hw) (pc' := 3) rfl ?_
  refine w_iand X at_3 (pc' := 4) rfl ?_
  refine w_istoreN X at_4 (L' := #[.val (.int a), .val (.int b), .val (.int (b &&& (65535 : Int32)))]) rfl (pc' := 5) rfl ?_
  refine w_iloadN X at_5 rfl (pc' := 6) rfl ?_
  refine w_callS X [(.int a)] [] 0 (tw1 hw) (tw2 hw) (tw3 hw) (tw4 hw) (ct_fNs l Z a0 hw a h0 n0 Z0) at_6 pd1 rfl (by decide) rfl rfl rfl (by decide) (by decide) (by decide) (by decide) (pc' := 9) rfl ?_
  intro T h1 v X hQ; obtain ⟨rfl, hz1⟩ := hQ; replace hz1 := hz1.symm; subst hz1
  show WP _ _ _ _ _ _ _ _ _ (mkF m 9 #[.val (.int a), .val (.int b), .val (.int (b &&& (65535 : Int32)))] [(.int (fNs a))])
  refine w_iloadN X at_9 rfl (pc' := 10) rfl ?_
  refine w_callS X [(.int a)] [(.int (fNs a))] 1 (tw8 hw) (tw9 hw) (tw10 hw) (tw11 hw) (ct_fExp l Z a0 hw a h0 n0 Z0) at_10 pd1 rfl (by decide) rfl rfl rfl (by decide) (by decide) (by decide) (by decide) (pc' := 13) rfl ?_
  intro T h1 v X hQ; obtain ⟨rfl, hz1⟩ := hQ; replace hz1 := hz1.symm; subst hz1
  show WP _ _ _ _ _ _ _ _ _ (mkF m 13 #[.val (.int a), .val (.int b), .val (.int (b &&& (65535 : Int32)))] [(.int (fExp a)), (.int (fNs a))])
  refine w_icmp_ne X at_13 (by decide) (p1 := 31) (by decide) (p2 := 16) rfl (fun c13 => ?_) (fun c13 => ?_)
  · -- c13 taken
    exact (J31 T X).imp fun v h q => by rw [fLaw, if_neg c13]; exact q
  · -- c13 not taken
    refine w_iloadN X at_16 rfl (pc' := 17) rfl ?_
    refine w_callS X [(.int (b &&& (65535 : Int32)))] [] 0 (tw1 hw) (tw2 hw) (tw3 hw) (tw4 hw) (ct_fNs l Z a0 hw (b &&& (65535 : Int32)) h0 n0 Z0) at_17 pd1 rfl (by decide) rfl rfl rfl (by decide) (by decide) (by decide) (by decide) (pc' := 20) rfl ?_
    intro T h1 v X hQ; obtain ⟨rfl, hz1⟩ := hQ; replace hz1 := hz1.symm; subst hz1
    show WP _ _ _ _ _ _ _ _ _ (mkF m 20 #[.val (.int a), .val (.int b), .val (.int (b &&& (65535 : Int32)))] [(.int (fNs (b &&& (65535 : Int32))))])
    refine w_iloadN X at_20 rfl (pc' := 21) rfl ?_
    refine w_callS X [(.int (b &&& (65535 : Int32)))] [(.int (fNs (b &&& (65535 : Int32))))] 1 (tw8 hw) (tw9 hw) (tw10 hw) (tw11 hw) (ct_fExp l Z a0 hw (b &&& (65535 : Int32)) h0 n0 Z0) at_21 pd1 rfl (by decide) rfl rfl rfl (by decide) (by decide) (by decide) (by decide) (pc' := 24) rfl ?_
    intro T h1 v X hQ; obtain ⟨rfl, hz1⟩ := hQ; replace hz1 := hz1.symm; subst hz1
    show WP _ _ _ _ _ _ _ _ _ (mkF m 24 #[.val (.int a), .val (.int b), .val (.int (b &&& (65535 : Int32)))] [(.int (fExp (b &&& (65535 : Int32)))), (.int (fNs (b &&& (65535 : Int32))))])
    refine w_icmp_ne X at_24 (by decide) (p1 := 31) (by decide) (p2 := 27) rfl (fun c24 => ?_) (fun c24 => ?_)
    · -- c24 taken
      exact (J31 T X).imp fun v h q => by rw [fLaw, if_pos c13, if_neg c24]; exact q
    · -- c24 not taken
      refine w_iconst X at_27 (v := (1 : Int32)) (by decide) (pc' := 28) rfl ?_
      refine w_goto X at_28 (by decide) (pc' := 32) (by decide) ?_
      exact w_retZ X rfl at_32 (by decide) (by decide) (by decide) ⟨by rw [fLaw, if_pos c13, if_pos c24], rfl⟩
theorem ns_195 (a : Int32) : fNs_195 a = 0 := rfl
theorem ns_191 (a : Int32) : fNs_191 a = 1 := rfl
set_option maxHeartbeats 4000000 in
theorem ns_179 (a : Int32) : fNs_179 a = if ((65536 ≤ a.toInt ∧ a.toInt ≤ 983039)) then 1 else 0 := by
  have e : ∀ k : Int32, a = k ↔ a.toInt = k.toInt := fun k => Int32.toInt_inj.symm
  unfold fNs_179
  simp only [e, Int32.lt_iff_toInt_lt, Int32.reduceToInt, ns_195, ns_191]
  generalize a.toInt = n
  repeat' split
  all_goals first | rfl | (exfalso; omega)
set_option maxHeartbeats 4000000 in
theorem ns_167 (a : Int32) : fNs_167 a = if ((65008 ≤ a.toInt ∧ a.toInt ≤ 65533) ∨ (65536 ≤ a.toInt ∧ a.toInt ≤ 983039)) then 1 else 0 := by
  have e : ∀ k : Int32, a = k ↔ a.toInt = k.toInt := fun k => Int32.toInt_inj.symm
  unfold fNs_167
  simp only [e, Int32.lt_iff_toInt_lt, Int32.reduceToInt, ns_195, ns_191, ns_179]
  generalize a.toInt = n
  repeat' split
  all_goals first | rfl | (exfalso; omega)
set_option maxHeartbeats 4000000 in
theorem ns_155 (a : Int32) : fNs_155 a = if ((63744 ≤ a.toInt ∧ a.toInt ≤ 64975) ∨ (65008 ≤ a.toInt ∧ a.toInt ≤ 65533) ∨ (65536 ≤ a.toInt ∧ a.toInt ≤ 983039)) then 1 else 0 := by
  have e : ∀ k : Int32, a = k ↔ a.toInt = k.toInt := fun k => Int32.toInt_inj.symm
  unfold fNs_155
  simp only [e, Int32.lt_iff_toInt_lt, Int32.reduceToInt, ns_195, ns_191, ns_179, ns_167]
  generalize a.toInt = n
  repeat' split
  all_goals first | rfl | (exfalso; omega)
set_option maxHeartbeats 4000000 in
theorem ns_142 (a : Int32) : fNs_142 a = if ((12289 ≤ a.toInt ∧ a.toInt ≤ 55295) ∨ (63744 ≤ a.toInt ∧ a.toInt ≤ 64975) ∨ (65008 ≤ a.toInt ∧ a.toInt ≤ 65533) ∨ (65536 ≤ a.toInt ∧ a.toInt ≤ 983039)) then 1 else 0 := by
  have e : ∀ k : Int32, a = k ↔ a.toInt = k.toInt := fun k => Int32.toInt_inj.symm
  unfold fNs_142
  simp only [e, Int32.lt_iff_toInt_lt, Int32.reduceToInt, ns_195, ns_191, ns_179, ns_167, ns_155]
  generalize a.toInt = n
  repeat' split
  all_goals first | rfl | (exfalso; omega)
set_option maxHeartbeats 4000000 in
theorem ns_128 (a : Int32) : fNs_128 a = if ((11264 ≤ a.toInt ∧ a.toInt ≤ 12271) ∨ (12289 ≤ a.toInt ∧ a.toInt ≤ 55295) ∨ (63744 ≤ a.toInt ∧ a.toInt ≤ 64975) ∨ (65008 ≤ a.toInt ∧ a.toInt ≤ 65533) ∨ (65536 ≤ a.toInt ∧ a.toInt ≤ 983039)) then 1 else 0 := by
  have e : ∀ k : Int32, a = k ↔ a.toInt = k.toInt := fun k => Int32.toInt_inj.symm
  unfold fNs_128
  simp only [e, Int32.lt_iff_toInt_lt, Int32.reduceToInt, ns_195, ns_191, ns_179, ns_167, ns_155, ns_142]
  generalize a.toInt = n
  repeat' split
  all_goals first | rfl | (exfalso; omega)
set_option maxHeartbeats 4000000 in
theorem ns_114 (a : Int32) : fNs_114 a = if ((8304 ≤ a.toInt ∧ a.toInt ≤ 8591) ∨ (11264 ≤ a.toInt ∧ a.toInt ≤ 12271) ∨ (12289 ≤ a.toInt ∧ a.toInt ≤ 55295) ∨ (63744 ≤ a.toInt ∧ a.toInt ≤ 64975) ∨ (65008 ≤ a.toInt ∧ a.toInt ≤ 65533) ∨ (65536 ≤ a.toInt ∧ a.toInt ≤ 983039)) then 1 else 0 := by
  have e : ∀ k : Int32, a = k ↔ a.toInt = k.toInt := fun k => Int32.toInt_inj.symm
  unfold fNs_114
  simp only [e, Int32.lt_iff_toInt_lt, Int32.reduceToInt, ns_195, ns_191, ns_179, ns_167, ns_155, ns_142, ns_128]
  generalize a.toInt = n
  repeat' split
  all_goals first | rfl | (exfalso; omega)
set_option maxHeartbeats 4000000 in
theorem ns_100 (a : Int32) : fNs_100 a = if ((8204 ≤ a.toInt ∧ a.toInt ≤ 8205) ∨ (8304 ≤ a.toInt ∧ a.toInt ≤ 8591) ∨ (11264 ≤ a.toInt ∧ a.toInt ≤ 12271) ∨ (12289 ≤ a.toInt ∧ a.toInt ≤ 55295) ∨ (63744 ≤ a.toInt ∧ a.toInt ≤ 64975) ∨ (65008 ≤ a.toInt ∧ a.toInt ≤ 65533) ∨ (65536 ≤ a.toInt ∧ a.toInt ≤ 983039)) then 1 else 0 := by
  have e : ∀ k : Int32, a = k ↔ a.toInt = k.toInt := fun k => Int32.toInt_inj.symm
  unfold fNs_100
  simp only [e, Int32.lt_iff_toInt_lt, Int32.reduceToInt, ns_195, ns_191, ns_179, ns_167, ns_155, ns_142, ns_128, ns_114]
  generalize a.toInt = n
  repeat' split
  all_goals first | rfl | (exfalso; omega)
set_option maxHeartbeats 4000000 in
theorem ns_86 (a : Int32) : fNs_86 a = if ((895 ≤ a.toInt ∧ a.toInt ≤ 8191) ∨ (8204 ≤ a.toInt ∧ a.toInt ≤ 8205) ∨ (8304 ≤ a.toInt ∧ a.toInt ≤ 8591) ∨ (11264 ≤ a.toInt ∧ a.toInt ≤ 12271) ∨ (12289 ≤ a.toInt ∧ a.toInt ≤ 55295) ∨ (63744 ≤ a.toInt ∧ a.toInt ≤ 64975) ∨ (65008 ≤ a.toInt ∧ a.toInt ≤ 65533) ∨ (65536 ≤ a.toInt ∧ a.toInt ≤ 983039)) then 1 else 0 := by
  have e : ∀ k : Int32, a = k ↔ a.toInt = k.toInt := fun k => Int32.toInt_inj.symm
  unfold fNs_86
  simp only [e, Int32.lt_iff_toInt_lt, Int32.reduceToInt, ns_195, ns_191, ns_179, ns_167, ns_155, ns_142, ns_128, ns_114, ns_100]
  generalize a.toInt = n
  repeat' split
  all_goals first | rfl | (exfalso; omega)
set_option maxHeartbeats 4000000 in
theorem ns_72 (a : Int32) : fNs_72 a = if ((880 ≤ a.toInt ∧ a.toInt ≤ 893) ∨ (895 ≤ a.toInt ∧ a.toInt ≤ 8191) ∨ (8204 ≤ a.toInt ∧ a.toInt ≤ 8205) ∨ (8304 ≤ a.toInt ∧ a.toInt ≤ 8591) ∨ (11264 ≤ a.toInt ∧ a.toInt ≤ 12271) ∨ (12289 ≤ a.toInt ∧ a.toInt ≤ 55295) ∨ (63744 ≤ a.toInt ∧ a.toInt ≤ 64975) ∨ (65008 ≤ a.toInt ∧ a.toInt ≤ 65533) ∨ (65536 ≤ a.toInt ∧ a.toInt ≤ 983039)) then 1 else 0 := by
  have e : ∀ k : Int32, a = k ↔ a.toInt = k.toInt := fun k => Int32.toInt_inj.symm
  unfold fNs_72
  simp only [e, Int32.lt_iff_toInt_lt, Int32.reduceToInt, ns_195, ns_191, ns_179, ns_167, ns_155, ns_142, ns_128, ns_114, ns_100, ns_86]
  generalize a.toInt = n
  repeat' split
  all_goals first | rfl | (exfalso; omega)
set_option maxHeartbeats 4000000 in
theorem ns_58 (a : Int32) : fNs_58 a = if ((248 ≤ a.toInt ∧ a.toInt ≤ 767) ∨ (880 ≤ a.toInt ∧ a.toInt ≤ 893) ∨ (895 ≤ a.toInt ∧ a.toInt ≤ 8191) ∨ (8204 ≤ a.toInt ∧ a.toInt ≤ 8205) ∨ (8304 ≤ a.toInt ∧ a.toInt ≤ 8591) ∨ (11264 ≤ a.toInt ∧ a.toInt ≤ 12271) ∨ (12289 ≤ a.toInt ∧ a.toInt ≤ 55295) ∨ (63744 ≤ a.toInt ∧ a.toInt ≤ 64975) ∨ (65008 ≤ a.toInt ∧ a.toInt ≤ 65533) ∨ (65536 ≤ a.toInt ∧ a.toInt ≤ 983039)) then 1 else 0 := by
  have e : ∀ k : Int32, a = k ↔ a.toInt = k.toInt := fun k => Int32.toInt_inj.symm
  unfold fNs_58
  simp only [e, Int32.lt_iff_toInt_lt, Int32.reduceToInt, ns_195, ns_191, ns_179, ns_167, ns_155, ns_142, ns_128, ns_114, ns_100, ns_86, ns_72]
  generalize a.toInt = n
  repeat' split
  all_goals first | rfl | (exfalso; omega)
set_option maxHeartbeats 4000000 in
theorem ns_44 (a : Int32) : fNs_44 a = if ((216 ≤ a.toInt ∧ a.toInt ≤ 246) ∨ (248 ≤ a.toInt ∧ a.toInt ≤ 767) ∨ (880 ≤ a.toInt ∧ a.toInt ≤ 893) ∨ (895 ≤ a.toInt ∧ a.toInt ≤ 8191) ∨ (8204 ≤ a.toInt ∧ a.toInt ≤ 8205) ∨ (8304 ≤ a.toInt ∧ a.toInt ≤ 8591) ∨ (11264 ≤ a.toInt ∧ a.toInt ≤ 12271) ∨ (12289 ≤ a.toInt ∧ a.toInt ≤ 55295) ∨ (63744 ≤ a.toInt ∧ a.toInt ≤ 64975) ∨ (65008 ≤ a.toInt ∧ a.toInt ≤ 65533) ∨ (65536 ≤ a.toInt ∧ a.toInt ≤ 983039)) then 1 else 0 := by
  have e : ∀ k : Int32, a = k ↔ a.toInt = k.toInt := fun k => Int32.toInt_inj.symm
  unfold fNs_44
  simp only [e, Int32.lt_iff_toInt_lt, Int32.reduceToInt, ns_195, ns_191, ns_179, ns_167, ns_155, ns_142, ns_128, ns_114, ns_100, ns_86, ns_72, ns_58]
  generalize a.toInt = n
  repeat' split
  all_goals first | rfl | (exfalso; omega)
set_option maxHeartbeats 4000000 in
theorem ns_30 (a : Int32) : fNs_30 a = if ((192 ≤ a.toInt ∧ a.toInt ≤ 214) ∨ (216 ≤ a.toInt ∧ a.toInt ≤ 246) ∨ (248 ≤ a.toInt ∧ a.toInt ≤ 767) ∨ (880 ≤ a.toInt ∧ a.toInt ≤ 893) ∨ (895 ≤ a.toInt ∧ a.toInt ≤ 8191) ∨ (8204 ≤ a.toInt ∧ a.toInt ≤ 8205) ∨ (8304 ≤ a.toInt ∧ a.toInt ≤ 8591) ∨ (11264 ≤ a.toInt ∧ a.toInt ≤ 12271) ∨ (12289 ≤ a.toInt ∧ a.toInt ≤ 55295) ∨ (63744 ≤ a.toInt ∧ a.toInt ≤ 64975) ∨ (65008 ≤ a.toInt ∧ a.toInt ≤ 65533) ∨ (65536 ≤ a.toInt ∧ a.toInt ≤ 983039)) then 1 else 0 := by
  have e : ∀ k : Int32, a = k ↔ a.toInt = k.toInt := fun k => Int32.toInt_inj.symm
  unfold fNs_30
  simp only [e, Int32.lt_iff_toInt_lt, Int32.reduceToInt, ns_195, ns_191, ns_179, ns_167, ns_155, ns_142, ns_128, ns_114, ns_100, ns_86, ns_72, ns_58, ns_44]
  generalize a.toInt = n
  repeat' split
  all_goals first | rfl | (exfalso; omega)
set_option maxHeartbeats 4000000 in
theorem ns_12 (a : Int32) : fNs_12 a = if ((95 ≤ a.toInt ∧ a.toInt ≤ 95) ∨ (97 ≤ a.toInt ∧ a.toInt ≤ 122) ∨ (192 ≤ a.toInt ∧ a.toInt ≤ 214) ∨ (216 ≤ a.toInt ∧ a.toInt ≤ 246) ∨ (248 ≤ a.toInt ∧ a.toInt ≤ 767) ∨ (880 ≤ a.toInt ∧ a.toInt ≤ 893) ∨ (895 ≤ a.toInt ∧ a.toInt ≤ 8191) ∨ (8204 ≤ a.toInt ∧ a.toInt ≤ 8205) ∨ (8304 ≤ a.toInt ∧ a.toInt ≤ 8591) ∨ (11264 ≤ a.toInt ∧ a.toInt ≤ 12271) ∨ (12289 ≤ a.toInt ∧ a.toInt ≤ 55295) ∨ (63744 ≤ a.toInt ∧ a.toInt ≤ 64975) ∨ (65008 ≤ a.toInt ∧ a.toInt ≤ 65533) ∨ (65536 ≤ a.toInt ∧ a.toInt ≤ 983039)) then 1 else 0 := by
  have e : ∀ k : Int32, a = k ↔ a.toInt = k.toInt := fun k => Int32.toInt_inj.symm
  unfold fNs_12
  simp only [e, Int32.lt_iff_toInt_lt, Int32.reduceToInt, ns_195, ns_191, ns_179, ns_167, ns_155, ns_142, ns_128, ns_114, ns_100, ns_86, ns_72, ns_58, ns_44, ns_30]
  generalize a.toInt = n
  repeat' split
  all_goals first | rfl | (exfalso; omega)
set_option maxHeartbeats 4000000 in
theorem ns_0 (a : Int32) : fNs a = if ((65 ≤ a.toInt ∧ a.toInt ≤ 90) ∨ (95 ≤ a.toInt ∧ a.toInt ≤ 95) ∨ (97 ≤ a.toInt ∧ a.toInt ≤ 122) ∨ (192 ≤ a.toInt ∧ a.toInt ≤ 214) ∨ (216 ≤ a.toInt ∧ a.toInt ≤ 246) ∨ (248 ≤ a.toInt ∧ a.toInt ≤ 767) ∨ (880 ≤ a.toInt ∧ a.toInt ≤ 893) ∨ (895 ≤ a.toInt ∧ a.toInt ≤ 8191) ∨ (8204 ≤ a.toInt ∧ a.toInt ≤ 8205) ∨ (8304 ≤ a.toInt ∧ a.toInt ≤ 8591) ∨ (11264 ≤ a.toInt ∧ a.toInt ≤ 12271) ∨ (12289 ≤ a.toInt ∧ a.toInt ≤ 55295) ∨ (63744 ≤ a.toInt ∧ a.toInt ≤ 64975) ∨ (65008 ≤ a.toInt ∧ a.toInt ≤ 65533) ∨ (65536 ≤ a.toInt ∧ a.toInt ≤ 983039)) then 1 else 0 := by
  have e : ∀ k : Int32, a = k ↔ a.toInt = k.toInt := fun k => Int32.toInt_inj.symm
  unfold fNs
  simp only [e, Int32.lt_iff_toInt_lt, Int32.reduceToInt, ns_195, ns_191, ns_179, ns_167, ns_155, ns_142, ns_128, ns_114, ns_100, ns_86, ns_72, ns_58, ns_44, ns_30, ns_12]
  generalize a.toInt = n
  repeat' split
  all_goals first | rfl | (exfalso; omega)
set_option maxHeartbeats 4000000 in
theorem bt_eq (a b d : Int32) : fBt a b d = if (b.toInt ≤ a.toInt ∧ a.toInt ≤ d.toInt) then 1 else 0 := by
  unfold fBt fBt_14
  simp only [Int32.lt_iff_toInt_lt]
  generalize a.toInt = n; generalize b.toInt = n1; generalize d.toInt = n2
  repeat' split
  all_goals first | rfl | (exfalso; omega)
theorem ite0 (p : Prop) [Decidable p] : ((if p then (1 : Int32) else 0) = 0) = ¬ p := by by_cases h : p <;> simp [h]
set_option maxHeartbeats 4000000 in
theorem gap_eq (a : Int32) : fGap a = if ((0 ≤ a.toInt ∧ a.toInt ≤ 64) ∨ (91 ≤ a.toInt ∧ a.toInt ≤ 94) ∨ a.toInt = 96 ∨ (123 ≤ a.toInt ∧ a.toInt ≤ 191) ∨ a.toInt = 215 ∨ a.toInt = 247 ∨ (768 ≤ a.toInt ∧ a.toInt ≤ 879) ∨ a.toInt = 894 ∨ (8192 ≤ a.toInt ∧ a.toInt ≤ 8203) ∨ (8206 ≤ a.toInt ∧ a.toInt ≤ 8303) ∨ (8592 ≤ a.toInt ∧ a.toInt ≤ 11263) ∨ (12272 ≤ a.toInt ∧ a.toInt ≤ 12288) ∨ (55296 ≤ a.toInt ∧ a.toInt ≤ 63743) ∨ (64976 ≤ a.toInt ∧ a.toInt ≤ 65007) ∨ (65534 ≤ a.toInt ∧ a.toInt ≤ 65535)) then 1 else 0 := by
  have e : ∀ k : Int32, a = k ↔ a.toInt = k.toInt := fun k => Int32.toInt_inj.symm
  unfold fGap fGap_158
  simp only [bt_eq, ite0, e, Int32.reduceToInt]
  generalize a.toInt = n
  by_cases g0 : (0 ≤ n ∧ n ≤ 64)
  · simp only [eq_true g0, if_true, if_false, not_true_eq_false, not_false_eq_true, true_or, or_true, false_or]
  by_cases g1 : (91 ≤ n ∧ n ≤ 94)
  · simp only [eq_false g0, eq_true g1, if_true, if_false, not_true_eq_false, not_false_eq_true, true_or, or_true, false_or]
  by_cases g2 : n = 96
  · simp only [eq_false g0, eq_false g1, eq_true g2, if_true, if_false, not_true_eq_false, not_false_eq_true, true_or, or_true, false_or]
  by_cases g3 : (123 ≤ n ∧ n ≤ 191)
  · simp only [eq_false g0, eq_false g1, eq_false g2, eq_true g3, if_true, if_false, not_true_eq_false, not_false_eq_true, true_or, or_true, false_or]
  by_cases g4 : n = 215
  · simp only [eq_false g0, eq_false g1, eq_false g2, eq_false g3, eq_true g4, if_true, if_false, not_true_eq_false, not_false_eq_true, true_or, or_true, false_or]
  by_cases g5 : n = 247
  · simp only [eq_false g0, eq_false g1, eq_false g2, eq_false g3, eq_false g4, eq_true g5, if_true, if_false, not_true_eq_false, not_false_eq_true, true_or, or_true, false_or]
  by_cases g6 : (768 ≤ n ∧ n ≤ 879)
  · simp only [eq_false g0, eq_false g1, eq_false g2, eq_false g3, eq_false g4, eq_false g5, eq_true g6, if_true, if_false, not_true_eq_false, not_false_eq_true, true_or, or_true, false_or]
  by_cases g7 : n = 894
  · simp only [eq_false g0, eq_false g1, eq_false g2, eq_false g3, eq_false g4, eq_false g5, eq_false g6, eq_true g7, if_true, if_false, not_true_eq_false, not_false_eq_true, true_or, or_true, false_or]
  by_cases g8 : (8192 ≤ n ∧ n ≤ 8203)
  · simp only [eq_false g0, eq_false g1, eq_false g2, eq_false g3, eq_false g4, eq_false g5, eq_false g6, eq_false g7, eq_true g8, if_true, if_false, not_true_eq_false, not_false_eq_true, true_or, or_true, false_or]
  by_cases g9 : (8206 ≤ n ∧ n ≤ 8303)
  · simp only [eq_false g0, eq_false g1, eq_false g2, eq_false g3, eq_false g4, eq_false g5, eq_false g6, eq_false g7, eq_false g8, eq_true g9, if_true, if_false, not_true_eq_false, not_false_eq_true, true_or, or_true, false_or]
  by_cases g10 : (8592 ≤ n ∧ n ≤ 11263)
  · simp only [eq_false g0, eq_false g1, eq_false g2, eq_false g3, eq_false g4, eq_false g5, eq_false g6, eq_false g7, eq_false g8, eq_false g9, eq_true g10, if_true, if_false, not_true_eq_false, not_false_eq_true, true_or, or_true, false_or]
  by_cases g11 : (12272 ≤ n ∧ n ≤ 12288)
  · simp only [eq_false g0, eq_false g1, eq_false g2, eq_false g3, eq_false g4, eq_false g5, eq_false g6, eq_false g7, eq_false g8, eq_false g9, eq_false g10, eq_true g11, if_true, if_false, not_true_eq_false, not_false_eq_true, true_or, or_true, false_or]
  by_cases g12 : (55296 ≤ n ∧ n ≤ 63743)
  · simp only [eq_false g0, eq_false g1, eq_false g2, eq_false g3, eq_false g4, eq_false g5, eq_false g6, eq_false g7, eq_false g8, eq_false g9, eq_false g10, eq_false g11, eq_true g12, if_true, if_false, not_true_eq_false, not_false_eq_true, true_or, or_true, false_or]
  by_cases g13 : (64976 ≤ n ∧ n ≤ 65007)
  · simp only [eq_false g0, eq_false g1, eq_false g2, eq_false g3, eq_false g4, eq_false g5, eq_false g6, eq_false g7, eq_false g8, eq_false g9, eq_false g10, eq_false g11, eq_false g12, eq_true g13, if_true, if_false, not_true_eq_false, not_false_eq_true, true_or, or_true, false_or]
  by_cases g14 : (65534 ≤ n ∧ n ≤ 65535)
  · simp only [eq_false g0, eq_false g1, eq_false g2, eq_false g3, eq_false g4, eq_false g5, eq_false g6, eq_false g7, eq_false g8, eq_false g9, eq_false g10, eq_false g11, eq_false g12, eq_false g13, eq_true g14, if_true, if_false, not_true_eq_false, not_false_eq_true, true_or, or_true, false_or]
  simp only [eq_false g0, eq_false g1, eq_false g2, eq_false g3, eq_false g4, eq_false g5, eq_false g6, eq_false g7, eq_false g8, eq_false g9, eq_false g10, eq_false g11, eq_false g12, eq_false g13, eq_false g14, if_true, if_false, not_true_eq_false, not_false_eq_true, true_or, or_true, false_or, or_self]
set_option maxHeartbeats 8000000 in
theorem ns_exp (a : Int32) : fNs a = fExp a := by
  unfold fExp fExp_10
  simp only [ns_0, gap_eq, ite0, Int32.lt_iff_toInt_lt, Int32.reduceToInt]
  generalize a.toInt = n
  repeat' split
  all_goals first | rfl | (exfalso; omega)
theorem law_one (a b : Int32) : fLaw a b = 1 := by
  unfold fLaw fLaw_31
  simp only [ns_exp, if_true]
theorem ct_law (l : Launch) (Z : State) (a0 : Array Value) (hw : ∀ d ∈ tables_1, d.before a0 Z = true) (a b : Int32) (h0 : Heap) (n0 : Nat) (Z0 : n0 ≤ h0.size) :
    Ct l Z x code maxLocals ret room_1 #[(.int a), (.int b)] h0 n0 (fun v _ => v = some (.int 1)) := (ct_fLaw l Z a0 hw a b h0 n0 Z0).imp fun v h q => by rw [q.1, law_one]
set_option maxRecDepth 65536 in
set_option maxHeartbeats 4000000 in
theorem comes_1 {Post : Tables → Env → Array Value → State → Outcome → State → Prop} (hpost : ∀ tb e args s v u, (limb_1_1.after args s (.returned v) u = true ∧ limb_1_2.after args s (.returned v) u = true ∧ True) → FrameEnd s (.returned v) u (Jvm.fieldLocs frame_1_writes args s ++ Jvm.arrayLocs frame_1_arrays args s ++ Jvm.staticLocs frame_1_statics s) 0 0 → Post tb e args s (.returned v) u) :
    ArmFor flags0 classFile x code maxLocals ret World_1 tables_1 room_1 Calls_1 rest_1 Pre_1 Post := by
  intro l hfl _ _ p e ha hc hk s m args below hf hA hF happ hP
  obtain ⟨hcalls, hrest, hpre⟩ := hP
  obtain ⟨-, -, -, hnamed, -, -, -, hat⟩ := (Spec.applies_iff hf).mp happ
  obtain ⟨hg, hn⟩ := and_e (Cond.before_iff.mp (show (Jvm.Cond.and given_1 narrow_1).before args s = true from hpre))
  obtain ⟨g1a, g1b⟩ := and_e hg
  obtain ⟨g2a, g2b⟩ := and_e g1b
  obtain ⟨w0, w1, rfl⟩ : ∃ w0 w1 : Value, args = #[w0, w1] := by
    have hs : args.size = 2 := by simpa [Cond.value, given_1] using g1a
    obtain ⟨L⟩ := args
    match L, hs with
    | [w0, w1], _ => exact ⟨w0, w1, rfl⟩
  have hw := fun d (hd : d ∈ tables_1) => atoms_spec (ws := Jvm.Cond.code x code maxLocals ret :: tables_1) hat d (List.mem_cons_of_mem _ hd)
  obtain ⟨i0, ei0⟩ := is_v g2a
  obtain rfl : w0 = (.int i0) := Option.some.inj ei0
  obtain ⟨i1, ei1⟩ := is_v g2b
  obtain rfl : w1 = (.int i1) := Option.some.inj ei1
  obtain ⟨n, o, h1, h2, h3, _, L, rfl, ⟨rfl, N⟩, hq⟩ := ct_law l s _ hw i0 i1 s.heap s.heap.size (Nat.le_refl _) tables_1 p e ha hc hk s m _ below hf ((Spec.applies_iff_loose hf).mp happ).1 ⟨rfl, State.Warmed39.refl s, rfl⟩ trivial
  exact ⟨n, _, h1, h2, h3, hpost _ _ _ _ _ _ ⟨Cond.after_iff.mpr rfl, Cond.after_iff.mpr (eq_i res_at (Term.int_eval (1)) rfl), trivial⟩ ⟨hq.1, hq.2.1, (hq.2.2.sift fun y hy => Or.inr (N y hy)).mono (by decide) (by decide)⟩⟩
theorem main_1_1 : Claimed_1_1 := comes_1 fun _ _ _ _ _ _ h hF => ⟨h.1, hF⟩
theorem main_1_2 : Claimed_1_2 := comes_1 fun _ _ _ _ _ _ h hF => ⟨h.2.1, hF⟩
end Jvm.Pilot.@@N@@
namespace Jvm.Pilot.@@N@@
open Jvm Jvm.ClassFile Sem Op Lib Jvm.Free Jvm.Stand Jvm.Pilot.@@N@@.Jvm.D
/-! MADE BY PROGRAM (witnessworld.py) out of the Statement's table words and the real class files: 9 classes; the members and pool entries that the words name. The judged class is class 1, her method 4. -/
namespace start1
open Jvm.ClassFile
def u (s : String) : CpInfo := .utf8 (stringToUtf16 s)
/-- a pool by its gaps: so many unusable entries, then the entry; so many at the end -/
def gap : Nat → List CpInfo → List CpInfo
  | 0, r => r
  | n + 1, r => .unusable :: gap n r
def poolList (es : List (Nat × CpInfo)) (last : Nat) : List CpInfo := es.foldr (fun e r => gap e.1 (e.2 :: r)) (gap last [])
def pool (es : List (Nat × CpInfo)) (last : Nat) : Array CpInfo := ⟨poolList es last⟩
def fileOf (pool : Array CpInfo) (this : Nat) (attrs : Array Attribute := #[]) (ms : Array MethodInfo := #[]) (fl : Nat := 33) (sup : Nat := 0) (ifs : Array Nat := #[]) (fds : Array FieldInfo := #[]) : ClassFile where
  minorVersion := 0
  majorVersion := 65
  constantPool := pool
  accessFlags := fl
  thisClass := this
  superClass := sup
  interfaces := ifs
  fields := fds
  methods := ms
  attributes := attrs
def plain (name : String) (sup : Option ClassId) : Class where
  name := name
  kind := .ordinary
  loader := none
  accessFlags := 33
  super := sup
  interfaces := #[]
  cf := none
  fields := #[]
  methods := #[]
  instanceTypes := #[]
  staticTypes := #[]
  resolved := #[]
  callSites := []
  init := .initialized
  statics := none
  mirror := none

def pool0 : Array CpInfo := pool [(5, u "<init>"), (0, u "()V"), (1, .class_ 10), (1, u "java/lang/Object")] 113

def k0m0 : Method := { name := "<init>", desc := "()V", sig := { parameters := [], returnType := none }, accessFlags := 1, code := none }
/-- java/lang/Object -/
def k0 : Class := { plain "java/lang/Object" none with
  accessFlags := 33
  interfaces := #[]
  cf := some (fileOf pool0 8 #[] #[{ accessFlags := 1, nameIndex := 5, descriptorIndex := 6, attributes := #[] }] 33 0 #[] #[])
  fields := #[]
  methods := #[k0m0]
  instanceTypes := #[]
  staticTypes := #[]
  resolved := Array.replicate 124 none
  statics := none }

def pool1 : Array CpInfo := pool [(2, .class_ 4), (1, u "java/lang/Object"), (0, u "<init>"), (0, u "()V"), (0, .methodref 8 9), (0, .class_ 10), (0, .nameAndType 11 12), (0, u "com/example/xtent/xtent/document/XmlNamesIsNameStartPinLaw"), (0, u "between"), (0, u "(III)Z"), (0, .integer 55296), (0, .integer 63743), (0, .integer 64976), (0, .integer 65007), (0, .integer 65534), (0, .integer 65535), (0, .integer 983039), (0, .methodref 8 21), (0, .nameAndType 22 23), (0, u "inGap"), (0, u "(I)Z"), (0, .methodref 25 26), (0, .class_ 27), (0, .nameAndType 28 23), (0, u "com/example/xtent/xtent/document/XmlNames"), (0, u "isNameStart"), (0, .methodref 8 30), (0, .nameAndType 31 23), (0, u "expected"), (3, u "law"), (0, u "(II)Z")] 2

def k1m0 : Method := { name := "<init>", desc := "()V", sig := { parameters := [], returnType := none }, accessFlags := 2, code := none }
def k1c1 : Code := { maxStack := 2, maxLocals := 3, code := method_2_code, exceptionTable := #[], attributes := #[] }
def k1m1 : Method := { name := "between", desc := "(III)Z", sig := { parameters := [.int, .int, .int], returnType := some .boolean }, accessFlags := 10, code := some k1c1 }
def k1c2 : Code := { maxStack := 3, maxLocals := 1, code := method_3_code, exceptionTable := #[], attributes := #[] }
def k1m2 : Method := { name := "inGap", desc := "(I)Z", sig := { parameters := [.int], returnType := some .boolean }, accessFlags := 10, code := some k1c2 }
def k1c3 : Code := { maxStack := 2, maxLocals := 1, code := method_4_code, exceptionTable := #[], attributes := #[] }
def k1m3 : Method := { name := "expected", desc := "(I)Z", sig := { parameters := [.int], returnType := some .boolean }, accessFlags := 10, code := some k1c3 }
def k1c4 : Code := { maxStack := 2, maxLocals := 3, code := code, exceptionTable := #[], attributes := #[] }
def k1m4 : Method := { name := "law", desc := "(II)Z", sig := { parameters := [.int, .int], returnType := some .boolean }, accessFlags := 9, code := some k1c4 }
/-- com/example/xtent/xtent/document/XmlNamesIsNameStartPinLaw -/
def k1 : Class := { plain "com/example/xtent/xtent/document/XmlNamesIsNameStartPinLaw" (some 0) with
  accessFlags := 49
  interfaces := #[]
  cf := some (fileOf pool1 8 #[] #[{ accessFlags := 2, nameIndex := 5, descriptorIndex := 6, attributes := #[] }, { accessFlags := 10, nameIndex := 11, descriptorIndex := 12, attributes := #[] }, { accessFlags := 10, nameIndex := 22, descriptorIndex := 23, attributes := #[] }, { accessFlags := 10, nameIndex := 31, descriptorIndex := 23, attributes := #[] }, { accessFlags := 9, nameIndex := 35, descriptorIndex := 36, attributes := #[] }] 49 2 #[] #[])
  fields := #[]
  methods := #[k1m0, k1m1, k1m2, k1m3, k1m4]
  instanceTypes := #[]
  staticTypes := #[]
  resolved := Array.replicate 39 none
  statics := none }

def pool2 : Array CpInfo := pool [(2, .class_ 4), (1, u "java/lang/Object"), (0, u "<init>"), (0, u "()V"), (36, .class_ 45), (1, u "com/example/xtent/xtent/document/XmlNames"), (0, u "isNameStart"), (0, u "(I)Z"), (12, .integer 55295), (1, .integer 65533), (0, .integer 65536), (33, .integer 63744), (0, .integer 64975), (0, .integer 65008), (0, .integer 983039)] 36

def k2m0 : Method := { name := "<init>", desc := "()V", sig := { parameters := [], returnType := none }, accessFlags := 2, code := none }
def k2c1 : Code := { maxStack := 2, maxLocals := 1, code := prog_26_method_10_code, exceptionTable := #[], attributes := #[] }
def k2m1 : Method := { name := "isNameStart", desc := "(I)Z", sig := { parameters := [.int], returnType := some .boolean }, accessFlags := 9, code := some k2c1 }
/-- com/example/xtent/xtent/document/XmlNames -/
def k2 : Class := { plain "com/example/xtent/xtent/document/XmlNames" (some 0) with
  accessFlags := 33
  interfaces := #[]
  cf := some (fileOf pool2 43 #[] #[{ accessFlags := 2, nameIndex := 5, descriptorIndex := 6, attributes := #[] }, { accessFlags := 9, nameIndex := 46, descriptorIndex := 47, attributes := #[] }] 33 2 #[] #[])
  fields := #[]
  methods := #[k2m0, k2m1]
  instanceTypes := #[]
  staticTypes := #[]
  resolved := Array.replicate 137 none
  statics := none }

def pool3 : Array CpInfo := pool [(1, u "java/lang/Cloneable"), (0, .class_ 1), (0, u "java/lang/Object"), (0, .class_ 3)] 3

/-- java/lang/Cloneable -/
def k3 : Class := { plain "java/lang/Cloneable" (some 0) with
  accessFlags := 1537
  interfaces := #[]
  cf := some (fileOf pool3 2 #[] #[] 1537 4 #[] #[])
  fields := #[]
  methods := #[]
  instanceTypes := #[]
  staticTypes := #[]
  resolved := Array.replicate 8 none
  statics := none }

def pool4 : Array CpInfo := pool [(1, u "java/io/Serializable"), (0, .class_ 1), (0, u "java/lang/Object"), (0, .class_ 3)] 3

/-- java/io/Serializable -/
def k4 : Class := { plain "java/io/Serializable" (some 0) with
  accessFlags := 1537
  interfaces := #[]
  cf := some (fileOf pool4 2 #[] #[] 1537 4 #[] #[])
  fields := #[]
  methods := #[]
  instanceTypes := #[]
  staticTypes := #[]
  resolved := Array.replicate 8 none
  statics := none }

/-- the primitive byte -/
def k5 : Class := { plain "byte" none with kind := .primitive 'B', accessFlags := 0x411 }
/-- [B -/
def k6 : Class := { plain "[B" (some 0) with kind := .array 5 .byte, interfaces := #[3, 4], accessFlags := 1041 }

/-- the primitive int -/
def k7 : Class := { plain "int" none with kind := .primitive 'I', accessFlags := 0x411 }
/-- [I -/
def k8 : Class := { plain "[I" (some 0) with kind := .array 7 .int, interfaces := #[3, 4], accessFlags := 1041 }

def heap : Heap := #[]
def classes : Array Class := #[k0, k1, k2, k3, k4, k5, k6, k7, k8]
def interned : List (Array UInt16 × Addr) := []
def slotsUsed : Nat := 0
def theMethod : MethodId := ⟨1, 4⟩
def args0 : Array Value := #[.int 5, .int 70]
def aboutOver (below : List Frame) : State where
  vm := { classes := classes, interned := interned.toArray }
  heap := heap
  slotsUsed := slotsUsed
  threads := #[{ frames := .invoking theMethod args0 :: below }]
def below0 : List Frame := [.native { method := ⟨0, 0⟩, args := #[] }]
def about1 : State := aboutOver below0
def p0 : Program := .bare "" "" ""
def e0 : Env := launch0.env 0 0 0
theorem w_frames : about1.frames = Frame.invoking theMethod args0 :: below0 := rfl
set_option maxRecDepth 65536 in
theorem w_args : argsFit about1.vm theMethod args0 = true := by decide +kernel
set_option maxRecDepth 65536 in
theorem w_heap : heapFits about1 = true := by decide +kernel
set_option maxRecDepth 65536 in
theorem w_runnable : about1.curStatus? = some .runnable := by decide +kernel
set_option maxRecDepth 65536 in
theorem w_alone : about1.alone = true := by decide +kernel
set_option maxRecDepth 65536 in
theorem w_named : about1.methodNamed? x = some theMethod := by decide +kernel
set_option maxRecDepth 65536 in
theorem w_hears : about1.hears theMethod below0 = true := by decide +kernel
set_option maxRecDepth 65536 in
theorem w_ripe : about1.ripe theMethod args0 below0 = true := by decide +kernel
theorem w_running : about1.status = .running := rfl
set_option maxRecDepth 65536 in
theorem w_room : about1.hasRoom e0.platform room_1 = true :=
  launch0.hasRoom_least _ room_1 (by decide +kernel) (by decide +kernel) (by decide +kernel) (by decide +kernel) (by decide +kernel) (by decide +kernel)
theorem allAtoms_all (ts : List Jvm.Cond) (a : Array Jvm.Value) (st : Jvm.State) : (allAtoms ts).before a st = ts.all (fun c => c.before a st) := by
  induction ts with
  | nil => rfl
  | cons c t ih =>
    show (Jvm.Cond.and c (allAtoms t)).before a st = _
    rw [Jvm.Cond.before_and, ih, List.all_cons]
def words1 : List Jvm.Cond := Jvm.Cond.code x code maxLocals ret :: tables_1
/-- a 'code' word, met by the world's own term for the bytes: nothing is compared byte by byte -/
theorem code_word {y : MethodName} {bytes : ByteArray} {mx : Nat} {rt : Option FieldType} {a : Array Value} {s : State} {m : MethodId} {meth : Method} {c : Code} (h1 : s.methodNamed? y = some m) (h2 : s.vm.method? m = some meth) (h3 : meth.code = some c) (h4 : c.code = bytes)
    (h5 : (c.maxLocals == mx && c.exceptionTable.isEmpty && decide (c.maxStack ≤ mostOperands) && decide (meth.sig.returnType = rt) && !meth.locks && decide (parseMethodDescriptor y.desc = some meth.sig)) = true) : (Jvm.Cond.code y bytes mx rt).before a s = true := by
  simp only [Bool.and_eq_true, beq_iff_eq, Bool.not_eq_true', decide_eq_true_eq] at h5
  obtain ⟨⟨⟨⟨⟨g1, g2⟩, g3⟩, g4⟩, g5⟩, g6⟩ := h5
  simp [Cond.before, Cond.holds, Cond.value, h1, h2, h3, h4, g1, g2, g3, g4, g5, g6]
def isCode : Jvm.Cond → Bool
  | .code _ _ _ _ => true
  | _ => false
theorem all_split {L : List Jvm.Cond} {P : Jvm.Cond → Bool} (h1 : L.all (fun c => isCode c || P c) = true) (h2 : ∀ c ∈ L.filter isCode, P c = true) : L.all P = true := by
  refine List.all_eq_true.mpr fun c hc => ?_
  have h := List.all_eq_true.mp h1 c hc
  rcases Bool.eq_false_or_eq_true (isCode c) with hi | hi
  · exact h2 c (List.mem_filter.mpr ⟨hc, hi⟩)
  · simpa [hi] using h
set_option maxRecDepth 65536 in
theorem w_c0 : (Jvm.Cond.code x code maxLocals ret).before args0 about1 = true := code_word (m := ⟨1, 4⟩) (meth := k1m4) (c := k1c4) (by decide +kernel) rfl rfl rfl (by decide +kernel)
set_option maxRecDepth 65536 in
theorem w_c1 : (Jvm.Cond.code ({ cls := "com/example/xtent/xtent/document/XmlNames", name := "isNameStart", desc := "(I)Z" } : Jvm.MethodName) prog_26_method_10_code (1 : Nat) (Option.some Jvm.ClassFile.FieldType.boolean)).before args0 about1 = true := code_word (m := ⟨2, 1⟩) (meth := k2m1) (c := k2c1) (by decide +kernel) rfl rfl rfl (by decide +kernel)
set_option maxRecDepth 65536 in
theorem w_c2 : (Jvm.Cond.code ({ cls := "com/example/xtent/xtent/document/XmlNamesIsNameStartPinLaw", name := "expected", desc := "(I)Z" } : Jvm.MethodName) method_4_code (1 : Nat) (Option.some Jvm.ClassFile.FieldType.boolean)).before args0 about1 = true := code_word (m := ⟨1, 3⟩) (meth := k1m3) (c := k1c3) (by decide +kernel) rfl rfl rfl (by decide +kernel)
set_option maxRecDepth 65536 in
theorem w_c3 : (Jvm.Cond.code ({ cls := "com/example/xtent/xtent/document/XmlNamesIsNameStartPinLaw", name := "inGap", desc := "(I)Z" } : Jvm.MethodName) method_3_code (1 : Nat) (Option.some Jvm.ClassFile.FieldType.boolean)).before args0 about1 = true := code_word (m := ⟨1, 2⟩) (meth := k1m2) (c := k1c2) (by decide +kernel) rfl rfl rfl (by decide +kernel)
set_option maxRecDepth 65536 in
theorem w_c4 : (Jvm.Cond.code ({ cls := "com/example/xtent/xtent/document/XmlNamesIsNameStartPinLaw", name := "between", desc := "(III)Z" } : Jvm.MethodName) method_2_code (3 : Nat) (Option.some Jvm.ClassFile.FieldType.boolean)).before args0 about1 = true := code_word (m := ⟨1, 1⟩) (meth := k1m1) (c := k1c1) (by decide +kernel) rfl rfl rfl (by decide +kernel)
def codes1 : List Jvm.Cond := [Jvm.Cond.code x code maxLocals ret, Jvm.Cond.code ({ cls := "com/example/xtent/xtent/document/XmlNames", name := "isNameStart", desc := "(I)Z" } : Jvm.MethodName) prog_26_method_10_code (1 : Nat) (Option.some Jvm.ClassFile.FieldType.boolean), Jvm.Cond.code ({ cls := "com/example/xtent/xtent/document/XmlNamesIsNameStartPinLaw", name := "expected", desc := "(I)Z" } : Jvm.MethodName) method_4_code (1 : Nat) (Option.some Jvm.ClassFile.FieldType.boolean), Jvm.Cond.code ({ cls := "com/example/xtent/xtent/document/XmlNamesIsNameStartPinLaw", name := "inGap", desc := "(I)Z" } : Jvm.MethodName) method_3_code (1 : Nat) (Option.some Jvm.ClassFile.FieldType.boolean), Jvm.Cond.code ({ cls := "com/example/xtent/xtent/document/XmlNamesIsNameStartPinLaw", name := "between", desc := "(III)Z" } : Jvm.MethodName) method_2_code (3 : Nat) (Option.some Jvm.ClassFile.FieldType.boolean)]
set_option maxRecDepth 65536 in
theorem codes_eq : words1.filter isCode = codes1 := rfl
theorem w_codes : ∀ c ∈ words1.filter isCode, c.before args0 about1 = true := by
  rw [codes_eq]
  intro c hc
  simp only [codes1, List.mem_cons, List.not_mem_nil, or_false] at hc
  rcases hc with rfl | rfl | rfl | rfl | rfl
  · exact w_c0
  · exact w_c1
  · exact w_c2
  · exact w_c3
  · exact w_c4
set_option maxRecDepth 65536 in
theorem w_t1 : (words1.take 24).all (fun c => isCode c || c.before args0 about1) = true := by decide +kernel
set_option maxRecDepth 65536 in
theorem w_t2 : (words1.drop 24).all (fun c => isCode c || c.before args0 about1) = true := by decide +kernel
theorem w_tables : (allAtoms (Jvm.Cond.code x code maxLocals ret :: tables_1)).before args0 about1 = true := by
  rw [allAtoms_all]
  show words1.all (fun c => c.before args0 about1) = true
  refine all_split ?_ w_codes
  rw [← List.take_append_drop 24 words1, List.all_append, w_t1, w_t2]
  rfl
set_option maxRecDepth 65536 in
theorem w_case : (Jvm.Cond.and given_1 narrow_1).before args0 about1 = true := by decide +kernel
theorem w_applies : (headSpec (Jvm.Cond.code x code maxLocals ret :: tables_1) room_1).applies x e0.platform about1 = true :=
  (Spec.applies_iff w_frames).mpr ⟨w_running, w_runnable, w_alone, w_named, w_hears, w_ripe, w_room, w_tables⟩
theorem atStart : AtStart classFile x code maxLocals ret World_1 tables_1 room_1 Calls_1 rest_1 Pre_1 launch0 p0 e0 about1 theMethod args0 below0 :=
  ⟨lists_1, trivial, launch0.admits_env _ _ _, launch0.least_env, fairChoices_fair.cas, fairChoices_fair.clock, w_frames, w_args, w_heap, w_applies, trivial, trivial, w_case⟩
end start1
theorem witness_1 : WitnessClaimed_1 := ⟨start1.p0, start1.e0, start1.about1, start1.theMethod, start1.args0, start1.below0, start1.atStart⟩
end Jvm.Pilot.@@N@@
