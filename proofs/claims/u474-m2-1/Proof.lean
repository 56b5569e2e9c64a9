import JvmDerived
import JvmDerived.Pilot.@@N@@Statement
import JvmDerived.Pilot.@@N@@Code
set_option linter.unusedVariables false
set_option linter.unusedSimpArgs false
namespace Jvm.Own
open Jvm Jvm.ClassFile Sem Op Lib Jvm.Free Jvm.Stand Jvm.LawKit Jvm.RoadKit Bundle
/-- where the run stands inside a body: what is fixed, the heap, the room used -/
def St (p : Program) (l : Launch) (e : Env) (R : Room) (s : State) (m : MethodId) (args : Array Value) (below : List Frame) (meth : Method) (c : Code) (Z : State) (n0 : Nat) (y : MethodName) (code : ByteArray) (maxL : Nat) (ret : Option FieldType) (T : State) (h : Heap) (cells slots : Nat) : Prop :=
  (p.tables.exec = Jvm.exec ∧ Z.Warmed39 s.vm ∧ c.code = code ∧ c.maxLocals = maxL ∧ s.vm.findClass y.cls = some m.cls ∧ meth.name = y.name ∧ meth.sig.returnType = ret ∧ meth.locks = false ∧ n0 ≤ s.heap.size) ∧ T.heap = h ∧ ∃ locs, Stand p l e R s m args below meth c T locs cells slots ∧ Fr n0 locs
/-- from here the body comes to its end with Q -/
def WP (p : Program) (e : Env) (below : List Frame) (s : State) (n0 k n : Nat) (Q : Option Value → Heap → Prop) (T : State) (g : JFrame) : Prop :=
  ∃ s₂ o, Steps p.tables e below (T.setTop g) s₂ ∧ s₂.status = .running ∧ Ended s₂ below o ∧ ∃ v L, o = .returned v ∧ (Q v s₂.heap ∧ Fr n0 L) ∧ FrameEnd s o s₂ L k n
/-- a body's contract -/
def Ct (l : Launch) (Z : State) (y : MethodName) (code : ByteArray) (maxL : Nat) (ret : Option FieldType) (rm : Room) (as : Array Value) (h0 : Heap) (n0 : Nat) (Q : Option Value → Heap → Prop) : Prop :=
  ∀ ws, MetFree l y (head1 (Jvm.Cond.code y code maxL ret :: ws) rm) (fun a U => a = as ∧ Z.Warmed39 U.vm ∧ U.heap = h0) (fun _ _ _ _ _ => True) (fun _ U o U' => ∃ v L, o = .returned v ∧ (Q v U'.heap ∧ Fr n0 L) ∧ FrameEnd U o U' L rm.cells rm.slots)
section Steps
variable {p : Program} {l : Launch} {e : Env} {R : Room} {s : State} {m : MethodId} {args : Array Value} {below : List Frame} {meth : Method} {c : Code} {Z : State} {n0 : Nat} {y : MethodName} {code : ByteArray} {maxL : Nat} {ret : Option FieldType} {T : State} {h : Heap} {cells slots k n : Nat} {Q : Option Value → Heap → Prop} {pc pc' : Nat} {Ls : Array Slot} {S : List Value} {a0 : Array Value}
theorem WP.step {T' : State} {g g' : JFrame} (w : WP p e below s n0 k n Q T' g') (st : ∀ t, Steps p.tables e below (T'.setTop g') t → Steps p.tables e below (T.setTop g) t) : WP p e below s n0 k n Q T g := by
  obtain ⟨s₂, o, h1, r⟩ := w; exact ⟨s₂, o, st _ h1, r⟩
theorem WP.trans {T' : State} {g g' : JFrame} (w : WP p e below s n0 k n Q T' g') (st : Steps p.tables e below (T.setTop g) (T'.setTop g')) : WP p e below s n0 k n Q T g := by
  obtain ⟨s₂, o, h1, r⟩ := w; exact ⟨s₂, o, st.trans h1, r⟩
theorem WP.imp {Q' : Option Value → Heap → Prop} {g : JFrame} (w : WP p e below s n0 k n Q' T g) (hq : ∀ v h, Q' v h → Q v h) : WP p e below s n0 k n Q T g := by
  obtain ⟨s₂, o, h1, h2, h3, v, L, h4, ⟨h5, h6⟩, h7⟩ := w; exact ⟨s₂, o, h1, h2, h3, v, L, h4, ⟨hq _ _ h5, h6⟩, h7⟩
theorem WP.cast {g g' : JFrame} (q : g = g') (w : WP p e below s n0 k n Q T g') : WP p e below s n0 k n Q T g := q ▸ w
theorem Ct.imp {as : Array Value} {rm : Room} {Q' : Option Value → Heap → Prop} (ct : Ct l Z y code maxL ret rm as h n0 Q') (hq : ∀ v h, Q' v h → Q v h) : Ct l Z y code maxL ret rm as h n0 Q := by
  intro ws p e ha hc hk s m args below hf happ hP hK
  obtain ⟨n, o, h1, h2, h3, v, L, h4, ⟨h5, h6⟩, h7⟩ := ct ws p e ha hc hk s m args below hf happ hP hK
  exact ⟨n, o, h1, h2, h3, v, L, h4, ⟨hq _ _ h5, h6⟩, h7⟩
theorem Ct.intro {rm : Room} {as : Array Value} {h0 : Heap} (hpl : plainFor y = true) (Z0 : n0 ≤ h0.size)
    (body : ∀ p e s m below meth c T, St p l e rm s m as below meth c Z n0 y code maxL ret T h0 0 0 → WP p e below s n0 rm.cells rm.slots Q T (entryFrame m as maxL)) : Ct l Z y code maxL ret rm as h0 n0 Q := by
  intro ws
  refine MetFree.of_bodySF hpl hisR ?_
  intro p e s m args below meth c s₁ Bd hml0 hP hK
  obtain ⟨rfl, hZ, hh⟩ := hP
  exact body p e s m below meth c s₁ ⟨⟨Bd.exec, hZ, Bd.bytes, hml0, findClass_of_methodNamed Bd.named, (name_of_methodNamed Bd.named Bd.method).1, Bd.returns, BodyLoose.notSynchronized Bd, hh ▸ Z0⟩, by rw [← hh, Bd.state]; rfl, [], Stand.of_body Bd, Fr.nil n0⟩
theorem St.n0le (X : St p l e R s m args below meth c Z n0 y code maxL ret T h cells slots) : n0 ≤ h.size := by
  obtain ⟨⟨-, -, -, -, -, -, -, -, h0⟩, hT, locs, X, -⟩ := X
  have q : s.heap.size ≤ T.heap.size := X.same.2.1
  rw [hT] at q; exact Nat.le_trans h0 q
theorem St.mono (X : St p l e R s m args below meth c Z n0 y code maxL ret T h cells slots) {cells' slots' : Nat} (hc : cells ≤ cells') (hs : slots ≤ slots') : St p l e R s m args below meth c Z n0 y code maxL ret T h cells' slots' := by
  obtain ⟨h0, hT, locs, X, N⟩ := X
  exact ⟨h0, hT, locs, ⟨X.admits, X.cas, X.clock, X.frames, X.room, X.hears, X.method, X.code, X.here, X.tail, X.warmed, X.limits, X.bytes, X.same.mono hc hs⟩, N⟩
theorem w_nameI {v : Int32} (w : ∀ z, z = v → WP p e below s n0 k n Q T (mkF m pc Ls (.int z :: S))) : WP p e below s n0 k n Q T (mkF m pc Ls (.int v :: S)) := w v rfl
theorem w_nameJ {v : Int64} (w : ∀ z, z = v → WP p e below s n0 k n Q T (mkF m pc Ls (.long z :: S))) : WP p e below s n0 k n Q T (mkF m pc Ls (.long v :: S)) := w v rfl
theorem w_nameR {v : Addr} (w : ∀ z, z = v → WP p e below s n0 k n Q T (mkF m pc Ls (.ref z :: S))) : WP p e below s n0 k n Q T (mkF m pc Ls (.ref v :: S)) := w v rfl
theorem w_iload (X : St p l e R s m args below meth c Z n0 y code maxL ret T h cells slots) {i : Nat} {v : Int32} (hd : decode code pc = .ok (.iload i, 2)) (hl : Ls[i]? = some (.val (.int v))) (hp : pc' = pc + 2) (w : WP p e below s n0 k n Q T (mkF m pc' Ls (.int v :: S))) : WP p e below s n0 k n Q T (mkF m pc Ls (S)) := by
  obtain ⟨⟨hx, hZ, hby, hml, hown, hnm, hret, hlk, h00⟩, hT, locs, X, N⟩ := X
  subst hp
  exact w.step fun t kk => XS.iload X.here hx rfl (hb hby hd) hl kk
theorem w_iloadN (X : St p l e R s m args below meth c Z n0 y code maxL ret T h cells slots) {i : Fin 4} {v : Int32} (hd : decode code pc = .ok (.iload_n i, 1)) (hl : Ls[i.val]? = some (.val (.int v))) (hp : pc' = pc + 1) (w : WP p e below s n0 k n Q T (mkF m pc' Ls (.int v :: S))) : WP p e below s n0 k n Q T (mkF m pc Ls (S)) := by
  obtain ⟨⟨hx, hZ, hby, hml, hown, hnm, hret, hlk, h00⟩, hT, locs, X, N⟩ := X
  subst hp
  exact w.step fun t kk => XS.iloadN X.here hx rfl (hb hby hd) hl kk
theorem w_lload (X : St p l e R s m args below meth c Z n0 y code maxL ret T h cells slots) {i : Nat} {v : Int64} (hd : decode code pc = .ok (.lload i, 2)) (hl : Ls[i]? = some (.val (.long v))) (hp : pc' = pc + 2) (w : WP p e below s n0 k n Q T (mkF m pc' Ls (.long v :: S))) : WP p e below s n0 k n Q T (mkF m pc Ls (S)) := by
  obtain ⟨⟨hx, hZ, hby, hml, hown, hnm, hret, hlk, h00⟩, hT, locs, X, N⟩ := X
  subst hp
  exact w.step fun t kk => XS.lload X.here hx rfl (hb hby hd) hl kk
theorem w_lloadN (X : St p l e R s m args below meth c Z n0 y code maxL ret T h cells slots) {i : Fin 4} {v : Int64} (hd : decode code pc = .ok (.lload_n i, 1)) (hl : Ls[i.val]? = some (.val (.long v))) (hp : pc' = pc + 1) (w : WP p e below s n0 k n Q T (mkF m pc' Ls (.long v :: S))) : WP p e below s n0 k n Q T (mkF m pc Ls (S)) := by
  obtain ⟨⟨hx, hZ, hby, hml, hown, hnm, hret, hlk, h00⟩, hT, locs, X, N⟩ := X
  subst hp
  exact w.step fun t kk => XS.lloadN X.here hx rfl (hb hby hd) hl kk
theorem w_aload (X : St p l e R s m args below meth c Z n0 y code maxL ret T h cells slots) {i : Nat} {v : Value} (hd : decode code pc = .ok (.aload i, 2)) (hl : Ls[i]? = some (.val v)) (hv : v.isRef = true) (hp : pc' = pc + 2) (w : WP p e below s n0 k n Q T (mkF m pc' Ls (v :: S))) : WP p e below s n0 k n Q T (mkF m pc Ls (S)) := by
  obtain ⟨⟨hx, hZ, hby, hml, hown, hnm, hret, hlk, h00⟩, hT, locs, X, N⟩ := X
  subst hp
  exact w.step fun t kk => XS.aload X.here hx rfl (hb hby hd) hl hv kk
theorem w_aloadN (X : St p l e R s m args below meth c Z n0 y code maxL ret T h cells slots) {i : Fin 4} {v : Value} (hd : decode code pc = .ok (.aload_n i, 1)) (hl : Ls[i.val]? = some (.val v)) (hv : v.isRef = true) (hp : pc' = pc + 1) (w : WP p e below s n0 k n Q T (mkF m pc' Ls (v :: S))) : WP p e below s n0 k n Q T (mkF m pc Ls (S)) := by
  obtain ⟨⟨hx, hZ, hby, hml, hown, hnm, hret, hlk, h00⟩, hT, locs, X, N⟩ := X
  subst hp
  exact w.step fun t kk => XS.aloadN X.here hx rfl (hb hby hd) hl hv kk
theorem w_istore (X : St p l e R s m args below meth c Z n0 y code maxL ret T h cells slots) {i : Nat} {v : Int32} {L' : Array Slot} (hd : decode code pc = .ok (.istore i, 2)) (hl : storeLocals Ls i (.int v) = some L') (hp : pc' = pc + 2) (w : WP p e below s n0 k n Q T (mkF m pc' L' (S))) : WP p e below s n0 k n Q T (mkF m pc Ls (.int v :: S)) := by
  obtain ⟨⟨hx, hZ, hby, hml, hown, hnm, hret, hlk, h00⟩, hT, locs, X, N⟩ := X
  subst hp
  exact w.step fun t kk => XS.istore X.here hx rfl (hb hby hd) rfl hl kk
theorem w_istoreN (X : St p l e R s m args below meth c Z n0 y code maxL ret T h cells slots) {i : Fin 4} {v : Int32} {L' : Array Slot} (hd : decode code pc = .ok (.istore_n i, 1)) (hl : storeLocals Ls i.val (.int v) = some L') (hp : pc' = pc + 1) (w : WP p e below s n0 k n Q T (mkF m pc' L' (S))) : WP p e below s n0 k n Q T (mkF m pc Ls (.int v :: S)) := by
  obtain ⟨⟨hx, hZ, hby, hml, hown, hnm, hret, hlk, h00⟩, hT, locs, X, N⟩ := X
  subst hp
  exact w.step fun t kk => XS.istoreN X.here hx rfl (hb hby hd) rfl hl kk
theorem w_lstore (X : St p l e R s m args below meth c Z n0 y code maxL ret T h cells slots) {i : Nat} {v : Int64} {L' : Array Slot} (hd : decode code pc = .ok (.lstore i, 2)) (hl : storeLocals Ls i (.long v) = some L') (hp : pc' = pc + 2) (w : WP p e below s n0 k n Q T (mkF m pc' L' (S))) : WP p e below s n0 k n Q T (mkF m pc Ls (.long v :: S)) := by
  obtain ⟨⟨hx, hZ, hby, hml, hown, hnm, hret, hlk, h00⟩, hT, locs, X, N⟩ := X
  subst hp
  exact w.step fun t kk => XS.lstore X.here hx rfl (hb hby hd) rfl hl kk
theorem w_lstoreN (X : St p l e R s m args below meth c Z n0 y code maxL ret T h cells slots) {i : Fin 4} {v : Int64} {L' : Array Slot} (hd : decode code pc = .ok (.lstore_n i, 1)) (hl : storeLocals Ls i.val (.long v) = some L') (hp : pc' = pc + 1) (w : WP p e below s n0 k n Q T (mkF m pc' L' (S))) : WP p e below s n0 k n Q T (mkF m pc Ls (.long v :: S)) := by
  obtain ⟨⟨hx, hZ, hby, hml, hown, hnm, hret, hlk, h00⟩, hT, locs, X, N⟩ := X
  subst hp
  exact w.step fun t kk => XS.lstoreN X.here hx rfl (hb hby hd) rfl hl kk
theorem w_astore (X : St p l e R s m args below meth c Z n0 y code maxL ret T h cells slots) {i : Nat} {v : Value} {L' : Array Slot} (hd : decode code pc = .ok (.astore i, 2)) (hv : v.isRef = true) (hl : storeLocals Ls i v = some L') (hp : pc' = pc + 2) (w : WP p e below s n0 k n Q T (mkF m pc' L' (S))) : WP p e below s n0 k n Q T (mkF m pc Ls (v :: S)) := by
  obtain ⟨⟨hx, hZ, hby, hml, hown, hnm, hret, hlk, h00⟩, hT, locs, X, N⟩ := X
  subst hp
  exact w.step fun t kk => XS.astore X.here hx rfl (hb hby hd) rfl hv hl kk
theorem w_astoreN (X : St p l e R s m args below meth c Z n0 y code maxL ret T h cells slots) {i : Fin 4} {v : Value} {L' : Array Slot} (hd : decode code pc = .ok (.astore_n i, 1)) (hv : v.isRef = true) (hl : storeLocals Ls i.val v = some L') (hp : pc' = pc + 1) (w : WP p e below s n0 k n Q T (mkF m pc' L' (S))) : WP p e below s n0 k n Q T (mkF m pc Ls (v :: S)) := by
  obtain ⟨⟨hx, hZ, hby, hml, hown, hnm, hret, hlk, h00⟩, hT, locs, X, N⟩ := X
  subst hp
  exact w.step fun t kk => XS.astoreN X.here hx rfl (hb hby hd) rfl hv hl kk
theorem w_iinc (X : St p l e R s m args below meth c Z n0 y code maxL ret T h cells slots) {i : Nat} {d : Int} {v v' : Int32} {L' : Array Slot} (hd : decode code pc = .ok (.iinc i d, 3)) (hl : Ls[i]? = some (.val (.int v))) (hv : v + Int32.ofInt d = v') (hl' : storeLocals Ls i (.int v') = some L') (hp : pc' = pc + 3) (w : WP p e below s n0 k n Q T (mkF m pc' L' (S))) : WP p e below s n0 k n Q T (mkF m pc Ls (S)) := by
  obtain ⟨⟨hx, hZ, hby, hml, hown, hnm, hret, hlk, h00⟩, hT, locs, X, N⟩ := X
  subst hp hv
  exact w.step fun t kk => XS.iinc X.here hx rfl (hb hby hd) hl hl' kk
theorem w_iconst (X : St p l e R s m args below meth c Z n0 y code maxL ret T h cells slots) {i : Int} {v : Int32} (hd : decode code pc = .ok (.iconst i, 1)) (hv : Int32.ofInt i = v) (hp : pc' = pc + 1) (w : WP p e below s n0 k n Q T (mkF m pc' Ls (.int v :: S))) : WP p e below s n0 k n Q T (mkF m pc Ls (S)) := by
  obtain ⟨⟨hx, hZ, hby, hml, hown, hnm, hret, hlk, h00⟩, hT, locs, X, N⟩ := X
  subst hp hv
  exact w.step fun t kk => XS.iconst X.here hx rfl (hb hby hd) kk
theorem w_bipush (X : St p l e R s m args below meth c Z n0 y code maxL ret T h cells slots) {i : Int} {v : Int32} (hd : decode code pc = .ok (.bipush i, 2)) (hv : (Int8.ofInt i).toInt32 = v) (hp : pc' = pc + 2) (w : WP p e below s n0 k n Q T (mkF m pc' Ls (.int v :: S))) : WP p e below s n0 k n Q T (mkF m pc Ls (S)) := by
  obtain ⟨⟨hx, hZ, hby, hml, hown, hnm, hret, hlk, h00⟩, hT, locs, X, N⟩ := X
  subst hp hv
  exact w.step fun t kk => XS.bipush X.here hx rfl (hb hby hd) kk
theorem w_sipush (X : St p l e R s m args below meth c Z n0 y code maxL ret T h cells slots) {i : Int} {v : Int32} (hd : decode code pc = .ok (.sipush i, 3)) (hv : (Int16.ofInt i).toInt32 = v) (hp : pc' = pc + 3) (w : WP p e below s n0 k n Q T (mkF m pc' Ls (.int v :: S))) : WP p e below s n0 k n Q T (mkF m pc Ls (S)) := by
  obtain ⟨⟨hx, hZ, hby, hml, hown, hnm, hret, hlk, h00⟩, hT, locs, X, N⟩ := X
  subst hp hv
  exact w.step fun t kk => XS.sipush X.here hx rfl (hb hby hd) kk
theorem w_lconst (X : St p l e R s m args below meth c Z n0 y code maxL ret T h cells slots) {i : Fin 2} {v : Int64} (hd : decode code pc = .ok (.lconst i, 1)) (hv : Int64.ofNat i = v) (hp : pc' = pc + 1) (w : WP p e below s n0 k n Q T (mkF m pc' Ls (.long v :: S))) : WP p e below s n0 k n Q T (mkF m pc Ls (S)) := by
  obtain ⟨⟨hx, hZ, hby, hml, hown, hnm, hret, hlk, h00⟩, hT, locs, X, N⟩ := X
  subst hp hv
  exact w.step fun t kk => XS.lconst X.here hx rfl (hb hby hd) kk
theorem w_aconst_null (X : St p l e R s m args below meth c Z n0 y code maxL ret T h cells slots)  (hd : decode code pc = .ok (.aconst_null, 1)) (hp : pc' = pc + 1) (w : WP p e below s n0 k n Q T (mkF m pc' Ls (.null :: S))) : WP p e below s n0 k n Q T (mkF m pc Ls (S)) := by
  obtain ⟨⟨hx, hZ, hby, hml, hown, hnm, hret, hlk, h00⟩, hT, locs, X, N⟩ := X
  subst hp
  exact w.step fun t kk => XS.aconstNull X.here hx rfl (hb hby hd) kk
theorem w_ldcI (X : St p l e R s m args below meth c Z n0 y code maxL ret T h cells slots) {i : Nat} {v : Int32} (hd : decode code pc = .ok (.ldc i, 2)) (wc : (Jvm.Cond.constant y.cls i v).before a0 Z = true) (hp : pc' = pc + 2) (w : WP p e below s n0 k n Q T (mkF m pc' Ls (.int v :: S))) : WP p e below s n0 k n Q T (mkF m pc Ls (S)) := by
  obtain ⟨⟨hx, hZ, hby, hml, hown, hnm, hret, hlk, h00⟩, hT, locs, X, N⟩ := X
  subst hp
  exact w.step fun t kk => X.ldcInt hx hown (mvT (d := Jvm.Cond.constant y.cls i v) hZ wc) (g := mkF m pc Ls S) rfl (hb hby hd) t kk
theorem w_ldcWI (X : St p l e R s m args below meth c Z n0 y code maxL ret T h cells slots) {i : Nat} {v : Int32} (hd : decode code pc = .ok (.ldc_w i, 3)) (wc : (Jvm.Cond.constant y.cls i v).before a0 Z = true) (hp : pc' = pc + 3) (w : WP p e below s n0 k n Q T (mkF m pc' Ls (.int v :: S))) : WP p e below s n0 k n Q T (mkF m pc Ls (S)) := by
  obtain ⟨⟨hx, hZ, hby, hml, hown, hnm, hret, hlk, h00⟩, hT, locs, X, N⟩ := X
  subst hp
  exact w.step fun t kk => X.ldcwInt hx hown (mvT (d := Jvm.Cond.constant y.cls i v) hZ wc) (g := mkF m pc Ls S) rfl (hb hby hd) t kk
theorem w_ldcJ (X : St p l e R s m args below meth c Z n0 y code maxL ret T h cells slots) {i : Nat} {v : Int64} (hd : decode code pc = .ok (.ldc2_w i, 3)) (wc : (Jvm.Cond.constantLong y.cls i v).before a0 Z = true) (hp : pc' = pc + 3) (w : WP p e below s n0 k n Q T (mkF m pc' Ls (.long v :: S))) : WP p e below s n0 k n Q T (mkF m pc Ls (S)) := by
  obtain ⟨⟨hx, hZ, hby, hml, hown, hnm, hret, hlk, h00⟩, hT, locs, X, N⟩ := X
  subst hp
  exact w.step fun t kk => X.ldc2Long hx hown (mvT (d := Jvm.Cond.constantLong y.cls i v) hZ wc) (g := mkF m pc Ls S) rfl (hb hby hd) t kk
theorem w_iadd (X : St p l e R s m args below meth c Z n0 y code maxL ret T h cells slots) {x z : Int32} (hd : decode code pc = .ok (.iadd, 1)) (hp : pc' = pc + 1) (w : WP p e below s n0 k n Q T (mkF m pc' Ls (.int (x + z) :: S))) : WP p e below s n0 k n Q T (mkF m pc Ls (.int z :: .int x :: S)) := by
  obtain ⟨⟨hx, hZ, hby, hml, hown, hnm, hret, hlk, h00⟩, hT, locs, X, N⟩ := X
  subst hp
  exact w.step fun t kk => XS.iadd X.here hx rfl (hb hby hd) rfl kk
theorem w_ladd (X : St p l e R s m args below meth c Z n0 y code maxL ret T h cells slots) {x z : Int64} (hd : decode code pc = .ok (.ladd, 1)) (hp : pc' = pc + 1) (w : WP p e below s n0 k n Q T (mkF m pc' Ls (.long (x + z) :: S))) : WP p e below s n0 k n Q T (mkF m pc Ls (.long z :: .long x :: S)) := by
  obtain ⟨⟨hx, hZ, hby, hml, hown, hnm, hret, hlk, h00⟩, hT, locs, X, N⟩ := X
  subst hp
  exact w.step fun t kk => XS.ladd X.here hx rfl (hb hby hd) rfl kk
theorem w_isub (X : St p l e R s m args below meth c Z n0 y code maxL ret T h cells slots) {x z : Int32} (hd : decode code pc = .ok (.isub, 1)) (hp : pc' = pc + 1) (w : WP p e below s n0 k n Q T (mkF m pc' Ls (.int (x - z) :: S))) : WP p e below s n0 k n Q T (mkF m pc Ls (.int z :: .int x :: S)) := by
  obtain ⟨⟨hx, hZ, hby, hml, hown, hnm, hret, hlk, h00⟩, hT, locs, X, N⟩ := X
  subst hp
  exact w.step fun t kk => XS.isub X.here hx rfl (hb hby hd) rfl kk
theorem w_lsub (X : St p l e R s m args below meth c Z n0 y code maxL ret T h cells slots) {x z : Int64} (hd : decode code pc = .ok (.lsub, 1)) (hp : pc' = pc + 1) (w : WP p e below s n0 k n Q T (mkF m pc' Ls (.long (x - z) :: S))) : WP p e below s n0 k n Q T (mkF m pc Ls (.long z :: .long x :: S)) := by
  obtain ⟨⟨hx, hZ, hby, hml, hown, hnm, hret, hlk, h00⟩, hT, locs, X, N⟩ := X
  subst hp
  exact w.step fun t kk => XS.lsub X.here hx rfl (hb hby hd) rfl kk
theorem w_imul (X : St p l e R s m args below meth c Z n0 y code maxL ret T h cells slots) {x z : Int32} (hd : decode code pc = .ok (.imul, 1)) (hp : pc' = pc + 1) (w : WP p e below s n0 k n Q T (mkF m pc' Ls (.int (x * z) :: S))) : WP p e below s n0 k n Q T (mkF m pc Ls (.int z :: .int x :: S)) := by
  obtain ⟨⟨hx, hZ, hby, hml, hown, hnm, hret, hlk, h00⟩, hT, locs, X, N⟩ := X
  subst hp
  exact w.step fun t kk => XS.imul X.here hx rfl (hb hby hd) rfl kk
theorem w_lmul (X : St p l e R s m args below meth c Z n0 y code maxL ret T h cells slots) {x z : Int64} (hd : decode code pc = .ok (.lmul, 1)) (hp : pc' = pc + 1) (w : WP p e below s n0 k n Q T (mkF m pc' Ls (.long (x * z) :: S))) : WP p e below s n0 k n Q T (mkF m pc Ls (.long z :: .long x :: S)) := by
  obtain ⟨⟨hx, hZ, hby, hml, hown, hnm, hret, hlk, h00⟩, hT, locs, X, N⟩ := X
  subst hp
  exact w.step fun t kk => XS.lmul X.here hx rfl (hb hby hd) rfl kk
theorem w_iand (X : St p l e R s m args below meth c Z n0 y code maxL ret T h cells slots) {x z : Int32} (hd : decode code pc = .ok (.iand, 1)) (hp : pc' = pc + 1) (w : WP p e below s n0 k n Q T (mkF m pc' Ls (.int (x &&& z) :: S))) : WP p e below s n0 k n Q T (mkF m pc Ls (.int z :: .int x :: S)) := by
  obtain ⟨⟨hx, hZ, hby, hml, hown, hnm, hret, hlk, h00⟩, hT, locs, X, N⟩ := X
  subst hp
  exact w.step fun t kk => XS.iand X.here hx rfl (hb hby hd) rfl kk
theorem w_land (X : St p l e R s m args below meth c Z n0 y code maxL ret T h cells slots) {x z : Int64} (hd : decode code pc = .ok (.land, 1)) (hp : pc' = pc + 1) (w : WP p e below s n0 k n Q T (mkF m pc' Ls (.long (x &&& z) :: S))) : WP p e below s n0 k n Q T (mkF m pc Ls (.long z :: .long x :: S)) := by
  obtain ⟨⟨hx, hZ, hby, hml, hown, hnm, hret, hlk, h00⟩, hT, locs, X, N⟩ := X
  subst hp
  exact w.step fun t kk => XS.land X.here hx rfl (hb hby hd) rfl kk
theorem w_ior (X : St p l e R s m args below meth c Z n0 y code maxL ret T h cells slots) {x z : Int32} (hd : decode code pc = .ok (.ior, 1)) (hp : pc' = pc + 1) (w : WP p e below s n0 k n Q T (mkF m pc' Ls (.int (x ||| z) :: S))) : WP p e below s n0 k n Q T (mkF m pc Ls (.int z :: .int x :: S)) := by
  obtain ⟨⟨hx, hZ, hby, hml, hown, hnm, hret, hlk, h00⟩, hT, locs, X, N⟩ := X
  subst hp
  exact w.step fun t kk => XS.ior X.here hx rfl (hb hby hd) rfl kk
theorem w_lor (X : St p l e R s m args below meth c Z n0 y code maxL ret T h cells slots) {x z : Int64} (hd : decode code pc = .ok (.lor, 1)) (hp : pc' = pc + 1) (w : WP p e below s n0 k n Q T (mkF m pc' Ls (.long (x ||| z) :: S))) : WP p e below s n0 k n Q T (mkF m pc Ls (.long z :: .long x :: S)) := by
  obtain ⟨⟨hx, hZ, hby, hml, hown, hnm, hret, hlk, h00⟩, hT, locs, X, N⟩ := X
  subst hp
  exact w.step fun t kk => XS.lor X.here hx rfl (hb hby hd) rfl kk
theorem w_ixor (X : St p l e R s m args below meth c Z n0 y code maxL ret T h cells slots) {x z : Int32} (hd : decode code pc = .ok (.ixor, 1)) (hp : pc' = pc + 1) (w : WP p e below s n0 k n Q T (mkF m pc' Ls (.int (x ^^^ z) :: S))) : WP p e below s n0 k n Q T (mkF m pc Ls (.int z :: .int x :: S)) := by
  obtain ⟨⟨hx, hZ, hby, hml, hown, hnm, hret, hlk, h00⟩, hT, locs, X, N⟩ := X
  subst hp
  exact w.step fun t kk => XS.ixor X.here hx rfl (hb hby hd) rfl kk
theorem w_lxor (X : St p l e R s m args below meth c Z n0 y code maxL ret T h cells slots) {x z : Int64} (hd : decode code pc = .ok (.lxor, 1)) (hp : pc' = pc + 1) (w : WP p e below s n0 k n Q T (mkF m pc' Ls (.long (x ^^^ z) :: S))) : WP p e below s n0 k n Q T (mkF m pc Ls (.long z :: .long x :: S)) := by
  obtain ⟨⟨hx, hZ, hby, hml, hown, hnm, hret, hlk, h00⟩, hT, locs, X, N⟩ := X
  subst hp
  exact w.step fun t kk => XS.lxor X.here hx rfl (hb hby hd) rfl kk
theorem w_ineg (X : St p l e R s m args below meth c Z n0 y code maxL ret T h cells slots) {x : Int32} (hd : decode code pc = .ok (.ineg, 1)) (hp : pc' = pc + 1) (w : WP p e below s n0 k n Q T (mkF m pc' Ls (.int (-x) :: S))) : WP p e below s n0 k n Q T (mkF m pc Ls (.int x :: S)) := by
  obtain ⟨⟨hx, hZ, hby, hml, hown, hnm, hret, hlk, h00⟩, hT, locs, X, N⟩ := X
  subst hp
  exact w.step fun t kk => XS.ineg X.here hx rfl (hb hby hd) rfl kk
theorem w_lneg (X : St p l e R s m args below meth c Z n0 y code maxL ret T h cells slots) {x : Int64} (hd : decode code pc = .ok (.lneg, 1)) (hp : pc' = pc + 1) (w : WP p e below s n0 k n Q T (mkF m pc' Ls (.long (-x) :: S))) : WP p e below s n0 k n Q T (mkF m pc Ls (.long x :: S)) := by
  obtain ⟨⟨hx, hZ, hby, hml, hown, hnm, hret, hlk, h00⟩, hT, locs, X, N⟩ := X
  subst hp
  exact w.step fun t kk => XS.lneg X.here hx rfl (hb hby hd) rfl kk
theorem w_idiv (X : St p l e R s m args below meth c Z n0 y code maxL ret T h cells slots) {x z : Int32} (hd : decode code pc = .ok (.idiv, 1)) (hz : z ≠ 0) (hp : pc' = pc + 1) (w : WP p e below s n0 k n Q T (mkF m pc' Ls (.int (x / z) :: S))) : WP p e below s n0 k n Q T (mkF m pc Ls (.int z :: .int x :: S)) := by
  obtain ⟨⟨hx, hZ, hby, hml, hown, hnm, hret, hlk, h00⟩, hT, locs, X, N⟩ := X
  subst hp
  exact w.step fun t kk => XS.idiv X.here hx rfl (hb hby hd) rfl hz kk
theorem w_irem (X : St p l e R s m args below meth c Z n0 y code maxL ret T h cells slots) {x z : Int32} (hd : decode code pc = .ok (.irem, 1)) (hz : z ≠ 0) (hp : pc' = pc + 1) (w : WP p e below s n0 k n Q T (mkF m pc' Ls (.int (x % z) :: S))) : WP p e below s n0 k n Q T (mkF m pc Ls (.int z :: .int x :: S)) := by
  obtain ⟨⟨hx, hZ, hby, hml, hown, hnm, hret, hlk, h00⟩, hT, locs, X, N⟩ := X
  subst hp
  exact w.step fun t kk => iremM X hx rfl (hb hby hd) rfl hz kk
theorem w_ldiv (X : St p l e R s m args below meth c Z n0 y code maxL ret T h cells slots) {x z : Int64} (hd : decode code pc = .ok (.ldiv, 1)) (hz : z ≠ 0) (hp : pc' = pc + 1) (w : WP p e below s n0 k n Q T (mkF m pc' Ls (.long (x / z) :: S))) : WP p e below s n0 k n Q T (mkF m pc Ls (.long z :: .long x :: S)) := by
  obtain ⟨⟨hx, hZ, hby, hml, hown, hnm, hret, hlk, h00⟩, hT, locs, X, N⟩ := X
  subst hp
  exact w.step fun t kk => XS.ldiv X.here hx rfl (hb hby hd) rfl hz kk
theorem w_lrem (X : St p l e R s m args below meth c Z n0 y code maxL ret T h cells slots) {x z : Int64} (hd : decode code pc = .ok (.lrem, 1)) (hz : z ≠ 0) (hp : pc' = pc + 1) (w : WP p e below s n0 k n Q T (mkF m pc' Ls (.long (x % z) :: S))) : WP p e below s n0 k n Q T (mkF m pc Ls (.long z :: .long x :: S)) := by
  obtain ⟨⟨hx, hZ, hby, hml, hown, hnm, hret, hlk, h00⟩, hT, locs, X, N⟩ := X
  subst hp
  exact w.step fun t kk => XS.lrem X.here hx rfl (hb hby hd) rfl hz (by rw [lrem_mod]; exact kk)
theorem w_ishl (X : St p l e R s m args below meth c Z n0 y code maxL ret T h cells slots) {x z : Int32} (hd : decode code pc = .ok (.ishl, 1)) (hp : pc' = pc + 1) (w : WP p e below s n0 k n Q T (mkF m pc' Ls (.int (x <<< (z &&& 31)) :: S))) : WP p e below s n0 k n Q T (mkF m pc Ls (.int z :: .int x :: S)) := by
  obtain ⟨⟨hx, hZ, hby, hml, hown, hnm, hret, hlk, h00⟩, hT, locs, X, N⟩ := X
  subst hp
  exact w.step fun t kk => XS.ishl X.here hx rfl (hb hby hd) rfl kk
theorem w_ishr (X : St p l e R s m args below meth c Z n0 y code maxL ret T h cells slots) {x z : Int32} (hd : decode code pc = .ok (.ishr, 1)) (hp : pc' = pc + 1) (w : WP p e below s n0 k n Q T (mkF m pc' Ls (.int (x >>> (z &&& 31)) :: S))) : WP p e below s n0 k n Q T (mkF m pc Ls (.int z :: .int x :: S)) := by
  obtain ⟨⟨hx, hZ, hby, hml, hown, hnm, hret, hlk, h00⟩, hT, locs, X, N⟩ := X
  subst hp
  exact w.step fun t kk => XS.ishr X.here hx rfl (hb hby hd) rfl kk
theorem w_iushr (X : St p l e R s m args below meth c Z n0 y code maxL ret T h cells slots) {x z : Int32} (hd : decode code pc = .ok (.iushr, 1)) (hp : pc' = pc + 1) (w : WP p e below s n0 k n Q T (mkF m pc' Ls (.int ((x.toUInt32 >>> (z &&& 31).toUInt32).toInt32) :: S))) : WP p e below s n0 k n Q T (mkF m pc Ls (.int z :: .int x :: S)) := by
  obtain ⟨⟨hx, hZ, hby, hml, hown, hnm, hret, hlk, h00⟩, hT, locs, X, N⟩ := X
  subst hp
  exact w.step fun t kk => XS.iushr X.here hx rfl (hb hby hd) rfl kk
theorem w_lshl (X : St p l e R s m args below meth c Z n0 y code maxL ret T h cells slots) {x : Int64} {z : Int32} (hd : decode code pc = .ok (.lshl, 1)) (hp : pc' = pc + 1) (w : WP p e below s n0 k n Q T (mkF m pc' Ls (.long (x <<< (z &&& 0x3f).toInt64) :: S))) : WP p e below s n0 k n Q T (mkF m pc Ls (.int z :: .long x :: S)) := by
  obtain ⟨⟨hx, hZ, hby, hml, hown, hnm, hret, hlk, h00⟩, hT, locs, X, N⟩ := X
  subst hp
  exact w.step fun t kk => XS.lshl X.here hx rfl (hb hby hd) rfl kk
theorem w_lshr (X : St p l e R s m args below meth c Z n0 y code maxL ret T h cells slots) {x : Int64} {z : Int32} (hd : decode code pc = .ok (.lshr, 1)) (hp : pc' = pc + 1) (w : WP p e below s n0 k n Q T (mkF m pc' Ls (.long (x >>> (z &&& 0x3f).toInt64) :: S))) : WP p e below s n0 k n Q T (mkF m pc Ls (.int z :: .long x :: S)) := by
  obtain ⟨⟨hx, hZ, hby, hml, hown, hnm, hret, hlk, h00⟩, hT, locs, X, N⟩ := X
  subst hp
  exact w.step fun t kk => XS.lshr X.here hx rfl (hb hby hd) rfl kk
theorem w_lushr (X : St p l e R s m args below meth c Z n0 y code maxL ret T h cells slots) {x : Int64} {z : Int32} (hd : decode code pc = .ok (.lushr, 1)) (hp : pc' = pc + 1) (w : WP p e below s n0 k n Q T (mkF m pc' Ls (.long ((x.toUInt64 >>> (z &&& 0x3f).toInt64.toUInt64).toInt64) :: S))) : WP p e below s n0 k n Q T (mkF m pc Ls (.int z :: .long x :: S)) := by
  obtain ⟨⟨hx, hZ, hby, hml, hown, hnm, hret, hlk, h00⟩, hT, locs, X, N⟩ := X
  subst hp
  exact w.step fun t kk => XS.lushr X.here hx rfl (hb hby hd) rfl kk
theorem w_i2b (X : St p l e R s m args below meth c Z n0 y code maxL ret T h cells slots) {x : Int32} (hd : decode code pc = .ok (.i2b, 1)) (hp : pc' = pc + 1) (w : WP p e below s n0 k n Q T (mkF m pc' Ls (.int x.toInt8.toInt32 :: S))) : WP p e below s n0 k n Q T (mkF m pc Ls (.int x :: S)) := by
  obtain ⟨⟨hx, hZ, hby, hml, hown, hnm, hret, hlk, h00⟩, hT, locs, X, N⟩ := X
  subst hp
  exact w.step fun t kk => XS.i2b X.here hx rfl (hb hby hd) rfl kk
theorem w_i2c (X : St p l e R s m args below meth c Z n0 y code maxL ret T h cells slots) {x : Int32} (hd : decode code pc = .ok (.i2c, 1)) (hp : pc' = pc + 1) (w : WP p e below s n0 k n Q T (mkF m pc' Ls (.int x.toUInt32.toUInt16.toUInt32.toInt32 :: S))) : WP p e below s n0 k n Q T (mkF m pc Ls (.int x :: S)) := by
  obtain ⟨⟨hx, hZ, hby, hml, hown, hnm, hret, hlk, h00⟩, hT, locs, X, N⟩ := X
  subst hp
  exact w.step fun t kk => XS.i2c X.here hx rfl (hb hby hd) rfl kk
theorem w_i2s (X : St p l e R s m args below meth c Z n0 y code maxL ret T h cells slots) {x : Int32} (hd : decode code pc = .ok (.i2s, 1)) (hp : pc' = pc + 1) (w : WP p e below s n0 k n Q T (mkF m pc' Ls (.int x.toInt16.toInt32 :: S))) : WP p e below s n0 k n Q T (mkF m pc Ls (.int x :: S)) := by
  obtain ⟨⟨hx, hZ, hby, hml, hown, hnm, hret, hlk, h00⟩, hT, locs, X, N⟩ := X
  subst hp
  exact w.step fun t kk => XS.i2s X.here hx rfl (hb hby hd) rfl kk
theorem w_i2l (X : St p l e R s m args below meth c Z n0 y code maxL ret T h cells slots) {x : Int32} (hd : decode code pc = .ok (.i2l, 1)) (hp : pc' = pc + 1) (w : WP p e below s n0 k n Q T (mkF m pc' Ls (.long x.toInt64 :: S))) : WP p e below s n0 k n Q T (mkF m pc Ls (.int x :: S)) := by
  obtain ⟨⟨hx, hZ, hby, hml, hown, hnm, hret, hlk, h00⟩, hT, locs, X, N⟩ := X
  subst hp
  exact w.step fun t kk => XS.i2l X.here hx rfl (hb hby hd) rfl kk
theorem w_l2i (X : St p l e R s m args below meth c Z n0 y code maxL ret T h cells slots) {x : Int64} (hd : decode code pc = .ok (.l2i, 1)) (hp : pc' = pc + 1) (w : WP p e below s n0 k n Q T (mkF m pc' Ls (.int x.toInt32 :: S))) : WP p e below s n0 k n Q T (mkF m pc Ls (.long x :: S)) := by
  obtain ⟨⟨hx, hZ, hby, hml, hown, hnm, hret, hlk, h00⟩, hT, locs, X, N⟩ := X
  subst hp
  exact w.step fun t kk => XS.l2i X.here hx rfl (hb hby hd) rfl kk
theorem w_lcmp (X : St p l e R s m args below meth c Z n0 y code maxL ret T h cells slots) {x z : Int64} (hd : decode code pc = .ok (.lcmp, 1)) (hp : pc' = pc + 1) (w : WP p e below s n0 k n Q T (mkF m pc' Ls (.int (lcmpW x z) :: S))) : WP p e below s n0 k n Q T (mkF m pc Ls (.long z :: .long x :: S)) := by
  obtain ⟨⟨hx, hZ, hby, hml, hown, hnm, hret, hlk, h00⟩, hT, locs, X, N⟩ := X
  subst hp
  exact w.step fun t kk => XS.lcmp X.here hx rfl (hb hby hd) rfl kk
theorem w_dup (X : St p l e R s m args below meth c Z n0 y code maxL ret T h cells slots) {v : Value} (hd : decode code pc = .ok (.dup, 1)) (hv : v.category = 1) (hp : pc' = pc + 1) (w : WP p e below s n0 k n Q T (mkF m pc' Ls (v :: v :: S))) : WP p e below s n0 k n Q T (mkF m pc Ls (v :: S)) := by
  obtain ⟨⟨hx, hZ, hby, hml, hown, hnm, hret, hlk, h00⟩, hT, locs, X, N⟩ := X
  subst hp
  exact w.step fun t kk => XS.dup X.here hx rfl (hb hby hd) rfl hv kk
theorem w_pop (X : St p l e R s m args below meth c Z n0 y code maxL ret T h cells slots) {v : Value} (hd : decode code pc = .ok (.pop, 1)) (hv : v.category = 1) (hp : pc' = pc + 1) (w : WP p e below s n0 k n Q T (mkF m pc' Ls (S))) : WP p e below s n0 k n Q T (mkF m pc Ls (v :: S)) := by
  obtain ⟨⟨hx, hZ, hby, hml, hown, hnm, hret, hlk, h00⟩, hT, locs, X, N⟩ := X
  subst hp
  exact w.step fun t kk => XS.pop X.here hx rfl (hb hby hd) rfl hv kk
theorem w_dup_x1 (X : St p l e R s m args below meth c Z n0 y code maxL ret T h cells slots) {v u : Value} (hd : decode code pc = .ok (.dup_x1, 1)) (hv : v.category = 1) (hu : u.category = 1) (hp : pc' = pc + 1) (w : WP p e below s n0 k n Q T (mkF m pc' Ls (v :: u :: v :: S))) : WP p e below s n0 k n Q T (mkF m pc Ls (v :: u :: S)) := by
  obtain ⟨⟨hx, hZ, hby, hml, hown, hnm, hret, hlk, h00⟩, hT, locs, X, N⟩ := X
  subst hp
  exact w.step fun t kk => XS.dupX1 X.here hx rfl (hb hby hd) rfl hv hu kk
theorem w_dup2 (X : St p l e R s m args below meth c Z n0 y code maxL ret T h cells slots) {j : Int32} {a : Addr} (hd : decode code pc = .ok (.dup2, 1)) (hp : pc' = pc + 1) (w : WP p e below s n0 k n Q T (mkF m pc' Ls (.int j :: .ref a :: .int j :: .ref a :: S))) : WP p e below s n0 k n Q T (mkF m pc Ls (.int j :: .ref a :: S)) := by
  obtain ⟨⟨hx, hZ, hby, hml, hown, hnm, hret, hlk, h00⟩, hT, locs, X, N⟩ := X
  subst hp
  refine w.step fun t kk => ?_
  have hd' := hb hby hd
  jvm_step X.here [X.here.top, hx, hd', Value.category]
  exact kk
theorem w_goto (X : St p l e R s m args below meth c Z n0 y code maxL ret T h cells slots) {o : Int} (hd : decode code pc = .ok (.goto o, 3)) (ho : 0 ≤ (pc : Int) + o) (hp : ((pc : Int) + o).toNat = pc') (w : WP p e below s n0 k n Q T (mkF m pc' Ls S)) : WP p e below s n0 k n Q T (mkF m pc Ls S) := by
  obtain ⟨⟨hx, hZ, hby, hml, hown, hnm, hret, hlk, h00⟩, hT, locs, X, N⟩ := X
  exact w.step fun t kk => XS.goto X.here hx rfl rfl (hb hby hd) ho hp kk
theorem w_icmp_lt (X : St p l e R s m args below meth c Z n0 y code maxL ret T h cells slots) {o : Int} {x z : Int32} {p1 p2 : Nat} (hd : decode code pc = .ok (.if_icmp .lt o, 3)) (ho : 0 ≤ (pc : Int) + o) (h1 : ((pc : Int) + o).toNat = p1) (h2 : p2 = pc + 3) (wt : x < z → WP p e below s n0 k n Q T (mkF m p1 Ls S)) (wf : ¬ x < z → WP p e below s n0 k n Q T (mkF m p2 Ls S)) : WP p e below s n0 k n Q T (mkF m pc Ls (.int z :: .int x :: S)) := by
  obtain ⟨⟨hx, hZ, hby, hml, hown, hnm, hret, hlk, h00⟩, hT, locs, X, N⟩ := X
  subst h2
  by_cases q0 : x < z
  · have q := q0
    exact (wt q).step fun t kk => XS.icmpYes X.here hx rfl rfl (hb hby hd) rfl (tlt q).1 ho h1 kk
  · have q := q0
    exact (wf q).step fun t kk => XS.icmpNo X.here hx rfl (hb hby hd) rfl (flt q).1 kk
theorem w_if_lt (X : St p l e R s m args below meth c Z n0 y code maxL ret T h cells slots) {o : Int} {x : Int32} {p1 p2 : Nat} (hd : decode code pc = .ok (.ifCond .lt o, 3)) (ho : 0 ≤ (pc : Int) + o) (h1 : ((pc : Int) + o).toNat = p1) (h2 : p2 = pc + 3) (wt : x < (0 : Int32) → WP p e below s n0 k n Q T (mkF m p1 Ls S)) (wf : ¬ x < (0 : Int32) → WP p e below s n0 k n Q T (mkF m p2 Ls S)) : WP p e below s n0 k n Q T (mkF m pc Ls (.int x :: S)) := by
  obtain ⟨⟨hx, hZ, hby, hml, hown, hnm, hret, hlk, h00⟩, hT, locs, X, N⟩ := X
  subst h2
  by_cases q0 : x < (0 : Int32)
  · have q := q0
    exact (wt q).step fun t kk => XS.ifYes X.here hx rfl rfl (hb hby hd) rfl ((if0 _ _).trans (tlt q).1) ho h1 kk
  · have q := q0
    exact (wf q).step fun t kk => XS.ifNo X.here hx rfl (hb hby hd) rfl ((if0 _ _).trans (flt q).1) kk
theorem w_lcmp_lt (X : St p l e R s m args below meth c Z n0 y code maxL ret T h cells slots) {o : Int} {x z : Int64} {p0 p1 p2 : Nat} (hd0 : decode code pc = .ok (.lcmp, 1)) (h0 : p0 = pc + 1) (hd : decode code p0 = .ok (.ifCond .lt o, 3)) (ho : 0 ≤ (p0 : Int) + o) (h1 : ((p0 : Int) + o).toNat = p1) (h2 : p2 = p0 + 3) (wt : x < z → WP p e below s n0 k n Q T (mkF m p1 Ls S)) (wf : ¬ x < z → WP p e below s n0 k n Q T (mkF m p2 Ls S)) : WP p e below s n0 k n Q T (mkF m pc Ls (.long z :: .long x :: S)) :=
  w_lcmp X hd0 h0 (w_if_lt X hd ho h1 h2 (fun q => wt ((lw_lt _ _).mp q)) (fun q => wf (fun u => q ((lw_lt _ _).mpr u))))
theorem w_icmp_ge (X : St p l e R s m args below meth c Z n0 y code maxL ret T h cells slots) {o : Int} {x z : Int32} {p1 p2 : Nat} (hd : decode code pc = .ok (.if_icmp .ge o, 3)) (ho : 0 ≤ (pc : Int) + o) (h1 : ((pc : Int) + o).toNat = p1) (h2 : p2 = pc + 3) (wt : ¬ x < z → WP p e below s n0 k n Q T (mkF m p1 Ls S)) (wf : x < z → WP p e below s n0 k n Q T (mkF m p2 Ls S)) : WP p e below s n0 k n Q T (mkF m pc Ls (.int z :: .int x :: S)) := by
  obtain ⟨⟨hx, hZ, hby, hml, hown, hnm, hret, hlk, h00⟩, hT, locs, X, N⟩ := X
  subst h2
  by_cases q0 : x < z
  · have q := q0
    exact (wf q).step fun t kk => XS.icmpNo X.here hx rfl (hb hby hd) rfl (tlt q).2.1 kk
  · have q := q0
    exact (wt q).step fun t kk => XS.icmpYes X.here hx rfl rfl (hb hby hd) rfl (flt q).2.1 ho h1 kk
theorem w_if_ge (X : St p l e R s m args below meth c Z n0 y code maxL ret T h cells slots) {o : Int} {x : Int32} {p1 p2 : Nat} (hd : decode code pc = .ok (.ifCond .ge o, 3)) (ho : 0 ≤ (pc : Int) + o) (h1 : ((pc : Int) + o).toNat = p1) (h2 : p2 = pc + 3) (wt : ¬ x < (0 : Int32) → WP p e below s n0 k n Q T (mkF m p1 Ls S)) (wf : x < (0 : Int32) → WP p e below s n0 k n Q T (mkF m p2 Ls S)) : WP p e below s n0 k n Q T (mkF m pc Ls (.int x :: S)) := by
  obtain ⟨⟨hx, hZ, hby, hml, hown, hnm, hret, hlk, h00⟩, hT, locs, X, N⟩ := X
  subst h2
  by_cases q0 : x < (0 : Int32)
  · have q := q0
    exact (wf q).step fun t kk => XS.ifNo X.here hx rfl (hb hby hd) rfl ((if0 _ _).trans (tlt q).2.1) kk
  · have q := q0
    exact (wt q).step fun t kk => XS.ifYes X.here hx rfl rfl (hb hby hd) rfl ((if0 _ _).trans (flt q).2.1) ho h1 kk
theorem w_lcmp_ge (X : St p l e R s m args below meth c Z n0 y code maxL ret T h cells slots) {o : Int} {x z : Int64} {p0 p1 p2 : Nat} (hd0 : decode code pc = .ok (.lcmp, 1)) (h0 : p0 = pc + 1) (hd : decode code p0 = .ok (.ifCond .ge o, 3)) (ho : 0 ≤ (p0 : Int) + o) (h1 : ((p0 : Int) + o).toNat = p1) (h2 : p2 = p0 + 3) (wt : ¬ x < z → WP p e below s n0 k n Q T (mkF m p1 Ls S)) (wf : x < z → WP p e below s n0 k n Q T (mkF m p2 Ls S)) : WP p e below s n0 k n Q T (mkF m pc Ls (.long z :: .long x :: S)) :=
  w_lcmp X hd0 h0 (w_if_ge X hd ho h1 h2 (fun q => wt (fun u => q ((lw_lt _ _).mpr u))) (fun q => wf ((lw_lt _ _).mp q)))
theorem w_icmp_gt (X : St p l e R s m args below meth c Z n0 y code maxL ret T h cells slots) {o : Int} {x z : Int32} {p1 p2 : Nat} (hd : decode code pc = .ok (.if_icmp .gt o, 3)) (ho : 0 ≤ (pc : Int) + o) (h1 : ((pc : Int) + o).toNat = p1) (h2 : p2 = pc + 3) (wt : z < x → WP p e below s n0 k n Q T (mkF m p1 Ls S)) (wf : ¬ z < x → WP p e below s n0 k n Q T (mkF m p2 Ls S)) : WP p e below s n0 k n Q T (mkF m pc Ls (.int z :: .int x :: S)) := by
  obtain ⟨⟨hx, hZ, hby, hml, hown, hnm, hret, hlk, h00⟩, hT, locs, X, N⟩ := X
  subst h2
  by_cases q0 : z < x
  · have q := q0
    exact (wt q).step fun t kk => XS.icmpYes X.here hx rfl rfl (hb hby hd) rfl (tlt q).2.2.1 ho h1 kk
  · have q := q0
    exact (wf q).step fun t kk => XS.icmpNo X.here hx rfl (hb hby hd) rfl (flt q).2.2.1 kk
theorem w_if_gt (X : St p l e R s m args below meth c Z n0 y code maxL ret T h cells slots) {o : Int} {x : Int32} {p1 p2 : Nat} (hd : decode code pc = .ok (.ifCond .gt o, 3)) (ho : 0 ≤ (pc : Int) + o) (h1 : ((pc : Int) + o).toNat = p1) (h2 : p2 = pc + 3) (wt : (0 : Int32) < x → WP p e below s n0 k n Q T (mkF m p1 Ls S)) (wf : ¬ (0 : Int32) < x → WP p e below s n0 k n Q T (mkF m p2 Ls S)) : WP p e below s n0 k n Q T (mkF m pc Ls (.int x :: S)) := by
  obtain ⟨⟨hx, hZ, hby, hml, hown, hnm, hret, hlk, h00⟩, hT, locs, X, N⟩ := X
  subst h2
  by_cases q0 : (0 : Int32) < x
  · have q := q0
    exact (wt q).step fun t kk => XS.ifYes X.here hx rfl rfl (hb hby hd) rfl ((if0 _ _).trans (tlt q).2.2.1) ho h1 kk
  · have q := q0
    exact (wf q).step fun t kk => XS.ifNo X.here hx rfl (hb hby hd) rfl ((if0 _ _).trans (flt q).2.2.1) kk
theorem w_lcmp_gt (X : St p l e R s m args below meth c Z n0 y code maxL ret T h cells slots) {o : Int} {x z : Int64} {p0 p1 p2 : Nat} (hd0 : decode code pc = .ok (.lcmp, 1)) (h0 : p0 = pc + 1) (hd : decode code p0 = .ok (.ifCond .gt o, 3)) (ho : 0 ≤ (p0 : Int) + o) (h1 : ((p0 : Int) + o).toNat = p1) (h2 : p2 = p0 + 3) (wt : z < x → WP p e below s n0 k n Q T (mkF m p1 Ls S)) (wf : ¬ z < x → WP p e below s n0 k n Q T (mkF m p2 Ls S)) : WP p e below s n0 k n Q T (mkF m pc Ls (.long z :: .long x :: S)) :=
  w_lcmp X hd0 h0 (w_if_gt X hd ho h1 h2 (fun q => wt ((lw_gt _ _).mp q)) (fun q => wf (fun u => q ((lw_gt _ _).mpr u))))
theorem w_icmp_le (X : St p l e R s m args below meth c Z n0 y code maxL ret T h cells slots) {o : Int} {x z : Int32} {p1 p2 : Nat} (hd : decode code pc = .ok (.if_icmp .le o, 3)) (ho : 0 ≤ (pc : Int) + o) (h1 : ((pc : Int) + o).toNat = p1) (h2 : p2 = pc + 3) (wt : ¬ z < x → WP p e below s n0 k n Q T (mkF m p1 Ls S)) (wf : z < x → WP p e below s n0 k n Q T (mkF m p2 Ls S)) : WP p e below s n0 k n Q T (mkF m pc Ls (.int z :: .int x :: S)) := by
  obtain ⟨⟨hx, hZ, hby, hml, hown, hnm, hret, hlk, h00⟩, hT, locs, X, N⟩ := X
  subst h2
  by_cases q0 : z < x
  · have q := q0
    exact (wf q).step fun t kk => XS.icmpNo X.here hx rfl (hb hby hd) rfl (tlt q).2.2.2 kk
  · have q := q0
    exact (wt q).step fun t kk => XS.icmpYes X.here hx rfl rfl (hb hby hd) rfl (flt q).2.2.2 ho h1 kk
theorem w_if_le (X : St p l e R s m args below meth c Z n0 y code maxL ret T h cells slots) {o : Int} {x : Int32} {p1 p2 : Nat} (hd : decode code pc = .ok (.ifCond .le o, 3)) (ho : 0 ≤ (pc : Int) + o) (h1 : ((pc : Int) + o).toNat = p1) (h2 : p2 = pc + 3) (wt : ¬ (0 : Int32) < x → WP p e below s n0 k n Q T (mkF m p1 Ls S)) (wf : (0 : Int32) < x → WP p e below s n0 k n Q T (mkF m p2 Ls S)) : WP p e below s n0 k n Q T (mkF m pc Ls (.int x :: S)) := by
  obtain ⟨⟨hx, hZ, hby, hml, hown, hnm, hret, hlk, h00⟩, hT, locs, X, N⟩ := X
  subst h2
  by_cases q0 : (0 : Int32) < x
  · have q := q0
    exact (wf q).step fun t kk => XS.ifNo X.here hx rfl (hb hby hd) rfl ((if0 _ _).trans (tlt q).2.2.2) kk
  · have q := q0
    exact (wt q).step fun t kk => XS.ifYes X.here hx rfl rfl (hb hby hd) rfl ((if0 _ _).trans (flt q).2.2.2) ho h1 kk
theorem w_lcmp_le (X : St p l e R s m args below meth c Z n0 y code maxL ret T h cells slots) {o : Int} {x z : Int64} {p0 p1 p2 : Nat} (hd0 : decode code pc = .ok (.lcmp, 1)) (h0 : p0 = pc + 1) (hd : decode code p0 = .ok (.ifCond .le o, 3)) (ho : 0 ≤ (p0 : Int) + o) (h1 : ((p0 : Int) + o).toNat = p1) (h2 : p2 = p0 + 3) (wt : ¬ z < x → WP p e below s n0 k n Q T (mkF m p1 Ls S)) (wf : z < x → WP p e below s n0 k n Q T (mkF m p2 Ls S)) : WP p e below s n0 k n Q T (mkF m pc Ls (.long z :: .long x :: S)) :=
  w_lcmp X hd0 h0 (w_if_le X hd ho h1 h2 (fun q => wt (fun u => q ((lw_gt _ _).mpr u))) (fun q => wf ((lw_gt _ _).mp q)))
theorem w_icmp_eq (X : St p l e R s m args below meth c Z n0 y code maxL ret T h cells slots) {o : Int} {x z : Int32} {p1 p2 : Nat} (hd : decode code pc = .ok (.if_icmp .eq o, 3)) (ho : 0 ≤ (pc : Int) + o) (h1 : ((pc : Int) + o).toNat = p1) (h2 : p2 = pc + 3) (wt : x = z → WP p e below s n0 k n Q T (mkF m p1 Ls S)) (wf : ¬ x = z → WP p e below s n0 k n Q T (mkF m p2 Ls S)) : WP p e below s n0 k n Q T (mkF m pc Ls (.int z :: .int x :: S)) := by
  obtain ⟨⟨hx, hZ, hby, hml, hown, hnm, hret, hlk, h00⟩, hT, locs, X, N⟩ := X
  subst h2
  by_cases q0 : x = z
  · have q := q0
    exact (wt q).step fun t kk => XS.icmpYes X.here hx rfl rfl (hb hby hd) rfl (teq q).1 ho h1 kk
  · have q := q0
    exact (wf q).step fun t kk => XS.icmpNo X.here hx rfl (hb hby hd) rfl (feq q).1 kk
theorem w_if_eq (X : St p l e R s m args below meth c Z n0 y code maxL ret T h cells slots) {o : Int} {x : Int32} {p1 p2 : Nat} (hd : decode code pc = .ok (.ifCond .eq o, 3)) (ho : 0 ≤ (pc : Int) + o) (h1 : ((pc : Int) + o).toNat = p1) (h2 : p2 = pc + 3) (wt : x = (0 : Int32) → WP p e below s n0 k n Q T (mkF m p1 Ls S)) (wf : ¬ x = (0 : Int32) → WP p e below s n0 k n Q T (mkF m p2 Ls S)) : WP p e below s n0 k n Q T (mkF m pc Ls (.int x :: S)) := by
  obtain ⟨⟨hx, hZ, hby, hml, hown, hnm, hret, hlk, h00⟩, hT, locs, X, N⟩ := X
  subst h2
  by_cases q0 : x = (0 : Int32)
  · have q := q0
    exact (wt q).step fun t kk => XS.ifYes X.here hx rfl rfl (hb hby hd) rfl ((if0 _ _).trans (teq q).1) ho h1 kk
  · have q := q0
    exact (wf q).step fun t kk => XS.ifNo X.here hx rfl (hb hby hd) rfl ((if0 _ _).trans (feq q).1) kk
theorem w_lcmp_eq (X : St p l e R s m args below meth c Z n0 y code maxL ret T h cells slots) {o : Int} {x z : Int64} {p0 p1 p2 : Nat} (hd0 : decode code pc = .ok (.lcmp, 1)) (h0 : p0 = pc + 1) (hd : decode code p0 = .ok (.ifCond .eq o, 3)) (ho : 0 ≤ (p0 : Int) + o) (h1 : ((p0 : Int) + o).toNat = p1) (h2 : p2 = p0 + 3) (wt : x = z → WP p e below s n0 k n Q T (mkF m p1 Ls S)) (wf : ¬ x = z → WP p e below s n0 k n Q T (mkF m p2 Ls S)) : WP p e below s n0 k n Q T (mkF m pc Ls (.long z :: .long x :: S)) :=
  w_lcmp X hd0 h0 (w_if_eq X hd ho h1 h2 (fun q => wt ((lw_eq _ _).mp q)) (fun q => wf (fun u => q ((lw_eq _ _).mpr u))))
theorem w_icmp_ne (X : St p l e R s m args below meth c Z n0 y code maxL ret T h cells slots) {o : Int} {x z : Int32} {p1 p2 : Nat} (hd : decode code pc = .ok (.if_icmp .ne o, 3)) (ho : 0 ≤ (pc : Int) + o) (h1 : ((pc : Int) + o).toNat = p1) (h2 : p2 = pc + 3) (wt : ¬ x = z → WP p e below s n0 k n Q T (mkF m p1 Ls S)) (wf : x = z → WP p e below s n0 k n Q T (mkF m p2 Ls S)) : WP p e below s n0 k n Q T (mkF m pc Ls (.int z :: .int x :: S)) := by
  obtain ⟨⟨hx, hZ, hby, hml, hown, hnm, hret, hlk, h00⟩, hT, locs, X, N⟩ := X
  subst h2
  by_cases q0 : x = z
  · have q := q0
    exact (wf q).step fun t kk => XS.icmpNo X.here hx rfl (hb hby hd) rfl (teq q).2 kk
  · have q := q0
    exact (wt q).step fun t kk => XS.icmpYes X.here hx rfl rfl (hb hby hd) rfl (feq q).2 ho h1 kk
theorem w_if_ne (X : St p l e R s m args below meth c Z n0 y code maxL ret T h cells slots) {o : Int} {x : Int32} {p1 p2 : Nat} (hd : decode code pc = .ok (.ifCond .ne o, 3)) (ho : 0 ≤ (pc : Int) + o) (h1 : ((pc : Int) + o).toNat = p1) (h2 : p2 = pc + 3) (wt : ¬ x = (0 : Int32) → WP p e below s n0 k n Q T (mkF m p1 Ls S)) (wf : x = (0 : Int32) → WP p e below s n0 k n Q T (mkF m p2 Ls S)) : WP p e below s n0 k n Q T (mkF m pc Ls (.int x :: S)) := by
  obtain ⟨⟨hx, hZ, hby, hml, hown, hnm, hret, hlk, h00⟩, hT, locs, X, N⟩ := X
  subst h2
  by_cases q0 : x = (0 : Int32)
  · have q := q0
    exact (wf q).step fun t kk => XS.ifNo X.here hx rfl (hb hby hd) rfl ((if0 _ _).trans (teq q).2) kk
  · have q := q0
    exact (wt q).step fun t kk => XS.ifYes X.here hx rfl rfl (hb hby hd) rfl ((if0 _ _).trans (feq q).2) ho h1 kk
theorem w_lcmp_ne (X : St p l e R s m args below meth c Z n0 y code maxL ret T h cells slots) {o : Int} {x z : Int64} {p0 p1 p2 : Nat} (hd0 : decode code pc = .ok (.lcmp, 1)) (h0 : p0 = pc + 1) (hd : decode code p0 = .ok (.ifCond .ne o, 3)) (ho : 0 ≤ (p0 : Int) + o) (h1 : ((p0 : Int) + o).toNat = p1) (h2 : p2 = p0 + 3) (wt : ¬ x = z → WP p e below s n0 k n Q T (mkF m p1 Ls S)) (wf : x = z → WP p e below s n0 k n Q T (mkF m p2 Ls S)) : WP p e below s n0 k n Q T (mkF m pc Ls (.long z :: .long x :: S)) :=
  w_lcmp X hd0 h0 (w_if_ne X hd ho h1 h2 (fun q => wt (fun u => q ((lw_eq _ _).mpr u))) (fun q => wf ((lw_eq _ _).mp q)))
theorem w_ifnull_ref (X : St p l e R s m args below meth c Z n0 y code maxL ret T h cells slots) {o : Int} {a : Addr} (hd : decode code pc = .ok (.ifnull o, 3)) (hp : pc' = pc + 3) (w : WP p e below s n0 k n Q T (mkF m pc' Ls S)) : WP p e below s n0 k n Q T (mkF m pc Ls (.ref a :: S)) := by
  obtain ⟨⟨hx, hZ, hby, hml, hown, hnm, hret, hlk, h00⟩, hT, locs, X, N⟩ := X
  subst hp
  exact w.step fun t kk => XS.ifnullNo X.here hx rfl (hb hby hd) rfl kk
theorem w_end (X : St p l e R s m args below meth c Z n0 y code maxL ret T h cells slots) {g : JFrame} {v : Option Value} (hv : ret = none → v = none) (hk : cells ≤ k) (hn : slots ≤ n) (hq : Q v h)
    (st : ∀ (locs : List Loc) (fs : List Frame), p.tables.exec = Jvm.exec → c.code = code → meth.sig.returnType = ret → Stand p l e R s m args below meth c T locs cells slots → (∀ (f : JFrame) (acts : List Action), f.method = m → f.locked = none → f.entered = [] → (doReturn e (T.setTop f) acts v).1 = T.setFrames fs) → Steps p.tables e below (T.setTop g) (T.setFrames fs)) : WP p e below s n0 k n Q T g := by
  obtain ⟨⟨hx, hZ, hby, hml, hown, hnm, hret, hlk, h00⟩, hT, locs, X, N⟩ := X
  obtain ⟨fs, hr, hrun, hended, hW, hsame⟩ := X.leave (v := v) (fun q => hv (hret ▸ q)) hlk
  refine ⟨_, _, st locs fs hx hby hret X hr, hrun, hended, _, _, rfl, ⟨?_, N⟩, ⟨_, rfl⟩, hW, hsame.mono hk hn⟩
  show Q v T.heap
  rw [hT]; exact hq
theorem w_retI (X : St p l e R s m args below meth c Z n0 y code maxL ret T h cells slots) {z : Int32} (hr : ret = some .int) (hd : decode code pc = .ok (.ireturn, 1)) (hk : cells ≤ k) (hn : slots ≤ n) (hq : Q (some (.int z)) h) : WP p e below s n0 k n Q T (mkF m pc Ls (.int z :: S)) :=
  w_end X (v := some (.int z)) (fun q => by rw [hr] at q; cases q) hk hn hq fun locs fs hx hby hret X hl => retOut X hx (hret.trans hr) rfl (Or.inl ⟨rfl, Or.inl rfl, z, rfl⟩) (hb hby hd) hl
theorem w_retJ (X : St p l e R s m args below meth c Z n0 y code maxL ret T h cells slots) {z : Int64} (hr : ret = some .long) (hd : decode code pc = .ok (.lreturn, 1)) (hk : cells ≤ k) (hn : slots ≤ n) (hq : Q (some (.long z)) h) : WP p e below s n0 k n Q T (mkF m pc Ls (.long z :: S)) :=
  w_end X (v := some (.long z)) (fun q => by rw [hr] at q; cases q) hk hn hq fun locs fs hx hby hret X hl => retOut X hx (hret.trans hr) rfl (Or.inr (Or.inl ⟨rfl, rfl, z, rfl⟩)) (hb hby hd) hl
theorem w_retA (X : St p l e R s m args below meth c Z n0 y code maxL ret T h cells slots) {a : Addr} {t : FieldType} (hr : ret = some t) (ht : t.isReference = true) (hnn : narrow t (.ref a) = .ref a) (hd : decode code pc = .ok (.areturn, 1)) (hk : cells ≤ k) (hn : slots ≤ n) (hq : Q (some (.ref a)) h) : WP p e below s n0 k n Q T (mkF m pc Ls (.ref a :: S)) :=
  w_end X (v := some (.ref a)) (fun q => by rw [hr] at q; cases q) hk hn hq fun locs fs hx hby hret X hl => retOut X hx (hret.trans hr) hnn (Or.inr (Or.inr (Or.inr (Or.inr ⟨rfl, ht, rfl⟩)))) (hb hby hd) hl
theorem w_retN (X : St p l e R s m args below meth c Z n0 y code maxL ret T h cells slots) {z z' : Int32} {t : FieldType} (hr : ret = some t) (ht : t = .boolean ∨ t = .byte ∨ t = .char ∨ t = .short) (hd : decode code pc = .ok (.ireturn, 1)) (hz : nar t z = z') (hk : cells ≤ k) (hn : slots ≤ n) (hq : Q (some (.int z')) h) : WP p e below s n0 k n Q T (mkF m pc Ls (.int z :: S)) :=
  w_end X (v := some (.int z')) (fun q => by rw [hr] at q; cases q) hk hn hq fun locs fs hx hby hret X hl => retN X hx (hret.trans hr) ht (hb hby hd) (by rw [hz]; exact hl)
theorem w_retZ (X : St p l e R s m args below meth c Z n0 y code maxL ret T h cells slots) {z : Int32} (hr : ret = some .boolean) (hd : decode code pc = .ok (.ireturn, 1)) (hz : z &&& 1 = z) (hk : cells ≤ k) (hn : slots ≤ n) (hq : Q (some (.int z)) h) : WP p e below s n0 k n Q T (mkF m pc Ls (.int z :: S)) :=
  w_retN X hr (Or.inl rfl) hd hz hk hn hq
theorem w_retV (X : St p l e R s m args below meth c Z n0 y code maxL ret T h cells slots) (hr : ret = none) (hd : decode code pc = .ok (.return_, 1)) (hk : cells ≤ k) (hn : slots ≤ n) (hq : Q none h) : WP p e below s n0 k n Q T (mkF m pc Ls []) :=
  w_end X (v := none) (fun _ => rfl) hk hn hq fun locs fs hx hby hret X hl => X.returnOut hx (hret.trans hr) (hb hby hd) hl
theorem St.of_back (X : St p l e R s m args below meth c Z n0 y code maxL ret T h cells slots) {locs : List Loc} (N : Fr n0 locs) {T' : State} {L' : List Loc} {cells' slots' : Nat} (X' : Stand p l e R s m args below meth c T' (locs ++ L') cells' slots') (N' : Fr n0 L') : St p l e R s m args below meth c Z n0 y code maxL ret T' T'.heap cells' slots' :=
  ⟨X.1, rfl, _, X', N.app N'⟩
theorem w_callS (X : St p l e R s m args below meth c Z n0 y code maxL ret T h cells slots) {z : MethodName} {idx : Nat} {code' : ByteArray} {maxL' : Nat} {ret' : Option FieldType} {rm : Room} (argsL rest : List Value) {Q' : Option Value → Heap → Prop} {ps : List FieldType} {r : Option FieldType} (W : Nat)
    (wl : (Jvm.Cond.methodLink y.cls idx z).before a0 Z = true) (wt : (Jvm.Cond.static z).before a0 Z = true) (wi : (Jvm.Cond.initialized z.cls).before a0 Z = true) (wc : (Jvm.Cond.code z code' maxL' ret').before a0 Z = true)
    (ct : Ct l Z z code' maxL' ret' rm argsL.toArray h n0 Q') (hd : decode code pc = .ok (.invokestatic idx, 3)) (pd : parseMethodDescriptor z.desc = some ⟨ps, r⟩) (hlen : argsL.length = ps.length) (hy : z.cls ≠ "java/lang/invoke/MethodHandle" ∧ z.cls ≠ "java/lang/invoke/VarHandle")
    (hsz : Ls.size = maxL) (hS : S = argsL.reverse ++ rest) (hW : (rest.map fun v => v.category).sum = W) (hfr : rm.frames + 1 ≤ R.frames) (hlo : W + (maxL' + 11) + rm.locals ≤ R.locals) (hc : cells + rm.cells ≤ R.cells) (hs : slots + rm.slots ≤ R.slots) (hp : pc' = pc + 3)
    (w : ∀ T' h' v, St p l e R s m args below meth c Z n0 y code maxL ret T' h' (cells + rm.cells) (slots + rm.slots) → Q' v h' → WP p e below s n0 k n Q T' (mkF m pc' Ls (v.toList ++ rest))) : WP p e below s n0 k n Q T (mkF m pc Ls S) := by
  have X1 := X
  obtain ⟨⟨hx, hZ, hby, hml, hown, hnm, hret, hlk, h00⟩, hT, locs, X, N⟩ := X
  subst hp hS
  obtain ⟨v, _, ⟨T', L', k', n'⟩, -, X', ⟨Lc, hQ, l1, y1, z1⟩, st⟩ := Jvm.LawKit.callS X hx (y := z) hown (mvT hZ wl) (mvT hZ wt) (mvT hZ wi) (mvT hZ wc) hy (backOf (W := W) (Q := fun v h L => Q' v h ∧ Fr n0 L) (ct []) hZ wc wi hfr hlo) (g := mkF m pc Ls (argsL.reverse ++ rest)) rfl (hsz.trans hml.symm) (argsL := argsL) (rest := rest) (lenOf pd hlen) rfl (by show 2 * 0 + _ ≤ _; omega) (hb hby hd) (fun _ _ => ⟨rfl, hT, hc, hs⟩)
  dsimp only [Pt.U, Pt.locs, Pt.cells, Pt.slots] at X' l1 y1 z1 st hQ
  subst l1 y1 z1
  exact (w T' T'.heap v (X1.of_back N X' hQ.2) hQ.1).step fun t kk => st t kk
theorem w_callV (X : St p l e R s m args below meth c Z n0 y code maxL ret T h cells slots) {z : MethodName} {C : String} {idx : Nat} {code' : ByteArray} {maxL' : Nat} {ret' : Option FieldType} {rm : Room} {a : Addr} (argsL rest : List Value) {Q' : Option Value → Heap → Prop} {ps : List FieldType} {r : Option FieldType} (W : Nat)
    (wl : (Jvm.Cond.methodLink y.cls idx z).before a0 Z = true) (wdc : (Jvm.Cond.declares z).before a0 Z = true) (wsel : (Jvm.Cond.selects C z z).before a0 Z = true) (wt : (Jvm.Cond.instanceMethod z).before a0 Z = true) (wi : (Jvm.Cond.initialized z.cls).before a0 Z = true) (wc : (Jvm.Cond.code z code' maxL' ret').before a0 Z = true)
    (E : Exa Z h a C) (ct : Ct l Z z code' maxL' ret' rm (.ref a :: argsL).toArray h n0 Q') (hd : decode code pc = .ok (.invokevirtual idx, 3)) (pd : parseMethodDescriptor z.desc = some ⟨ps, r⟩) (hlen : argsL.length = ps.length) (hy : z.cls ≠ "java/lang/invoke/MethodHandle" ∧ z.cls ≠ "java/lang/invoke/VarHandle")
    (hsz : Ls.size = maxL) (hS : S = argsL.reverse ++ .ref a :: rest) (hW : (rest.map fun v => v.category).sum = W) (hfr : rm.frames + 1 ≤ R.frames) (hlo : W + (maxL' + 11) + rm.locals ≤ R.locals) (hc : cells + rm.cells ≤ R.cells) (hs : slots + rm.slots ≤ R.slots) (hp : pc' = pc + 3)
    (w : ∀ T' h' v, St p l e R s m args below meth c Z n0 y code maxL ret T' h' (cells + rm.cells) (slots + rm.slots) → Q' v h' → WP p e below s n0 k n Q T' (mkF m pc' Ls (v.toList ++ rest))) : WP p e below s n0 k n Q T (mkF m pc Ls S) := by
  have X1 := X
  obtain ⟨⟨hx, hZ, hby, hml, hown, hnm, hret, hlk, h00⟩, hT, locs, X, N⟩ := X
  subst hp hS
  obtain ⟨cq, kq, qa, qb, qc⟩ := isOf hZ hT E
  obtain ⟨v, _, ⟨T', L', k', n'⟩, -, X', ⟨Lc, hQ, l1, y1, z1⟩, st⟩ := X.virtualBack hx (y := z) (z := z) hown (mvT hZ wl) (mvT hZ wdc) (notFace_of_selects (args := #[]) (mvT hZ wsel)) (mvT hZ wsel) (mvT hZ wt) hy (backOf (W := W) (Q := fun v h L => Q' v h ∧ Fr n0 L) (ct []) hZ wc wi hfr hlo) qa qc (g := mkF m pc Ls (argsL.reverse ++ .ref a :: rest)) rfl (hsz.trans hml.symm) (Steps.refl _) (argsL := argsL) (rest := rest) (lenOf pd hlen) rfl (by show 2 * 0 + _ ≤ _; omega) (hb hby hd) (fun _ _ => ⟨rfl, hT, hc, hs⟩)
  dsimp only [Pt.U, Pt.locs, Pt.cells, Pt.slots] at X' l1 y1 z1 st hQ
  subst l1 y1 z1
  exact (w T' T'.heap v (X1.of_back N X' hQ.2) hQ.1).trans st
theorem w_callC (X : St p l e R s m args below meth c Z n0 y code maxL ret T h cells slots) {z : MethodName} {idx : Nat} {code' : ByteArray} {maxL' : Nat} {rm : Room} {a : Addr} (argsL rest : List Value) {Q' : Option Value → Heap → Prop} {ps : List FieldType} {r : Option FieldType} (W : Nat)
    (hi : z.name = "<init>") (wl : (Jvm.Cond.methodLink y.cls idx z).before a0 Z = true) (wt : (Jvm.Cond.instanceMethod z).before a0 Z = true) (wi : (Jvm.Cond.initialized z.cls).before a0 Z = true) (wc : (Jvm.Cond.code z code' maxL' none).before a0 Z = true)
    (ct : Ct l Z z code' maxL' none rm (.ref a :: argsL).toArray h n0 Q') (hd : decode code pc = .ok (.invokespecial idx, 3)) (pd : parseMethodDescriptor z.desc = some ⟨ps, r⟩) (hlen : argsL.length = ps.length) (hy : z.cls ≠ "java/lang/invoke/MethodHandle" ∧ z.cls ≠ "java/lang/invoke/VarHandle")
    (hsz : Ls.size = maxL) (hS : S = argsL.reverse ++ .ref a :: rest) (hW : (rest.map fun v => v.category).sum = W) (hfr : rm.frames + 1 ≤ R.frames) (hlo : W + (maxL' + 11) + rm.locals ≤ R.locals) (hc : cells + rm.cells ≤ R.cells) (hs : slots + rm.slots ≤ R.slots) (hp : pc' = pc + 3)
    (w : ∀ T' h' v, St p l e R s m args below meth c Z n0 y code maxL ret T' h' (cells + rm.cells) (slots + rm.slots) → Q' v h' → WP p e below s n0 k n Q T' (mkF m pc' Ls (v.toList ++ rest))) : WP p e below s n0 k n Q T (mkF m pc Ls S) := by
  have X1 := X
  obtain ⟨⟨hx, hZ, hby, hml, hown, hnm, hret, hlk, h00⟩, hT, locs, X, N⟩ := X
  subst hp hS
  obtain ⟨v, _, ⟨T', L', k', n'⟩, -, X', ⟨Lc, hQ, l1, y1, z1⟩, st⟩ := X.specialBack hx (y := z) hi hown (mvT hZ wl) (mvT hZ wt) (mvT hZ wc) hy (backOf (W := W) (Q := fun v h L => Q' v h ∧ Fr n0 L) (ct []) hZ wc wi hfr hlo) (g := mkF m pc Ls (argsL.reverse ++ .ref a :: rest)) rfl (hsz.trans hml.symm) (Steps.refl _) (a := a) (argsL := argsL) (rest := rest) (lenOf pd hlen) rfl (by show 2 * 0 + _ ≤ _; omega) (hb hby hd) (fun _ _ => ⟨rfl, hT, hc, hs⟩)
  dsimp only [Pt.U, Pt.locs, Pt.cells, Pt.slots] at X' l1 y1 z1 st hQ
  subst l1 y1 z1
  exact (w T' T'.heap v (X1.of_back N X' hQ.2) hQ.1).trans st
theorem w_callP (X : St p l e R s m args below meth c Z n0 y code maxL ret T h cells slots) {z z0 : MethodName} {idx : Nat} {code' : ByteArray} {maxL' : Nat} {ret' : Option FieldType} {rm : Room} {a : Addr} (argsL rest : List Value) {Q' : Option Value → Heap → Prop} {ps : List FieldType} {r : Option FieldType} (W : Nat)
    (wl : (Jvm.Cond.methodLink y.cls idx z).before a0 Z = true) (wt : (Jvm.Cond.instanceMethod z).before a0 Z = true) (wp : (Jvm.Cond.privateMethod z).before a0 Z = true) (wsel : (Jvm.Cond.selects z0.cls z0 z0).before a0 Z = true) (h0 : z0.cls = z.cls) (wi : (Jvm.Cond.initialized z.cls).before a0 Z = true) (wc : (Jvm.Cond.code z code' maxL' ret').before a0 Z = true)
    (E : Exa Z h a z.cls) (ct : Ct l Z z code' maxL' ret' rm (.ref a :: argsL).toArray h n0 Q') (hd : decode code pc = .ok (.invokevirtual idx, 3)) (pd : parseMethodDescriptor z.desc = some ⟨ps, r⟩) (hlen : argsL.length = ps.length) (hy : z.cls ≠ "java/lang/invoke/MethodHandle" ∧ z.cls ≠ "java/lang/invoke/VarHandle")
    (hsz : Ls.size = maxL) (hS : S = argsL.reverse ++ .ref a :: rest) (hW : (rest.map fun v => v.category).sum = W) (hfr : rm.frames + 1 ≤ R.frames) (hlo : W + (maxL' + 11) + rm.locals ≤ R.locals) (hc : cells + rm.cells ≤ R.cells) (hs : slots + rm.slots ≤ R.slots) (hp : pc' = pc + 3)
    (w : ∀ T' h' v, St p l e R s m args below meth c Z n0 y code maxL ret T' h' (cells + rm.cells) (slots + rm.slots) → Q' v h' → WP p e below s n0 k n Q T' (mkF m pc' Ls (v.toList ++ rest))) : WP p e below s n0 k n Q T (mkF m pc Ls S) := by
  have X1 := X
  obtain ⟨⟨hx, hZ, hby, hml, hown, hnm, hret, hlk, h00⟩, hT, locs, X, N⟩ := X
  subst hp hS
  obtain ⟨cq, q, q'⟩ := E.cell
  obtain ⟨c2, r2, m2, e1, e2, e3, e4, kP, hkP, hkPi⟩ := Cond.selects_spec (mvT (args := args) hZ wsel)
  have e5 : s.vm.findClass z.cls = some m2.cls := h0 ▸ findClass_of_methodNamed e3
  have hpr : s.PrivateAt z := Cond.privateMethod_at (mvP hZ wp (args := args))
  have hsel : (Jvm.Cond.selects z.cls z z).before args s = true := selects_self_of_private e5 hkP hkPi hpr (mvT hZ wt) hy
  obtain ⟨v, _, ⟨T', L', k', n'⟩, -, X', ⟨Lc, hQ, l1, y1, z1⟩, st⟩ := X.privateBack hx (y := z) hown (mvT hZ wl) (mvT hZ wt) hsel hpr (mvT hZ wc) hy (backOf (W := W) (Q := fun v h L => Q' v h ∧ Fr n0 L) (ct []) hZ wc wi hfr hlo) (g := mkF m pc Ls (argsL.reverse ++ .ref a :: rest)) rfl (hsz.trans hml.symm) (Steps.refl _) (a := a) (by rw [hT]; exact q) q' (argsL := argsL) (rest := rest) (lenOf pd hlen) rfl (by show 2 * 0 + _ ≤ _; omega) (hb hby hd) (fun _ _ => ⟨rfl, hT, hc, hs⟩)
  dsimp only [Pt.U, Pt.locs, Pt.cells, Pt.slots] at X' l1 y1 z1 st hQ
  subst l1 y1 z1
  exact (w T' T'.heap v (X1.of_back N X' hQ.2) hQ.1).trans st
theorem w_initO (X : St p l e R s m args below meth c Z n0 y code maxL ret T h cells slots) {idx : Nat} {a : Addr} {W : Nat} (w1 : (Jvm.Cond.methodLink y.cls idx Lib.objectInit).before a0 Z = true) (w2 : (Jvm.Cond.instanceMethod Lib.objectInit).before a0 Z = true) (w3 : (Jvm.Cond.code Lib.objectInit ⟨#[0xb1]⟩ 1 none).before a0 Z = true)
    (hd : decode code pc = .ok (.invokespecial idx, 3)) (hsz : Ls.size = maxL) (hf : 1 ≤ R.frames) (hW : (S.map fun v => v.category).sum = W) (hl : W + 12 ≤ R.locals) (hp : pc' = pc + 3)
    (w : ∀ T', St p l e R s m args below meth c Z n0 y code maxL ret T' h cells slots → WP p e below s n0 k n Q T' (mkF m pc' Ls S)) : WP p e below s n0 k n Q T (mkF m pc Ls (.ref a :: S)) := by
  have X1 := X
  obtain ⟨⟨hx, hZ, hby, hml, hown, hnm, hret, hlk, h00⟩, hT, locs, X, N⟩ := X
  subst hp
  obtain ⟨T', X', e', st⟩ := initO X hx hZ hown w1 w2 w3 hT (g := mkF m pc Ls (.ref a :: S)) rfl (hsz.trans hml.symm) rfl (hb hby hd) hf (W := W) (by show 2 * 0 + _ ≤ _; omega) hl
  exact (w T' ⟨X1.1, e', locs, X', N⟩).step st
theorem w_getF (X : St p l e R s m args below meth c Z n0 y code maxL ret T h cells slots) {idx : Nat} {O nm d : String} {a : Addr} {v : Value} (wl : (Jvm.Cond.fieldLink y.cls idx O nm d).before a0 Z = true) (F : Fld Z h a O nm d v) (hd : decode code pc = .ok (.getfield idx, 3)) (hp : pc' = pc + 3)
    (w : ∀ T', St p l e R s m args below meth c Z n0 y code maxL ret T' h cells slots → WP p e below s n0 k n Q T' (mkF m pc' Ls (v :: S))) : WP p e below s n0 k n Q T (mkF m pc Ls (.ref a :: S)) := by
  have X1 := X
  obtain ⟨⟨hx, hZ, hby, hml, hown, hnm, hret, hlk, h00⟩, hT, locs, X, N⟩ := X
  subst hp
  obtain ⟨T', X', e', st⟩ := getF X hx hZ hown (host := "") (Or.inl wl) Via.refl hT F (g := mkF m pc Ls (.ref a :: S)) rfl rfl (hb hby hd)
  exact (w T' ⟨X1.1, e', locs, X', N⟩).step st
theorem w_putF (X : St p l e R s m args below meth c Z n0 y code maxL ret T h cells slots) {idx kk : Nat} {O nm d C : String} {ty : FieldType} {a : Addr} {v v' old : Value} (wl : (Jvm.Cond.fieldLink y.cls idx O nm d).before a0 Z = true) (F : Fld Z h a O nm d old) (E : Exa Z h a C) (L : (Jvm.Cond.lays C O nm d).before a0 Z = true ∨ ((Jvm.Cond.laysFinal C O nm d).before a0 Z = true ∧ y.cls = O ∧ y.name = "<init>")) (wi : (Jvm.Cond.instantiable C kk).before a0 Z = true) (ga : n0 ≤ a)
    (hd : decode code pc = .ok (.putfield idx, 3)) (hty : parseFieldDescriptor d = some ty) (hv : narrow ty v = v') (hf : fits ty v' = true) (hp : pc' = pc + 3)
    (w : ∀ T' h', St p l e R s m args below meth c Z n0 y code maxL ret T' h' cells slots → Wr h h' a (Jvm.RoadKit.slotOf Z O nm d) v' → WP p e below s n0 k n Q T' (mkF m pc' Ls S)) : WP p e below s n0 k n Q T (mkF m pc Ls (v :: .ref a :: S)) := by
  have X1 := X
  obtain ⟨⟨hx, hZ, hby, hml, hown, hnm, hret, hlk, h00⟩, hT, locs, X, N⟩ := X
  subst hp
  obtain ⟨T', h', X', e', W', st⟩ := putFN X hx hZ hown wl Via.refl hT F E (L.imp id fun q => ⟨q.1, q.2.1, hnm.trans q.2.2⟩) wi hty hv hf (g := mkF m pc Ls (v :: .ref a :: S)) rfl rfl (hb hby hd)
  exact (w T' h' ⟨X1.1, e', _, X', Fr.snoc X' N ga⟩ W').step st
theorem w_new (X : St p l e R s m args below meth c Z n0 y code maxL ret T h cells slots) {idx nn : Nat} {C : String} (wl : (Jvm.Cond.classLink y.cls idx C).before a0 Z = true) (wi : (Jvm.Cond.instantiable C nn).before a0 Z = true) (wz : (Jvm.Cond.initialized C).before a0 Z = true) (hd : decode code pc = .ok (.new idx, 3)) (hc : cells + 1 ≤ R.cells) (hl : slots + nn ≤ R.slots) (hp : pc' = pc + 3)
    (w : ∀ T' h' a, St p l e R s m args below meth c Z n0 y code maxL ret T' h' (cells + 1) (slots + nn) → a = h.size → n0 ≤ a → Ext h h' → Exa Z h' a C → (∀ {O f d : String} {ty : FieldType}, Laid Z a0 C O f d → parseFieldDescriptor d = some ty → Fld Z h' a O f d (defaultValue ty)) → WP p e below s n0 k n Q T' (mkF m pc' Ls (.ref a :: S))) : WP p e below s n0 k n Q T (mkF m pc Ls S) := by
  have X1 := X
  obtain ⟨⟨hx, hZ, hby, hml, hown, hnm, hret, hlk, h00⟩, hT, locs, X, N⟩ := X
  subst hp
  obtain ⟨T', h', X', e', E', A', D', -, st⟩ := newO X hx hZ hown wl wi wz hT (g := mkF m pc Ls S) rfl (hb hby hd) hc hl
  exact (w T' h' h.size ⟨X1.1, e', _, X', N⟩ rfl X1.n0le E' A' D').step st
theorem w_newarray (X : St p l e R s m args below meth c Z n0 y code maxL ret T h cells slots) {aty : ArrayType} {sz : Int32} (cap : Nat) (wa : (Jvm.Cond.arrayClass (newarray.typeOf aty)).before a0 Z = true) (hd : decode code pc = .ok (.newarray aty, 2)) (hz : ¬ sz < 0) (hcap : sz.toNatClampNeg ≤ cap) (hbig : cap * 8 ≤ 536870912) (hc : cells + 1 ≤ R.cells) (hl : slots + cap ≤ R.slots) (hp : pc' = pc + 2)
    (w : ∀ T' h' a cA, St p l e R s m args below meth c Z n0 y code maxL ret T' h' (cells + 1) (slots + cap) → a = h.size → n0 ≤ a → Ext h h' → Arr Z h' a (newA cA (newarray.typeOf aty) sz) (newarray.typeOf aty) → WP p e below s n0 k n Q T' (mkF m pc' Ls (.ref a :: S))) : WP p e below s n0 k n Q T (mkF m pc Ls (.int sz :: S)) := by
  have X1 := X
  obtain ⟨⟨hx, hZ, hby, hml, hown, hnm, hret, hlk, h00⟩, hT, locs, X, N⟩ := X
  subst hp
  obtain ⟨T', h', cA, X', e', E', A', st⟩ := newP X hx hZ wa hT (g := mkF m pc Ls (.int sz :: S)) rfl (hb hby hd) rfl hz hcap hbig hc hl
  exact (w T' h' h.size cA ⟨X1.1, e', _, X', N⟩ rfl X1.n0le E' A').step st
/-- the array at a: its kind, its length, what stands at each place -/
def AV (Z : State) (h : Heap) (a : Addr) (ty : FieldType) (n : Nat) (f : Nat → Value) : Prop := ∃ c : Cell, Arr Z h a c ty ∧ c.slots.size = n ∧ n < 2 ^ 31 ∧ ∀ i, i < n → c.slots[i]? = some (f i)
theorem AV.ext {a : Addr} {ty : FieldType} {n : Nat} {f : Nat → Value} {h' : Heap} (A : AV Z h a ty n f) (E : Ext h h') : AV Z h' a ty n f := by
  obtain ⟨c, A, r⟩ := A; exact ⟨c, A.ext E, r⟩
theorem AV.keep {a : Addr} {ty : FieldType} {n : Nat} {f : Nat → Value} {h' : Heap} {ws : List Addr} (A : AV Z h a ty n f) (K : Keep h h' ws) (q : a ∉ ws) : AV Z h' a ty n f := by
  obtain ⟨c, A, r⟩ := A; exact ⟨c, ⟨K.2.1 a c A.1 q, A.2⟩, r⟩
theorem AV.lt {a : Addr} {ty : FieldType} {n : Nat} {f : Nat → Value} (A : AV Z h a ty n f) : a < h.size := by
  obtain ⟨c, A, r⟩ := A; exact A.lt
theorem AV.len {a : Addr} {ty : FieldType} {n : Nat} {f : Nat → Value} (A : AV Z h a ty n f) : n < 2 ^ 31 := by
  obtain ⟨c, A, r⟩ := A; exact r.2.1
theorem AV.congr {a : Addr} {ty : FieldType} {n : Nat} {f g : Nat → Value} (A : AV Z h a ty n f) (q : ∀ i, i < n → f i = g i) : AV Z h a ty n g := by
  obtain ⟨c, A, r1, r2, r3⟩ := A; exact ⟨c, A, r1, r2, fun i hi => by rw [← q i hi]; exact r3 i hi⟩
theorem AV.new {a : Addr} {ty : FieldType} {sz : Int32} {cA : ClassId} {n : Nat} (A : Arr Z h a (newA cA ty sz) ty) (hn : sz.toInt = n) : AV Z h a ty n (fun _ => defaultValue ty) := by
  have q1 : sz.toNatClampNeg = n := by simp only [Int32.toNatClampNeg, hn]; omega
  have q2 := Int32.toInt_lt sz
  refine ⟨_, A, by rw [sz_new, q1], by omega, fun i hi => ?_⟩
  simp [newA, q1, hi]
theorem nat_at {j : Int32} {i : Nat} (hi : j.toInt = i) : j.toNatClampNeg = i := by simp only [Int32.toNatClampNeg, hi]; omega
theorem in_at {j : Int32} {i sz n : Nat} (hi : j.toInt = i) (hz : sz = n) (hlt : i < n) : ¬ (j < 0 ∨ sz ≤ j.toNatClampNeg) := by
  rw [nat_at hi, Int32.lt_iff_toInt_lt, hi]; simp only [Int32.reduceToInt]; omega
theorem AV.set {a : Addr} {ty : FieldType} {n i : Nat} {f : Nat → Value} {h' : Heap} {v : Value} (A : AV Z h a ty n f) (W : Wr h h' a i v) : AV Z h' a ty n (fun q => if q = i then v else f q) := by
  obtain ⟨c, A, r1, r2, r3⟩ := A
  obtain ⟨cell, w1, w2, w3, w4⟩ := id W
  have e1 : cell = c := by have := w1.symm.trans A.1; exact Option.some.inj this
  subst e1
  refine ⟨_, A.same W, by rw [sz_set]; exact r1, r2, fun q hq => ?_⟩
  by_cases e : q = i
  · subst e; simp [Cell.setSlot, w3]
  · have e' : ¬ i = q := fun u => e u.symm
    simp only [e, if_false, Cell.setSlot]
    rw [Array.getElem?_setIfInBounds_ne e']; exact r3 q hq
abbrev AI (Z : State) (h : Heap) (a : Addr) (ty : FieldType) (n : Nat) (g : Nat → Int32) : Prop := AV Z h a ty n (fun q => .int (g q))
abbrev AJ (Z : State) (h : Heap) (a : Addr) (n : Nat) (g : Nat → Int64) : Prop := AV Z h a .long n (fun q => .long (g q))
theorem AI.new {a : Addr} {ty : FieldType} {sz : Int32} {cA : ClassId} {n : Nat} (A : Arr Z h a (newA cA ty sz) ty) (hn : sz.toInt = n) (hd : defaultValue ty = .int 0) : AI Z h a ty n (fun _ => 0) := by
  have q := AV.new A hn; rw [hd] at q; exact q
theorem AJ.new {a : Addr} {sz : Int32} {cA : ClassId} {n : Nat} (A : Arr Z h a (newA cA .long sz) .long) (hn : sz.toInt = n) : AJ Z h a n (fun _ => 0) := AV.new A hn
theorem AI.set {a : Addr} {ty : FieldType} {n i : Nat} {g : Nat → Int32} {h' : Heap} {x : Int32} (A : AI Z h a ty n g) (W : Wr h h' a i (.int x)) : AI Z h' a ty n (fun q => if q = i then x else g q) :=
  (AV.set A W).congr fun q _ => by by_cases e : q = i <;> simp [e]
theorem AJ.set {a : Addr} {n i : Nat} {g : Nat → Int64} {h' : Heap} {x : Int64} (A : AJ Z h a n g) (W : Wr h h' a i (.long x)) : AJ Z h' a n (fun q => if q = i then x else g q) :=
  (AV.set A W).congr fun q _ => by by_cases e : q = i <;> simp [e]
theorem AI.congr {a : Addr} {ty : FieldType} {n : Nat} {f g : Nat → Int32} (A : AI Z h a ty n f) (q : ∀ i, i < n → f i = g i) : AI Z h a ty n g := AV.congr A fun i hi => by rw [q i hi]
theorem AJ.congr {a : Addr} {n : Nat} {f g : Nat → Int64} (A : AJ Z h a n f) (q : ∀ i, i < n → f i = g i) : AJ Z h a n g := AV.congr A fun i hi => by rw [q i hi]
theorem w_iaload (X : St p l e R s m args below meth c Z n0 y code maxL ret T h cells slots) {a : Addr} {N : Nat} {g : Nat → Int32} {j : Int32} {i : Nat} {v : Int32} (A : AI Z h a .int N g) (hd : decode code pc = .ok (.iaload, 1)) (hi : j.toInt = i) (hlt : i < N) (hv : g i = v) (hp : pc' = pc + 1) (w : WP p e below s n0 k n Q T (mkF m pc' Ls (.int v :: S))) : WP p e below s n0 k n Q T (mkF m pc Ls (.int j :: .ref a :: S)) := by
  obtain ⟨⟨hx, hZ, hby, hml, hown, hnm, hret, hlk, h00⟩, hT, locs, X, N⟩ := X
  subst hp hv
  obtain ⟨cl, A, r1, r2, r3⟩ := A
  exact w.step fun t kk => X.iaload hx (j := j) (v := .int (g i)) (by rw [hT]; exact A.1) (State.isArrayOf_alike hZ.alike A.2.1) A.2.2 (in_at hi r1 hlt) (by rw [nat_at hi]; exact r3 i hlt) (g := mkF m pc Ls (.int j :: .ref a :: S)) rfl rfl (hb hby hd) t kk
theorem w_laload (X : St p l e R s m args below meth c Z n0 y code maxL ret T h cells slots) {a : Addr} {N : Nat} {g : Nat → Int64} {j : Int32} {i : Nat} {v : Int64} (A : AJ Z h a N g) (hd : decode code pc = .ok (.laload, 1)) (hi : j.toInt = i) (hlt : i < N) (hv : g i = v) (hp : pc' = pc + 1) (w : WP p e below s n0 k n Q T (mkF m pc' Ls (.long v :: S))) : WP p e below s n0 k n Q T (mkF m pc Ls (.int j :: .ref a :: S)) := by
  obtain ⟨⟨hx, hZ, hby, hml, hown, hnm, hret, hlk, h00⟩, hT, locs, X, N⟩ := X
  subst hp hv
  obtain ⟨cl, A, r1, r2, r3⟩ := A
  exact w.step fun t kk => X.laload hx (j := j) (v := .long (g i)) (by rw [hT]; exact A.1) (State.isArrayOf_alike hZ.alike A.2.1) A.2.2 (in_at hi r1 hlt) (by rw [nat_at hi]; exact r3 i hlt) (g := mkF m pc Ls (.int j :: .ref a :: S)) rfl rfl (hb hby hd) t kk
theorem w_caload (X : St p l e R s m args below meth c Z n0 y code maxL ret T h cells slots) {a : Addr} {N : Nat} {g : Nat → Int32} {j : Int32} {i : Nat} {v : Int32} (A : AI Z h a .char N g) (hd : decode code pc = .ok (.caload, 1)) (hi : j.toInt = i) (hlt : i < N) (hv : g i = v) (hp : pc' = pc + 1) (w : WP p e below s n0 k n Q T (mkF m pc' Ls (.int v :: S))) : WP p e below s n0 k n Q T (mkF m pc Ls (.int j :: .ref a :: S)) := by
  obtain ⟨⟨hx, hZ, hby, hml, hown, hnm, hret, hlk, h00⟩, hT, locs, X, N⟩ := X
  subst hp hv
  obtain ⟨cl, A, r1, r2, r3⟩ := A
  exact w.step fun t kk => X.caload hx (j := j) (v := .int (g i)) (by rw [hT]; exact A.1) (State.isArrayOf_alike hZ.alike A.2.1) A.2.2 (in_at hi r1 hlt) (by rw [nat_at hi]; exact r3 i hlt) (g := mkF m pc Ls (.int j :: .ref a :: S)) rfl rfl (hb hby hd) t kk
theorem w_baload (X : St p l e R s m args below meth c Z n0 y code maxL ret T h cells slots) {a : Addr} {N : Nat} {g : Nat → Int32} {j : Int32} {i : Nat} {v : Int32} (A : AI Z h a .byte N g) (hd : decode code pc = .ok (.baload, 1)) (hi : j.toInt = i) (hlt : i < N) (hv : g i = v) (hp : pc' = pc + 1) (w : WP p e below s n0 k n Q T (mkF m pc' Ls (.int v :: S))) : WP p e below s n0 k n Q T (mkF m pc Ls (.int j :: .ref a :: S)) := by
  obtain ⟨⟨hx, hZ, hby, hml, hown, hnm, hret, hlk, h00⟩, hT, locs, X, N⟩ := X
  subst hp hv
  obtain ⟨cl, A, r1, r2, r3⟩ := A
  exact w.step fun t kk => X.baloadBytes hx (j := j) (v := .int (g i)) (by rw [hT]; exact A.1) (State.isArrayOf_alike hZ.alike A.2.1) A.2.2 (in_at hi r1 hlt) (by rw [nat_at hi]; exact r3 i hlt) (g := mkF m pc Ls (.int j :: .ref a :: S)) rfl rfl (hb hby hd) t kk
theorem w_arraylength (X : St p l e R s m args below meth c Z n0 y code maxL ret T h cells slots) {a : Addr} {ty : FieldType} {N : Nat} {f : Nat → Value} {z : Int32} (A : AV Z h a ty N f) (hd : decode code pc = .ok (.arraylength, 1)) (hz : N.toInt32 = z) (hp : pc' = pc + 1) (w : WP p e below s n0 k n Q T (mkF m pc' Ls (.int z :: S))) : WP p e below s n0 k n Q T (mkF m pc Ls (.ref a :: S)) := by
  obtain ⟨⟨hx, hZ, hby, hml, hown, hnm, hret, hlk, h00⟩, hT, locs, X, N⟩ := X
  subst hp hz
  obtain ⟨cl, A, r1, r2, r3⟩ := A
  refine w.step fun t kk => X.arraylength hx (by rw [hT]; exact A.1) (State.isArrayOf_alike hZ.alike A.2.1) (g := mkF m pc Ls (.ref a :: S)) rfl rfl (hb hby hd) t ?_
  rw [r1]; exact kk
theorem w_iastore (X : St p l e R s m args below meth c Z n0 y code maxL ret T h cells slots) {a : Addr} {N : Nat} {g : Nat → Int32} {j : Int32} {i : Nat} {x x' : Int32} (A : AI Z h a .int N g) (ga : n0 ≤ a) (hd : decode code pc = .ok (.iastore, 1)) (hi : j.toInt = i) (hlt : i < N) (hx' : x = x') (hp : pc' = pc + 1) (w : ∀ T' h', St p l e R s m args below meth c Z n0 y code maxL ret T' h' cells slots → Keep h h' [a] → AI Z h' a .int N (fun q => if q = i then x' else g q) → WP p e below s n0 k n Q T' (mkF m pc' Ls S)) : WP p e below s n0 k n Q T (mkF m pc Ls (.int x :: .int j :: .ref a :: S)) := by
  have X1 := X
  have A1 := A
  obtain ⟨⟨hx, hZ, hby, hml, hown, hnm, hret, hlk, h00⟩, hT, locs, X, N⟩ := X
  subst hp hx'
  obtain ⟨cl, A, r1, r2, r3⟩ := A
  obtain ⟨T', h', X', e', W', st⟩ := stI X hx hZ hT A (j := j) (x := x) (in_at hi r1 hlt) (g := mkF m pc Ls (.int x :: .int j :: .ref a :: S)) rfl rfl (hb hby hd)
  have N' := Fr.snoc X' N ga
  rw [nat_at hi] at W'
  exact (w T' h' ⟨X1.1, e', _, X', N'⟩ (Keep.of_wr W') (AI.set A1 W')).step st
theorem w_lastore (X : St p l e R s m args below meth c Z n0 y code maxL ret T h cells slots) {a : Addr} {N : Nat} {g : Nat → Int64} {j : Int32} {i : Nat} {x x' : Int64} (A : AJ Z h a N g) (ga : n0 ≤ a) (hd : decode code pc = .ok (.lastore, 1)) (hi : j.toInt = i) (hlt : i < N) (hx' : x = x') (hp : pc' = pc + 1) (w : ∀ T' h', St p l e R s m args below meth c Z n0 y code maxL ret T' h' cells slots → Keep h h' [a] → AJ Z h' a N (fun q => if q = i then x' else g q) → WP p e below s n0 k n Q T' (mkF m pc' Ls S)) : WP p e below s n0 k n Q T (mkF m pc Ls (.long x :: .int j :: .ref a :: S)) := by
  have X1 := X
  have A1 := A
  obtain ⟨⟨hx, hZ, hby, hml, hown, hnm, hret, hlk, h00⟩, hT, locs, X, N⟩ := X
  subst hp hx'
  obtain ⟨cl, A, r1, r2, r3⟩ := A
  obtain ⟨T', h', X', e', W', st⟩ := stJ X hx hZ hT A (j := j) (x := x) (in_at hi r1 hlt) (g := mkF m pc Ls (.long x :: .int j :: .ref a :: S)) rfl rfl (hb hby hd)
  have N' := Fr.snoc X' N ga
  rw [nat_at hi] at W'
  exact (w T' h' ⟨X1.1, e', _, X', N'⟩ (Keep.of_wr W') (AJ.set A1 W')).step st
theorem w_castore (X : St p l e R s m args below meth c Z n0 y code maxL ret T h cells slots) {a : Addr} {N : Nat} {g : Nat → Int32} {j : Int32} {i : Nat} {x x' : Int32} (A : AI Z h a .char N g) (ga : n0 ≤ a) (hd : decode code pc = .ok (.castore, 1)) (hi : j.toInt = i) (hlt : i < N) (hx' : nar .char x = x') (hp : pc' = pc + 1) (w : ∀ T' h', St p l e R s m args below meth c Z n0 y code maxL ret T' h' cells slots → Keep h h' [a] → AI Z h' a .char N (fun q => if q = i then x' else g q) → WP p e below s n0 k n Q T' (mkF m pc' Ls S)) : WP p e below s n0 k n Q T (mkF m pc Ls (.int x :: .int j :: .ref a :: S)) := by
  have X1 := X
  have A1 := A
  obtain ⟨⟨hx, hZ, hby, hml, hown, hnm, hret, hlk, h00⟩, hT, locs, X, N⟩ := X
  subst hp hx'
  obtain ⟨cl, A, r1, r2, r3⟩ := A
  obtain ⟨T', h', X', e', W', st⟩ := stC X hx hZ hT A (j := j) (x := x) (in_at hi r1 hlt) (g := mkF m pc Ls (.int x :: .int j :: .ref a :: S)) rfl rfl (hb hby hd)
  have N' := Fr.snoc X' N ga
  rw [nat_at hi] at W'
  exact (w T' h' ⟨X1.1, e', _, X', N'⟩ (Keep.of_wr W') (AI.set A1 W')).step st
theorem w_bastore (X : St p l e R s m args below meth c Z n0 y code maxL ret T h cells slots) {a : Addr} {N : Nat} {g : Nat → Int32} {j : Int32} {i : Nat} {x x' : Int32} (A : AI Z h a .byte N g) (ga : n0 ≤ a) (hd : decode code pc = .ok (.bastore, 1)) (hi : j.toInt = i) (hlt : i < N) (hx' : nar .byte x = x') (hp : pc' = pc + 1) (w : ∀ T' h', St p l e R s m args below meth c Z n0 y code maxL ret T' h' cells slots → Keep h h' [a] → AI Z h' a .byte N (fun q => if q = i then x' else g q) → WP p e below s n0 k n Q T' (mkF m pc' Ls S)) : WP p e below s n0 k n Q T (mkF m pc Ls (.int x :: .int j :: .ref a :: S)) := by
  have X1 := X
  have A1 := A
  obtain ⟨⟨hx, hZ, hby, hml, hown, hnm, hret, hlk, h00⟩, hT, locs, X, N⟩ := X
  subst hp hx'
  obtain ⟨cl, A, r1, r2, r3⟩ := A
  obtain ⟨T', h', X', e', W', st⟩ := stB X hx hZ hT A (j := j) (x := x) (in_at hi r1 hlt) (g := mkF m pc Ls (.int x :: .int j :: .ref a :: S)) rfl rfl (hb hby hd)
  have N' := Fr.snoc X' N ga
  rw [nat_at hi] at W'
  exact (w T' h' ⟨X1.1, e', _, X', N'⟩ (Keep.of_wr W') (AI.set A1 W')).step st
end Steps
end Jvm.Own
namespace Jvm.Pilot.@@N@@
open Jvm Jvm.ClassFile Sem Op Lib Jvm.Free Jvm.Stand Jvm.LawKit Jvm.RoadKit Bundle Jvm.Own Jvm.Pilot.@@N@@.Jvm.D
theorem tw0 {a0 : Array Value} {Z : State} (hw : ∀ d ∈ tables_1, d.before a0 Z = true) : (Jvm.Cond.arrayClass Jvm.ClassFile.FieldType.char).before a0 Z = true := hw _ (List.mem_of_getElem? (i := 0) rfl)
theorem tw1 {a0 : Array Value} {Z : State} (hw : ∀ d ∈ tables_1, d.before a0 Z = true) : (Jvm.Cond.methodLink "com/example/xtent/xtent/document/TextPositionAdvancePinLaw" (10 : Nat) ({ cls := "com/example/xtent/xtent/document/TextPositionAdvancePinLaw", name := "draw", desc := "(JI)C" } : Jvm.MethodName)).before a0 Z = true := hw _ (List.mem_of_getElem? (i := 1) rfl)
theorem tw2 {a0 : Array Value} {Z : State} (hw : ∀ d ∈ tables_1, d.before a0 Z = true) : (Jvm.Cond.static ({ cls := "com/example/xtent/xtent/document/TextPositionAdvancePinLaw", name := "draw", desc := "(JI)C" } : Jvm.MethodName)).before a0 Z = true := hw _ (List.mem_of_getElem? (i := 2) rfl)
theorem tw3 {a0 : Array Value} {Z : State} (hw : ∀ d ∈ tables_1, d.before a0 Z = true) : (Jvm.Cond.initialized "com/example/xtent/xtent/document/TextPositionAdvancePinLaw").before a0 Z = true := hw _ (List.mem_of_getElem? (i := 3) rfl)
theorem tw4 {a0 : Array Value} {Z : State} (hw : ∀ d ∈ tables_1, d.before a0 Z = true) : (Jvm.Cond.code ({ cls := "com/example/xtent/xtent/document/TextPositionAdvancePinLaw", name := "draw", desc := "(JI)C" } : Jvm.MethodName) method_2_code (5 : Nat) (Option.some Jvm.ClassFile.FieldType.char)).before a0 Z = true := hw _ (List.mem_of_getElem? (i := 4) rfl)
theorem tw5 {a0 : Array Value} {Z : State} (hw : ∀ d ∈ tables_1, d.before a0 Z = true) : (Jvm.Cond.constantLong "com/example/xtent/xtent/document/TextPositionAdvancePinLaw" (7 : Nat) (262143 : Int64)).before a0 Z = true := hw _ (List.mem_of_getElem? (i := 5) rfl)
theorem tw6 {a0 : Array Value} {Z : State} (hw : ∀ d ∈ tables_1, d.before a0 Z = true) : (Jvm.Cond.constant "com/example/xtent/xtent/document/TextPositionAdvancePinLaw" (9 : Nat) (65535 : Int32)).before a0 Z = true := hw _ (List.mem_of_getElem? (i := 6) rfl)
theorem tw7 {a0 : Array Value} {Z : State} (hw : ∀ d ∈ tables_1, d.before a0 Z = true) : (Jvm.Cond.classLink "com/example/xtent/xtent/document/TextPositionAdvancePinLaw" (16 : Nat) "com/example/xtent/xtent/document/TextPosition").before a0 Z = true := hw _ (List.mem_of_getElem? (i := 7) rfl)
theorem tw8 {a0 : Array Value} {Z : State} (hw : ∀ d ∈ tables_1, d.before a0 Z = true) : (Jvm.Cond.instantiable "com/example/xtent/xtent/document/TextPosition" (3 : Nat)).before a0 Z = true := hw _ (List.mem_of_getElem? (i := 8) rfl)
theorem tw9 {a0 : Array Value} {Z : State} (hw : ∀ d ∈ tables_1, d.before a0 Z = true) : (Jvm.Cond.initialized "com/example/xtent/xtent/document/TextPosition").before a0 Z = true := hw _ (List.mem_of_getElem? (i := 9) rfl)
theorem tw10 {a0 : Array Value} {Z : State} (hw : ∀ d ∈ tables_1, d.before a0 Z = true) : (Jvm.Cond.methodLink "com/example/xtent/xtent/document/TextPositionAdvancePinLaw" (18 : Nat) ({ cls := "com/example/xtent/xtent/document/TextPosition", name := "<init>", desc := "()V" } : Jvm.MethodName)).before a0 Z = true := hw _ (List.mem_of_getElem? (i := 10) rfl)
theorem tw11 {a0 : Array Value} {Z : State} (hw : ∀ d ∈ tables_1, d.before a0 Z = true) : (Jvm.Cond.instanceMethod ({ cls := "com/example/xtent/xtent/document/TextPosition", name := "<init>", desc := "()V" } : Jvm.MethodName)).before a0 Z = true := hw _ (List.mem_of_getElem? (i := 11) rfl)
theorem tw12 {a0 : Array Value} {Z : State} (hw : ∀ d ∈ tables_1, d.before a0 Z = true) : (Jvm.Cond.code ({ cls := "com/example/xtent/xtent/document/TextPosition", name := "<init>", desc := "()V" } : Jvm.MethodName) prog_25_method_1_code (1 : Nat) (Option.none : Option Jvm.ClassFile.FieldType)).before a0 Z = true := hw _ (List.mem_of_getElem? (i := 12) rfl)
theorem tw13 {a0 : Array Value} {Z : State} (hw : ∀ d ∈ tables_1, d.before a0 Z = true) : (Jvm.Cond.methodLink "com/example/xtent/xtent/document/TextPosition" (1 : Nat) ({ cls := "java/lang/Object", name := "<init>", desc := "()V" } : Jvm.MethodName)).before a0 Z = true := hw _ (List.mem_of_getElem? (i := 13) rfl)
theorem tw14 {a0 : Array Value} {Z : State} (hw : ∀ d ∈ tables_1, d.before a0 Z = true) : (Jvm.Cond.instanceMethod ({ cls := "java/lang/Object", name := "<init>", desc := "()V" } : Jvm.MethodName)).before a0 Z = true := hw _ (List.mem_of_getElem? (i := 14) rfl)
theorem tw15 {a0 : Array Value} {Z : State} (hw : ∀ d ∈ tables_1, d.before a0 Z = true) : (Jvm.Cond.code ({ cls := "java/lang/Object", name := "<init>", desc := "()V" } : Jvm.MethodName) object_method_1_code (1 : Nat) (Option.none : Option Jvm.ClassFile.FieldType)).before a0 Z = true := hw _ (List.mem_of_getElem? (i := 15) rfl)
theorem tw16 {a0 : Array Value} {Z : State} (hw : ∀ d ∈ tables_1, d.before a0 Z = true) : (Jvm.Cond.fieldLink "com/example/xtent/xtent/document/TextPosition" (7 : Nat) "com/example/xtent/xtent/document/TextPosition" "line" "I").before a0 Z = true := hw _ (List.mem_of_getElem? (i := 16) rfl)
theorem tw17 {a0 : Array Value} {Z : State} (hw : ∀ d ∈ tables_1, d.before a0 Z = true) : (Jvm.Cond.lays "com/example/xtent/xtent/document/TextPosition" "com/example/xtent/xtent/document/TextPosition" "line" "I").before a0 Z = true := hw _ (List.mem_of_getElem? (i := 17) rfl)
theorem tw18 {a0 : Array Value} {Z : State} (hw : ∀ d ∈ tables_1, d.before a0 Z = true) : (Jvm.Cond.fieldLink "com/example/xtent/xtent/document/TextPosition" (13 : Nat) "com/example/xtent/xtent/document/TextPosition" "column" "I").before a0 Z = true := hw _ (List.mem_of_getElem? (i := 18) rfl)
theorem tw19 {a0 : Array Value} {Z : State} (hw : ∀ d ∈ tables_1, d.before a0 Z = true) : (Jvm.Cond.lays "com/example/xtent/xtent/document/TextPosition" "com/example/xtent/xtent/document/TextPosition" "column" "I").before a0 Z = true := hw _ (List.mem_of_getElem? (i := 19) rfl)
theorem tw20 {a0 : Array Value} {Z : State} (hw : ∀ d ∈ tables_1, d.before a0 Z = true) : (Jvm.Cond.methodLink "com/example/xtent/xtent/document/TextPositionAdvancePinLaw" (19 : Nat) ({ cls := "com/example/xtent/xtent/document/TextPosition", name := "advance", desc := "([CII)V" } : Jvm.MethodName)).before a0 Z = true := hw _ (List.mem_of_getElem? (i := 20) rfl)
theorem tw21 {a0 : Array Value} {Z : State} (hw : ∀ d ∈ tables_1, d.before a0 Z = true) : (Jvm.Cond.declares ({ cls := "com/example/xtent/xtent/document/TextPosition", name := "advance", desc := "([CII)V" } : Jvm.MethodName)).before a0 Z = true := hw _ (List.mem_of_getElem? (i := 21) rfl)
theorem tw22 {a0 : Array Value} {Z : State} (hw : ∀ d ∈ tables_1, d.before a0 Z = true) : (Jvm.Cond.instanceMethod ({ cls := "com/example/xtent/xtent/document/TextPosition", name := "advance", desc := "([CII)V" } : Jvm.MethodName)).before a0 Z = true := hw _ (List.mem_of_getElem? (i := 22) rfl)
theorem tw23 {a0 : Array Value} {Z : State} (hw : ∀ d ∈ tables_1, d.before a0 Z = true) : (Jvm.Cond.selects "com/example/xtent/xtent/document/TextPosition" ({ cls := "com/example/xtent/xtent/document/TextPosition", name := "advance", desc := "([CII)V" } : Jvm.MethodName) ({ cls := "com/example/xtent/xtent/document/TextPosition", name := "advance", desc := "([CII)V" } : Jvm.MethodName)).before a0 Z = true := hw _ (List.mem_of_getElem? (i := 23) rfl)
theorem tw24 {a0 : Array Value} {Z : State} (hw : ∀ d ∈ tables_1, d.before a0 Z = true) : (Jvm.Cond.code ({ cls := "com/example/xtent/xtent/document/TextPosition", name := "advance", desc := "([CII)V" } : Jvm.MethodName) prog_25_method_3_code (8 : Nat) (Option.none : Option Jvm.ClassFile.FieldType)).before a0 Z = true := hw _ (List.mem_of_getElem? (i := 24) rfl)
theorem tw25 {a0 : Array Value} {Z : State} (hw : ∀ d ∈ tables_1, d.before a0 Z = true) : (Jvm.Cond.arrayClass Jvm.ClassFile.FieldType.int).before a0 Z = true := hw _ (List.mem_of_getElem? (i := 25) rfl)
theorem tw26 {a0 : Array Value} {Z : State} (hw : ∀ d ∈ tables_1, d.before a0 Z = true) : (Jvm.Cond.methodLink "com/example/xtent/xtent/document/TextPositionAdvancePinLaw" (23 : Nat) ({ cls := "com/example/xtent/xtent/document/TextPositionAdvancePinLaw", name := "step", desc := "([I[CIII)V" } : Jvm.MethodName)).before a0 Z = true := hw _ (List.mem_of_getElem? (i := 26) rfl)
theorem tw27 {a0 : Array Value} {Z : State} (hw : ∀ d ∈ tables_1, d.before a0 Z = true) : (Jvm.Cond.static ({ cls := "com/example/xtent/xtent/document/TextPositionAdvancePinLaw", name := "step", desc := "([I[CIII)V" } : Jvm.MethodName)).before a0 Z = true := hw _ (List.mem_of_getElem? (i := 27) rfl)
theorem tw28 {a0 : Array Value} {Z : State} (hw : ∀ d ∈ tables_1, d.before a0 Z = true) : (Jvm.Cond.code ({ cls := "com/example/xtent/xtent/document/TextPositionAdvancePinLaw", name := "step", desc := "([I[CIII)V" } : Jvm.MethodName) method_3_code (6 : Nat) (Option.none : Option Jvm.ClassFile.FieldType)).before a0 Z = true := hw _ (List.mem_of_getElem? (i := 28) rfl)
theorem tw29 {a0 : Array Value} {Z : State} (hw : ∀ d ∈ tables_1, d.before a0 Z = true) : (Jvm.Cond.methodLink "com/example/xtent/xtent/document/TextPositionAdvancePinLaw" (27 : Nat) ({ cls := "com/example/xtent/xtent/document/TextPosition", name := "line", desc := "()I" } : Jvm.MethodName)).before a0 Z = true := hw _ (List.mem_of_getElem? (i := 29) rfl)
theorem tw30 {a0 : Array Value} {Z : State} (hw : ∀ d ∈ tables_1, d.before a0 Z = true) : (Jvm.Cond.declares ({ cls := "com/example/xtent/xtent/document/TextPosition", name := "line", desc := "()I" } : Jvm.MethodName)).before a0 Z = true := hw _ (List.mem_of_getElem? (i := 30) rfl)
theorem tw31 {a0 : Array Value} {Z : State} (hw : ∀ d ∈ tables_1, d.before a0 Z = true) : (Jvm.Cond.instanceMethod ({ cls := "com/example/xtent/xtent/document/TextPosition", name := "line", desc := "()I" } : Jvm.MethodName)).before a0 Z = true := hw _ (List.mem_of_getElem? (i := 31) rfl)
theorem tw32 {a0 : Array Value} {Z : State} (hw : ∀ d ∈ tables_1, d.before a0 Z = true) : (Jvm.Cond.selects "com/example/xtent/xtent/document/TextPosition" ({ cls := "com/example/xtent/xtent/document/TextPosition", name := "line", desc := "()I" } : Jvm.MethodName) ({ cls := "com/example/xtent/xtent/document/TextPosition", name := "line", desc := "()I" } : Jvm.MethodName)).before a0 Z = true := hw _ (List.mem_of_getElem? (i := 32) rfl)
theorem tw33 {a0 : Array Value} {Z : State} (hw : ∀ d ∈ tables_1, d.before a0 Z = true) : (Jvm.Cond.code ({ cls := "com/example/xtent/xtent/document/TextPosition", name := "line", desc := "()I" } : Jvm.MethodName) prog_25_method_4_code (1 : Nat) (Option.some Jvm.ClassFile.FieldType.int)).before a0 Z = true := hw _ (List.mem_of_getElem? (i := 33) rfl)
theorem tw34 {a0 : Array Value} {Z : State} (hw : ∀ d ∈ tables_1, d.before a0 Z = true) : (Jvm.Cond.methodLink "com/example/xtent/xtent/document/TextPositionAdvancePinLaw" (31 : Nat) ({ cls := "com/example/xtent/xtent/document/TextPosition", name := "column", desc := "()I" } : Jvm.MethodName)).before a0 Z = true := hw _ (List.mem_of_getElem? (i := 34) rfl)
theorem tw35 {a0 : Array Value} {Z : State} (hw : ∀ d ∈ tables_1, d.before a0 Z = true) : (Jvm.Cond.declares ({ cls := "com/example/xtent/xtent/document/TextPosition", name := "column", desc := "()I" } : Jvm.MethodName)).before a0 Z = true := hw _ (List.mem_of_getElem? (i := 35) rfl)
theorem tw36 {a0 : Array Value} {Z : State} (hw : ∀ d ∈ tables_1, d.before a0 Z = true) : (Jvm.Cond.instanceMethod ({ cls := "com/example/xtent/xtent/document/TextPosition", name := "column", desc := "()I" } : Jvm.MethodName)).before a0 Z = true := hw _ (List.mem_of_getElem? (i := 36) rfl)
theorem tw37 {a0 : Array Value} {Z : State} (hw : ∀ d ∈ tables_1, d.before a0 Z = true) : (Jvm.Cond.selects "com/example/xtent/xtent/document/TextPosition" ({ cls := "com/example/xtent/xtent/document/TextPosition", name := "column", desc := "()I" } : Jvm.MethodName) ({ cls := "com/example/xtent/xtent/document/TextPosition", name := "column", desc := "()I" } : Jvm.MethodName)).before a0 Z = true := hw _ (List.mem_of_getElem? (i := 37) rfl)
theorem tw38 {a0 : Array Value} {Z : State} (hw : ∀ d ∈ tables_1, d.before a0 Z = true) : (Jvm.Cond.code ({ cls := "com/example/xtent/xtent/document/TextPosition", name := "column", desc := "()I" } : Jvm.MethodName) prog_25_method_5_code (1 : Nat) (Option.some Jvm.ClassFile.FieldType.int)).before a0 Z = true := hw _ (List.mem_of_getElem? (i := 38) rfl)
theorem tw39 {a0 : Array Value} {Z : State} (hw : ∀ d ∈ tables_1, d.before a0 Z = true) : (Jvm.Cond.fieldLink "com/example/xtent/xtent/document/TextPosition" (16 : Nat) "com/example/xtent/xtent/document/TextPosition" "afterCarriageReturn" "Z").before a0 Z = true := hw _ (List.mem_of_getElem? (i := 39) rfl)
theorem tw40 {a0 : Array Value} {Z : State} (hw : ∀ d ∈ tables_1, d.before a0 Z = true) : (Jvm.Cond.lays "com/example/xtent/xtent/document/TextPosition" "com/example/xtent/xtent/document/TextPosition" "afterCarriageReturn" "Z").before a0 Z = true := hw _ (List.mem_of_getElem? (i := 40) rfl)
theorem d1_0 : decode method_2_code 0 = .ok (.lload_n 0, 1) := by decide +kernel
theorem d1_1 : decode method_2_code 1 = .ok (.iload_n 2, 1) := by decide +kernel
theorem d1_2 : decode method_2_code 2 = .ok (.lushr, 1) := by decide +kernel
theorem d1_3 : decode method_2_code 3 = .ok (.ldc2_w 7, 3) := by decide +kernel
theorem d1_6 : decode method_2_code 6 = .ok (.land, 1) := by decide +kernel
theorem d1_7 : decode method_2_code 7 = .ok (.l2i, 1) := by decide +kernel
theorem d1_8 : decode method_2_code 8 = .ok (.istore_n 3, 1) := by decide +kernel
theorem d1_9 : decode method_2_code 9 = .ok (.iload_n 3, 1) := by decide +kernel
theorem d1_10 : decode method_2_code 10 = .ok (.iconst 3, 1) := by decide +kernel
theorem d1_11 : decode method_2_code 11 = .ok (.iand, 1) := by decide +kernel
theorem d1_12 : decode method_2_code 12 = .ok (.istore 4, 2) := by decide +kernel
theorem d1_14 : decode method_2_code 14 = .ok (.iload 4, 2) := by decide +kernel
theorem d1_16 : decode method_2_code 16 = .ok (.ifCond .ne 6, 3) := by decide +kernel
theorem d1_19 : decode method_2_code 19 = .ok (.bipush 13, 2) := by decide +kernel
theorem d1_21 : decode method_2_code 21 = .ok (.ireturn, 1) := by decide +kernel
theorem d1_22 : decode method_2_code 22 = .ok (.iload 4, 2) := by decide +kernel
theorem d1_24 : decode method_2_code 24 = .ok (.iconst 1, 1) := by decide +kernel
theorem d1_25 : decode method_2_code 25 = .ok (.if_icmp .ne 6, 3) := by decide +kernel
theorem d1_28 : decode method_2_code 28 = .ok (.bipush 10, 2) := by decide +kernel
theorem d1_30 : decode method_2_code 30 = .ok (.ireturn, 1) := by decide +kernel
theorem d1_31 : decode method_2_code 31 = .ok (.iload_n 3, 1) := by decide +kernel
theorem d1_32 : decode method_2_code 32 = .ok (.iconst 2, 1) := by decide +kernel
theorem d1_33 : decode method_2_code 33 = .ok (.iushr, 1) := by decide +kernel
theorem d1_34 : decode method_2_code 34 = .ok (.ldc 9, 2) := by decide +kernel
theorem d1_36 : decode method_2_code 36 = .ok (.iand, 1) := by decide +kernel
theorem d1_37 : decode method_2_code 37 = .ok (.i2c, 1) := by decide +kernel
theorem d1_38 : decode method_2_code 38 = .ok (.ireturn, 1) := by decide +kernel
theorem d2_0 : decode prog_25_method_1_code 0 = .ok (.aload_n 0, 1) := by decide +kernel
theorem d2_1 : decode prog_25_method_1_code 1 = .ok (.invokespecial 1, 3) := by decide +kernel
theorem d2_4 : decode prog_25_method_1_code 4 = .ok (.aload_n 0, 1) := by decide +kernel
theorem d2_5 : decode prog_25_method_1_code 5 = .ok (.iconst 1, 1) := by decide +kernel
theorem d2_6 : decode prog_25_method_1_code 6 = .ok (.putfield 7, 3) := by decide +kernel
theorem d2_9 : decode prog_25_method_1_code 9 = .ok (.aload_n 0, 1) := by decide +kernel
theorem d2_10 : decode prog_25_method_1_code 10 = .ok (.iconst 1, 1) := by decide +kernel
theorem d2_11 : decode prog_25_method_1_code 11 = .ok (.putfield 13, 3) := by decide +kernel
theorem d2_14 : decode prog_25_method_1_code 14 = .ok (.return_, 1) := by decide +kernel
theorem d4_0 : decode prog_25_method_3_code 0 = .ok (.iload_n 2, 1) := by decide +kernel
theorem d4_1 : decode prog_25_method_3_code 1 = .ok (.istore 4, 2) := by decide +kernel
theorem d4_3 : decode prog_25_method_3_code 3 = .ok (.iload_n 2, 1) := by decide +kernel
theorem d4_4 : decode prog_25_method_3_code 4 = .ok (.istore 5, 2) := by decide +kernel
theorem d4_6 : decode prog_25_method_3_code 6 = .ok (.iload 5, 2) := by decide +kernel
theorem d4_8 : decode prog_25_method_3_code 8 = .ok (.iload_n 3, 1) := by decide +kernel
theorem d4_9 : decode prog_25_method_3_code 9 = .ok (.if_icmp .ge 110, 3) := by decide +kernel
theorem d4_12 : decode prog_25_method_3_code 12 = .ok (.aload_n 1, 1) := by decide +kernel
theorem d4_13 : decode prog_25_method_3_code 13 = .ok (.iload 5, 2) := by decide +kernel
theorem d4_15 : decode prog_25_method_3_code 15 = .ok (.caload, 1) := by decide +kernel
theorem d4_16 : decode prog_25_method_3_code 16 = .ok (.istore 6, 2) := by decide +kernel
theorem d4_18 : decode prog_25_method_3_code 18 = .ok (.iload 6, 2) := by decide +kernel
theorem d4_20 : decode prog_25_method_3_code 20 = .ok (.bipush 13, 2) := by decide +kernel
theorem d4_22 : decode prog_25_method_3_code 22 = .ok (.if_icmp .le 6, 3) := by decide +kernel
theorem d4_25 : decode prog_25_method_3_code 25 = .ok (.goto 88, 3) := by decide +kernel
theorem d4_28 : decode prog_25_method_3_code 28 = .ok (.iload 5, 2) := by decide +kernel
theorem d4_30 : decode prog_25_method_3_code 30 = .ok (.iload_n 2, 1) := by decide +kernel
theorem d4_31 : decode prog_25_method_3_code 31 = .ok (.if_icmp .le 22, 3) := by decide +kernel
theorem d4_34 : decode prog_25_method_3_code 34 = .ok (.aload_n 1, 1) := by decide +kernel
theorem d4_35 : decode prog_25_method_3_code 35 = .ok (.iload 5, 2) := by decide +kernel
theorem d4_37 : decode prog_25_method_3_code 37 = .ok (.iconst 1, 1) := by decide +kernel
theorem d4_38 : decode prog_25_method_3_code 38 = .ok (.isub, 1) := by decide +kernel
theorem d4_39 : decode prog_25_method_3_code 39 = .ok (.caload, 1) := by decide +kernel
theorem d4_40 : decode prog_25_method_3_code 40 = .ok (.bipush 13, 2) := by decide +kernel
theorem d4_42 : decode prog_25_method_3_code 42 = .ok (.if_icmp .ne 7, 3) := by decide +kernel
theorem d4_45 : decode prog_25_method_3_code 45 = .ok (.iconst 1, 1) := by decide +kernel
theorem d4_46 : decode prog_25_method_3_code 46 = .ok (.goto 11, 3) := by decide +kernel
theorem d4_49 : decode prog_25_method_3_code 49 = .ok (.iconst 0, 1) := by decide +kernel
theorem d4_50 : decode prog_25_method_3_code 50 = .ok (.goto 7, 3) := by decide +kernel
theorem d4_53 : decode prog_25_method_3_code 53 = .ok (.aload_n 0, 1) := by decide +kernel
theorem d4_54 : decode prog_25_method_3_code 54 = .ok (.getfield 16, 3) := by decide +kernel
theorem d4_57 : decode prog_25_method_3_code 57 = .ok (.istore 7, 2) := by decide +kernel
theorem d4_59 : decode prog_25_method_3_code 59 = .ok (.iload 6, 2) := by decide +kernel
theorem d4_61 : decode prog_25_method_3_code 61 = .ok (.bipush 13, 2) := by decide +kernel
theorem d4_63 : decode prog_25_method_3_code 63 = .ok (.if_icmp .eq 15, 3) := by decide +kernel
theorem d4_66 : decode prog_25_method_3_code 66 = .ok (.iload 6, 2) := by decide +kernel
theorem d4_68 : decode prog_25_method_3_code 68 = .ok (.bipush 10, 2) := by decide +kernel
theorem d4_70 : decode prog_25_method_3_code 70 = .ok (.if_icmp .ne 18, 3) := by decide +kernel
theorem d4_73 : decode prog_25_method_3_code 73 = .ok (.iload 7, 2) := by decide +kernel
theorem d4_75 : decode prog_25_method_3_code 75 = .ok (.ifCond .ne 13, 3) := by decide +kernel
theorem d4_78 : decode prog_25_method_3_code 78 = .ok (.aload_n 0, 1) := by decide +kernel
theorem d4_79 : decode prog_25_method_3_code 79 = .ok (.dup, 1) := by decide +kernel
theorem d4_80 : decode prog_25_method_3_code 80 = .ok (.getfield 7, 3) := by decide +kernel
theorem d4_83 : decode prog_25_method_3_code 83 = .ok (.iconst 1, 1) := by decide +kernel
theorem d4_84 : decode prog_25_method_3_code 84 = .ok (.iadd, 1) := by decide +kernel
theorem d4_85 : decode prog_25_method_3_code 85 = .ok (.putfield 7, 3) := by decide +kernel
theorem d4_88 : decode prog_25_method_3_code 88 = .ok (.iload 6, 2) := by decide +kernel
theorem d4_90 : decode prog_25_method_3_code 90 = .ok (.bipush 13, 2) := by decide +kernel
theorem d4_92 : decode prog_25_method_3_code 92 = .ok (.if_icmp .eq 10, 3) := by decide +kernel
theorem d4_95 : decode prog_25_method_3_code 95 = .ok (.iload 6, 2) := by decide +kernel
theorem d4_97 : decode prog_25_method_3_code 97 = .ok (.bipush 10, 2) := by decide +kernel
theorem d4_99 : decode prog_25_method_3_code 99 = .ok (.if_icmp .ne 14, 3) := by decide +kernel
theorem d4_102 : decode prog_25_method_3_code 102 = .ok (.iload 5, 2) := by decide +kernel
theorem d4_104 : decode prog_25_method_3_code 104 = .ok (.iconst 1, 1) := by decide +kernel
theorem d4_105 : decode prog_25_method_3_code 105 = .ok (.iadd, 1) := by decide +kernel
theorem d4_106 : decode prog_25_method_3_code 106 = .ok (.istore 4, 2) := by decide +kernel
theorem d4_108 : decode prog_25_method_3_code 108 = .ok (.aload_n 0, 1) := by decide +kernel
theorem d4_109 : decode prog_25_method_3_code 109 = .ok (.iconst 1, 1) := by decide +kernel
theorem d4_110 : decode prog_25_method_3_code 110 = .ok (.putfield 13, 3) := by decide +kernel
theorem d4_113 : decode prog_25_method_3_code 113 = .ok (.iinc 5 1, 3) := by decide +kernel
theorem d4_116 : decode prog_25_method_3_code 116 = .ok (.goto (-110), 3) := by decide +kernel
theorem d4_119 : decode prog_25_method_3_code 119 = .ok (.aload_n 0, 1) := by decide +kernel
theorem d4_120 : decode prog_25_method_3_code 120 = .ok (.dup, 1) := by decide +kernel
theorem d4_121 : decode prog_25_method_3_code 121 = .ok (.getfield 13, 3) := by decide +kernel
theorem d4_124 : decode prog_25_method_3_code 124 = .ok (.iload_n 3, 1) := by decide +kernel
theorem d4_125 : decode prog_25_method_3_code 125 = .ok (.iload 4, 2) := by decide +kernel
theorem d4_127 : decode prog_25_method_3_code 127 = .ok (.isub, 1) := by decide +kernel
theorem d4_128 : decode prog_25_method_3_code 128 = .ok (.iadd, 1) := by decide +kernel
theorem d4_129 : decode prog_25_method_3_code 129 = .ok (.putfield 13, 3) := by decide +kernel
theorem d4_132 : decode prog_25_method_3_code 132 = .ok (.iload_n 3, 1) := by decide +kernel
theorem d4_133 : decode prog_25_method_3_code 133 = .ok (.iload_n 2, 1) := by decide +kernel
theorem d4_134 : decode prog_25_method_3_code 134 = .ok (.if_icmp .le 22, 3) := by decide +kernel
theorem d4_137 : decode prog_25_method_3_code 137 = .ok (.aload_n 0, 1) := by decide +kernel
theorem d4_138 : decode prog_25_method_3_code 138 = .ok (.aload_n 1, 1) := by decide +kernel
theorem d4_139 : decode prog_25_method_3_code 139 = .ok (.iload_n 3, 1) := by decide +kernel
theorem d4_140 : decode prog_25_method_3_code 140 = .ok (.iconst 1, 1) := by decide +kernel
theorem d4_141 : decode prog_25_method_3_code 141 = .ok (.isub, 1) := by decide +kernel
theorem d4_142 : decode prog_25_method_3_code 142 = .ok (.caload, 1) := by decide +kernel
theorem d4_143 : decode prog_25_method_3_code 143 = .ok (.bipush 13, 2) := by decide +kernel
theorem d4_145 : decode prog_25_method_3_code 145 = .ok (.if_icmp .ne 7, 3) := by decide +kernel
theorem d4_148 : decode prog_25_method_3_code 148 = .ok (.iconst 1, 1) := by decide +kernel
theorem d4_149 : decode prog_25_method_3_code 149 = .ok (.goto 4, 3) := by decide +kernel
theorem d4_152 : decode prog_25_method_3_code 152 = .ok (.iconst 0, 1) := by decide +kernel
theorem d4_153 : decode prog_25_method_3_code 153 = .ok (.putfield 16, 3) := by decide +kernel
theorem d4_156 : decode prog_25_method_3_code 156 = .ok (.return_, 1) := by decide +kernel
theorem d5_0 : decode method_3_code 0 = .ok (.iload_n 2, 1) := by decide +kernel
theorem d5_1 : decode method_3_code 1 = .ok (.iload_n 3, 1) := by decide +kernel
theorem d5_2 : decode method_3_code 2 = .ok (.if_icmp .lt 9, 3) := by decide +kernel
theorem d5_5 : decode method_3_code 5 = .ok (.iload_n 2, 1) := by decide +kernel
theorem d5_6 : decode method_3_code 6 = .ok (.iload 4, 2) := by decide +kernel
theorem d5_8 : decode method_3_code 8 = .ok (.if_icmp .lt 4, 3) := by decide +kernel
theorem d5_11 : decode method_3_code 11 = .ok (.return_, 1) := by decide +kernel
theorem d5_12 : decode method_3_code 12 = .ok (.aload_n 1, 1) := by decide +kernel
theorem d5_13 : decode method_3_code 13 = .ok (.iload_n 2, 1) := by decide +kernel
theorem d5_14 : decode method_3_code 14 = .ok (.caload, 1) := by decide +kernel
theorem d5_15 : decode method_3_code 15 = .ok (.istore 5, 2) := by decide +kernel
theorem d5_17 : decode method_3_code 17 = .ok (.iload 5, 2) := by decide +kernel
theorem d5_19 : decode method_3_code 19 = .ok (.bipush 13, 2) := by decide +kernel
theorem d5_21 : decode method_3_code 21 = .ok (.if_icmp .ne 22, 3) := by decide +kernel
theorem d5_24 : decode method_3_code 24 = .ok (.aload_n 0, 1) := by decide +kernel
theorem d5_25 : decode method_3_code 25 = .ok (.iconst 0, 1) := by decide +kernel
theorem d5_26 : decode method_3_code 26 = .ok (.aload_n 0, 1) := by decide +kernel
theorem d5_27 : decode method_3_code 27 = .ok (.iconst 0, 1) := by decide +kernel
theorem d5_28 : decode method_3_code 28 = .ok (.iaload, 1) := by decide +kernel
theorem d5_29 : decode method_3_code 29 = .ok (.iconst 1, 1) := by decide +kernel
theorem d5_30 : decode method_3_code 30 = .ok (.iadd, 1) := by decide +kernel
theorem d5_31 : decode method_3_code 31 = .ok (.iastore, 1) := by decide +kernel
theorem d5_32 : decode method_3_code 32 = .ok (.aload_n 0, 1) := by decide +kernel
theorem d5_33 : decode method_3_code 33 = .ok (.iconst 1, 1) := by decide +kernel
theorem d5_34 : decode method_3_code 34 = .ok (.iconst 1, 1) := by decide +kernel
theorem d5_35 : decode method_3_code 35 = .ok (.iastore, 1) := by decide +kernel
theorem d5_36 : decode method_3_code 36 = .ok (.aload_n 0, 1) := by decide +kernel
theorem d5_37 : decode method_3_code 37 = .ok (.iconst 2, 1) := by decide +kernel
theorem d5_38 : decode method_3_code 38 = .ok (.iconst 1, 1) := by decide +kernel
theorem d5_39 : decode method_3_code 39 = .ok (.iastore, 1) := by decide +kernel
theorem d5_40 : decode method_3_code 40 = .ok (.goto 47, 3) := by decide +kernel
theorem d5_43 : decode method_3_code 43 = .ok (.iload 5, 2) := by decide +kernel
theorem d5_45 : decode method_3_code 45 = .ok (.bipush 10, 2) := by decide +kernel
theorem d5_47 : decode method_3_code 47 = .ok (.if_icmp .ne 28, 3) := by decide +kernel
theorem d5_50 : decode method_3_code 50 = .ok (.aload_n 0, 1) := by decide +kernel
theorem d5_51 : decode method_3_code 51 = .ok (.iconst 2, 1) := by decide +kernel
theorem d5_52 : decode method_3_code 52 = .ok (.iaload, 1) := by decide +kernel
theorem d5_53 : decode method_3_code 53 = .ok (.ifCond .ne 11, 3) := by decide +kernel
theorem d5_56 : decode method_3_code 56 = .ok (.aload_n 0, 1) := by decide +kernel
theorem d5_57 : decode method_3_code 57 = .ok (.iconst 0, 1) := by decide +kernel
theorem d5_58 : decode method_3_code 58 = .ok (.aload_n 0, 1) := by decide +kernel
theorem d5_59 : decode method_3_code 59 = .ok (.iconst 0, 1) := by decide +kernel
theorem d5_60 : decode method_3_code 60 = .ok (.iaload, 1) := by decide +kernel
theorem d5_61 : decode method_3_code 61 = .ok (.iconst 1, 1) := by decide +kernel
theorem d5_62 : decode method_3_code 62 = .ok (.iadd, 1) := by decide +kernel
theorem d5_63 : decode method_3_code 63 = .ok (.iastore, 1) := by decide +kernel
theorem d5_64 : decode method_3_code 64 = .ok (.aload_n 0, 1) := by decide +kernel
theorem d5_65 : decode method_3_code 65 = .ok (.iconst 1, 1) := by decide +kernel
theorem d5_66 : decode method_3_code 66 = .ok (.iconst 1, 1) := by decide +kernel
theorem d5_67 : decode method_3_code 67 = .ok (.iastore, 1) := by decide +kernel
theorem d5_68 : decode method_3_code 68 = .ok (.aload_n 0, 1) := by decide +kernel
theorem d5_69 : decode method_3_code 69 = .ok (.iconst 2, 1) := by decide +kernel
theorem d5_70 : decode method_3_code 70 = .ok (.iconst 0, 1) := by decide +kernel
theorem d5_71 : decode method_3_code 71 = .ok (.iastore, 1) := by decide +kernel
theorem d5_72 : decode method_3_code 72 = .ok (.goto 15, 3) := by decide +kernel
theorem d5_75 : decode method_3_code 75 = .ok (.aload_n 0, 1) := by decide +kernel
theorem d5_76 : decode method_3_code 76 = .ok (.iconst 1, 1) := by decide +kernel
theorem d5_77 : decode method_3_code 77 = .ok (.aload_n 0, 1) := by decide +kernel
theorem d5_78 : decode method_3_code 78 = .ok (.iconst 1, 1) := by decide +kernel
theorem d5_79 : decode method_3_code 79 = .ok (.iaload, 1) := by decide +kernel
theorem d5_80 : decode method_3_code 80 = .ok (.iconst 1, 1) := by decide +kernel
theorem d5_81 : decode method_3_code 81 = .ok (.iadd, 1) := by decide +kernel
theorem d5_82 : decode method_3_code 82 = .ok (.iastore, 1) := by decide +kernel
theorem d5_83 : decode method_3_code 83 = .ok (.aload_n 0, 1) := by decide +kernel
theorem d5_84 : decode method_3_code 84 = .ok (.iconst 2, 1) := by decide +kernel
theorem d5_85 : decode method_3_code 85 = .ok (.iconst 0, 1) := by decide +kernel
theorem d5_86 : decode method_3_code 86 = .ok (.iastore, 1) := by decide +kernel
theorem d5_87 : decode method_3_code 87 = .ok (.return_, 1) := by decide +kernel
theorem d6_0 : decode prog_25_method_4_code 0 = .ok (.aload_n 0, 1) := by decide +kernel
theorem d6_1 : decode prog_25_method_4_code 1 = .ok (.getfield 7, 3) := by decide +kernel
theorem d6_4 : decode prog_25_method_4_code 4 = .ok (.ireturn, 1) := by decide +kernel
theorem d7_0 : decode prog_25_method_5_code 0 = .ok (.aload_n 0, 1) := by decide +kernel
theorem d7_1 : decode prog_25_method_5_code 1 = .ok (.getfield 13, 3) := by decide +kernel
theorem d7_4 : decode prog_25_method_5_code 4 = .ok (.ireturn, 1) := by decide +kernel
theorem pd0 : parseMethodDescriptor "(JI)C" = some ⟨[.long, .int], some .char⟩ := by decide +kernel
theorem pd1 : parseMethodDescriptor "()V" = some ⟨[], none⟩ := by decide +kernel
theorem pd2 : parseMethodDescriptor "([CII)V" = some ⟨[(.array .char), .int, .int], none⟩ := by decide +kernel
theorem pd3 : parseMethodDescriptor "([I[CIII)V" = some ⟨[(.array .int), (.array .char), .int, .int, .int], none⟩ := by decide +kernel
theorem pd4 : parseMethodDescriptor "()I" = some ⟨[], some .int⟩ := by decide +kernel
def Tq (Z : State) (h : Heap) (a : Addr) (v0 v1 v2 : Value) : Prop := Exa Z h a "com/example/xtent/xtent/document/TextPosition" ∧ Fld Z h a "com/example/xtent/xtent/document/TextPosition" "line" "I" v0 ∧ Fld Z h a "com/example/xtent/xtent/document/TextPosition" "column" "I" v1 ∧ Fld Z h a "com/example/xtent/xtent/document/TextPosition" "afterCarriageReturn" "Z" v2
theorem Tq.exa {Z : State} {h : Heap} {a : Addr} {v0 v1 v2 : Value} (O : Tq Z h a v0 v1 v2) : Exa Z h a "com/example/xtent/xtent/document/TextPosition" := O.1
theorem Tq.lt {Z : State} {h : Heap} {a : Addr} {v0 v1 v2 : Value} (O : Tq Z h a v0 v1 v2) : a < h.size := O.1.lt
theorem Tq.ext {Z : State} {h h' : Heap} {a : Addr} {v0 v1 v2 : Value} (O : Tq Z h a v0 v1 v2) (X : Ext h h') : Tq Z h' a v0 v1 v2 := by
  obtain ⟨E, F0, F1, F2⟩ := O; exact ⟨E.ext X, F0.ext X, F1.ext X, F2.ext X⟩
theorem Tq.keep {Z : State} {h h' : Heap} {a : Addr} {ws : List Addr} {v0 v1 v2 : Value} (O : Tq Z h a v0 v1 v2) (K : Keep h h' ws) (q : a ∉ ws) : Tq Z h' a v0 v1 v2 := by
  obtain ⟨E, F0, F1, F2⟩ := O; exact ⟨E.keep K, F0.keep K q, F1.keep K q, F2.keep K q⟩
theorem Tq.get_line {Z : State} {h : Heap} {a : Addr} {v0 v1 v2 : Value} (O : Tq Z h a v0 v1 v2) : Fld Z h a "com/example/xtent/xtent/document/TextPosition" "line" "I" v0 := by
  obtain ⟨E, F0, F1, F2⟩ := O; exact F0
theorem Tq.put_line {a0 : Array Value} {Z : State} (hw : ∀ d ∈ tables_1, d.before a0 Z = true) {h h' : Heap} {a : Addr} {v0 v1 v2 w : Value} (O : Tq Z h a v0 v1 v2) (W : Wr h h' a (Jvm.RoadKit.slotOf Z "com/example/xtent/xtent/document/TextPosition" "line" "I") w) : Tq Z h' a w v1 v2 := by
  obtain ⟨E, F0, F1, F2⟩ := O; exact ⟨E.wr W, F0.same W, F1.other W (Or.inr (slot_ne (Or.inl (tw19 hw)) (Or.inl (tw17 hw)) (by decide) (t := .int) (t' := .int) (by decide) (by decide))), F2.other W (Or.inr (slot_ne (Or.inl (tw40 hw)) (Or.inl (tw17 hw)) (by decide) (t := .boolean) (t' := .int) (by decide) (by decide)))⟩
theorem Tq.get_column {Z : State} {h : Heap} {a : Addr} {v0 v1 v2 : Value} (O : Tq Z h a v0 v1 v2) : Fld Z h a "com/example/xtent/xtent/document/TextPosition" "column" "I" v1 := by
  obtain ⟨E, F0, F1, F2⟩ := O; exact F1
theorem Tq.put_column {a0 : Array Value} {Z : State} (hw : ∀ d ∈ tables_1, d.before a0 Z = true) {h h' : Heap} {a : Addr} {v0 v1 v2 w : Value} (O : Tq Z h a v0 v1 v2) (W : Wr h h' a (Jvm.RoadKit.slotOf Z "com/example/xtent/xtent/document/TextPosition" "column" "I") w) : Tq Z h' a v0 w v2 := by
  obtain ⟨E, F0, F1, F2⟩ := O; exact ⟨E.wr W, F0.other W (Or.inr (slot_ne (Or.inl (tw17 hw)) (Or.inl (tw19 hw)) (by decide) (t := .int) (t' := .int) (by decide) (by decide))), F1.same W, F2.other W (Or.inr (slot_ne (Or.inl (tw40 hw)) (Or.inl (tw19 hw)) (by decide) (t := .boolean) (t' := .int) (by decide) (by decide)))⟩
theorem Tq.get_afterCarriageReturn {Z : State} {h : Heap} {a : Addr} {v0 v1 v2 : Value} (O : Tq Z h a v0 v1 v2) : Fld Z h a "com/example/xtent/xtent/document/TextPosition" "afterCarriageReturn" "Z" v2 := by
  obtain ⟨E, F0, F1, F2⟩ := O; exact F2
theorem Tq.put_afterCarriageReturn {a0 : Array Value} {Z : State} (hw : ∀ d ∈ tables_1, d.before a0 Z = true) {h h' : Heap} {a : Addr} {v0 v1 v2 w : Value} (O : Tq Z h a v0 v1 v2) (W : Wr h h' a (Jvm.RoadKit.slotOf Z "com/example/xtent/xtent/document/TextPosition" "afterCarriageReturn" "Z") w) : Tq Z h' a v0 v1 w := by
  obtain ⟨E, F0, F1, F2⟩ := O; exact ⟨E.wr W, F0.other W (Or.inr (slot_ne (Or.inl (tw17 hw)) (Or.inl (tw40 hw)) (by decide) (t := .int) (t' := .boolean) (by decide) (by decide))), F1.other W (Or.inr (slot_ne (Or.inl (tw19 hw)) (Or.inl (tw40 hw)) (by decide) (t := .int) (t' := .boolean) (by decide) (by decide))), F2.same W⟩
def fDraw (w : Int64) (k : Int32) : Int32 :=
  if (((((w).toUInt64 >>> (k &&& 0x3f).toInt64.toUInt64).toInt64 &&& (262143 : Int64))).toInt32 &&& (3 : Int32)) = (0 : Int32) then
    nar .char (13 : Int32)
  else
    if (((((w).toUInt64 >>> (k &&& 0x3f).toInt64.toUInt64).toInt64 &&& (262143 : Int64))).toInt32 &&& (3 : Int32)) = (1 : Int32) then
      nar .char (10 : Int32)
    else
      nar .char ((((((((w).toUInt64 >>> (k &&& 0x3f).toInt64.toUInt64).toInt64 &&& (262143 : Int64))).toInt32).toUInt32 >>> ((2 : Int32) &&& 31).toUInt32).toInt32 &&& (65535 : Int32))).toUInt32.toUInt16.toUInt32.toInt32
set_option maxRecDepth 65536 in
set_option maxHeartbeats 4000000 in
theorem ct_fDraw (l : Launch) (Z : State) (a0 : Array Value) (hw : ∀ d ∈ tables_1, d.before a0 Z = true) (w : Int64) (k : Int32) (h0 : Heap) (n0 : Nat) (Z0 : n0 ≤ h0.size) :
    Ct l Z (⟨"com/example/xtent/xtent/document/TextPositionAdvancePinLaw", "draw", "(JI)C"⟩ : MethodName) method_2_code 5 (some .char) ({ frames := 0, cells := 0, slots := 0, locals := 0 } : Room) #[(.long w), (.int k)] h0 n0 (fun r_ h_ => r_ = some (.int (fDraw w k)) ∧ h_ = h0) := by
  refine Ct.intro (plainFor_of_name (by first | (simp [plainName, overriddenIn]; done) | decide +kernel)) Z0 ?_
  intro p e s m below meth c T X
  refine WP.cast (g' := (mkF m 0 #[.val (.long w), .second, .val (.int k), .unset, .unset] [])) (by first | (simp [entryFrame, mkF, argsToLocals, Value.category]; done) | rfl) ?_
  refine w_lloadN X d1_0 rfl (pc' := 1) rfl ?_
  refine w_iloadN X d1_1 rfl (pc' := 2) rfl ?_
  refine w_lushr X d1_2 (pc' := 3) rfl ?_
  refine w_ldcJ X d1_3 (tw5 hw) (pc' := 6) rfl ?_
  refine w_land X d1_6 (pc' := 7) rfl ?_
  refine w_l2i X d1_7 (pc' := 8) rfl ?_
  refine w_istoreN X d1_8 (L' := #[.val (.long w), .second, .val (.int k), .val (.int ((((w).toUInt64 >>> (k &&& 0x3f).toInt64.toUInt64).toInt64 &&& (262143 : Int64))).toInt32), .unset]) rfl (pc' := 9) rfl ?_
  refine w_iloadN X d1_9 rfl (pc' := 10) rfl ?_
  refine w_iconst X d1_10 (v := (3 : Int32)) (by decide) (pc' := 11) rfl ?_
  refine w_iand X d1_11 (pc' := 12) rfl ?_
  refine w_istore X d1_12 (L' := #[.val (.long w), .second, .val (.int k), .val (.int ((((w).toUInt64 >>> (k &&& 0x3f).toInt64.toUInt64).toInt64 &&& (262143 : Int64))).toInt32), .val (.int (((((w).toUInt64 >>> (k &&& 0x3f).toInt64.toUInt64).toInt64 &&& (262143 : Int64))).toInt32 &&& (3 : Int32)))]) rfl (pc' := 14) rfl ?_
  refine w_iload X d1_14 rfl (pc' := 16) rfl ?_
  refine w_if_ne X d1_16 (by decide) (p1 := 22) (by decide) (p2 := 19) rfl (fun c16 => ?_) (fun c16 => ?_)
  · -- c16 taken
    refine w_iload X d1_22 rfl (pc' := 24) rfl ?_
    refine w_iconst X d1_24 (v := (1 : Int32)) (by decide) (pc' := 25) rfl ?_
    refine w_icmp_ne X d1_25 (by decide) (p1 := 31) (by decide) (p2 := 28) rfl (fun c25 => ?_) (fun c25 => ?_)
    · -- c25 taken
      refine w_iloadN X d1_31 rfl (pc' := 32) rfl ?_
      refine w_iconst X d1_32 (v := (2 : Int32)) (by decide) (pc' := 33) rfl ?_
      refine w_iushr X d1_33 (pc' := 34) rfl ?_
      refine w_ldcI X d1_34 (tw6 hw) (pc' := 36) rfl ?_
      refine w_iand X d1_36 (pc' := 37) rfl ?_
      refine w_i2c X d1_37 (pc' := 38) rfl ?_
      exact w_retN X rfl (by simp) d1_38 rfl (by decide) (by decide) ⟨by rw [fDraw, if_neg c16, if_neg c25], rfl⟩
    · -- c25 not taken
      refine w_bipush X d1_28 (v := (10 : Int32)) (by decide) (pc' := 30) rfl ?_
      exact w_retN X rfl (by simp) d1_30 rfl (by decide) (by decide) ⟨by rw [fDraw, if_neg c16, if_pos c25], rfl⟩
  · -- c16 not taken
    refine w_bipush X d1_19 (v := (13 : Int32)) (by decide) (pc' := 21) rfl ?_
    exact w_retN X rfl (by simp) d1_21 rfl (by decide) (by decide) ⟨by rw [fDraw, if_pos c16], rfl⟩
set_option maxRecDepth 65536 in
set_option maxHeartbeats 4000000 in
theorem ct_init (l : Launch) (Z : State) (a0 : Array Value) (hw : ∀ d ∈ tables_1, d.before a0 Z = true) (a : Addr) (h0 : Heap) (n0 : Nat) (Z0 : n0 ≤ h0.size) (ga : n0 ≤ a) (O : Tq Z h0 a (.int 0) (.int 0) (.int 0)) :
    Ct l Z (⟨"com/example/xtent/xtent/document/TextPosition", "<init>", "()V"⟩ : MethodName) prog_25_method_1_code 1 none ({ frames := 1, cells := 0, slots := 0, locals := 12 } : Room) #[(.ref a)] h0 n0 (fun r h => r = none ∧ Keep h0 h [a] ∧ Tq Z h a (.int 1) (.int 1) (.int 0)) := by
  refine Ct.intro (plainFor_of_name (by first | (simp [plainName, overriddenIn]; done) | decide +kernel)) Z0 ?_
  intro p e s m below meth c T X
  refine WP.cast (g' := (mkF m 0 #[.val (.ref a)] [])) (by first | (simp [entryFrame, mkF, argsToLocals, Value.category]; done) | rfl) ?_
  have K := Keep.refl h0 [a]
  refine w_aloadN X d2_0 rfl rfl (pc' := 1) rfl ?_
  refine w_initO X (tw13 hw) (tw14 hw) (tw15 hw) d2_1 rfl (by decide) rfl (by decide) (pc' := 4) rfl ?_; intro T X
  refine w_aloadN X d2_4 rfl rfl (pc' := 5) rfl ?_
  refine w_iconst X d2_5 (v := (1 : Int32)) (by decide) (pc' := 6) rfl ?_
  refine w_putF X (tw16 hw) O.get_line O.exa (Or.inl (tw17 hw)) (tw8 hw) ga d2_6 (ty := .int) (v' := (.int (1 : Int32))) (by decide) rfl rfl (pc' := 9) rfl ?_; intro T h1 X W2
  have O4 := O.put_line hw W2
  have K3 := Keep.of_wr W2
  have K5 := K.wr W2 (Or.inl (by simp))
  show WP _ _ _ _ _ _ _ _ _ (mkF m 9 #[.val (.ref a)] [])
  refine w_aloadN X d2_9 rfl rfl (pc' := 10) rfl ?_
  refine w_iconst X d2_10 (v := (1 : Int32)) (by decide) (pc' := 11) rfl ?_
  refine w_putF X (tw18 hw) O4.get_column O4.exa (Or.inl (tw19 hw)) (tw8 hw) ga d2_11 (ty := .int) (v' := (.int (1 : Int32))) (by decide) rfl rfl (pc' := 14) rfl ?_; intro T h6 X W7
  have O9 := O4.put_column hw W7
  have K8 := Keep.of_wr W7
  have K10 := K5.wr W7 (Or.inl (by simp))
  show WP _ _ _ _ _ _ _ _ _ (mkF m 14 #[.val (.ref a)] [])
  exact w_retV X rfl d2_14 (by decide) (by decide) ⟨rfl, K10, O9⟩
set_option maxRecDepth 65536 in
set_option maxHeartbeats 4000000 in
theorem ct_line (l : Launch) (Z : State) (a0 : Array Value) (hw : ∀ d ∈ tables_1, d.before a0 Z = true) (a : Addr) (li co af : Int32) (h0 : Heap) (n0 : Nat) (Z0 : n0 ≤ h0.size) (ga : n0 ≤ a) (O : Tq Z h0 a (.int li) (.int co) (.int af)) :
    Ct l Z (⟨"com/example/xtent/xtent/document/TextPosition", "line", "()I"⟩ : MethodName) prog_25_method_4_code 1 (some .int) ({ frames := 0, cells := 0, slots := 0, locals := 0 } : Room) #[(.ref a)] h0 n0 (fun r h => r = some (.int li) ∧ h = h0) := by
  refine Ct.intro (plainFor_of_name (by first | (simp [plainName, overriddenIn]; done) | decide +kernel)) Z0 ?_
  intro p e s m below meth c T X
  refine WP.cast (g' := (mkF m 0 #[.val (.ref a)] [])) (by first | (simp [entryFrame, mkF, argsToLocals, Value.category]; done) | rfl) ?_
  refine w_aloadN X d6_0 rfl rfl (pc' := 1) rfl ?_
  refine w_getF X (tw16 hw) O.get_line d6_1 (pc' := 4) rfl ?_; intro T X
  exact w_retI X rfl d6_4 (by decide) (by decide) ⟨rfl, rfl⟩
set_option maxRecDepth 65536 in
set_option maxHeartbeats 4000000 in
theorem ct_col (l : Launch) (Z : State) (a0 : Array Value) (hw : ∀ d ∈ tables_1, d.before a0 Z = true) (a : Addr) (li co af : Int32) (h0 : Heap) (n0 : Nat) (Z0 : n0 ≤ h0.size) (ga : n0 ≤ a) (O : Tq Z h0 a (.int li) (.int co) (.int af)) :
    Ct l Z (⟨"com/example/xtent/xtent/document/TextPosition", "column", "()I"⟩ : MethodName) prog_25_method_5_code 1 (some .int) ({ frames := 0, cells := 0, slots := 0, locals := 0 } : Room) #[(.ref a)] h0 n0 (fun r h => r = some (.int co) ∧ h = h0) := by
  refine Ct.intro (plainFor_of_name (by first | (simp [plainName, overriddenIn]; done) | decide +kernel)) Z0 ?_
  intro p e s m below meth c T X
  refine WP.cast (g' := (mkF m 0 #[.val (.ref a)] [])) (by first | (simp [entryFrame, mkF, argsToLocals, Value.category]; done) | rfl) ?_
  refine w_aloadN X d7_0 rfl rfl (pc' := 1) rfl ?_
  refine w_getF X (tw18 hw) O.get_column d7_1 (pc' := 4) rfl ?_; intro T X
  exact w_retI X rfl d7_4 (by decide) (by decide) ⟨rfl, rfl⟩
def stp (c : Int32) (q : Int32 × Int32 × Int32) : Int32 × Int32 × Int32 :=
  if c = 13 then (q.1 + 1, 1, 1) else if c = 10 then ((if q.2.2 = 0 then q.1 + 1 else q.1), 1, 0) else (q.1, q.2.1 + 1, 0)
def rn (g : Nat → Int32) : Nat → Nat → Int32 × Int32 × Int32 → Int32 × Int32 × Int32
  | _, 0, q => q
  | i, n + 1, q => rn g (i + 1) n (stp (g i) q)
def inv (g : Nat → Int32) (i jj : Nat) (x5 x4 l1 c1 af : Int32) (q : Int32 × Int32 × Int32) : Prop :=
  l1 = q.1 ∧ c1 + (x5 - x4) = q.2.1 ∧ (jj = i → q.2.2 = af) ∧ (i < jj → q.2.2 = if g (jj - 1) = 13 then 1 else 0)
theorem i32_1 (c x y : Int32) : c + (x + 1 - y) = c + (x - y) + 1 := by
  apply Int32.toInt_inj.mp
  have h1 := c_iadd c (x + 1 - y); have h2 := c_isub (x + 1) y; have h3 := c_iadd x 1; have h4 := c_iadd (c + (x - y)) 1; have h5 := c_iadd c (x - y); have h6 := c_isub x y
  have r1 := rng32 (c + (x + 1 - y)); have r2 := rng32 (c + (x - y) + 1)
  omega
theorem i32_0 (x : Int32) : (1 : Int32) + (x - x) = 1 := by
  apply Int32.toInt_inj.mp
  have h1 := c_iadd 1 (x - x); have h2 := c_isub x x; have r1 := rng32 (1 + (x - x))
  rw [show (1 : Int32).toInt = 1 from rfl] at *
  omega
theorem x_succ {x : Int32} {j m : Nat} (h : x.toInt = j) (hj : j < m) (hm : m < 2 ^ 31) : (x + 1).toInt = (j + 1 : Nat) := by
  have h1 := c_iadd x 1; have r := rng32 (x + 1)
  rw [show (1 : Int32).toInt = 1 from rfl] at h1; omega
theorem x_pred {x : Int32} {j : Nat} (h : x.toInt = j) (hj : 0 < j) : (x - 1).toInt = (j - 1 : Nat) := by
  have h1 := c_isub x 1; have r := rng32 (x - 1); have r2 := rng32 x
  rw [show (1 : Int32).toInt = 1 from rfl] at h1; omega
theorem i32_z (c x : Int32) : c + (x - x) = c := by
  apply Int32.toInt_inj.mp
  have h1 := c_iadd c (x - x); have h2 := c_isub x x; have r1 := rng32 (c + (x - x)); have r2 := rng32 c; have r3 := rng32 (x - x)
  omega
set_option maxRecDepth 65536 in
set_option maxHeartbeats 4000000 in
theorem ct_adv (l : Launch) (Z : State) (a0 : Array Value) (hw : ∀ d ∈ tables_1, d.before a0 Z = true) (a u : Addr) (fr to li co af : Int32) (i n N : Nat) (g : Nat → Int32) (h0 : Heap) (n0 : Nat) (Z0 : n0 ≤ h0.size) (ga : n0 ≤ a) (hau : a ≠ u) (O : Tq Z h0 a (.int li) (.int co) (.int af)) (V : AI Z h0 u .char N g) (hN : N < 2 ^ 31) (hfr : fr.toInt = i) (hto : to.toInt = (i + n : Nat)) (hin : i + n ≤ N) :
    Ct l Z (⟨"com/example/xtent/xtent/document/TextPosition", "advance", "([CII)V"⟩ : MethodName) prog_25_method_3_code 8 none ({ frames := 0, cells := 0, slots := 0, locals := 0 } : Room) #[(.ref a), (.ref u), (.int fr), (.int to)] h0 n0 (fun r h => r = none ∧ Keep h0 h [a] ∧ Tq Z h a (.int (rn g i n (li, co, af)).1) (.int (rn g i n (li, co, af)).2.1) (.int (rn g i n (li, co, af)).2.2)) := by
  refine Ct.intro (plainFor_of_name (by first | (simp [plainName, overriddenIn]; done) | decide +kernel)) Z0 ?_
  intro p e s m below meth c T X
  refine WP.cast (g' := (mkF m 0 #[.val (.ref a), .val (.ref u), .val (.int fr), .val (.int to), .unset, .unset, .unset, .unset] [])) (by first | (simp [entryFrame, mkF, argsToLocals, Value.category]; done) | rfl) ?_
  have K := Keep.refl h0 [a]
  refine w_iloadN X d4_0 rfl (pc' := 1) rfl ?_
  refine w_istore X d4_1 (L' := #[.val (.ref a), .val (.ref u), .val (.int fr), .val (.int to), .val (.int fr), .unset, .unset, .unset]) rfl (pc' := 3) rfl ?_
  refine w_iloadN X d4_3 rfl (pc' := 4) rfl ?_
  refine w_istore X d4_4 (L' := #[.val (.ref a), .val (.ref u), .val (.int fr), .val (.int to), .val (.int fr), .val (.int fr), .unset, .unset]) rfl (pc' := 6) rfl ?_
  have LP : ∀ (q : Nat) T h1, St p l e ({ frames := 0, cells := 0, slots := 0, locals := 0 } : Room) s m #[(.ref a), (.ref u), (.int fr), (.int to)] below meth c Z n0 (⟨"com/example/xtent/xtent/document/TextPosition", "advance", "([CII)V"⟩ : MethodName) prog_25_method_3_code 8 none T h1 0 0 → ∀ (jj : Nat) (x5 x4 l1 c1 : Int32) (s6 s7 : Slot), One s6 → One s7 → x5.toInt = jj → jj + q = i + n → i ≤ jj → ∀ st, rn g i n (li, co, af) = rn g jj q st → inv g i jj x5 x4 l1 c1 af st → Tq Z h1 a (.int l1) (.int c1) (.int af) → AI Z h1 u .char N g → Keep h0 h1 [a] → WP p e below s n0 ({ frames := 0, cells := 0, slots := 0, locals := 0 } : Room).cells ({ frames := 0, cells := 0, slots := 0, locals := 0 } : Room).slots (fun r h => r = none ∧ Keep h0 h [a] ∧ Tq Z h a (.int (rn g i n (li, co, af)).1) (.int (rn g i n (li, co, af)).2.1) (.int (rn g i n (li, co, af)).2.2)) T (mkF m 6 #[.val (.ref a), .val (.ref u), .val (.int fr), .val (.int to), .val (.int x4), .val (.int x5), s6, s7] []) := by
    intro q
    induction q with
    | zero =>
      intro T h1 X jj x5 x4 l1 c1 s6 s7 h_s6 h_s7 hx5 hsum hij st hrn hinv O1 V1 K1
      have hx : x5 = to := Int32.toInt_inj.mp (by omega)
      subst hx
      refine w_iload X d4_6 rfl (pc' := 8) rfl ?_
      refine w_iloadN X d4_8 rfl (pc' := 9) rfl ?_
      refine w_icmp_ge X d4_9 (by decide) (p1 := 119) (by decide) (p2 := 12) rfl (fun c9 => ?_) (fun c9 => False.elim (absurd c9 (by rw [Int32.lt_iff_toInt_lt]; omega)))
      refine w_aloadN X d4_119 rfl rfl (pc' := 120) rfl ?_
      refine w_dup X d4_120 rfl (pc' := 121) rfl ?_
      refine w_getF X (tw18 hw) O1.get_column d4_121 (pc' := 124) rfl ?_; intro T X
      refine w_iloadN X d4_124 rfl (pc' := 125) rfl ?_
      refine w_iload X d4_125 rfl (pc' := 127) rfl ?_
      refine w_isub X d4_127 (pc' := 128) rfl ?_
      refine w_iadd X d4_128 (pc' := 129) rfl ?_
      refine w_putF X (tw18 hw) O1.get_column O1.exa (Or.inl (tw19 hw)) (tw8 hw) ga d4_129 (ty := .int) (v' := (.int (c1 + (x5 - x4)))) (by decide) rfl rfl (pc' := 132) rfl ?_; intro T h1 X W2
      have O4 := O1.put_column hw W2
      have K3 := Keep.of_wr W2
      have O5 := V1.keep K3 (ninS (Ne.symm hau) nin0)
      have K6 := K1.wr W2 (Or.inl (by simp))
      show WP _ _ _ _ _ _ _ _ _ (mkF m 132 #[.val (.ref a), .val (.ref u), .val (.int fr), .val (.int x5), .val (.int x4), .val (.int x5), s6, s7] [])
      refine w_iloadN X d4_132 rfl (pc' := 133) rfl ?_
      refine w_iloadN X d4_133 rfl (pc' := 134) rfl ?_
      refine w_icmp_le X d4_134 (by decide) (p1 := 156) (by decide) (p2 := 137) rfl (fun c134 => ?_) (fun c134 => ?_)
      · -- c134 taken
        have hf : rn g i n (li, co, af) = st := by rw [hrn]; rfl
        obtain ⟨i1, i2, i3, i4⟩ := hinv
        have ea : st.2.2 = af := i3 (by rw [Int32.lt_iff_toInt_lt] at c134; omega)
        refine w_retV X rfl d4_156 (by decide) (by decide) ⟨rfl, K6, ?_⟩
        rw [hf, ea, ← i1, ← i2]; exact O4
      · -- c134 not taken
        have hlt : i < jj := by rw [Int32.lt_iff_toInt_lt] at c134; omega
        refine w_aloadN X d4_137 rfl rfl (pc' := 138) rfl ?_
        refine w_aloadN X d4_138 rfl rfl (pc' := 139) rfl ?_
        refine w_iloadN X d4_139 rfl (pc' := 140) rfl ?_
        refine w_iconst X d4_140 (v := (1 : Int32)) (by decide) (pc' := 141) rfl ?_
        refine w_isub X d4_141 (pc' := 142) rfl ?_
        refine w_caload X (i := (jj - 1)) O5 d4_142 (x_pred hx5 (by omega)) (by omega) rfl (pc' := 143) rfl ?_
        refine w_bipush X d4_143 (v := (13 : Int32)) (by decide) (pc' := 145) rfl ?_
        refine w_icmp_ne X d4_145 (by decide) (p1 := 152) (by decide) (p2 := 148) rfl (fun c145 => ?_) (fun c145 => ?_)
        · -- c145 taken
          refine w_iconst X d4_152 (v := (0 : Int32)) (by decide) (pc' := 153) rfl ?_
          refine w_putF X (tw39 hw) O4.get_afterCarriageReturn O4.exa (Or.inl (tw40 hw)) (tw8 hw) ga d4_153 (ty := .boolean) (v' := (.int (0 : Int32))) (by decide) rfl rfl (pc' := 156) rfl ?_; intro T h7 X W8
          have O10 := O4.put_afterCarriageReturn hw W8
          have K9 := Keep.of_wr W8
          have O11 := O5.keep K9 (ninS (Ne.symm hau) nin0)
          have K12 := K6.wr W8 (Or.inl (by simp))
          show WP _ _ _ _ _ _ _ _ _ (mkF m 156 #[.val (.ref a), .val (.ref u), .val (.int fr), .val (.int x5), .val (.int x4), .val (.int x5), s6, s7] [])
          have hf : rn g i n (li, co, af) = st := by rw [hrn]; rfl
          obtain ⟨i1, i2, i3, i4⟩ := hinv
          have ea : st.2.2 = (0 : Int32) := by rw [i4 hlt]; exact if_neg c145
          refine w_retV X rfl d4_156 (by decide) (by decide) ⟨rfl, K12, ?_⟩
          rw [hf, ea, ← i1, ← i2]; exact O10
        · -- c145 not taken
          refine w_iconst X d4_148 (v := (1 : Int32)) (by decide) (pc' := 149) rfl ?_
          refine w_goto X d4_149 (by decide) (pc' := 153) (by decide) ?_
          refine w_putF X (tw39 hw) O4.get_afterCarriageReturn O4.exa (Or.inl (tw40 hw)) (tw8 hw) ga d4_153 (ty := .boolean) (v' := (.int (1 : Int32))) (by decide) rfl rfl (pc' := 156) rfl ?_; intro T h13 X W14
          have O16 := O4.put_afterCarriageReturn hw W14
          have K15 := Keep.of_wr W14
          have O17 := O5.keep K15 (ninS (Ne.symm hau) nin0)
          have K18 := K6.wr W14 (Or.inl (by simp))
          show WP _ _ _ _ _ _ _ _ _ (mkF m 156 #[.val (.ref a), .val (.ref u), .val (.int fr), .val (.int x5), .val (.int x4), .val (.int x5), s6, s7] [])
          have hf : rn g i n (li, co, af) = st := by rw [hrn]; rfl
          obtain ⟨i1, i2, i3, i4⟩ := hinv
          have ea : st.2.2 = (1 : Int32) := by rw [i4 hlt]; exact if_pos c145
          refine w_retV X rfl d4_156 (by decide) (by decide) ⟨rfl, K18, ?_⟩
          rw [hf, ea, ← i1, ← i2]; exact O16
    | succ q ih =>
      intro T h1 X jj x5 x4 l1 c1 s6 s7 h_s6 h_s7 hx5 hsum hij st hrn hinv O1 V1 K1
      refine w_iload X d4_6 rfl (pc' := 8) rfl ?_
      refine w_iloadN X d4_8 rfl (pc' := 9) rfl ?_
      refine w_icmp_ge X d4_9 (by decide) (p1 := 119) (by decide) (p2 := 12) rfl (fun c9 => False.elim (absurd (show x5 < to by rw [Int32.lt_iff_toInt_lt]; omega) c9)) (fun c9 => ?_)
      refine w_aloadN X d4_12 rfl rfl (pc' := 13) rfl ?_
      refine w_iload X d4_13 rfl (pc' := 15) rfl ?_
      refine w_caload X (i := jj) V1 d4_15 hx5 (by omega) rfl (pc' := 16) rfl ?_
      refine w_istore X d4_16 (L' := #[.val (.ref a), .val (.ref u), .val (.int fr), .val (.int to), .val (.int x4), .val (.int x5), .val (.int (g jj)), s7]) (XS.store1 (o := s6) rfl h_s6 rfl) (pc' := 18) rfl ?_
      refine w_iload X d4_18 rfl (pc' := 20) rfl ?_
      refine w_bipush X d4_20 (v := (13 : Int32)) (by decide) (pc' := 22) rfl ?_
      refine w_icmp_le X d4_22 (by decide) (p1 := 28) (by decide) (p2 := 25) rfl (fun c22 => ?_) (fun c22 => ?_)
      · -- c22 taken
        have J19 : ∀ T, St p l e ({ frames := 0, cells := 0, slots := 0, locals := 0 } : Room) s m #[(.ref a), (.ref u), (.int fr), (.int to)] below meth c Z n0 (⟨"com/example/xtent/xtent/document/TextPosition", "advance", "([CII)V"⟩ : MethodName) prog_25_method_3_code 8 none T h1 0 0 → ∀ (ar : Int32), (ar = st.2.2) → WP p e below s n0 ({ frames := 0, cells := 0, slots := 0, locals := 0 } : Room).cells ({ frames := 0, cells := 0, slots := 0, locals := 0 } : Room).slots (fun r h => r = none ∧ Keep h0 h [a] ∧ Tq Z h a (.int (rn g i n (li, co, af)).1) (.int (rn g i n (li, co, af)).2.1) (.int (rn g i n (li, co, af)).2.2)) T (mkF m 57 #[.val (.ref a), .val (.ref u), .val (.int fr), .val (.int to), .val (.int x4), .val (.int x5), .val (.int (g jj)), s7] [(.int ar)]) := by
          intro T X ar har
          refine w_istore X d4_57 (L' := #[.val (.ref a), .val (.ref u), .val (.int fr), .val (.int to), .val (.int x4), .val (.int x5), .val (.int (g jj)), .val (.int ar)]) (XS.store1 (o := s7) rfl h_s7 rfl) (pc' := 59) rfl ?_
          refine w_iload X d4_59 rfl (pc' := 61) rfl ?_
          refine w_bipush X d4_61 (v := (13 : Int32)) (by decide) (pc' := 63) rfl ?_
          refine w_icmp_eq X d4_63 (by decide) (p1 := 78) (by decide) (p2 := 66) rfl (fun c63 => ?_) (fun c63 => ?_)
          · -- c63 taken
            refine w_aloadN X d4_78 rfl rfl (pc' := 79) rfl ?_
            refine w_dup X d4_79 rfl (pc' := 80) rfl ?_
            refine w_getF X (tw16 hw) O1.get_line d4_80 (pc' := 83) rfl ?_; intro T X
            refine w_iconst X d4_83 (v := (1 : Int32)) (by decide) (pc' := 84) rfl ?_
            refine w_iadd X d4_84 (pc' := 85) rfl ?_
            refine w_putF X (tw16 hw) O1.get_line O1.exa (Or.inl (tw17 hw)) (tw8 hw) ga d4_85 (ty := .int) (v' := (.int (l1 + (1 : Int32)))) (by decide) rfl rfl (pc' := 88) rfl ?_; intro T h20 X W21
            have O23 := O1.put_line hw W21
            have K22 := Keep.of_wr W21
            have O24 := V1.keep K22 (ninS (Ne.symm hau) nin0)
            have K25 := K1.wr W21 (Or.inl (by simp))
            show WP _ _ _ _ _ _ _ _ _ (mkF m 88 #[.val (.ref a), .val (.ref u), .val (.int fr), .val (.int to), .val (.int x4), .val (.int x5), .val (.int (g jj)), .val (.int ar)] [])
            refine w_iload X d4_88 rfl (pc' := 90) rfl ?_
            refine w_bipush X d4_90 (v := (13 : Int32)) (by decide) (pc' := 92) rfl ?_
            refine w_icmp_eq X d4_92 (by decide) (p1 := 102) (by decide) (p2 := 95) rfl (fun _ => ?_) (fun c92 => absurd c63 c92)
            refine w_iload X d4_102 rfl (pc' := 104) rfl ?_
            refine w_iconst X d4_104 (v := (1 : Int32)) (by decide) (pc' := 105) rfl ?_
            refine w_iadd X d4_105 (pc' := 106) rfl ?_
            refine w_istore X d4_106 (L' := #[.val (.ref a), .val (.ref u), .val (.int fr), .val (.int to), .val (.int (x5 + (1 : Int32))), .val (.int x5), .val (.int (g jj)), .val (.int ar)]) rfl (pc' := 108) rfl ?_
            refine w_aloadN X d4_108 rfl rfl (pc' := 109) rfl ?_
            refine w_iconst X d4_109 (v := (1 : Int32)) (by decide) (pc' := 110) rfl ?_
            refine w_putF X (tw18 hw) O23.get_column O23.exa (Or.inl (tw19 hw)) (tw8 hw) ga d4_110 (ty := .int) (v' := (.int (1 : Int32))) (by decide) rfl rfl (pc' := 113) rfl ?_; intro T h26 X W27
            have O29 := O23.put_column hw W27
            have K28 := Keep.of_wr W27
            have O30 := O24.keep K28 (ninS (Ne.symm hau) nin0)
            have K31 := K25.wr W27 (Or.inl (by simp))
            show WP _ _ _ _ _ _ _ _ _ (mkF m 113 #[.val (.ref a), .val (.ref u), .val (.int fr), .val (.int to), .val (.int (x5 + (1 : Int32))), .val (.int x5), .val (.int (g jj)), .val (.int ar)] [])
            refine w_iinc X d4_113 rfl (v' := (x5 + (1 : Int32))) rfl (L' := #[.val (.ref a), .val (.ref u), .val (.int fr), .val (.int to), .val (.int (x5 + (1 : Int32))), .val (.int (x5 + (1 : Int32))), .val (.int (g jj)), .val (.int ar)]) rfl (pc' := 116) rfl ?_
            refine w_goto X d4_116 (by decide) (pc' := 6) (by decide) ?_
            refine ih T h26 X (jj + 1) (x5 + 1) (x5 + (1 : Int32)) (l1 + (1 : Int32)) (1 : Int32) (.val (.int (g jj))) (.val (.int ar)) (One.val rfl) (One.val rfl) (x_succ hx5 (show jj < i + n by omega) (by omega)) (by omega) (by omega) (stp (g jj) st) hrn ?_ O29 O30 K31
            obtain ⟨i1, i2, i3, i4⟩ := hinv
            refine ⟨?_, ?_, fun z => absurd z (by omega), fun _ => ?_⟩
            · simp only [stp, if_pos c63, i1]
            · simp only [stp, if_pos c63, i32_0]
            · simp only [stp, if_pos c63, Nat.add_sub_cancel]
          · -- c63 not taken
            refine w_iload X d4_66 rfl (pc' := 68) rfl ?_
            refine w_bipush X d4_68 (v := (10 : Int32)) (by decide) (pc' := 70) rfl ?_
            refine w_icmp_ne X d4_70 (by decide) (p1 := 88) (by decide) (p2 := 73) rfl (fun c70 => ?_) (fun c70 => ?_)
            · -- c70 taken
              refine w_iload X d4_88 rfl (pc' := 90) rfl ?_
              refine w_bipush X d4_90 (v := (13 : Int32)) (by decide) (pc' := 92) rfl ?_
              refine w_icmp_eq X d4_92 (by decide) (p1 := 102) (by decide) (p2 := 95) rfl (fun c92 => absurd c92 c63) (fun _ => ?_)
              refine w_iload X d4_95 rfl (pc' := 97) rfl ?_
              refine w_bipush X d4_97 (v := (10 : Int32)) (by decide) (pc' := 99) rfl ?_
              refine w_icmp_ne X d4_99 (by decide) (p1 := 113) (by decide) (p2 := 102) rfl (fun _ => ?_) (fun c99 => absurd c99 c70)
              refine w_iinc X d4_113 rfl (v' := (x5 + (1 : Int32))) rfl (L' := #[.val (.ref a), .val (.ref u), .val (.int fr), .val (.int to), .val (.int x4), .val (.int (x5 + (1 : Int32))), .val (.int (g jj)), .val (.int ar)]) rfl (pc' := 116) rfl ?_
              refine w_goto X d4_116 (by decide) (pc' := 6) (by decide) ?_
              refine ih T h1 X (jj + 1) (x5 + 1) x4 l1 c1 (.val (.int (g jj))) (.val (.int ar)) (One.val rfl) (One.val rfl) (x_succ hx5 (show jj < i + n by omega) (by omega)) (by omega) (by omega) (stp (g jj) st) hrn ?_ O1 V1 K1
              obtain ⟨i1, i2, i3, i4⟩ := hinv
              refine ⟨?_, ?_, fun z => absurd z (by omega), fun _ => ?_⟩
              · simp only [stp, if_neg c63, if_neg c70, i1]
              · simp only [stp, if_neg c63, if_neg c70, i32_1, i2]
              · simp only [stp, if_neg c63, if_neg c70, Nat.add_sub_cancel]
            · -- c70 not taken
              refine w_iload X d4_73 rfl (pc' := 75) rfl ?_
              refine w_if_ne X d4_75 (by decide) (p1 := 88) (by decide) (p2 := 78) rfl (fun c75 => ?_) (fun c75 => ?_)
              · -- c75 taken
                refine w_iload X d4_88 rfl (pc' := 90) rfl ?_
                refine w_bipush X d4_90 (v := (13 : Int32)) (by decide) (pc' := 92) rfl ?_
                refine w_icmp_eq X d4_92 (by decide) (p1 := 102) (by decide) (p2 := 95) rfl (fun c92 => absurd c92 c63) (fun _ => ?_)
                refine w_iload X d4_95 rfl (pc' := 97) rfl ?_
                refine w_bipush X d4_97 (v := (10 : Int32)) (by decide) (pc' := 99) rfl ?_
                refine w_icmp_ne X d4_99 (by decide) (p1 := 113) (by decide) (p2 := 102) rfl (fun c99 => absurd c70 c99) (fun _ => ?_)
                refine w_iload X d4_102 rfl (pc' := 104) rfl ?_
                refine w_iconst X d4_104 (v := (1 : Int32)) (by decide) (pc' := 105) rfl ?_
                refine w_iadd X d4_105 (pc' := 106) rfl ?_
                refine w_istore X d4_106 (L' := #[.val (.ref a), .val (.ref u), .val (.int fr), .val (.int to), .val (.int (x5 + (1 : Int32))), .val (.int x5), .val (.int (g jj)), .val (.int ar)]) rfl (pc' := 108) rfl ?_
                refine w_aloadN X d4_108 rfl rfl (pc' := 109) rfl ?_
                refine w_iconst X d4_109 (v := (1 : Int32)) (by decide) (pc' := 110) rfl ?_
                refine w_putF X (tw18 hw) O1.get_column O1.exa (Or.inl (tw19 hw)) (tw8 hw) ga d4_110 (ty := .int) (v' := (.int (1 : Int32))) (by decide) rfl rfl (pc' := 113) rfl ?_; intro T h32 X W33
                have O35 := O1.put_column hw W33
                have K34 := Keep.of_wr W33
                have O36 := V1.keep K34 (ninS (Ne.symm hau) nin0)
                have K37 := K1.wr W33 (Or.inl (by simp))
                show WP _ _ _ _ _ _ _ _ _ (mkF m 113 #[.val (.ref a), .val (.ref u), .val (.int fr), .val (.int to), .val (.int (x5 + (1 : Int32))), .val (.int x5), .val (.int (g jj)), .val (.int ar)] [])
                refine w_iinc X d4_113 rfl (v' := (x5 + (1 : Int32))) rfl (L' := #[.val (.ref a), .val (.ref u), .val (.int fr), .val (.int to), .val (.int (x5 + (1 : Int32))), .val (.int (x5 + (1 : Int32))), .val (.int (g jj)), .val (.int ar)]) rfl (pc' := 116) rfl ?_
                refine w_goto X d4_116 (by decide) (pc' := 6) (by decide) ?_
                refine ih T h32 X (jj + 1) (x5 + 1) (x5 + (1 : Int32)) l1 (1 : Int32) (.val (.int (g jj))) (.val (.int ar)) (One.val rfl) (One.val rfl) (x_succ hx5 (show jj < i + n by omega) (by omega)) (by omega) (by omega) (stp (g jj) st) hrn ?_ O35 O36 K37
                obtain ⟨i1, i2, i3, i4⟩ := hinv
                refine ⟨?_, ?_, fun z => absurd z (by omega), fun _ => ?_⟩
                · simp only [stp, if_neg c63, if_pos c70, ← har, if_neg c75, i1]
                · simp only [stp, if_neg c63, if_pos c70, i32_0]
                · simp only [stp, if_neg c63, if_pos c70, Nat.add_sub_cancel]
              · -- c75 not taken
                refine w_aloadN X d4_78 rfl rfl (pc' := 79) rfl ?_
                refine w_dup X d4_79 rfl (pc' := 80) rfl ?_
                refine w_getF X (tw16 hw) O1.get_line d4_80 (pc' := 83) rfl ?_; intro T X
                refine w_iconst X d4_83 (v := (1 : Int32)) (by decide) (pc' := 84) rfl ?_
                refine w_iadd X d4_84 (pc' := 85) rfl ?_
                refine w_putF X (tw16 hw) O1.get_line O1.exa (Or.inl (tw17 hw)) (tw8 hw) ga d4_85 (ty := .int) (v' := (.int (l1 + (1 : Int32)))) (by decide) rfl rfl (pc' := 88) rfl ?_; intro T h38 X W39
                have O41 := O1.put_line hw W39
                have K40 := Keep.of_wr W39
                have O42 := V1.keep K40 (ninS (Ne.symm hau) nin0)
                have K43 := K1.wr W39 (Or.inl (by simp))
                show WP _ _ _ _ _ _ _ _ _ (mkF m 88 #[.val (.ref a), .val (.ref u), .val (.int fr), .val (.int to), .val (.int x4), .val (.int x5), .val (.int (g jj)), .val (.int ar)] [])
                refine w_iload X d4_88 rfl (pc' := 90) rfl ?_
                refine w_bipush X d4_90 (v := (13 : Int32)) (by decide) (pc' := 92) rfl ?_
                refine w_icmp_eq X d4_92 (by decide) (p1 := 102) (by decide) (p2 := 95) rfl (fun c92 => absurd c92 c63) (fun _ => ?_)
                refine w_iload X d4_95 rfl (pc' := 97) rfl ?_
                refine w_bipush X d4_97 (v := (10 : Int32)) (by decide) (pc' := 99) rfl ?_
                refine w_icmp_ne X d4_99 (by decide) (p1 := 113) (by decide) (p2 := 102) rfl (fun c99 => absurd c70 c99) (fun _ => ?_)
                refine w_iload X d4_102 rfl (pc' := 104) rfl ?_
                refine w_iconst X d4_104 (v := (1 : Int32)) (by decide) (pc' := 105) rfl ?_
                refine w_iadd X d4_105 (pc' := 106) rfl ?_
                refine w_istore X d4_106 (L' := #[.val (.ref a), .val (.ref u), .val (.int fr), .val (.int to), .val (.int (x5 + (1 : Int32))), .val (.int x5), .val (.int (g jj)), .val (.int ar)]) rfl (pc' := 108) rfl ?_
                refine w_aloadN X d4_108 rfl rfl (pc' := 109) rfl ?_
                refine w_iconst X d4_109 (v := (1 : Int32)) (by decide) (pc' := 110) rfl ?_
                refine w_putF X (tw18 hw) O41.get_column O41.exa (Or.inl (tw19 hw)) (tw8 hw) ga d4_110 (ty := .int) (v' := (.int (1 : Int32))) (by decide) rfl rfl (pc' := 113) rfl ?_; intro T h44 X W45
                have O47 := O41.put_column hw W45
                have K46 := Keep.of_wr W45
                have O48 := O42.keep K46 (ninS (Ne.symm hau) nin0)
                have K49 := K43.wr W45 (Or.inl (by simp))
                show WP _ _ _ _ _ _ _ _ _ (mkF m 113 #[.val (.ref a), .val (.ref u), .val (.int fr), .val (.int to), .val (.int (x5 + (1 : Int32))), .val (.int x5), .val (.int (g jj)), .val (.int ar)] [])
                refine w_iinc X d4_113 rfl (v' := (x5 + (1 : Int32))) rfl (L' := #[.val (.ref a), .val (.ref u), .val (.int fr), .val (.int to), .val (.int (x5 + (1 : Int32))), .val (.int (x5 + (1 : Int32))), .val (.int (g jj)), .val (.int ar)]) rfl (pc' := 116) rfl ?_
                refine w_goto X d4_116 (by decide) (pc' := 6) (by decide) ?_
                refine ih T h44 X (jj + 1) (x5 + 1) (x5 + (1 : Int32)) (l1 + (1 : Int32)) (1 : Int32) (.val (.int (g jj))) (.val (.int ar)) (One.val rfl) (One.val rfl) (x_succ hx5 (show jj < i + n by omega) (by omega)) (by omega) (by omega) (stp (g jj) st) hrn ?_ O47 O48 K49
                obtain ⟨i1, i2, i3, i4⟩ := hinv
                refine ⟨?_, ?_, fun z => absurd z (by omega), fun _ => ?_⟩
                · simp only [stp, if_neg c63, if_pos c70, ← har, if_pos c75, i1]
                · simp only [stp, if_neg c63, if_pos c70, i32_0]
                · simp only [stp, if_neg c63, if_pos c70, Nat.add_sub_cancel]
        refine w_iload X d4_28 rfl (pc' := 30) rfl ?_
        refine w_iloadN X d4_30 rfl (pc' := 31) rfl ?_
        refine w_icmp_le X d4_31 (by decide) (p1 := 53) (by decide) (p2 := 34) rfl (fun c31 => ?_) (fun c31 => ?_)
        · -- c31 taken
          refine w_aloadN X d4_53 rfl rfl (pc' := 54) rfl ?_
          refine w_getF X (tw39 hw) O1.get_afterCarriageReturn d4_54 (pc' := 57) rfl ?_; intro T X
          exact J19 T X af ((hinv.2.2.1 (by rw [Int32.lt_iff_toInt_lt] at c31; omega)).symm)
        · -- c31 not taken
          have hlt : i < jj := by rw [Int32.lt_iff_toInt_lt] at c31; omega
          refine w_aloadN X d4_34 rfl rfl (pc' := 35) rfl ?_
          refine w_iload X d4_35 rfl (pc' := 37) rfl ?_
          refine w_iconst X d4_37 (v := (1 : Int32)) (by decide) (pc' := 38) rfl ?_
          refine w_isub X d4_38 (pc' := 39) rfl ?_
          refine w_caload X (i := (jj - 1)) V1 d4_39 (x_pred hx5 (by omega)) (by omega) rfl (pc' := 40) rfl ?_
          refine w_bipush X d4_40 (v := (13 : Int32)) (by decide) (pc' := 42) rfl ?_
          refine w_icmp_ne X d4_42 (by decide) (p1 := 49) (by decide) (p2 := 45) rfl (fun c42 => ?_) (fun c42 => ?_)
          · -- c42 taken
            refine w_iconst X d4_49 (v := (0 : Int32)) (by decide) (pc' := 50) rfl ?_
            refine w_goto X d4_50 (by decide) (pc' := 57) (by decide) ?_
            exact J19 T X (0 : Int32) (by rw [hinv.2.2.2 hlt]; exact (if_neg c42).symm)
          · -- c42 not taken
            refine w_iconst X d4_45 (v := (1 : Int32)) (by decide) (pc' := 46) rfl ?_
            refine w_goto X d4_46 (by decide) (pc' := 57) (by decide) ?_
            exact J19 T X (1 : Int32) (by rw [hinv.2.2.2 hlt]; exact (if_pos c42).symm)
      · -- c22 not taken
        refine w_goto X d4_25 (by decide) (pc' := 113) (by decide) ?_
        refine w_iinc X d4_113 rfl (v' := (x5 + (1 : Int32))) rfl (L' := #[.val (.ref a), .val (.ref u), .val (.int fr), .val (.int to), .val (.int x4), .val (.int (x5 + (1 : Int32))), .val (.int (g jj)), s7]) rfl (pc' := 116) rfl ?_
        refine w_goto X d4_116 (by decide) (pc' := 6) (by decide) ?_
        refine ih T h1 X (jj + 1) (x5 + 1) x4 l1 c1 (.val (.int (g jj))) (s7) (One.val rfl) h_s7 (x_succ hx5 (show jj < i + n by omega) (by omega)) (by omega) (by omega) (stp (g jj) st) hrn ?_ O1 V1 K1
        obtain ⟨i1, i2, i3, i4⟩ := hinv
        refine ⟨?_, ?_, fun z => absurd z (by omega), fun _ => ?_⟩
        all_goals have n13 : ¬ g jj = 13 := fun z => by rw [z] at c22; exact absurd c22 (by decide)
        all_goals have n10 : ¬ g jj = 10 := fun z => by rw [z] at c22; exact absurd c22 (by decide)
        · simp only [stp, if_neg n13, if_neg n10, i1]
        · simp only [stp, if_neg n13, if_neg n10, i32_1, i2]
        · simp only [stp, if_neg n13, if_neg n10, Nat.add_sub_cancel]
  exact LP n T h0 X i fr fr li co .unset .unset One.u One.u hfr rfl (Nat.le_refl _) (li, co, af) rfl ⟨rfl, by show co + (fr - fr) = co; exact i32_z co fr, fun _ => rfl, fun z => absurd z (Nat.lt_irrefl _)⟩ O V K
def stq (c i fr to : Int32) (q : Int32 × Int32 × Int32) : Int32 × Int32 × Int32 := if i < fr then q else if i < to then stp c q else q
def tri (q : Int32 × Int32 × Int32) : Nat → Int32 := fun k => if k = 0 then q.1 else if k = 1 then q.2.1 else q.2.2
set_option maxRecDepth 65536 in
set_option maxHeartbeats 4000000 in
theorem ct_step (l : Launch) (Z : State) (a0 : Array Value) (hw : ∀ d ∈ tables_1, d.before a0 Z = true) (a u : Addr) (i fr to : Int32) (j N : Nat) (g : Nat → Int32) (q : Int32 × Int32 × Int32) (h0 : Heap) (n0 : Nat) (Z0 : n0 ≤ h0.size) (ga : n0 ≤ a) (hau : a ≠ u) (O : AI Z h0 a .int 3 (tri q)) (V : AI Z h0 u .char N g) (hj : i.toInt = j) (hjN : j < N) :
    Ct l Z (⟨"com/example/xtent/xtent/document/TextPositionAdvancePinLaw", "step", "([I[CIII)V"⟩ : MethodName) method_3_code 6 none ({ frames := 0, cells := 0, slots := 0, locals := 0 } : Room) #[(.ref a), (.ref u), (.int i), (.int fr), (.int to)] h0 n0 (fun r h => r = none ∧ Keep h0 h [a] ∧ AI Z h a .int 3 (tri (stq (g j) i fr to q))) := by
  refine Ct.intro (plainFor_of_name (by first | (simp [plainName, overriddenIn]; done) | decide +kernel)) Z0 ?_
  intro p e s m below meth c T X
  refine WP.cast (g' := (mkF m 0 #[.val (.ref a), .val (.ref u), .val (.int i), .val (.int fr), .val (.int to), .unset] [])) (by first | (simp [entryFrame, mkF, argsToLocals, Value.category]; done) | rfl) ?_
  have K := Keep.refl h0 [a]
  refine w_iloadN X d5_0 rfl (pc' := 1) rfl ?_
  refine w_iloadN X d5_1 rfl (pc' := 2) rfl ?_
  refine w_icmp_lt X d5_2 (by decide) (p1 := 11) (by decide) (p2 := 5) rfl (fun c2 => ?_) (fun c2 => ?_)
  · -- c2 taken
    refine w_retV X rfl d5_11 (by decide) (by decide) ⟨rfl, K, O.congr fun z hz => ?_⟩
    first | (simp only [stq, stp, if_pos c2]; done) | (simp only [stq, stp, if_pos c2]; rcases (show z = 0 ∨ z = 1 ∨ z = 2 by omega) with rfl | rfl | rfl <;> rfl)
  · -- c2 not taken
    refine w_iloadN X d5_5 rfl (pc' := 6) rfl ?_
    refine w_iload X d5_6 rfl (pc' := 8) rfl ?_
    refine w_icmp_lt X d5_8 (by decide) (p1 := 12) (by decide) (p2 := 11) rfl (fun c8 => ?_) (fun c8 => ?_)
    · -- c8 taken
      refine w_aloadN X d5_12 rfl rfl (pc' := 13) rfl ?_
      refine w_iloadN X d5_13 rfl (pc' := 14) rfl ?_
      refine w_caload X (i := j) V d5_14 hj hjN rfl (pc' := 15) rfl ?_
      refine w_istore X d5_15 (L' := #[.val (.ref a), .val (.ref u), .val (.int i), .val (.int fr), .val (.int to), .val (.int (g j))]) rfl (pc' := 17) rfl ?_
      refine w_iload X d5_17 rfl (pc' := 19) rfl ?_
      refine w_bipush X d5_19 (v := (13 : Int32)) (by decide) (pc' := 21) rfl ?_
      refine w_icmp_ne X d5_21 (by decide) (p1 := 43) (by decide) (p2 := 24) rfl (fun c21 => ?_) (fun c21 => ?_)
      · -- c21 taken
        refine w_iload X d5_43 rfl (pc' := 45) rfl ?_
        refine w_bipush X d5_45 (v := (10 : Int32)) (by decide) (pc' := 47) rfl ?_
        refine w_icmp_ne X d5_47 (by decide) (p1 := 75) (by decide) (p2 := 50) rfl (fun c47 => ?_) (fun c47 => ?_)
        · -- c47 taken
          refine w_aloadN X d5_75 rfl rfl (pc' := 76) rfl ?_
          refine w_iconst X d5_76 (v := (1 : Int32)) (by decide) (pc' := 77) rfl ?_
          refine w_aloadN X d5_77 rfl rfl (pc' := 78) rfl ?_
          refine w_iconst X d5_78 (v := (1 : Int32)) (by decide) (pc' := 79) rfl ?_
          refine w_iaload X (i := 1) O d5_79 (by decide) (by decide) rfl (pc' := 80) rfl ?_
          refine w_iconst X d5_80 (v := (1 : Int32)) (by decide) (pc' := 81) rfl ?_
          refine w_iadd X d5_81 (pc' := 82) rfl ?_
          refine w_iastore X (i := 1) (x' := (((tri q) 1) + (1 : Int32))) O ga d5_82 (by decide) (by decide) rfl (pc' := 83) rfl ?_; intro T h1 X K2 O3
          have O4 := V.keep K2 (ninS (Ne.symm hau) nin0)
          have K5 := K.trans K2 (allS (Or.inl (by simp)) all0)
          refine w_aloadN X d5_83 rfl rfl (pc' := 84) rfl ?_
          refine w_iconst X d5_84 (v := (2 : Int32)) (by decide) (pc' := 85) rfl ?_
          refine w_iconst X d5_85 (v := (0 : Int32)) (by decide) (pc' := 86) rfl ?_
          refine w_iastore X (i := 2) (x' := (0 : Int32)) O3 ga d5_86 (by decide) (by decide) rfl (pc' := 87) rfl ?_; intro T h6 X K7 O8
          have O9 := O4.keep K7 (ninS (Ne.symm hau) nin0)
          have K10 := K5.trans K7 (allS (Or.inl (by simp)) all0)
          refine w_retV X rfl d5_87 (by decide) (by decide) ⟨rfl, K10, O8.congr fun z hz => ?_⟩
          first | (simp only [stq, stp, if_neg c2, if_pos c8, if_neg c21, if_neg c47]; done) | (simp only [stq, stp, if_neg c2, if_pos c8, if_neg c21, if_neg c47]; rcases (show z = 0 ∨ z = 1 ∨ z = 2 by omega) with rfl | rfl | rfl <;> rfl)
        · -- c47 not taken
          refine w_aloadN X d5_50 rfl rfl (pc' := 51) rfl ?_
          refine w_iconst X d5_51 (v := (2 : Int32)) (by decide) (pc' := 52) rfl ?_
          refine w_iaload X (i := 2) O d5_52 (by decide) (by decide) rfl (pc' := 53) rfl ?_
          refine w_if_ne X d5_53 (by decide) (p1 := 64) (by decide) (p2 := 56) rfl (fun c53 => ?_) (fun c53 => ?_)
          · -- c53 taken
            refine w_aloadN X d5_64 rfl rfl (pc' := 65) rfl ?_
            refine w_iconst X d5_65 (v := (1 : Int32)) (by decide) (pc' := 66) rfl ?_
            refine w_iconst X d5_66 (v := (1 : Int32)) (by decide) (pc' := 67) rfl ?_
            refine w_iastore X (i := 1) (x' := (1 : Int32)) O ga d5_67 (by decide) (by decide) rfl (pc' := 68) rfl ?_; intro T h11 X K12 O13
            have O14 := V.keep K12 (ninS (Ne.symm hau) nin0)
            have K15 := K.trans K12 (allS (Or.inl (by simp)) all0)
            refine w_aloadN X d5_68 rfl rfl (pc' := 69) rfl ?_
            refine w_iconst X d5_69 (v := (2 : Int32)) (by decide) (pc' := 70) rfl ?_
            refine w_iconst X d5_70 (v := (0 : Int32)) (by decide) (pc' := 71) rfl ?_
            refine w_iastore X (i := 2) (x' := (0 : Int32)) O13 ga d5_71 (by decide) (by decide) rfl (pc' := 72) rfl ?_; intro T h16 X K17 O18
            have O19 := O14.keep K17 (ninS (Ne.symm hau) nin0)
            have K20 := K15.trans K17 (allS (Or.inl (by simp)) all0)
            refine w_goto X d5_72 (by decide) (pc' := 87) (by decide) ?_
            have e53 : (if q.2.2 = 0 then q.1 + 1 else q.1) = q.1 := if_neg c53
            refine w_retV X rfl d5_87 (by decide) (by decide) ⟨rfl, K20, O18.congr fun z hz => ?_⟩
            first | (simp only [stq, stp, if_neg c2, if_pos c8, if_neg c21, if_pos c47, e53]; done) | (simp only [stq, stp, if_neg c2, if_pos c8, if_neg c21, if_pos c47, e53]; rcases (show z = 0 ∨ z = 1 ∨ z = 2 by omega) with rfl | rfl | rfl <;> rfl)
          · -- c53 not taken
            refine w_aloadN X d5_56 rfl rfl (pc' := 57) rfl ?_
            refine w_iconst X d5_57 (v := (0 : Int32)) (by decide) (pc' := 58) rfl ?_
            refine w_aloadN X d5_58 rfl rfl (pc' := 59) rfl ?_
            refine w_iconst X d5_59 (v := (0 : Int32)) (by decide) (pc' := 60) rfl ?_
            refine w_iaload X (i := 0) O d5_60 (by decide) (by decide) rfl (pc' := 61) rfl ?_
            refine w_iconst X d5_61 (v := (1 : Int32)) (by decide) (pc' := 62) rfl ?_
            refine w_iadd X d5_62 (pc' := 63) rfl ?_
            refine w_iastore X (i := 0) (x' := (((tri q) 0) + (1 : Int32))) O ga d5_63 (by decide) (by decide) rfl (pc' := 64) rfl ?_; intro T h21 X K22 O23
            have O24 := V.keep K22 (ninS (Ne.symm hau) nin0)
            have K25 := K.trans K22 (allS (Or.inl (by simp)) all0)
            refine w_aloadN X d5_64 rfl rfl (pc' := 65) rfl ?_
            refine w_iconst X d5_65 (v := (1 : Int32)) (by decide) (pc' := 66) rfl ?_
            refine w_iconst X d5_66 (v := (1 : Int32)) (by decide) (pc' := 67) rfl ?_
            refine w_iastore X (i := 1) (x' := (1 : Int32)) O23 ga d5_67 (by decide) (by decide) rfl (pc' := 68) rfl ?_; intro T h26 X K27 O28
            have O29 := O24.keep K27 (ninS (Ne.symm hau) nin0)
            have K30 := K25.trans K27 (allS (Or.inl (by simp)) all0)
            refine w_aloadN X d5_68 rfl rfl (pc' := 69) rfl ?_
            refine w_iconst X d5_69 (v := (2 : Int32)) (by decide) (pc' := 70) rfl ?_
            refine w_iconst X d5_70 (v := (0 : Int32)) (by decide) (pc' := 71) rfl ?_
            refine w_iastore X (i := 2) (x' := (0 : Int32)) O28 ga d5_71 (by decide) (by decide) rfl (pc' := 72) rfl ?_; intro T h31 X K32 O33
            have O34 := O29.keep K32 (ninS (Ne.symm hau) nin0)
            have K35 := K30.trans K32 (allS (Or.inl (by simp)) all0)
            refine w_goto X d5_72 (by decide) (pc' := 87) (by decide) ?_
            have e53 : (if q.2.2 = 0 then q.1 + 1 else q.1) = q.1 + 1 := if_pos c53
            refine w_retV X rfl d5_87 (by decide) (by decide) ⟨rfl, K35, O33.congr fun z hz => ?_⟩
            first | (simp only [stq, stp, if_neg c2, if_pos c8, if_neg c21, if_pos c47, e53]; done) | (simp only [stq, stp, if_neg c2, if_pos c8, if_neg c21, if_pos c47, e53]; rcases (show z = 0 ∨ z = 1 ∨ z = 2 by omega) with rfl | rfl | rfl <;> rfl)
      · -- c21 not taken
        refine w_aloadN X d5_24 rfl rfl (pc' := 25) rfl ?_
        refine w_iconst X d5_25 (v := (0 : Int32)) (by decide) (pc' := 26) rfl ?_
        refine w_aloadN X d5_26 rfl rfl (pc' := 27) rfl ?_
        refine w_iconst X d5_27 (v := (0 : Int32)) (by decide) (pc' := 28) rfl ?_
        refine w_iaload X (i := 0) O d5_28 (by decide) (by decide) rfl (pc' := 29) rfl ?_
        refine w_iconst X d5_29 (v := (1 : Int32)) (by decide) (pc' := 30) rfl ?_
        refine w_iadd X d5_30 (pc' := 31) rfl ?_
        refine w_iastore X (i := 0) (x' := (((tri q) 0) + (1 : Int32))) O ga d5_31 (by decide) (by decide) rfl (pc' := 32) rfl ?_; intro T h36 X K37 O38
        have O39 := V.keep K37 (ninS (Ne.symm hau) nin0)
        have K40 := K.trans K37 (allS (Or.inl (by simp)) all0)
        refine w_aloadN X d5_32 rfl rfl (pc' := 33) rfl ?_
        refine w_iconst X d5_33 (v := (1 : Int32)) (by decide) (pc' := 34) rfl ?_
        refine w_iconst X d5_34 (v := (1 : Int32)) (by decide) (pc' := 35) rfl ?_
        refine w_iastore X (i := 1) (x' := (1 : Int32)) O38 ga d5_35 (by decide) (by decide) rfl (pc' := 36) rfl ?_; intro T h41 X K42 O43
        have O44 := O39.keep K42 (ninS (Ne.symm hau) nin0)
        have K45 := K40.trans K42 (allS (Or.inl (by simp)) all0)
        refine w_aloadN X d5_36 rfl rfl (pc' := 37) rfl ?_
        refine w_iconst X d5_37 (v := (2 : Int32)) (by decide) (pc' := 38) rfl ?_
        refine w_iconst X d5_38 (v := (1 : Int32)) (by decide) (pc' := 39) rfl ?_
        refine w_iastore X (i := 2) (x' := (1 : Int32)) O43 ga d5_39 (by decide) (by decide) rfl (pc' := 40) rfl ?_; intro T h46 X K47 O48
        have O49 := O44.keep K47 (ninS (Ne.symm hau) nin0)
        have K50 := K45.trans K47 (allS (Or.inl (by simp)) all0)
        refine w_goto X d5_40 (by decide) (pc' := 87) (by decide) ?_
        refine w_retV X rfl d5_87 (by decide) (by decide) ⟨rfl, K50, O48.congr fun z hz => ?_⟩
        first | (simp only [stq, stp, if_neg c2, if_pos c8, if_pos c21]; done) | (simp only [stq, stp, if_neg c2, if_pos c8, if_pos c21]; rcases (show z = 0 ∨ z = 1 ∨ z = 2 by omega) with rfl | rfl | rfl <;> rfl)
    · -- c8 not taken
      refine w_retV X rfl d5_11 (by decide) (by decide) ⟨rfl, K, O.congr fun z hz => ?_⟩
      first | (simp only [stq, stp, if_neg c2, if_neg c8]; done) | (simp only [stq, stp, if_neg c2, if_neg c8]; rcases (show z = 0 ∨ z = 1 ∨ z = 2 by omega) with rfl | rfl | rfl <;> rfl)
theorem hsum {x : Int32} {i j : Nat} (h : x.toInt = j ∧ i ≤ j) : x.toInt = (i + (j - i) : Nat) := by omega
theorem six_sub {x : Int32} (h : 0 ≤ x.toInt ∧ x.toInt ≤ 5) : (6 - x).toInt = 6 - x.toInt := by
  have h1 := c_isub 6 x; have r := rng32 (6 - x)
  rw [show (6 : Int32).toInt = 6 from rfl] at h1; omega
theorem rem_ok {x : Int32} (h : 0 ≤ x.toInt ∧ x.toInt ≤ 5) : (6 - x) ≠ 0 := fun q => by
  have h1 := six_sub h
  rw [q, show (0 : Int32).toInt = 0 from rfl] at h1; omega
theorem xa_ok {xa cu : Int32} (h : xa = (cu &&& 7) % 6) : 0 ≤ xa.toInt ∧ xa.toInt ≤ 5 := by
  have h1 := c_mask cu 7 3 (by decide) (by decide)
  have h2 := (c_irem (cu &&& 7) 6 6 (by decide)).1 (by omega)
  rw [← h] at h2; omega
theorem nx_ok {xa xb u : Int32} (ha : 0 ≤ xa.toInt ∧ xa.toInt ≤ 5) (h : xb = xa + (u &&& 7) % (6 - xa)) : xa.toInt ≤ xb.toInt ∧ xb.toInt ≤ 5 := by
  have h1 := c_mask u 7 3 (by decide) (by decide)
  have h2 := six_sub ha
  have h3 := (c_irem (u &&& 7) (6 - xa) (6 - xa).toInt rfl).1 (by omega)
  have h4 := c_iadd xa ((u &&& 7) % (6 - xa))
  have r := rng32 xb
  rw [← h] at h4
  have h5 : 0 < (6 - xa).toInt := by omega
  have h6 := Int.emod_nonneg (u &&& 7).toInt (show (6 - xa).toInt ≠ 0 by omega)
  have h7 := Int.emod_lt_of_pos (u &&& 7).toInt h5
  omega
theorem ny_ok {xa xb u : Int32} (ha : 0 ≤ xa.toInt ∧ xa.toInt ≤ 5) (h : xb = xa + (u &&& 7) % (6 - xa)) : 0 ≤ xb.toInt ∧ xb.toInt ≤ 5 := by
  have := nx_ok ha h; omega
theorem cuts {xa xb xc xd cu u1 u2 u3 : Int32} (ha : xa = (cu &&& 7) % 6) (hb : xb = xa + (u1 &&& 7) % (6 - xa)) (hc : xc = xb + (u2 &&& 7) % (6 - xb)) (hd : xd = xc + (u3 &&& 7) % (6 - xc)) :
    ∃ na nb nc nd : Nat, xa.toInt = na ∧ xb.toInt = nb ∧ xc.toInt = nc ∧ xd.toInt = nd ∧ (xb.toInt = nb ∧ na ≤ nb) ∧ (xc.toInt = nc ∧ nb ≤ nc) ∧ (xd.toInt = nd ∧ nc ≤ nd) ∧ nd ≤ 5 ∧ na + (nb - na) ≤ 5 ∧ nb + (nc - nb) ≤ 5 ∧ nc + (nd - nc) ≤ 5 := by
  have h1 := xa_ok ha
  have h2 := nx_ok h1 hb
  have h3 := nx_ok ⟨by omega, h2.2⟩ hc
  have h4 := nx_ok ⟨by omega, h3.2⟩ hd
  refine ⟨xa.toInt.toNat, xb.toInt.toNat, xc.toInt.toNat, xd.toInt.toNat, ?_, ?_, ?_, ?_, ⟨?_, ?_⟩, ⟨?_, ?_⟩, ⟨?_, ?_⟩, ?_, ?_, ?_, ?_⟩ <;> omega
theorem rn_add (g : Nat → Int32) : ∀ (m i n : Nat) (q : Int32 × Int32 × Int32), rn g (i + m) n (rn g i m q) = rn g i (m + n) q
  | 0, i, n, q => by rw [Nat.zero_add]; rfl
  | m + 1, i, n, q => by
    rw [show m + 1 + n = (m + n) + 1 by omega]
    show rn g (i + (m + 1)) n (rn g (i + 1) m (stp (g i) q)) = rn g (i + 1) (m + n) (stp (g i) q)
    rw [← rn_add g m (i + 1) n, show i + (m + 1) = i + 1 + m by omega]
theorem sq {xa xd : Int32} {na nd k : Nat} {c : Int32} {kk : Int32} (ha : xa.toInt = na) (hd : xd.toInt = nd) (hk : kk.toInt = k) (q : Int32 × Int32 × Int32) : stq c kk xa xd q = if k < na then q else if k < nd then stp c q else q := by
  unfold stq
  simp only [Int32.lt_iff_toInt_lt, ha, hd, hk, Int.ofNat_lt]
theorem five (g : Nat → Int32) (na nd : Nat) (h1 : na ≤ nd) (h2 : nd ≤ 5) (q : Int32 × Int32 × Int32) {xa xd : Int32} (ha : xa.toInt = na) (hd : xd.toInt = nd) :
    stq (g 4) 4 xa xd (stq (g 3) 3 xa xd (stq (g 2) 2 xa xd (stq (g 1) 1 xa xd (stq (g 0) 0 xa xd q)))) = rn g na (nd - na) q := by
  rw [sq ha hd (k := 4) rfl, sq ha hd (k := 3) rfl, sq ha hd (k := 2) rfl, sq ha hd (k := 1) rfl, sq ha hd (k := 0) rfl]
  clear ha hd
  rcases (show na = 0 ∨ na = 1 ∨ na = 2 ∨ na = 3 ∨ na = 4 ∨ na = 5 by omega) with rfl | rfl | rfl | rfl | rfl | rfl <;>
    rcases (show nd = 0 ∨ nd = 1 ∨ nd = 2 ∨ nd = 3 ∨ nd = 4 ∨ nd = 5 by omega) with rfl | rfl | rfl | rfl | rfl | rfl <;>
    first | rfl | (exfalso; omega)
theorem fin {g : Nat → Int32} {xa xb xc xd : Int32} {na nb nc nd : Nat} (ha : xa.toInt = na) (hd : xd.toInt = nd) (hb : xb.toInt = nb ∧ na ≤ nb) (hc : xc.toInt = nc ∧ nb ≤ nc) (hd' : xd.toInt = nd ∧ nc ≤ nd) (h5 : nd ≤ 5) (q : Int32 × Int32 × Int32) :
    rn g nc (nd - nc) (rn g nb (nc - nb) (rn g na (nb - na) q)) = stq (g 4) 4 xa xd (stq (g 3) 3 xa xd (stq (g 2) 2 xa xd (stq (g 1) 1 xa xd (stq (g 0) 0 xa xd q)))) := by
  rw [five g na nd (by omega) h5 q ha hd]
  have e1 := rn_add g (nb - na) na (nc - nb) q
  rw [show na + (nb - na) = nb by omega] at e1
  have e2 := rn_add g (nb - na + (nc - nb)) na (nd - nc) q
  rw [show na + (nb - na + (nc - nb)) = nc by omega, show nb - na + (nc - nb) + (nd - nc) = nd - na by omega] at e2
  rw [e1, e2]

set_option maxRecDepth 65536 in
set_option maxHeartbeats 4000000 in
theorem ct_law (l : Launch) (Z : State) (a0 : Array Value) (hw : ∀ d ∈ tables_1, d.before a0 Z = true) (w1 w2 : Int64) (cu : Int32) (h0 : Heap) (n0 : Nat) (Z0 : n0 ≤ h0.size) :
    Ct l Z x code maxLocals ret room_1 #[(.long w1), (.long w2), (.int cu)] h0 n0 (fun r _ => r = some (.int 1)) := by
  refine Ct.intro (plainFor_of_name (by first | (simp [plainName, overriddenIn, x]; done) | decide +kernel)) Z0 ?_
  intro p e s m below meth c T X
  refine WP.cast (g' := (mkF m 0 #[.val (.long w1), .second, .val (.long w2), .second, .val (.int cu), .unset, .unset, .unset, .unset, .unset, .unset, .unset] [])) (by first | (simp [entryFrame, mkF, argsToLocals, Value.category, maxLocals]; done) | rfl) ?_
  refine w_iconst X at_0 (v := (5 : Int32)) (by decide) (pc' := 1) rfl ?_
  refine w_newarray X (aty := .char) 5 (tw0 hw) at_1 (by decide) (by decide) (by decide) (by decide) (by decide) (pc' := 3) rfl ?_; intro T h1 b1 cA1 X eq1 ga1 E1 A1
  have O2 : AI Z h1 b1 .char 5 (fun _ => 0) := AI.new A1 (by decide) rfl
  refine w_astore X at_3 (L' := #[.val (.long w1), .second, .val (.long w2), .second, .val (.int cu), .val (.ref b1), .unset, .unset, .unset, .unset, .unset, .unset]) rfl rfl (pc' := 5) rfl ?_
  refine w_aload X at_5 rfl rfl (pc' := 7) rfl ?_
  refine w_iconst X at_7 (v := (0 : Int32)) (by decide) (pc' := 8) rfl ?_
  refine w_lloadN X at_8 rfl (pc' := 9) rfl ?_
  refine w_iconst X at_9 (v := (0 : Int32)) (by decide) (pc' := 10) rfl ?_
  refine w_callS X [(.long w1), (.int (0 : Int32))] [(.int (0 : Int32)), (.ref b1)] 2 (tw1 hw) (tw2 hw) (tw3 hw) (tw4 hw) (ct_fDraw l Z a0 hw w1 (0 : Int32) h1 n0 X.n0le) at_10 pd0 rfl (by decide) rfl rfl rfl (by decide) (by decide) (by decide) (by decide) (pc' := 13) rfl ?_
  intro T hz v X hQ
  obtain ⟨rfl, hz1⟩ := hQ; replace hz1 := hz1.symm; subst hz1
  show WP _ _ _ _ _ _ _ _ _ (mkF m 13 #[.val (.long w1), .second, .val (.long w2), .second, .val (.int cu), .val (.ref b1), .unset, .unset, .unset, .unset, .unset, .unset] [(.int (fDraw w1 (0 : Int32))), (.int (0 : Int32)), (.ref b1)])
  refine w_castore X (i := 0) (x' := (nar .char (fDraw w1 (0 : Int32)))) O2 ga1 at_13 (by decide) (by decide) rfl (pc' := 14) rfl ?_; intro T h3 X K4 O5
  refine w_aload X at_14 rfl rfl (pc' := 16) rfl ?_
  refine w_iconst X at_16 (v := (1 : Int32)) (by decide) (pc' := 17) rfl ?_
  refine w_lloadN X at_17 rfl (pc' := 18) rfl ?_
  refine w_bipush X at_18 (v := (18 : Int32)) (by decide) (pc' := 20) rfl ?_
  refine w_callS X [(.long w1), (.int (18 : Int32))] [(.int (1 : Int32)), (.ref b1)] 2 (tw1 hw) (tw2 hw) (tw3 hw) (tw4 hw) (ct_fDraw l Z a0 hw w1 (18 : Int32) h3 n0 X.n0le) at_20 pd0 rfl (by decide) rfl rfl rfl (by decide) (by decide) (by decide) (by decide) (pc' := 23) rfl ?_
  intro T hz v X hQ
  obtain ⟨rfl, hz1⟩ := hQ; replace hz1 := hz1.symm; subst hz1
  show WP _ _ _ _ _ _ _ _ _ (mkF m 23 #[.val (.long w1), .second, .val (.long w2), .second, .val (.int cu), .val (.ref b1), .unset, .unset, .unset, .unset, .unset, .unset] [(.int (fDraw w1 (18 : Int32))), (.int (1 : Int32)), (.ref b1)])
  refine w_castore X (i := 1) (x' := (nar .char (fDraw w1 (18 : Int32)))) O5 ga1 at_23 (by decide) (by decide) rfl (pc' := 24) rfl ?_; intro T h6 X K7 O8
  refine w_aload X at_24 rfl rfl (pc' := 26) rfl ?_
  refine w_iconst X at_26 (v := (2 : Int32)) (by decide) (pc' := 27) rfl ?_
  refine w_lloadN X at_27 rfl (pc' := 28) rfl ?_
  refine w_bipush X at_28 (v := (36 : Int32)) (by decide) (pc' := 30) rfl ?_
  refine w_callS X [(.long w1), (.int (36 : Int32))] [(.int (2 : Int32)), (.ref b1)] 2 (tw1 hw) (tw2 hw) (tw3 hw) (tw4 hw) (ct_fDraw l Z a0 hw w1 (36 : Int32) h6 n0 X.n0le) at_30 pd0 rfl (by decide) rfl rfl rfl (by decide) (by decide) (by decide) (by decide) (pc' := 33) rfl ?_
  intro T hz v X hQ
  obtain ⟨rfl, hz1⟩ := hQ; replace hz1 := hz1.symm; subst hz1
  show WP _ _ _ _ _ _ _ _ _ (mkF m 33 #[.val (.long w1), .second, .val (.long w2), .second, .val (.int cu), .val (.ref b1), .unset, .unset, .unset, .unset, .unset, .unset] [(.int (fDraw w1 (36 : Int32))), (.int (2 : Int32)), (.ref b1)])
  refine w_castore X (i := 2) (x' := (nar .char (fDraw w1 (36 : Int32)))) O8 ga1 at_33 (by decide) (by decide) rfl (pc' := 34) rfl ?_; intro T h9 X K10 O11
  refine w_aload X at_34 rfl rfl (pc' := 36) rfl ?_
  refine w_iconst X at_36 (v := (3 : Int32)) (by decide) (pc' := 37) rfl ?_
  refine w_lloadN X at_37 rfl (pc' := 38) rfl ?_
  refine w_iconst X at_38 (v := (0 : Int32)) (by decide) (pc' := 39) rfl ?_
  refine w_callS X [(.long w2), (.int (0 : Int32))] [(.int (3 : Int32)), (.ref b1)] 2 (tw1 hw) (tw2 hw) (tw3 hw) (tw4 hw) (ct_fDraw l Z a0 hw w2 (0 : Int32) h9 n0 X.n0le) at_39 pd0 rfl (by decide) rfl rfl rfl (by decide) (by decide) (by decide) (by decide) (pc' := 42) rfl ?_
  intro T hz v X hQ
  obtain ⟨rfl, hz1⟩ := hQ; replace hz1 := hz1.symm; subst hz1
  show WP _ _ _ _ _ _ _ _ _ (mkF m 42 #[.val (.long w1), .second, .val (.long w2), .second, .val (.int cu), .val (.ref b1), .unset, .unset, .unset, .unset, .unset, .unset] [(.int (fDraw w2 (0 : Int32))), (.int (3 : Int32)), (.ref b1)])
  refine w_castore X (i := 3) (x' := (nar .char (fDraw w2 (0 : Int32)))) O11 ga1 at_42 (by decide) (by decide) rfl (pc' := 43) rfl ?_; intro T h12 X K13 O14
  refine w_aload X at_43 rfl rfl (pc' := 45) rfl ?_
  refine w_iconst X at_45 (v := (4 : Int32)) (by decide) (pc' := 46) rfl ?_
  refine w_lloadN X at_46 rfl (pc' := 47) rfl ?_
  refine w_bipush X at_47 (v := (18 : Int32)) (by decide) (pc' := 49) rfl ?_
  refine w_callS X [(.long w2), (.int (18 : Int32))] [(.int (4 : Int32)), (.ref b1)] 2 (tw1 hw) (tw2 hw) (tw3 hw) (tw4 hw) (ct_fDraw l Z a0 hw w2 (18 : Int32) h12 n0 X.n0le) at_49 pd0 rfl (by decide) rfl rfl rfl (by decide) (by decide) (by decide) (by decide) (pc' := 52) rfl ?_
  intro T hz v X hQ
  obtain ⟨rfl, hz1⟩ := hQ; replace hz1 := hz1.symm; subst hz1
  show WP _ _ _ _ _ _ _ _ _ (mkF m 52 #[.val (.long w1), .second, .val (.long w2), .second, .val (.int cu), .val (.ref b1), .unset, .unset, .unset, .unset, .unset, .unset] [(.int (fDraw w2 (18 : Int32))), (.int (4 : Int32)), (.ref b1)])
  refine w_castore X (i := 4) (x' := (nar .char (fDraw w2 (18 : Int32)))) O14 ga1 at_52 (by decide) (by decide) rfl (pc' := 53) rfl ?_; intro T h15 X K16 O17
  obtain ⟨g, hg⟩ : ∃ g : Nat → Int32, AI Z h15 b1 .char 5 g := ⟨_, O17⟩
  refine w_iload X at_53 rfl (pc' := 55) rfl ?_
  refine w_bipush X at_55 (v := (7 : Int32)) (by decide) (pc' := 57) rfl ?_
  refine w_iand X at_57 (pc' := 58) rfl ?_
  refine w_bipush X at_58 (v := (6 : Int32)) (by decide) (pc' := 60) rfl ?_
  refine w_irem X at_60 (by decide) (pc' := 61) rfl ?_
  refine w_nameI ?_; intro xa h_xa
  refine w_istore X at_61 (L' := #[.val (.long w1), .second, .val (.long w2), .second, .val (.int cu), .val (.ref b1), .val (.int xa), .unset, .unset, .unset, .unset, .unset]) rfl (pc' := 63) rfl ?_
  refine w_iload X at_63 rfl (pc' := 65) rfl ?_
  refine w_iload X at_65 rfl (pc' := 67) rfl ?_
  refine w_iconst X at_67 (v := (3 : Int32)) (by decide) (pc' := 68) rfl ?_
  refine w_iushr X at_68 (pc' := 69) rfl ?_
  refine w_bipush X at_69 (v := (7 : Int32)) (by decide) (pc' := 71) rfl ?_
  refine w_iand X at_71 (pc' := 72) rfl ?_
  refine w_bipush X at_72 (v := (6 : Int32)) (by decide) (pc' := 74) rfl ?_
  refine w_iload X at_74 rfl (pc' := 76) rfl ?_
  refine w_isub X at_76 (pc' := 77) rfl ?_
  refine w_irem X at_77 (rem_ok (xa_ok h_xa)) (pc' := 78) rfl ?_
  refine w_iadd X at_78 (pc' := 79) rfl ?_
  refine w_nameI ?_; intro xb h_xb
  refine w_istore X at_79 (L' := #[.val (.long w1), .second, .val (.long w2), .second, .val (.int cu), .val (.ref b1), .val (.int xa), .val (.int xb), .unset, .unset, .unset, .unset]) rfl (pc' := 81) rfl ?_
  refine w_iload X at_81 rfl (pc' := 83) rfl ?_
  refine w_iload X at_83 rfl (pc' := 85) rfl ?_
  refine w_bipush X at_85 (v := (6 : Int32)) (by decide) (pc' := 87) rfl ?_
  refine w_iushr X at_87 (pc' := 88) rfl ?_
  refine w_bipush X at_88 (v := (7 : Int32)) (by decide) (pc' := 90) rfl ?_
  refine w_iand X at_90 (pc' := 91) rfl ?_
  refine w_bipush X at_91 (v := (6 : Int32)) (by decide) (pc' := 93) rfl ?_
  refine w_iload X at_93 rfl (pc' := 95) rfl ?_
  refine w_isub X at_95 (pc' := 96) rfl ?_
  refine w_irem X at_96 (rem_ok (ny_ok (xa_ok h_xa) h_xb)) (pc' := 97) rfl ?_
  refine w_iadd X at_97 (pc' := 98) rfl ?_
  refine w_nameI ?_; intro xc h_xc
  refine w_istore X at_98 (L' := #[.val (.long w1), .second, .val (.long w2), .second, .val (.int cu), .val (.ref b1), .val (.int xa), .val (.int xb), .val (.int xc), .unset, .unset, .unset]) rfl (pc' := 100) rfl ?_
  refine w_iload X at_100 rfl (pc' := 102) rfl ?_
  refine w_iload X at_102 rfl (pc' := 104) rfl ?_
  refine w_bipush X at_104 (v := (9 : Int32)) (by decide) (pc' := 106) rfl ?_
  refine w_iushr X at_106 (pc' := 107) rfl ?_
  refine w_bipush X at_107 (v := (7 : Int32)) (by decide) (pc' := 109) rfl ?_
  refine w_iand X at_109 (pc' := 110) rfl ?_
  refine w_bipush X at_110 (v := (6 : Int32)) (by decide) (pc' := 112) rfl ?_
  refine w_iload X at_112 rfl (pc' := 114) rfl ?_
  refine w_isub X at_114 (pc' := 115) rfl ?_
  refine w_irem X at_115 (rem_ok (ny_ok (ny_ok (xa_ok h_xa) h_xb) h_xc)) (pc' := 116) rfl ?_
  refine w_iadd X at_116 (pc' := 117) rfl ?_
  refine w_nameI ?_; intro xd h_xd
  refine w_istore X at_117 (L' := #[.val (.long w1), .second, .val (.long w2), .second, .val (.int cu), .val (.ref b1), .val (.int xa), .val (.int xb), .val (.int xc), .val (.int xd), .unset, .unset]) rfl (pc' := 119) rfl ?_
  obtain ⟨na, nb, nc, nd, hna, hnb, hnc, hnd, hnanb, hnbnc, hncnd, hle5, hnb5, hnc5, hnd5⟩ := cuts h_xa h_xb h_xc h_xd
  refine w_new X (tw7 hw) (tw8 hw) (tw9 hw) at_119 (by decide) (by decide) (pc' := 122) rfl ?_; intro T h19 b19 X eq19 ga19 E19 A19 D19
  have ne20 : b1 ≠ b19 := Nat.ne_of_lt (Nat.lt_of_lt_of_eq hg.lt eq19.symm)
  have O21 := hg.ext E19
  have O22 : Tq Z h19 b19 (.int (0 : Int32)) (.int (0 : Int32)) (.int (0 : Int32)) := ⟨A19, D19 (Or.inl (tw17 hw)) (ty := .int) (by decide), D19 (Or.inl (tw19 hw)) (ty := .int) (by decide), D19 (Or.inl (tw40 hw)) (ty := .boolean) (by decide)⟩
  refine w_dup X at_122 rfl (pc' := 123) rfl ?_
  refine w_callC X [] [(.ref b19)] 1 rfl (tw10 hw) (tw11 hw) (tw9 hw) (tw12 hw) (ct_init l Z a0 hw b19 h19 n0 X.n0le ga19 O22) at_123 pd1 rfl (by decide) rfl rfl rfl (by decide) (by decide) (by decide) (by decide) (pc' := 126) rfl ?_
  intro T h23 v X hQ
  obtain ⟨rfl, K24, O25⟩ := hQ
  have O26 := O21.keep K24 (ninS ne20 nin0)
  show WP _ _ _ _ _ _ _ _ _ (mkF m 126 #[.val (.long w1), .second, .val (.long w2), .second, .val (.int cu), .val (.ref b1), .val (.int xa), .val (.int xb), .val (.int xc), .val (.int xd), .unset, .unset] [(.ref b19)])
  refine w_astore X at_126 (L' := #[.val (.long w1), .second, .val (.long w2), .second, .val (.int cu), .val (.ref b1), .val (.int xa), .val (.int xb), .val (.int xc), .val (.int xd), .val (.ref b19), .unset]) rfl rfl (pc' := 128) rfl ?_
  refine w_aload X at_128 rfl rfl (pc' := 130) rfl ?_
  refine w_aload X at_130 rfl rfl (pc' := 132) rfl ?_
  refine w_iload X at_132 rfl (pc' := 134) rfl ?_
  refine w_iload X at_134 rfl (pc' := 136) rfl ?_
  refine w_callV X [(.ref b1), (.int xa), (.int xb)] [] 0 (tw20 hw) (tw21 hw) (tw23 hw) (tw22 hw) (tw9 hw) (tw24 hw) O25.exa (ct_adv l Z a0 hw b19 b1 xa xb (1 : Int32) (1 : Int32) (0 : Int32) na (nb - na) 5 g h23 n0 X.n0le ga19 (Ne.symm ne20) O25 O26 (by decide) hna (hsum hnanb) hnb5) at_136 pd2 rfl (by decide) rfl rfl rfl (by decide) (by decide) (by decide) (by decide) (pc' := 139) rfl ?_
  intro T h27 v X hQ
  obtain ⟨rfl, K28, O29⟩ := hQ
  have O30 := O26.keep K28 (ninS ne20 nin0)
  show WP _ _ _ _ _ _ _ _ _ (mkF m 139 #[.val (.long w1), .second, .val (.long w2), .second, .val (.int cu), .val (.ref b1), .val (.int xa), .val (.int xb), .val (.int xc), .val (.int xd), .val (.ref b19), .unset] [])
  refine w_aload X at_139 rfl rfl (pc' := 141) rfl ?_
  refine w_aload X at_141 rfl rfl (pc' := 143) rfl ?_
  refine w_iload X at_143 rfl (pc' := 145) rfl ?_
  refine w_iload X at_145 rfl (pc' := 147) rfl ?_
  refine w_callV X [(.ref b1), (.int xb), (.int xc)] [] 0 (tw20 hw) (tw21 hw) (tw23 hw) (tw22 hw) (tw9 hw) (tw24 hw) O29.exa (ct_adv l Z a0 hw b19 b1 xb xc ((rn g na (nb - na) ((1 : Int32), (1 : Int32), (0 : Int32))).1) ((rn g na (nb - na) ((1 : Int32), (1 : Int32), (0 : Int32))).2.1) ((rn g na (nb - na) ((1 : Int32), (1 : Int32), (0 : Int32))).2.2) nb (nc - nb) 5 g h27 n0 X.n0le ga19 (Ne.symm ne20) O29 O30 (by decide) hnb (hsum hnbnc) hnc5) at_147 pd2 rfl (by decide) rfl rfl rfl (by decide) (by decide) (by decide) (by decide) (pc' := 150) rfl ?_
  intro T h31 v X hQ
  obtain ⟨rfl, K32, O33⟩ := hQ
  have O34 := O30.keep K32 (ninS ne20 nin0)
  show WP _ _ _ _ _ _ _ _ _ (mkF m 150 #[.val (.long w1), .second, .val (.long w2), .second, .val (.int cu), .val (.ref b1), .val (.int xa), .val (.int xb), .val (.int xc), .val (.int xd), .val (.ref b19), .unset] [])
  refine w_aload X at_150 rfl rfl (pc' := 152) rfl ?_
  refine w_aload X at_152 rfl rfl (pc' := 154) rfl ?_
  refine w_iload X at_154 rfl (pc' := 156) rfl ?_
  refine w_iload X at_156 rfl (pc' := 158) rfl ?_
  refine w_callV X [(.ref b1), (.int xc), (.int xd)] [] 0 (tw20 hw) (tw21 hw) (tw23 hw) (tw22 hw) (tw9 hw) (tw24 hw) O33.exa (ct_adv l Z a0 hw b19 b1 xc xd ((rn g nb (nc - nb) ((rn g na (nb - na) ((1 : Int32), (1 : Int32), (0 : Int32))).1, (rn g na (nb - na) ((1 : Int32), (1 : Int32), (0 : Int32))).2.1, (rn g na (nb - na) ((1 : Int32), (1 : Int32), (0 : Int32))).2.2)).1) ((rn g nb (nc - nb) ((rn g na (nb - na) ((1 : Int32), (1 : Int32), (0 : Int32))).1, (rn g na (nb - na) ((1 : Int32), (1 : Int32), (0 : Int32))).2.1, (rn g na (nb - na) ((1 : Int32), (1 : Int32), (0 : Int32))).2.2)).2.1) ((rn g nb (nc - nb) ((rn g na (nb - na) ((1 : Int32), (1 : Int32), (0 : Int32))).1, (rn g na (nb - na) ((1 : Int32), (1 : Int32), (0 : Int32))).2.1, (rn g na (nb - na) ((1 : Int32), (1 : Int32), (0 : Int32))).2.2)).2.2) nc (nd - nc) 5 g h31 n0 X.n0le ga19 (Ne.symm ne20) O33 O34 (by decide) hnc (hsum hncnd) hnd5) at_158 pd2 rfl (by decide) rfl rfl rfl (by decide) (by decide) (by decide) (by decide) (pc' := 161) rfl ?_
  intro T h35 v X hQ
  obtain ⟨rfl, K36, O37⟩ := hQ
  have O38 := O34.keep K36 (ninS ne20 nin0)
  show WP _ _ _ _ _ _ _ _ _ (mkF m 161 #[.val (.long w1), .second, .val (.long w2), .second, .val (.int cu), .val (.ref b1), .val (.int xa), .val (.int xb), .val (.int xc), .val (.int xd), .val (.ref b19), .unset] [])
  refine w_iconst X at_161 (v := (3 : Int32)) (by decide) (pc' := 162) rfl ?_
  refine w_newarray X (aty := .int) 3 (tw25 hw) at_162 (by decide) (by decide) (by decide) (by decide) (by decide) (pc' := 164) rfl ?_; intro T h39 b39 cA39 X eq39 ga39 E39 A39
  have ne40 : b1 ≠ b39 := Nat.ne_of_lt (Nat.lt_of_lt_of_eq O38.lt eq39.symm)
  have ne41 : b19 ≠ b39 := Nat.ne_of_lt (Nat.lt_of_lt_of_eq O37.lt eq39.symm)
  have O42 := O38.ext E39
  have O43 := O37.ext E39
  have O44 : AI Z h39 b39 .int 3 (fun _ => 0) := AI.new A39 (by decide) rfl
  refine w_astore X at_164 (L' := #[.val (.long w1), .second, .val (.long w2), .second, .val (.int cu), .val (.ref b1), .val (.int xa), .val (.int xb), .val (.int xc), .val (.int xd), .val (.ref b19), .val (.ref b39)]) rfl rfl (pc' := 166) rfl ?_
  refine w_aload X at_166 rfl rfl (pc' := 168) rfl ?_
  refine w_iconst X at_168 (v := (0 : Int32)) (by decide) (pc' := 169) rfl ?_
  refine w_iconst X at_169 (v := (1 : Int32)) (by decide) (pc' := 170) rfl ?_
  refine w_iastore X (i := 0) (x' := (1 : Int32)) O44 ga39 at_170 (by decide) (by decide) rfl (pc' := 171) rfl ?_; intro T h45 X K46 O47
  have O48 := O42.keep K46 (ninS ne40 nin0)
  have O49 := O43.keep K46 (ninS ne41 nin0)
  refine w_aload X at_171 rfl rfl (pc' := 173) rfl ?_
  refine w_iconst X at_173 (v := (1 : Int32)) (by decide) (pc' := 174) rfl ?_
  refine w_iconst X at_174 (v := (1 : Int32)) (by decide) (pc' := 175) rfl ?_
  refine w_iastore X (i := 1) (x' := (1 : Int32)) O47 ga39 at_175 (by decide) (by decide) rfl (pc' := 176) rfl ?_; intro T h50 X K51 O52
  have O53 := O48.keep K51 (ninS ne40 nin0)
  have O54 := O49.keep K51 (ninS ne41 nin0)
  refine w_aload X at_176 rfl rfl (pc' := 178) rfl ?_
  refine w_iconst X at_178 (v := (2 : Int32)) (by decide) (pc' := 179) rfl ?_
  refine w_iconst X at_179 (v := (0 : Int32)) (by decide) (pc' := 180) rfl ?_
  refine w_iastore X (i := 2) (x' := (0 : Int32)) O52 ga39 at_180 (by decide) (by decide) rfl (pc' := 181) rfl ?_; intro T h55 X K56 O57
  have O58 := O53.keep K56 (ninS ne40 nin0)
  have O59 := O54.keep K56 (ninS ne41 nin0)
  refine w_aload X at_181 rfl rfl (pc' := 183) rfl ?_
  refine w_aload X at_183 rfl rfl (pc' := 185) rfl ?_
  refine w_iconst X at_185 (v := (0 : Int32)) (by decide) (pc' := 186) rfl ?_
  refine w_iload X at_186 rfl (pc' := 188) rfl ?_
  refine w_iload X at_188 rfl (pc' := 190) rfl ?_
  have O60 : AI Z h55 b39 .int 3 (tri (1, 1, 0)) := O57.congr fun z hz => by
    rcases (show z = 0 ∨ z = 1 ∨ z = 2 by omega) with rfl | rfl | rfl <;> rfl
  refine w_callS X [(.ref b39), (.ref b1), (.int (0 : Int32)), (.int xa), (.int xd)] [] 0 (tw26 hw) (tw27 hw) (tw3 hw) (tw28 hw) (ct_step l Z a0 hw b39 b1 (0 : Int32) xa xd 0 5 g (1, 1, 0) h55 n0 X.n0le ga39 (Ne.symm ne40) O60 O58 (by decide) (by decide)) at_190 pd3 rfl (by decide) rfl rfl rfl (by decide) (by decide) (by decide) (by decide) (pc' := 193) rfl ?_
  intro T h61 v X hQ
  obtain ⟨rfl, K62, O63⟩ := hQ
  have O64 := O58.keep K62 (ninS ne40 nin0)
  have O65 := O59.keep K62 (ninS ne41 nin0)
  show WP _ _ _ _ _ _ _ _ _ (mkF m 193 #[.val (.long w1), .second, .val (.long w2), .second, .val (.int cu), .val (.ref b1), .val (.int xa), .val (.int xb), .val (.int xc), .val (.int xd), .val (.ref b19), .val (.ref b39)] [])
  refine w_aload X at_193 rfl rfl (pc' := 195) rfl ?_
  refine w_aload X at_195 rfl rfl (pc' := 197) rfl ?_
  refine w_iconst X at_197 (v := (1 : Int32)) (by decide) (pc' := 198) rfl ?_
  refine w_iload X at_198 rfl (pc' := 200) rfl ?_
  refine w_iload X at_200 rfl (pc' := 202) rfl ?_
  refine w_callS X [(.ref b39), (.ref b1), (.int (1 : Int32)), (.int xa), (.int xd)] [] 0 (tw26 hw) (tw27 hw) (tw3 hw) (tw28 hw) (ct_step l Z a0 hw b39 b1 (1 : Int32) xa xd 1 5 g (stq (g 0) (0 : Int32) xa xd (1, 1, 0)) h61 n0 X.n0le ga39 (Ne.symm ne40) O63 O64 (by decide) (by decide)) at_202 pd3 rfl (by decide) rfl rfl rfl (by decide) (by decide) (by decide) (by decide) (pc' := 205) rfl ?_
  intro T h66 v X hQ
  obtain ⟨rfl, K67, O68⟩ := hQ
  have O69 := O64.keep K67 (ninS ne40 nin0)
  have O70 := O65.keep K67 (ninS ne41 nin0)
  show WP _ _ _ _ _ _ _ _ _ (mkF m 205 #[.val (.long w1), .second, .val (.long w2), .second, .val (.int cu), .val (.ref b1), .val (.int xa), .val (.int xb), .val (.int xc), .val (.int xd), .val (.ref b19), .val (.ref b39)] [])
  refine w_aload X at_205 rfl rfl (pc' := 207) rfl ?_
  refine w_aload X at_207 rfl rfl (pc' := 209) rfl ?_
  refine w_iconst X at_209 (v := (2 : Int32)) (by decide) (pc' := 210) rfl ?_
  refine w_iload X at_210 rfl (pc' := 212) rfl ?_
  refine w_iload X at_212 rfl (pc' := 214) rfl ?_
  refine w_callS X [(.ref b39), (.ref b1), (.int (2 : Int32)), (.int xa), (.int xd)] [] 0 (tw26 hw) (tw27 hw) (tw3 hw) (tw28 hw) (ct_step l Z a0 hw b39 b1 (2 : Int32) xa xd 2 5 g (stq (g 1) (1 : Int32) xa xd (stq (g 0) (0 : Int32) xa xd (1, 1, 0))) h66 n0 X.n0le ga39 (Ne.symm ne40) O68 O69 (by decide) (by decide)) at_214 pd3 rfl (by decide) rfl rfl rfl (by decide) (by decide) (by decide) (by decide) (pc' := 217) rfl ?_
  intro T h71 v X hQ
  obtain ⟨rfl, K72, O73⟩ := hQ
  have O74 := O69.keep K72 (ninS ne40 nin0)
  have O75 := O70.keep K72 (ninS ne41 nin0)
  show WP _ _ _ _ _ _ _ _ _ (mkF m 217 #[.val (.long w1), .second, .val (.long w2), .second, .val (.int cu), .val (.ref b1), .val (.int xa), .val (.int xb), .val (.int xc), .val (.int xd), .val (.ref b19), .val (.ref b39)] [])
  refine w_aload X at_217 rfl rfl (pc' := 219) rfl ?_
  refine w_aload X at_219 rfl rfl (pc' := 221) rfl ?_
  refine w_iconst X at_221 (v := (3 : Int32)) (by decide) (pc' := 222) rfl ?_
  refine w_iload X at_222 rfl (pc' := 224) rfl ?_
  refine w_iload X at_224 rfl (pc' := 226) rfl ?_
  refine w_callS X [(.ref b39), (.ref b1), (.int (3 : Int32)), (.int xa), (.int xd)] [] 0 (tw26 hw) (tw27 hw) (tw3 hw) (tw28 hw) (ct_step l Z a0 hw b39 b1 (3 : Int32) xa xd 3 5 g (stq (g 2) (2 : Int32) xa xd (stq (g 1) (1 : Int32) xa xd (stq (g 0) (0 : Int32) xa xd (1, 1, 0)))) h71 n0 X.n0le ga39 (Ne.symm ne40) O73 O74 (by decide) (by decide)) at_226 pd3 rfl (by decide) rfl rfl rfl (by decide) (by decide) (by decide) (by decide) (pc' := 229) rfl ?_
  intro T h76 v X hQ
  obtain ⟨rfl, K77, O78⟩ := hQ
  have O79 := O74.keep K77 (ninS ne40 nin0)
  have O80 := O75.keep K77 (ninS ne41 nin0)
  show WP _ _ _ _ _ _ _ _ _ (mkF m 229 #[.val (.long w1), .second, .val (.long w2), .second, .val (.int cu), .val (.ref b1), .val (.int xa), .val (.int xb), .val (.int xc), .val (.int xd), .val (.ref b19), .val (.ref b39)] [])
  refine w_aload X at_229 rfl rfl (pc' := 231) rfl ?_
  refine w_aload X at_231 rfl rfl (pc' := 233) rfl ?_
  refine w_iconst X at_233 (v := (4 : Int32)) (by decide) (pc' := 234) rfl ?_
  refine w_iload X at_234 rfl (pc' := 236) rfl ?_
  refine w_iload X at_236 rfl (pc' := 238) rfl ?_
  refine w_callS X [(.ref b39), (.ref b1), (.int (4 : Int32)), (.int xa), (.int xd)] [] 0 (tw26 hw) (tw27 hw) (tw3 hw) (tw28 hw) (ct_step l Z a0 hw b39 b1 (4 : Int32) xa xd 4 5 g (stq (g 3) (3 : Int32) xa xd (stq (g 2) (2 : Int32) xa xd (stq (g 1) (1 : Int32) xa xd (stq (g 0) (0 : Int32) xa xd (1, 1, 0))))) h76 n0 X.n0le ga39 (Ne.symm ne40) O78 O79 (by decide) (by decide)) at_238 pd3 rfl (by decide) rfl rfl rfl (by decide) (by decide) (by decide) (by decide) (pc' := 241) rfl ?_
  intro T h81 v X hQ
  obtain ⟨rfl, K82, O83⟩ := hQ
  have O84 := O79.keep K82 (ninS ne40 nin0)
  have O85 := O80.keep K82 (ninS ne41 nin0)
  show WP _ _ _ _ _ _ _ _ _ (mkF m 241 #[.val (.long w1), .second, .val (.long w2), .second, .val (.int cu), .val (.ref b1), .val (.int xa), .val (.int xb), .val (.int xc), .val (.int xd), .val (.ref b19), .val (.ref b39)] [])
  refine w_aload X at_241 rfl rfl (pc' := 243) rfl ?_
  refine w_callV X [] [] 0 (tw29 hw) (tw30 hw) (tw32 hw) (tw31 hw) (tw9 hw) (tw33 hw) O85.exa (ct_line l Z a0 hw b19 ((rn g nc (nd - nc) ((rn g nb (nc - nb) ((rn g na (nb - na) ((1 : Int32), (1 : Int32), (0 : Int32))).1, (rn g na (nb - na) ((1 : Int32), (1 : Int32), (0 : Int32))).2.1, (rn g na (nb - na) ((1 : Int32), (1 : Int32), (0 : Int32))).2.2)).1, (rn g nb (nc - nb) ((rn g na (nb - na) ((1 : Int32), (1 : Int32), (0 : Int32))).1, (rn g na (nb - na) ((1 : Int32), (1 : Int32), (0 : Int32))).2.1, (rn g na (nb - na) ((1 : Int32), (1 : Int32), (0 : Int32))).2.2)).2.1, (rn g nb (nc - nb) ((rn g na (nb - na) ((1 : Int32), (1 : Int32), (0 : Int32))).1, (rn g na (nb - na) ((1 : Int32), (1 : Int32), (0 : Int32))).2.1, (rn g na (nb - na) ((1 : Int32), (1 : Int32), (0 : Int32))).2.2)).2.2)).1) ((rn g nc (nd - nc) ((rn g nb (nc - nb) ((rn g na (nb - na) ((1 : Int32), (1 : Int32), (0 : Int32))).1, (rn g na (nb - na) ((1 : Int32), (1 : Int32), (0 : Int32))).2.1, (rn g na (nb - na) ((1 : Int32), (1 : Int32), (0 : Int32))).2.2)).1, (rn g nb (nc - nb) ((rn g na (nb - na) ((1 : Int32), (1 : Int32), (0 : Int32))).1, (rn g na (nb - na) ((1 : Int32), (1 : Int32), (0 : Int32))).2.1, (rn g na (nb - na) ((1 : Int32), (1 : Int32), (0 : Int32))).2.2)).2.1, (rn g nb (nc - nb) ((rn g na (nb - na) ((1 : Int32), (1 : Int32), (0 : Int32))).1, (rn g na (nb - na) ((1 : Int32), (1 : Int32), (0 : Int32))).2.1, (rn g na (nb - na) ((1 : Int32), (1 : Int32), (0 : Int32))).2.2)).2.2)).2.1) ((rn g nc (nd - nc) ((rn g nb (nc - nb) ((rn g na (nb - na) ((1 : Int32), (1 : Int32), (0 : Int32))).1, (rn g na (nb - na) ((1 : Int32), (1 : Int32), (0 : Int32))).2.1, (rn g na (nb - na) ((1 : Int32), (1 : Int32), (0 : Int32))).2.2)).1, (rn g nb (nc - nb) ((rn g na (nb - na) ((1 : Int32), (1 : Int32), (0 : Int32))).1, (rn g na (nb - na) ((1 : Int32), (1 : Int32), (0 : Int32))).2.1, (rn g na (nb - na) ((1 : Int32), (1 : Int32), (0 : Int32))).2.2)).2.1, (rn g nb (nc - nb) ((rn g na (nb - na) ((1 : Int32), (1 : Int32), (0 : Int32))).1, (rn g na (nb - na) ((1 : Int32), (1 : Int32), (0 : Int32))).2.1, (rn g na (nb - na) ((1 : Int32), (1 : Int32), (0 : Int32))).2.2)).2.2)).2.2) h81 n0 X.n0le ga19 O85) at_243 pd4 rfl (by decide) rfl rfl rfl (by decide) (by decide) (by decide) (by decide) (pc' := 246) rfl ?_
  intro T hz v X hQ
  obtain ⟨rfl, hz1⟩ := hQ; replace hz1 := hz1.symm; subst hz1
  show WP _ _ _ _ _ _ _ _ _ (mkF m 246 #[.val (.long w1), .second, .val (.long w2), .second, .val (.int cu), .val (.ref b1), .val (.int xa), .val (.int xb), .val (.int xc), .val (.int xd), .val (.ref b19), .val (.ref b39)] [(.int (rn g nc (nd - nc) ((rn g nb (nc - nb) ((rn g na (nb - na) ((1 : Int32), (1 : Int32), (0 : Int32))).1, (rn g na (nb - na) ((1 : Int32), (1 : Int32), (0 : Int32))).2.1, (rn g na (nb - na) ((1 : Int32), (1 : Int32), (0 : Int32))).2.2)).1, (rn g nb (nc - nb) ((rn g na (nb - na) ((1 : Int32), (1 : Int32), (0 : Int32))).1, (rn g na (nb - na) ((1 : Int32), (1 : Int32), (0 : Int32))).2.1, (rn g na (nb - na) ((1 : Int32), (1 : Int32), (0 : Int32))).2.2)).2.1, (rn g nb (nc - nb) ((rn g na (nb - na) ((1 : Int32), (1 : Int32), (0 : Int32))).1, (rn g na (nb - na) ((1 : Int32), (1 : Int32), (0 : Int32))).2.1, (rn g na (nb - na) ((1 : Int32), (1 : Int32), (0 : Int32))).2.2)).2.2)).1)])
  refine w_aload X at_246 rfl rfl (pc' := 248) rfl ?_
  refine w_iconst X at_248 (v := (0 : Int32)) (by decide) (pc' := 249) rfl ?_
  refine w_iaload X (i := 0) O83 at_249 (by decide) (by decide) rfl (pc' := 250) rfl ?_
  refine w_icmp_ne X at_250 (by decide) (p1 := 269) (by decide) (p2 := 253) rfl (fun c250 => False.elim (c250 (congrArg (fun q => q.1) (fin hna hnd hnanb hnbnc hncnd hle5 (1, 1, 0))))) (fun c250 => ?_)
  refine w_aload X at_253 rfl rfl (pc' := 255) rfl ?_
  refine w_callV X [] [] 0 (tw34 hw) (tw35 hw) (tw37 hw) (tw36 hw) (tw9 hw) (tw38 hw) O85.exa (ct_col l Z a0 hw b19 ((rn g nc (nd - nc) ((rn g nb (nc - nb) ((rn g na (nb - na) ((1 : Int32), (1 : Int32), (0 : Int32))).1, (rn g na (nb - na) ((1 : Int32), (1 : Int32), (0 : Int32))).2.1, (rn g na (nb - na) ((1 : Int32), (1 : Int32), (0 : Int32))).2.2)).1, (rn g nb (nc - nb) ((rn g na (nb - na) ((1 : Int32), (1 : Int32), (0 : Int32))).1, (rn g na (nb - na) ((1 : Int32), (1 : Int32), (0 : Int32))).2.1, (rn g na (nb - na) ((1 : Int32), (1 : Int32), (0 : Int32))).2.2)).2.1, (rn g nb (nc - nb) ((rn g na (nb - na) ((1 : Int32), (1 : Int32), (0 : Int32))).1, (rn g na (nb - na) ((1 : Int32), (1 : Int32), (0 : Int32))).2.1, (rn g na (nb - na) ((1 : Int32), (1 : Int32), (0 : Int32))).2.2)).2.2)).1) ((rn g nc (nd - nc) ((rn g nb (nc - nb) ((rn g na (nb - na) ((1 : Int32), (1 : Int32), (0 : Int32))).1, (rn g na (nb - na) ((1 : Int32), (1 : Int32), (0 : Int32))).2.1, (rn g na (nb - na) ((1 : Int32), (1 : Int32), (0 : Int32))).2.2)).1, (rn g nb (nc - nb) ((rn g na (nb - na) ((1 : Int32), (1 : Int32), (0 : Int32))).1, (rn g na (nb - na) ((1 : Int32), (1 : Int32), (0 : Int32))).2.1, (rn g na (nb - na) ((1 : Int32), (1 : Int32), (0 : Int32))).2.2)).2.1, (rn g nb (nc - nb) ((rn g na (nb - na) ((1 : Int32), (1 : Int32), (0 : Int32))).1, (rn g na (nb - na) ((1 : Int32), (1 : Int32), (0 : Int32))).2.1, (rn g na (nb - na) ((1 : Int32), (1 : Int32), (0 : Int32))).2.2)).2.2)).2.1) ((rn g nc (nd - nc) ((rn g nb (nc - nb) ((rn g na (nb - na) ((1 : Int32), (1 : Int32), (0 : Int32))).1, (rn g na (nb - na) ((1 : Int32), (1 : Int32), (0 : Int32))).2.1, (rn g na (nb - na) ((1 : Int32), (1 : Int32), (0 : Int32))).2.2)).1, (rn g nb (nc - nb) ((rn g na (nb - na) ((1 : Int32), (1 : Int32), (0 : Int32))).1, (rn g na (nb - na) ((1 : Int32), (1 : Int32), (0 : Int32))).2.1, (rn g na (nb - na) ((1 : Int32), (1 : Int32), (0 : Int32))).2.2)).2.1, (rn g nb (nc - nb) ((rn g na (nb - na) ((1 : Int32), (1 : Int32), (0 : Int32))).1, (rn g na (nb - na) ((1 : Int32), (1 : Int32), (0 : Int32))).2.1, (rn g na (nb - na) ((1 : Int32), (1 : Int32), (0 : Int32))).2.2)).2.2)).2.2) h81 n0 X.n0le ga19 O85) at_255 pd4 rfl (by decide) rfl rfl rfl (by decide) (by decide) (by decide) (by decide) (pc' := 258) rfl ?_
  intro T hz v X hQ
  obtain ⟨rfl, hz1⟩ := hQ; replace hz1 := hz1.symm; subst hz1
  show WP _ _ _ _ _ _ _ _ _ (mkF m 258 #[.val (.long w1), .second, .val (.long w2), .second, .val (.int cu), .val (.ref b1), .val (.int xa), .val (.int xb), .val (.int xc), .val (.int xd), .val (.ref b19), .val (.ref b39)] [(.int (rn g nc (nd - nc) ((rn g nb (nc - nb) ((rn g na (nb - na) ((1 : Int32), (1 : Int32), (0 : Int32))).1, (rn g na (nb - na) ((1 : Int32), (1 : Int32), (0 : Int32))).2.1, (rn g na (nb - na) ((1 : Int32), (1 : Int32), (0 : Int32))).2.2)).1, (rn g nb (nc - nb) ((rn g na (nb - na) ((1 : Int32), (1 : Int32), (0 : Int32))).1, (rn g na (nb - na) ((1 : Int32), (1 : Int32), (0 : Int32))).2.1, (rn g na (nb - na) ((1 : Int32), (1 : Int32), (0 : Int32))).2.2)).2.1, (rn g nb (nc - nb) ((rn g na (nb - na) ((1 : Int32), (1 : Int32), (0 : Int32))).1, (rn g na (nb - na) ((1 : Int32), (1 : Int32), (0 : Int32))).2.1, (rn g na (nb - na) ((1 : Int32), (1 : Int32), (0 : Int32))).2.2)).2.2)).2.1)])
  refine w_aload X at_258 rfl rfl (pc' := 260) rfl ?_
  refine w_iconst X at_260 (v := (1 : Int32)) (by decide) (pc' := 261) rfl ?_
  refine w_iaload X (i := 1) O83 at_261 (by decide) (by decide) rfl (pc' := 262) rfl ?_
  refine w_icmp_ne X at_262 (by decide) (p1 := 269) (by decide) (p2 := 265) rfl (fun c262 => False.elim (c262 (congrArg (fun q => q.2.1) (fin hna hnd hnanb hnbnc hncnd hle5 (1, 1, 0))))) (fun c262 => ?_)
  refine w_iconst X at_265 (v := (1 : Int32)) (by decide) (pc' := 266) rfl ?_
  refine w_goto X at_266 (by decide) (pc' := 270) (by decide) ?_
  exact w_retZ X rfl at_270 (by decide) (by decide) (by decide) rfl
set_option maxRecDepth 65536 in
set_option maxHeartbeats 4000000 in
theorem comes_1 {Post : Tables → Env → Array Value → State → Outcome → State → Prop} (hpost : ∀ tb e args s v u, (limb_1_1.after args s (.returned v) u = true ∧ limb_1_2.after args s (.returned v) u = true ∧ True) → FrameEnd s (.returned v) u (Jvm.fieldLocs frame_1_writes args s ++ Jvm.arrayLocs frame_1_arrays args s ++ Jvm.staticLocs frame_1_statics s) 16 128 → Post tb e args s (.returned v) u) :
    ArmFor flags0 classFile x code maxLocals ret World_1 tables_1 room_1 Calls_1 rest_1 Pre_1 Post := by
  intro l hfl _ _ p e ha hc hk s m args below hf hA hF happ hP
  obtain ⟨hcalls, hrest, hpre⟩ := hP
  obtain ⟨-, -, -, hnamed, -, -, -, hat⟩ := (Spec.applies_iff hf).mp happ
  obtain ⟨hg, hn⟩ := and_e (Cond.before_iff.mp (show (Jvm.Cond.and given_1 narrow_1).before args s = true from hpre))
  obtain ⟨g1a, g1b⟩ := and_e hg
  obtain ⟨g2a, g2b⟩ := and_e g1b
  obtain ⟨g3a, g3b⟩ := and_e g2b
  obtain ⟨w0, w1, w2, rfl⟩ : ∃ w0 w1 w2 : Value, args = #[w0, w1, w2] := by
    have hs : args.size = 3 := by simpa [Cond.value, given_1] using g1a
    obtain ⟨L⟩ := args
    match L, hs with
    | [w0, w1, w2], _ => exact ⟨w0, w1, w2, rfl⟩
  have hw := fun d (hd : d ∈ tables_1) => atoms_spec (ws := Jvm.Cond.code x code maxLocals ret :: tables_1) hat d (List.mem_cons_of_mem _ hd)
  obtain ⟨i0, ei0⟩ := isL_v g2a
  obtain rfl : w0 = (.long i0) := Option.some.inj ei0
  obtain ⟨i1, ei1⟩ := isL_v g3a
  obtain rfl : w1 = (.long i1) := Option.some.inj ei1
  obtain ⟨i2, ei2⟩ := is_v g3b
  obtain rfl : w2 = (.int i2) := Option.some.inj ei2
  obtain ⟨n, o, h1, h2, h3, _, L, rfl, ⟨rfl, N⟩, hq⟩ := ct_law l s _ hw i0 i1 i2 s.heap s.heap.size (Nat.le_refl _) tables_1 p e ha hc hk s m _ below hf ((Spec.applies_iff_loose hf).mp happ).1 ⟨rfl, State.Warmed39.refl s, rfl⟩ trivial
  exact ⟨n, _, h1, h2, h3, hpost _ _ _ _ _ _ ⟨Cond.after_iff.mpr rfl, Cond.after_iff.mpr (eq_i res_at (Term.int_eval (1)) rfl), trivial⟩ ⟨hq.1, hq.2.1, (hq.2.2.sift fun y hy => Or.inr (N y hy)).mono (by decide) (by decide)⟩⟩
theorem main_1_1 : Claimed_1_1 := comes_1 fun _ _ _ _ _ _ h hF => ⟨h.1, hF⟩
theorem main_1_2 : Claimed_1_2 := comes_1 fun _ _ _ _ _ _ h hF => ⟨h.2.1, hF⟩
end Jvm.Pilot.@@N@@
namespace Jvm.Pilot.@@N@@
open Jvm Jvm.ClassFile Sem Op Lib Jvm.Free Jvm.Stand Jvm.Pilot.@@N@@.Jvm.D
/-! MADE BY PROGRAM (witnessworld.py) out of the Statement's table words and the real class files: 11 classes; the members and pool entries that the words name. The judged class is class 1, her method 3. -/
namespace start1
open Jvm.ClassFile
def u (s : String) : CpInfo := .utf8 (stringToUtf16 s)
/-- a pool by its gaps: so many unusable entries, then the entry; so many at the end -/
def gap : Nat → List CpInfo → List CpInfo
  | 0, r => r
  | n + 1, r => .unusable :: gap n r
def poolList (es : List (Nat × CpInfo)) (last : Nat) : List CpInfo := es.foldr (fun e r => gap e.1 (e.2 :: r)) (gap last [])
def pool (es : List (Nat × CpInfo)) (last : Nat) : Array CpInfo := ⟨poolList es last⟩
def fileOf (pool : Array CpInfo) (this : Nat) (attrs : Array Attribute := #[]) (ms : Array MethodInfo := #[]) (fl : Nat := 33) (sup : Nat := 0) (ifs : Array Nat := #[]) (fds : Array FieldInfo := #[]) : ClassFile where
  minorVersion := 0
  majorVersion := 65
  constantPool := pool
  accessFlags := fl
  thisClass := this
  superClass := sup
  interfaces := ifs
  fields := fds
  methods := ms
  attributes := attrs
def plain (name : String) (sup : Option ClassId) : Class where
  name := name
  kind := .ordinary
  loader := none
  accessFlags := 33
  super := sup
  interfaces := #[]
  cf := none
  fields := #[]
  methods := #[]
  instanceTypes := #[]
  staticTypes := #[]
  resolved := #[]
  callSites := []
  init := .initialized
  statics := none
  mirror := none

def pool0 : Array CpInfo := pool [(5, u "<init>"), (0, u "()V"), (1, .class_ 10), (1, u "java/lang/Object")] 113

def k0c0 : Code := { maxStack := 0, maxLocals := 1, code := object_method_1_code, exceptionTable := #[], attributes := #[] }
def k0m0 : Method := { name := "<init>", desc := "()V", sig := { parameters := [], returnType := none }, accessFlags := 1, code := some k0c0 }
/-- java/lang/Object -/
def k0 : Class := { plain "java/lang/Object" none with
  accessFlags := 33
  interfaces := #[]
  cf := some (fileOf pool0 8 #[] #[{ accessFlags := 1, nameIndex := 5, descriptorIndex := 6, attributes := #[] }] 33 0 #[] #[])
  fields := #[]
  methods := #[k0m0]
  instanceTypes := #[]
  staticTypes := #[]
  resolved := Array.replicate 124 none
  statics := none }

def pool1 : Array CpInfo := pool [(2, .class_ 4), (0, .nameAndType 5 6), (0, u "java/lang/Object"), (0, u "<init>"), (0, u "()V"), (0, .long 262143), (1, .integer 65535), (0, .methodref 11 12), (0, .class_ 13), (0, .nameAndType 14 15), (0, u "com/example/xtent/xtent/document/TextPositionAdvancePinLaw"), (0, u "draw"), (0, u "(JI)C"), (0, .class_ 17), (0, u "com/example/xtent/xtent/document/TextPosition"), (0, .methodref 16 3), (0, .methodref 16 20), (0, .nameAndType 21 22), (0, u "advance"), (0, u "([CII)V"), (0, .methodref 11 24), (0, .nameAndType 25 26), (0, u "step"), (0, u "([I[CIII)V"), (0, .methodref 16 28), (0, .nameAndType 29 30), (0, u "line"), (0, u "()I"), (0, .methodref 16 32), (0, .nameAndType 33 30), (0, u "column"), (3, u "law"), (0, u "(JJI)Z")] 6

def k1m0 : Method := { name := "<init>", desc := "()V", sig := { parameters := [], returnType := none }, accessFlags := 1, code := none }
def k1c1 : Code := { maxStack := 4, maxLocals := 5, code := method_2_code, exceptionTable := #[], attributes := #[] }
def k1m1 : Method := { name := "draw", desc := "(JI)C", sig := { parameters := [.long, .int], returnType := some .char }, accessFlags := 10, code := some k1c1 }
def k1c2 : Code := { maxStack := 4, maxLocals := 6, code := method_3_code, exceptionTable := #[], attributes := #[] }
def k1m2 : Method := { name := "step", desc := "([I[CIII)V", sig := { parameters := [(.array .int), (.array .char), .int, .int, .int], returnType := none }, accessFlags := 10, code := some k1c2 }
def k1c3 : Code := { maxStack := 5, maxLocals := 12, code := code, exceptionTable := #[], attributes := #[] }
def k1m3 : Method := { name := "law", desc := "(JJI)Z", sig := { parameters := [.long, .long, .int], returnType := some .boolean }, accessFlags := 9, code := some k1c3 }
/-- com/example/xtent/xtent/document/TextPositionAdvancePinLaw -/
def k1 : Class := { plain "com/example/xtent/xtent/document/TextPositionAdvancePinLaw" (some 0) with
  accessFlags := 49
  interfaces := #[]
  cf := some (fileOf pool1 11 #[] #[{ accessFlags := 1, nameIndex := 5, descriptorIndex := 6, attributes := #[] }, { accessFlags := 10, nameIndex := 14, descriptorIndex := 15, attributes := #[] }, { accessFlags := 10, nameIndex := 25, descriptorIndex := 26, attributes := #[] }, { accessFlags := 9, nameIndex := 37, descriptorIndex := 38, attributes := #[] }] 49 2 #[] #[])
  fields := #[]
  methods := #[k1m0, k1m1, k1m2, k1m3]
  instanceTypes := #[]
  staticTypes := #[]
  resolved := Array.replicate 45 none
  statics := none }

def pool2 : Array CpInfo := pool [(1, .methodref 2 3), (0, .class_ 4), (0, .nameAndType 5 6), (0, u "java/lang/Object"), (0, u "<init>"), (0, u "()V"), (0, .fieldref 8 9), (0, .class_ 10), (0, .nameAndType 11 12), (0, u "com/example/xtent/xtent/document/TextPosition"), (0, u "line"), (0, u "I"), (0, .fieldref 8 14), (0, .nameAndType 15 12), (0, u "column"), (0, .fieldref 8 17), (0, .nameAndType 18 19), (0, u "afterCarriageReturn"), (0, u "Z"), (3, u "advance"), (0, u "([CII)V"), (3, u "()I")] 2

def k2c0 : Code := { maxStack := 2, maxLocals := 1, code := prog_25_method_1_code, exceptionTable := #[], attributes := #[] }
def k2m0 : Method := { name := "<init>", desc := "()V", sig := { parameters := [], returnType := none }, accessFlags := 0, code := some k2c0 }
def k2c1 : Code := { maxStack := 4, maxLocals := 8, code := prog_25_method_3_code, exceptionTable := #[], attributes := #[] }
def k2m1 : Method := { name := "advance", desc := "([CII)V", sig := { parameters := [(.array .char), .int, .int], returnType := none }, accessFlags := 0, code := some k2c1 }
def k2c2 : Code := { maxStack := 1, maxLocals := 1, code := prog_25_method_4_code, exceptionTable := #[], attributes := #[] }
def k2m2 : Method := { name := "line", desc := "()I", sig := { parameters := [], returnType := some .int }, accessFlags := 0, code := some k2c2 }
def k2c3 : Code := { maxStack := 1, maxLocals := 1, code := prog_25_method_5_code, exceptionTable := #[], attributes := #[] }
def k2m3 : Method := { name := "column", desc := "()I", sig := { parameters := [], returnType := some .int }, accessFlags := 0, code := some k2c3 }
/-- com/example/xtent/xtent/document/TextPosition -/
def k2 : Class := { plain "com/example/xtent/xtent/document/TextPosition" (some 0) with
  accessFlags := 32
  interfaces := #[]
  cf := some (fileOf pool2 8 #[] #[{ accessFlags := 0, nameIndex := 5, descriptorIndex := 6, attributes := #[] }, { accessFlags := 0, nameIndex := 23, descriptorIndex := 24, attributes := #[] }, { accessFlags := 0, nameIndex := 11, descriptorIndex := 28, attributes := #[] }, { accessFlags := 0, nameIndex := 15, descriptorIndex := 28, attributes := #[] }] 32 2 #[] #[{ accessFlags := 2, nameIndex := 11, descriptorIndex := 12, attributes := #[] }, { accessFlags := 2, nameIndex := 15, descriptorIndex := 12, attributes := #[] }, { accessFlags := 2, nameIndex := 18, descriptorIndex := 19, attributes := #[] }])
  fields := #[{ name := "line", type := .int, accessFlags := 2, slot := 0, constantValue := 0 }, { name := "column", type := .int, accessFlags := 2, slot := 1, constantValue := 0 }, { name := "afterCarriageReturn", type := .boolean, accessFlags := 2, slot := 2, constantValue := 0 }]
  methods := #[k2m0, k2m1, k2m2, k2m3]
  instanceTypes := #[.int, .int, .boolean]
  staticTypes := #[]
  resolved := Array.replicate 31 none
  statics := none }

def pool3 : Array CpInfo := pool [(1, u "java/lang/Cloneable"), (0, .class_ 1), (0, u "java/lang/Object"), (0, .class_ 3)] 3

/-- java/lang/Cloneable -/
def k3 : Class := { plain "java/lang/Cloneable" (some 0) with
  accessFlags := 1537
  interfaces := #[]
  cf := some (fileOf pool3 2 #[] #[] 1537 4 #[] #[])
  fields := #[]
  methods := #[]
  instanceTypes := #[]
  staticTypes := #[]
  resolved := Array.replicate 8 none
  statics := none }

def pool4 : Array CpInfo := pool [(1, u "java/io/Serializable"), (0, .class_ 1), (0, u "java/lang/Object"), (0, .class_ 3)] 3

/-- java/io/Serializable -/
def k4 : Class := { plain "java/io/Serializable" (some 0) with
  accessFlags := 1537
  interfaces := #[]
  cf := some (fileOf pool4 2 #[] #[] 1537 4 #[] #[])
  fields := #[]
  methods := #[]
  instanceTypes := #[]
  staticTypes := #[]
  resolved := Array.replicate 8 none
  statics := none }

/-- the primitive byte -/
def k5 : Class := { plain "byte" none with kind := .primitive 'B', accessFlags := 0x411 }
/-- [B -/
def k6 : Class := { plain "[B" (some 0) with kind := .array 5 .byte, interfaces := #[3, 4], accessFlags := 1041 }

/-- the primitive char -/
def k7 : Class := { plain "char" none with kind := .primitive 'C', accessFlags := 0x411 }
/-- [C -/
def k8 : Class := { plain "[C" (some 0) with kind := .array 7 .char, interfaces := #[3, 4], accessFlags := 1041 }

/-- the primitive int -/
def k9 : Class := { plain "int" none with kind := .primitive 'I', accessFlags := 0x411 }
/-- [I -/
def k10 : Class := { plain "[I" (some 0) with kind := .array 9 .int, interfaces := #[3, 4], accessFlags := 1041 }

def heap : Heap := #[]
def classes : Array Class := #[k0, k1, k2, k3, k4, k5, k6, k7, k8, k9, k10]
def interned : List (Array UInt16 × Addr) := []
def slotsUsed : Nat := 0
def theMethod : MethodId := ⟨1, 3⟩
def args0 : Array Value := #[.long 5, .long 7, .int 300]
def aboutOver (below : List Frame) : State where
  vm := { classes := classes, interned := interned.toArray }
  heap := heap
  slotsUsed := slotsUsed
  threads := #[{ frames := .invoking theMethod args0 :: below }]
def below0 : List Frame := [.native { method := ⟨0, 0⟩, args := #[] }]
def about1 : State := aboutOver below0
def p0 : Program := .bare "" "" ""
def e0 : Env := launch0.env 0 0 0
theorem w_frames : about1.frames = Frame.invoking theMethod args0 :: below0 := rfl
set_option maxRecDepth 65536 in
theorem w_args : argsFit about1.vm theMethod args0 = true := by decide +kernel
set_option maxRecDepth 65536 in
theorem w_heap : heapFits about1 = true := by decide +kernel
set_option maxRecDepth 65536 in
theorem w_runnable : about1.curStatus? = some .runnable := by decide +kernel
set_option maxRecDepth 65536 in
theorem w_alone : about1.alone = true := by decide +kernel
set_option maxRecDepth 65536 in
theorem w_named : about1.methodNamed? x = some theMethod := by decide +kernel
set_option maxRecDepth 65536 in
theorem w_hears : about1.hears theMethod below0 = true := by decide +kernel
set_option maxRecDepth 65536 in
theorem w_ripe : about1.ripe theMethod args0 below0 = true := by decide +kernel
theorem w_running : about1.status = .running := rfl
set_option maxRecDepth 65536 in
theorem w_room : about1.hasRoom e0.platform room_1 = true :=
  launch0.hasRoom_least _ room_1 (by decide +kernel) (by decide +kernel) (by decide +kernel) (by decide +kernel) (by decide +kernel) (by decide +kernel)
theorem allAtoms_all (ts : List Jvm.Cond) (a : Array Jvm.Value) (st : Jvm.State) : (allAtoms ts).before a st = ts.all (fun c => c.before a st) := by
  induction ts with
  | nil => rfl
  | cons c t ih =>
    show (Jvm.Cond.and c (allAtoms t)).before a st = _
    rw [Jvm.Cond.before_and, ih, List.all_cons]
def words1 : List Jvm.Cond := Jvm.Cond.code x code maxLocals ret :: tables_1
/-- a 'code' word, met by the world's own term for the bytes: nothing is compared byte by byte -/
theorem code_word {y : MethodName} {bytes : ByteArray} {mx : Nat} {rt : Option FieldType} {a : Array Value} {s : State} {m : MethodId} {meth : Method} {c : Code} (h1 : s.methodNamed? y = some m) (h2 : s.vm.method? m = some meth) (h3 : meth.code = some c) (h4 : c.code = bytes)
    (h5 : (c.maxLocals == mx && c.exceptionTable.isEmpty && decide (c.maxStack ≤ mostOperands) && decide (meth.sig.returnType = rt) && !meth.locks && decide (parseMethodDescriptor y.desc = some meth.sig)) = true) : (Jvm.Cond.code y bytes mx rt).before a s = true := by
  simp only [Bool.and_eq_true, beq_iff_eq, Bool.not_eq_true', decide_eq_true_eq] at h5
  obtain ⟨⟨⟨⟨⟨g1, g2⟩, g3⟩, g4⟩, g5⟩, g6⟩ := h5
  simp [Cond.before, Cond.holds, Cond.value, h1, h2, h3, h4, g1, g2, g3, g4, g5, g6]
def isCode : Jvm.Cond → Bool
  | .code _ _ _ _ => true
  | _ => false
theorem all_split {L : List Jvm.Cond} {P : Jvm.Cond → Bool} (h1 : L.all (fun c => isCode c || P c) = true) (h2 : ∀ c ∈ L.filter isCode, P c = true) : L.all P = true := by
  refine List.all_eq_true.mpr fun c hc => ?_
  have h := List.all_eq_true.mp h1 c hc
  rcases Bool.eq_false_or_eq_true (isCode c) with hi | hi
  · exact h2 c (List.mem_filter.mpr ⟨hc, hi⟩)
  · simpa [hi] using h
set_option maxRecDepth 65536 in
theorem w_c0 : (Jvm.Cond.code x code maxLocals ret).before args0 about1 = true := code_word (m := ⟨1, 3⟩) (meth := k1m3) (c := k1c3) (by decide +kernel) rfl rfl rfl (by decide +kernel)
set_option maxRecDepth 65536 in
theorem w_c1 : (Jvm.Cond.code ({ cls := "com/example/xtent/xtent/document/TextPositionAdvancePinLaw", name := "draw", desc := "(JI)C" } : Jvm.MethodName) method_2_code (5 : Nat) (Option.some Jvm.ClassFile.FieldType.char)).before args0 about1 = true := code_word (m := ⟨1, 1⟩) (meth := k1m1) (c := k1c1) (by decide +kernel) rfl rfl rfl (by decide +kernel)
set_option maxRecDepth 65536 in
theorem w_c2 : (Jvm.Cond.code ({ cls := "com/example/xtent/xtent/document/TextPosition", name := "<init>", desc := "()V" } : Jvm.MethodName) prog_25_method_1_code (1 : Nat) (Option.none : Option Jvm.ClassFile.FieldType)).before args0 about1 = true := code_word (m := ⟨2, 0⟩) (meth := k2m0) (c := k2c0) (by decide +kernel) rfl rfl rfl (by decide +kernel)
set_option maxRecDepth 65536 in
theorem w_c3 : (Jvm.Cond.code ({ cls := "java/lang/Object", name := "<init>", desc := "()V" } : Jvm.MethodName) object_method_1_code (1 : Nat) (Option.none : Option Jvm.ClassFile.FieldType)).before args0 about1 = true := code_word (m := ⟨0, 0⟩) (meth := k0m0) (c := k0c0) (by decide +kernel) rfl rfl rfl (by decide +kernel)
set_option maxRecDepth 65536 in
theorem w_c4 : (Jvm.Cond.code ({ cls := "com/example/xtent/xtent/document/TextPosition", name := "advance", desc := "([CII)V" } : Jvm.MethodName) prog_25_method_3_code (8 : Nat) (Option.none : Option Jvm.ClassFile.FieldType)).before args0 about1 = true := code_word (m := ⟨2, 1⟩) (meth := k2m1) (c := k2c1) (by decide +kernel) rfl rfl rfl (by decide +kernel)
set_option maxRecDepth 65536 in
theorem w_c5 : (Jvm.Cond.code ({ cls := "com/example/xtent/xtent/document/TextPositionAdvancePinLaw", name := "step", desc := "([I[CIII)V" } : Jvm.MethodName) method_3_code (6 : Nat) (Option.none : Option Jvm.ClassFile.FieldType)).before args0 about1 = true := code_word (m := ⟨1, 2⟩) (meth := k1m2) (c := k1c2) (by decide +kernel) rfl rfl rfl (by decide +kernel)
set_option maxRecDepth 65536 in
theorem w_c6 : (Jvm.Cond.code ({ cls := "com/example/xtent/xtent/document/TextPosition", name := "line", desc := "()I" } : Jvm.MethodName) prog_25_method_4_code (1 : Nat) (Option.some Jvm.ClassFile.FieldType.int)).before args0 about1 = true := code_word (m := ⟨2, 2⟩) (meth := k2m2) (c := k2c2) (by decide +kernel) rfl rfl rfl (by decide +kernel)
set_option maxRecDepth 65536 in
theorem w_c7 : (Jvm.Cond.code ({ cls := "com/example/xtent/xtent/document/TextPosition", name := "column", desc := "()I" } : Jvm.MethodName) prog_25_method_5_code (1 : Nat) (Option.some Jvm.ClassFile.FieldType.int)).before args0 about1 = true := code_word (m := ⟨2, 3⟩) (meth := k2m3) (c := k2c3) (by decide +kernel) rfl rfl rfl (by decide +kernel)
def codes1 : List Jvm.Cond := [Jvm.Cond.code x code maxLocals ret, Jvm.Cond.code ({ cls := "com/example/xtent/xtent/document/TextPositionAdvancePinLaw", name := "draw", desc := "(JI)C" } : Jvm.MethodName) method_2_code (5 : Nat) (Option.some Jvm.ClassFile.FieldType.char), Jvm.Cond.code ({ cls := "com/example/xtent/xtent/document/TextPosition", name := "<init>", desc := "()V" } : Jvm.MethodName) prog_25_method_1_code (1 : Nat) (Option.none : Option Jvm.ClassFile.FieldType), Jvm.Cond.code ({ cls := "java/lang/Object", name := "<init>", desc := "()V" } : Jvm.MethodName) object_method_1_code (1 : Nat) (Option.none : Option Jvm.ClassFile.FieldType), Jvm.Cond.code ({ cls := "com/example/xtent/xtent/document/TextPosition", name := "advance", desc := "([CII)V" } : Jvm.MethodName) prog_25_method_3_code (8 : Nat) (Option.none : Option Jvm.ClassFile.FieldType), Jvm.Cond.code ({ cls := "com/example/xtent/xtent/document/TextPositionAdvancePinLaw", name := "step", desc := "([I[CIII)V" } : Jvm.MethodName) method_3_code (6 : Nat) (Option.none : Option Jvm.ClassFile.FieldType), Jvm.Cond.code ({ cls := "com/example/xtent/xtent/document/TextPosition", name := "line", desc := "()I" } : Jvm.MethodName) prog_25_method_4_code (1 : Nat) (Option.some Jvm.ClassFile.FieldType.int), Jvm.Cond.code ({ cls := "com/example/xtent/xtent/document/TextPosition", name := "column", desc := "()I" } : Jvm.MethodName) prog_25_method_5_code (1 : Nat) (Option.some Jvm.ClassFile.FieldType.int)]
set_option maxRecDepth 65536 in
theorem codes_eq : words1.filter isCode = codes1 := rfl
theorem w_codes : ∀ c ∈ words1.filter isCode, c.before args0 about1 = true := by
  rw [codes_eq]
  intro c hc
  simp only [codes1, List.mem_cons, List.not_mem_nil, or_false] at hc
  rcases hc with rfl | rfl | rfl | rfl | rfl | rfl | rfl | rfl
  · exact w_c0
  · exact w_c1
  · exact w_c2
  · exact w_c3
  · exact w_c4
  · exact w_c5
  · exact w_c6
  · exact w_c7
set_option maxRecDepth 65536 in
theorem w_t1 : (words1.take 24).all (fun c => isCode c || c.before args0 about1) = true := by decide +kernel
set_option maxRecDepth 65536 in
theorem w_t2 : (words1.drop 24).all (fun c => isCode c || c.before args0 about1) = true := by decide +kernel
theorem w_tables : (allAtoms (Jvm.Cond.code x code maxLocals ret :: tables_1)).before args0 about1 = true := by
  rw [allAtoms_all]
  show words1.all (fun c => c.before args0 about1) = true
  refine all_split ?_ w_codes
  rw [← List.take_append_drop 24 words1, List.all_append, w_t1, w_t2]
  rfl
set_option maxRecDepth 65536 in
theorem w_case : (Jvm.Cond.and given_1 narrow_1).before args0 about1 = true := by decide +kernel
theorem w_applies : (headSpec (Jvm.Cond.code x code maxLocals ret :: tables_1) room_1).applies x e0.platform about1 = true :=
  (Spec.applies_iff w_frames).mpr ⟨w_running, w_runnable, w_alone, w_named, w_hears, w_ripe, w_room, w_tables⟩
theorem atStart : AtStart classFile x code maxLocals ret World_1 tables_1 room_1 Calls_1 rest_1 Pre_1 launch0 p0 e0 about1 theMethod args0 below0 :=
  ⟨lists_1, trivial, launch0.admits_env _ _ _, launch0.least_env, fairChoices_fair.cas, fairChoices_fair.clock, w_frames, w_args, w_heap, w_applies, trivial, trivial, w_case⟩
end start1
theorem witness_1 : WitnessClaimed_1 := ⟨start1.p0, start1.e0, start1.about1, start1.theMethod, start1.args0, start1.below0, start1.atStart⟩
end Jvm.Pilot.@@N@@
