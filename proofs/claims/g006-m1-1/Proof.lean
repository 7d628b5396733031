import JvmDerived
import JvmDerived.Pilot.@@N@@Statement
import JvmDerived.Pilot.@@N@@Code
set_option linter.unusedVariables false
set_option linter.unusedSimpArgs false
namespace Jvm.Pilot.@@N@@
open Jvm Jvm.ClassFile Sem Op Lib Jvm.Free Jvm.Stand Jvm.LawKit Jvm.RoadKit Bundle Jvm.Pilot.@@N@@.Jvm.D
section OwnKit
variable {Z : State} {p : Program} {l : Launch} {e : Env} {R : Room} {s : State} {m : MethodId} {args : Array Value} {below : List Frame} {meth : Method} {c : Code} {n0 : Nat} {own : String} {bytes : ByteArray} {maxL : Nat} {nm : String} {ret : Option FieldType} {T : State} {h : Heap} {cells slots : Nat} {G : Outcome → State → Prop} {L : Array Slot} {st : List Value} {pc pc' : Nat} {a0 : Array Value}
def own_Fin (p : Program) (e : Env) (below : List Frame) (G : Outcome → State → Prop) (t : State) : Prop :=
  ∃ s₂ o, Steps p.tables e below t s₂ ∧ s₂.status = .running ∧ Ended s₂ below o ∧ G o s₂
theorem own_go {a a' : State} (k : ∀ t, Steps p.tables e below a' t → Steps p.tables e below a t) (q : own_Fin p e below G a') : own_Fin p e below G a := by
  obtain ⟨s2, o, h1, h2⟩ := q
  exact ⟨s2, o, k _ h1, h2⟩
def own_Cx (Z : State) (p : Program) (l : Launch) (e : Env) (R : Room) (s : State) (m : MethodId) (args : Array Value) (below : List Frame) (meth : Method) (c : Code) (n0 : Nat) (own : String) (bytes : ByteArray) (maxL : Nat) (nm : String) (ret : Option FieldType) (T : State) (h : Heap) (cells slots : Nat) : Prop :=
  ∃ locs, Stand p l e R s m args below meth c T locs cells slots ∧ Fr n0 locs ∧ T.heap = h ∧ p.tables.exec = Jvm.exec ∧ Z.Warmed39 s.vm ∧ s.vm.findClass own = some m.cls ∧ c.code = bytes ∧ c.maxLocals = maxL ∧ meth.name = nm ∧ meth.sig.returnType = ret ∧ meth.locks = false
def own_End (s : State) (n0 : Nat) (q : Option Value → Heap → Prop) (k n : Nat) (o : Outcome) (U' : State) : Prop :=
  ∃ v L, o = .returned v ∧ (q v U'.heap ∧ Fr n0 L) ∧ FrameEnd s o U' L k n
def own_Met (l : Launch) (Z : State) (y : MethodName) (bytes : ByteArray) (maxL : Nat) (ret : Option FieldType) (ws : List Jvm.Cond) (rm : Room) (as' : Array Value) (h0 : Heap) (n0 : Nat) (q : Option Value → Heap → Prop) : Prop :=
  MetFree l y (head1 (Jvm.Cond.code y bytes maxL ret :: ws) rm) (fun a U => a = as' ∧ Z.Warmed39 U.vm ∧ U.heap = h0) (fun _ _ _ _ _ => True) (fun _ U o U' => own_End U n0 q rm.cells rm.slots o U')
theorem own_enter {y : MethodName} {ws : List Jvm.Cond} {rm : Room} {as' : Array Value} {h0 : Heap} {q : Option Value → Heap → Prop} {L0 : Array Slot} {own nm : String} (ho : y.cls = own) (hnm0 : y.name = nm) (pn : plainFor y = true) (ef : ∀ m, entryFrame m as' maxL = mkF m 0 L0 [])
    (body : ∀ p e s m below meth c T, own_Cx Z p l e rm s m as' below meth c n0 own bytes maxL nm ret T h0 0 0 → own_Fin p e below (own_End s n0 q rm.cells rm.slots) (T.setTop (mkF m 0 L0 []))) :
    own_Met l Z y bytes maxL ret ws rm as' h0 n0 q := by
  subst ho hnm0
  refine MetFree.of_bodySF pn hisR ?_
  intro p e s m args below meth c s₁ Bd hml0 hP hK
  obtain ⟨rfl, hZ, hh⟩ := hP
  have hnm := (name_of_methodNamed Bd.named Bd.method).1
  have e0 : s₁.heap = h0 := by rw [← hh, Bd.state]; rfl
  obtain ⟨s2, o, k1, k2, k3, k4⟩ := body p e s m below meth c s₁ ⟨[], Stand.of_body Bd, Fr.nil _, e0, Bd.exec, hZ, findClass_of_methodNamed Bd.named, Bd.bytes, hml0, hnm, Bd.returns, Bd.notSynchronized⟩
  exact ⟨s2, o, castTop (ef m) k1, k2, k3, k4⟩
theorem own_iload (X : own_Cx Z p l e R s m args below meth c n0 own bytes maxL nm ret T h cells slots) {k : Nat} {v : Int32} (d : decode bytes pc = .ok (.iload k, 2)) (hp : pc + 2 = pc') (hl : L[k]? = some (.val (.int v)))
    (q : own_Fin p e below G (T.setTop (mkF m pc' L ((.int v) :: st)))) : own_Fin p e below G (T.setTop (mkF m pc L (st))) := by
  obtain ⟨locs, X, N, eT, hx, hZ, hown, hby, hml, hnm, hret, hlk⟩ := X
  subst hp
  exact own_go (fun t k => XS.iload X.here hx rfl (hb hby d) hl k) q
theorem own_lload (X : own_Cx Z p l e R s m args below meth c n0 own bytes maxL nm ret T h cells slots) {k : Nat} {v : Int64} (d : decode bytes pc = .ok (.lload k, 2)) (hp : pc + 2 = pc') (hl : L[k]? = some (.val (.long v)))
    (q : own_Fin p e below G (T.setTop (mkF m pc' L ((.long v) :: st)))) : own_Fin p e below G (T.setTop (mkF m pc L (st))) := by
  obtain ⟨locs, X, N, eT, hx, hZ, hown, hby, hml, hnm, hret, hlk⟩ := X
  subst hp
  exact own_go (fun t k => XT.lload X.here hx rfl (hb hby d) hl k) q
theorem own_iloadN (X : own_Cx Z p l e R s m args below meth c n0 own bytes maxL nm ret T h cells slots) {k : Fin 4} {v : Int32} (d : decode bytes pc = .ok (.iload_n k, 1)) (hp : pc + 1 = pc') (hl : L[k.val]? = some (.val (.int v)))
    (q : own_Fin p e below G (T.setTop (mkF m pc' L ((.int v) :: st)))) : own_Fin p e below G (T.setTop (mkF m pc L (st))) := by
  obtain ⟨locs, X, N, eT, hx, hZ, hown, hby, hml, hnm, hret, hlk⟩ := X
  subst hp
  exact own_go (fun t k => XS.iloadN X.here hx rfl (hb hby d) hl k) q
theorem own_lloadN (X : own_Cx Z p l e R s m args below meth c n0 own bytes maxL nm ret T h cells slots) {k : Fin 4} {v : Int64} (d : decode bytes pc = .ok (.lload_n k, 1)) (hp : pc + 1 = pc') (hl : L[k.val]? = some (.val (.long v)))
    (q : own_Fin p e below G (T.setTop (mkF m pc' L ((.long v) :: st)))) : own_Fin p e below G (T.setTop (mkF m pc L (st))) := by
  obtain ⟨locs, X, N, eT, hx, hZ, hown, hby, hml, hnm, hret, hlk⟩ := X
  subst hp
  exact own_go (fun t k => XT.lloadN X.here hx rfl (hb hby d) hl k) q
theorem own_aload (X : own_Cx Z p l e R s m args below meth c n0 own bytes maxL nm ret T h cells slots) {k : Nat} {v : Value} (d : decode bytes pc = .ok (.aload k, 2)) (hp : pc + 2 = pc') (hl : L[k]? = some (.val v)) (hv : v.isRef = true)
    (q : own_Fin p e below G (T.setTop (mkF m pc' L (v :: st)))) : own_Fin p e below G (T.setTop (mkF m pc L (st))) := by
  obtain ⟨locs, X, N, eT, hx, hZ, hown, hby, hml, hnm, hret, hlk⟩ := X
  subst hp
  exact own_go (fun t k => XS.aload X.here hx rfl (hb hby d) hl hv k) q
theorem own_aloadN (X : own_Cx Z p l e R s m args below meth c n0 own bytes maxL nm ret T h cells slots) {k : Fin 4} {v : Value} (d : decode bytes pc = .ok (.aload_n k, 1)) (hp : pc + 1 = pc') (hl : L[k.val]? = some (.val v)) (hv : v.isRef = true)
    (q : own_Fin p e below G (T.setTop (mkF m pc' L (v :: st)))) : own_Fin p e below G (T.setTop (mkF m pc L (st))) := by
  obtain ⟨locs, X, N, eT, hx, hZ, hown, hby, hml, hnm, hret, hlk⟩ := X
  subst hp
  exact own_go (fun t k => XS.aloadN X.here hx rfl (hb hby d) hl hv k) q
theorem own_istore (X : own_Cx Z p l e R s m args below meth c n0 own bytes maxL nm ret T h cells slots) {k : Nat} {v : Int32} {L' : Array Slot} (d : decode bytes pc = .ok (.istore k, 2)) (hp : pc + 2 = pc') (hl : storeLocals L k (.int v) = some L')
    (q : own_Fin p e below G (T.setTop (mkF m pc' L' (st)))) : own_Fin p e below G (T.setTop (mkF m pc L ((.int v) :: st))) := by
  obtain ⟨locs, X, N, eT, hx, hZ, hown, hby, hml, hnm, hret, hlk⟩ := X
  subst hp
  exact own_go (fun t k => XS.istore X.here hx rfl (hb hby d) rfl hl k) q
theorem own_lstore (X : own_Cx Z p l e R s m args below meth c n0 own bytes maxL nm ret T h cells slots) {k : Nat} {v : Int64} {L' : Array Slot} (d : decode bytes pc = .ok (.lstore k, 2)) (hp : pc + 2 = pc') (hl : storeLocals L k (.long v) = some L')
    (q : own_Fin p e below G (T.setTop (mkF m pc' L' (st)))) : own_Fin p e below G (T.setTop (mkF m pc L ((.long v) :: st))) := by
  obtain ⟨locs, X, N, eT, hx, hZ, hown, hby, hml, hnm, hret, hlk⟩ := X
  subst hp
  exact own_go (fun t k => XT.lstore X.here hx rfl (hb hby d) rfl hl k) q
theorem own_istoreN (X : own_Cx Z p l e R s m args below meth c n0 own bytes maxL nm ret T h cells slots) {k : Fin 4} {v : Int32} {L' : Array Slot} (d : decode bytes pc = .ok (.istore_n k, 1)) (hp : pc + 1 = pc') (hl : storeLocals L k.val (.int v) = some L')
    (q : own_Fin p e below G (T.setTop (mkF m pc' L' (st)))) : own_Fin p e below G (T.setTop (mkF m pc L ((.int v) :: st))) := by
  obtain ⟨locs, X, N, eT, hx, hZ, hown, hby, hml, hnm, hret, hlk⟩ := X
  subst hp
  exact own_go (fun t k => XS.istoreN X.here hx rfl (hb hby d) rfl hl k) q
theorem own_lstoreN (X : own_Cx Z p l e R s m args below meth c n0 own bytes maxL nm ret T h cells slots) {k : Fin 4} {v : Int64} {L' : Array Slot} (d : decode bytes pc = .ok (.lstore_n k, 1)) (hp : pc + 1 = pc') (hl : storeLocals L k.val (.long v) = some L')
    (q : own_Fin p e below G (T.setTop (mkF m pc' L' (st)))) : own_Fin p e below G (T.setTop (mkF m pc L ((.long v) :: st))) := by
  obtain ⟨locs, X, N, eT, hx, hZ, hown, hby, hml, hnm, hret, hlk⟩ := X
  subst hp
  exact own_go (fun t k => XT.lstoreN X.here hx rfl (hb hby d) rfl hl k) q
theorem own_astore (X : own_Cx Z p l e R s m args below meth c n0 own bytes maxL nm ret T h cells slots) {k : Nat} {v : Value} {L' : Array Slot} (d : decode bytes pc = .ok (.astore k, 2)) (hp : pc + 2 = pc') (hv : v.isRef = true) (hl : storeLocals L k v = some L')
    (q : own_Fin p e below G (T.setTop (mkF m pc' L' (st)))) : own_Fin p e below G (T.setTop (mkF m pc L (v :: st))) := by
  obtain ⟨locs, X, N, eT, hx, hZ, hown, hby, hml, hnm, hret, hlk⟩ := X
  subst hp
  exact own_go (fun t k => XS.astore X.here hx rfl (hb hby d) rfl hv hl k) q
theorem own_astoreN (X : own_Cx Z p l e R s m args below meth c n0 own bytes maxL nm ret T h cells slots) {k : Fin 4} {v : Value} {L' : Array Slot} (d : decode bytes pc = .ok (.astore_n k, 1)) (hp : pc + 1 = pc') (hv : v.isRef = true) (hl : storeLocals L k.val v = some L')
    (q : own_Fin p e below G (T.setTop (mkF m pc' L' (st)))) : own_Fin p e below G (T.setTop (mkF m pc L (v :: st))) := by
  obtain ⟨locs, X, N, eT, hx, hZ, hown, hby, hml, hnm, hret, hlk⟩ := X
  subst hp
  exact own_go (fun t k => XS.astoreN X.here hx rfl (hb hby d) rfl hv hl k) q
theorem own_iinc (X : own_Cx Z p l e R s m args below meth c n0 own bytes maxL nm ret T h cells slots) {k : Nat} {x : Int32} {i : Int} {L' : Array Slot} (v : Int32) (d : decode bytes pc = .ok (.iinc k i, 3)) (hp : pc + 3 = pc') (hv : Int32.ofInt i = v) (hl : L[k]? = some (.val (.int x))) (hl' : storeLocals L k (.int (x + v)) = some L')
    (q : own_Fin p e below G (T.setTop (mkF m pc' L' (st)))) : own_Fin p e below G (T.setTop (mkF m pc L (st))) := by
  obtain ⟨locs, X, N, eT, hx, hZ, hown, hby, hml, hnm, hret, hlk⟩ := X
  subst hp
  exact own_go (fun t k => XT.iincV X.here hx rfl v (hb hby d) hv hl hl' k) q
theorem own_iconst (X : own_Cx Z p l e R s m args below meth c n0 own bytes maxL nm ret T h cells slots) {i : Int} (v : Int32) (d : decode bytes pc = .ok (.iconst i, 1)) (hp : pc + 1 = pc') (hv : Int32.ofInt i = v)
    (q : own_Fin p e below G (T.setTop (mkF m pc' L ((.int v) :: st)))) : own_Fin p e below G (T.setTop (mkF m pc L (st))) := by
  obtain ⟨locs, X, N, eT, hx, hZ, hown, hby, hml, hnm, hret, hlk⟩ := X
  subst hp
  exact own_go (fun t k => XT.iconstV X.here hx rfl v (hb hby d) hv k) q
theorem own_bipush (X : own_Cx Z p l e R s m args below meth c n0 own bytes maxL nm ret T h cells slots) {i : Int} (v : Int32) (d : decode bytes pc = .ok (.bipush i, 2)) (hp : pc + 2 = pc') (hv : (Int8.ofInt i).toInt32 = v)
    (q : own_Fin p e below G (T.setTop (mkF m pc' L ((.int v) :: st)))) : own_Fin p e below G (T.setTop (mkF m pc L (st))) := by
  obtain ⟨locs, X, N, eT, hx, hZ, hown, hby, hml, hnm, hret, hlk⟩ := X
  subst hp
  exact own_go (fun t k => XT.bipushV X.here hx rfl v (hb hby d) hv k) q
theorem own_sipush (X : own_Cx Z p l e R s m args below meth c n0 own bytes maxL nm ret T h cells slots) {i : Int} (v : Int32) (d : decode bytes pc = .ok (.sipush i, 3)) (hp : pc + 3 = pc') (hv : (Int16.ofInt i).toInt32 = v)
    (q : own_Fin p e below G (T.setTop (mkF m pc' L ((.int v) :: st)))) : own_Fin p e below G (T.setTop (mkF m pc L (st))) := by
  obtain ⟨locs, X, N, eT, hx, hZ, hown, hby, hml, hnm, hret, hlk⟩ := X
  subst hp
  exact own_go (fun t k => XT.sipushV X.here hx rfl v (hb hby d) hv k) q
theorem own_lconst (X : own_Cx Z p l e R s m args below meth c n0 own bytes maxL nm ret T h cells slots) {i : Fin 2} (v : Int64) (d : decode bytes pc = .ok (.lconst i, 1)) (hp : pc + 1 = pc') (hv : Int64.ofNat i = v)
    (q : own_Fin p e below G (T.setTop (mkF m pc' L ((.long v) :: st)))) : own_Fin p e below G (T.setTop (mkF m pc L (st))) := by
  obtain ⟨locs, X, N, eT, hx, hZ, hown, hby, hml, hnm, hret, hlk⟩ := X
  subst hp
  exact own_go (fun t k => XT.lconstV X.here hx rfl v (hb hby d) hv k) q
theorem own_aconst_null (X : own_Cx Z p l e R s m args below meth c n0 own bytes maxL nm ret T h cells slots)  (d : decode bytes pc = .ok (.aconst_null, 1)) (hp : pc + 1 = pc') 
    (q : own_Fin p e below G (T.setTop (mkF m pc' L (.null :: st)))) : own_Fin p e below G (T.setTop (mkF m pc L (st))) := by
  obtain ⟨locs, X, N, eT, hx, hZ, hown, hby, hml, hnm, hret, hlk⟩ := X
  subst hp
  exact own_go (fun t k => XS.aconstNull X.here hx rfl (hb hby d) k) q
theorem own_iadd (X : own_Cx Z p l e R s m args below meth c n0 own bytes maxL nm ret T h cells slots) {x y : Int32} (d : decode bytes pc = .ok (.iadd, 1)) (hp : pc + 1 = pc') 
    (q : own_Fin p e below G (T.setTop (mkF m pc' L ((.int (x + y)) :: st)))) : own_Fin p e below G (T.setTop (mkF m pc L ((.int y) :: (.int x) :: st))) := by
  obtain ⟨locs, X, N, eT, hx, hZ, hown, hby, hml, hnm, hret, hlk⟩ := X
  subst hp
  exact own_go (fun t k => XS.iadd X.here hx rfl (hb hby d) rfl k) q
theorem own_isub (X : own_Cx Z p l e R s m args below meth c n0 own bytes maxL nm ret T h cells slots) {x y : Int32} (d : decode bytes pc = .ok (.isub, 1)) (hp : pc + 1 = pc') 
    (q : own_Fin p e below G (T.setTop (mkF m pc' L ((.int (x - y)) :: st)))) : own_Fin p e below G (T.setTop (mkF m pc L ((.int y) :: (.int x) :: st))) := by
  obtain ⟨locs, X, N, eT, hx, hZ, hown, hby, hml, hnm, hret, hlk⟩ := X
  subst hp
  exact own_go (fun t k => XS.isub X.here hx rfl (hb hby d) rfl k) q
theorem own_iand (X : own_Cx Z p l e R s m args below meth c n0 own bytes maxL nm ret T h cells slots) {x y : Int32} (d : decode bytes pc = .ok (.iand, 1)) (hp : pc + 1 = pc') 
    (q : own_Fin p e below G (T.setTop (mkF m pc' L ((.int (x &&& y)) :: st)))) : own_Fin p e below G (T.setTop (mkF m pc L ((.int y) :: (.int x) :: st))) := by
  obtain ⟨locs, X, N, eT, hx, hZ, hown, hby, hml, hnm, hret, hlk⟩ := X
  subst hp
  exact own_go (fun t k => XS.iand X.here hx rfl (hb hby d) rfl k) q
theorem own_imul (X : own_Cx Z p l e R s m args below meth c n0 own bytes maxL nm ret T h cells slots) {x y : Int32} (d : decode bytes pc = .ok (.imul, 1)) (hp : pc + 1 = pc') 
    (q : own_Fin p e below G (T.setTop (mkF m pc' L ((.int (x * y)) :: st)))) : own_Fin p e below G (T.setTop (mkF m pc L ((.int y) :: (.int x) :: st))) := by
  obtain ⟨locs, X, N, eT, hx, hZ, hown, hby, hml, hnm, hret, hlk⟩ := X
  subst hp
  exact own_go (fun t k => XS.imul X.here hx rfl (hb hby d) rfl k) q
theorem own_irem (X : own_Cx Z p l e R s m args below meth c n0 own bytes maxL nm ret T h cells slots) {x y : Int32} (d : decode bytes pc = .ok (.irem, 1)) (hp : pc + 1 = pc') (hy : y ≠ 0)
    (q : own_Fin p e below G (T.setTop (mkF m pc' L ((.int (x % y)) :: st)))) : own_Fin p e below G (T.setTop (mkF m pc L ((.int y) :: (.int x) :: st))) := by
  obtain ⟨locs, X, N, eT, hx, hZ, hown, hby, hml, hnm, hret, hlk⟩ := X
  subst hp
  exact own_go (fun t k => iremM X hx rfl (hb hby d) rfl hy k) q
theorem own_ixor (X : own_Cx Z p l e R s m args below meth c n0 own bytes maxL nm ret T h cells slots) {x y : Int32} (d : decode bytes pc = .ok (.ixor, 1)) (hp : pc + 1 = pc') 
    (q : own_Fin p e below G (T.setTop (mkF m pc' L ((.int (x ^^^ y)) :: st)))) : own_Fin p e below G (T.setTop (mkF m pc L ((.int y) :: (.int x) :: st))) := by
  obtain ⟨locs, X, N, eT, hx, hZ, hown, hby, hml, hnm, hret, hlk⟩ := X
  subst hp
  exact own_go (fun t k => XT.ixor X.here hx rfl (hb hby d) rfl k) q
theorem own_ior (X : own_Cx Z p l e R s m args below meth c n0 own bytes maxL nm ret T h cells slots) {x y : Int32} (d : decode bytes pc = .ok (.ior, 1)) (hp : pc + 1 = pc') 
    (q : own_Fin p e below G (T.setTop (mkF m pc' L ((.int (x ||| y)) :: st)))) : own_Fin p e below G (T.setTop (mkF m pc L ((.int y) :: (.int x) :: st))) := by
  obtain ⟨locs, X, N, eT, hx, hZ, hown, hby, hml, hnm, hret, hlk⟩ := X
  subst hp
  exact own_go (fun t k => XT.ior X.here hx rfl (hb hby d) rfl k) q
theorem own_ishl (X : own_Cx Z p l e R s m args below meth c n0 own bytes maxL nm ret T h cells slots) {x y : Int32} (d : decode bytes pc = .ok (.ishl, 1)) (hp : pc + 1 = pc') 
    (q : own_Fin p e below G (T.setTop (mkF m pc' L ((.int (x <<< (y &&& 31))) :: st)))) : own_Fin p e below G (T.setTop (mkF m pc L ((.int y) :: (.int x) :: st))) := by
  obtain ⟨locs, X, N, eT, hx, hZ, hown, hby, hml, hnm, hret, hlk⟩ := X
  subst hp
  exact own_go (fun t k => XT.ishl X.here hx rfl (hb hby d) rfl k) q
theorem own_ishr (X : own_Cx Z p l e R s m args below meth c n0 own bytes maxL nm ret T h cells slots) {x y : Int32} (d : decode bytes pc = .ok (.ishr, 1)) (hp : pc + 1 = pc') 
    (q : own_Fin p e below G (T.setTop (mkF m pc' L ((.int (x >>> (y &&& 31))) :: st)))) : own_Fin p e below G (T.setTop (mkF m pc L ((.int y) :: (.int x) :: st))) := by
  obtain ⟨locs, X, N, eT, hx, hZ, hown, hby, hml, hnm, hret, hlk⟩ := X
  subst hp
  exact own_go (fun t k => XT.ishr X.here hx rfl (hb hby d) rfl k) q
theorem own_iushr (X : own_Cx Z p l e R s m args below meth c n0 own bytes maxL nm ret T h cells slots) {x y : Int32} (d : decode bytes pc = .ok (.iushr, 1)) (hp : pc + 1 = pc') 
    (q : own_Fin p e below G (T.setTop (mkF m pc' L ((.int (XT.ushr x y)) :: st)))) : own_Fin p e below G (T.setTop (mkF m pc L ((.int y) :: (.int x) :: st))) := by
  obtain ⟨locs, X, N, eT, hx, hZ, hown, hby, hml, hnm, hret, hlk⟩ := X
  subst hp
  exact own_go (fun t k => XT.iushr X.here hx rfl (hb hby d) rfl k) q
theorem own_ladd (X : own_Cx Z p l e R s m args below meth c n0 own bytes maxL nm ret T h cells slots) {x y : Int64} (d : decode bytes pc = .ok (.ladd, 1)) (hp : pc + 1 = pc') 
    (q : own_Fin p e below G (T.setTop (mkF m pc' L ((.long (x + y)) :: st)))) : own_Fin p e below G (T.setTop (mkF m pc L ((.long y) :: (.long x) :: st))) := by
  obtain ⟨locs, X, N, eT, hx, hZ, hown, hby, hml, hnm, hret, hlk⟩ := X
  subst hp
  exact own_go (fun t k => XT.ladd X.here hx rfl (hb hby d) rfl k) q
theorem own_lsub (X : own_Cx Z p l e R s m args below meth c n0 own bytes maxL nm ret T h cells slots) {x y : Int64} (d : decode bytes pc = .ok (.lsub, 1)) (hp : pc + 1 = pc') 
    (q : own_Fin p e below G (T.setTop (mkF m pc' L ((.long (x - y)) :: st)))) : own_Fin p e below G (T.setTop (mkF m pc L ((.long y) :: (.long x) :: st))) := by
  obtain ⟨locs, X, N, eT, hx, hZ, hown, hby, hml, hnm, hret, hlk⟩ := X
  subst hp
  exact own_go (fun t k => XT.lsub X.here hx rfl (hb hby d) rfl k) q
theorem own_lmul (X : own_Cx Z p l e R s m args below meth c n0 own bytes maxL nm ret T h cells slots) {x y : Int64} (d : decode bytes pc = .ok (.lmul, 1)) (hp : pc + 1 = pc') 
    (q : own_Fin p e below G (T.setTop (mkF m pc' L ((.long (x * y)) :: st)))) : own_Fin p e below G (T.setTop (mkF m pc L ((.long y) :: (.long x) :: st))) := by
  obtain ⟨locs, X, N, eT, hx, hZ, hown, hby, hml, hnm, hret, hlk⟩ := X
  subst hp
  exact own_go (fun t k => XT.lmul X.here hx rfl (hb hby d) rfl k) q
theorem own_land (X : own_Cx Z p l e R s m args below meth c n0 own bytes maxL nm ret T h cells slots) {x y : Int64} (d : decode bytes pc = .ok (.land, 1)) (hp : pc + 1 = pc') 
    (q : own_Fin p e below G (T.setTop (mkF m pc' L ((.long (x &&& y)) :: st)))) : own_Fin p e below G (T.setTop (mkF m pc L ((.long y) :: (.long x) :: st))) := by
  obtain ⟨locs, X, N, eT, hx, hZ, hown, hby, hml, hnm, hret, hlk⟩ := X
  subst hp
  exact own_go (fun t k => XT.land X.here hx rfl (hb hby d) rfl k) q
theorem own_lor (X : own_Cx Z p l e R s m args below meth c n0 own bytes maxL nm ret T h cells slots) {x y : Int64} (d : decode bytes pc = .ok (.lor, 1)) (hp : pc + 1 = pc') 
    (q : own_Fin p e below G (T.setTop (mkF m pc' L ((.long (x ||| y)) :: st)))) : own_Fin p e below G (T.setTop (mkF m pc L ((.long y) :: (.long x) :: st))) := by
  obtain ⟨locs, X, N, eT, hx, hZ, hown, hby, hml, hnm, hret, hlk⟩ := X
  subst hp
  exact own_go (fun t k => XT.lor X.here hx rfl (hb hby d) rfl k) q
theorem own_lxor (X : own_Cx Z p l e R s m args below meth c n0 own bytes maxL nm ret T h cells slots) {x y : Int64} (d : decode bytes pc = .ok (.lxor, 1)) (hp : pc + 1 = pc') 
    (q : own_Fin p e below G (T.setTop (mkF m pc' L ((.long (x ^^^ y)) :: st)))) : own_Fin p e below G (T.setTop (mkF m pc L ((.long y) :: (.long x) :: st))) := by
  obtain ⟨locs, X, N, eT, hx, hZ, hown, hby, hml, hnm, hret, hlk⟩ := X
  subst hp
  exact own_go (fun t k => XT.lxor X.here hx rfl (hb hby d) rfl k) q
theorem own_lshl (X : own_Cx Z p l e R s m args below meth c n0 own bytes maxL nm ret T h cells slots) {x : Int64} {y : Int32} (d : decode bytes pc = .ok (.lshl, 1)) (hp : pc + 1 = pc') 
    (q : own_Fin p e below G (T.setTop (mkF m pc' L ((.long (x <<< (y.toInt64 &&& 63))) :: st)))) : own_Fin p e below G (T.setTop (mkF m pc L ((.int y) :: (.long x) :: st))) := by
  obtain ⟨locs, X, N, eT, hx, hZ, hown, hby, hml, hnm, hret, hlk⟩ := X
  subst hp
  exact own_go (fun t k => XT.lshl X.here hx rfl (hb hby d) rfl k) q
theorem own_lshr (X : own_Cx Z p l e R s m args below meth c n0 own bytes maxL nm ret T h cells slots) {x : Int64} {y : Int32} (d : decode bytes pc = .ok (.lshr, 1)) (hp : pc + 1 = pc') 
    (q : own_Fin p e below G (T.setTop (mkF m pc' L ((.long (x >>> (y.toInt64 &&& 63))) :: st)))) : own_Fin p e below G (T.setTop (mkF m pc L ((.int y) :: (.long x) :: st))) := by
  obtain ⟨locs, X, N, eT, hx, hZ, hown, hby, hml, hnm, hret, hlk⟩ := X
  subst hp
  exact own_go (fun t k => XT.lshr X.here hx rfl (hb hby d) rfl k) q
theorem own_lushr (X : own_Cx Z p l e R s m args below meth c n0 own bytes maxL nm ret T h cells slots) {x : Int64} {y : Int32} (d : decode bytes pc = .ok (.lushr, 1)) (hp : pc + 1 = pc') 
    (q : own_Fin p e below G (T.setTop (mkF m pc' L ((.long (XT.ushrL x y)) :: st)))) : own_Fin p e below G (T.setTop (mkF m pc L ((.int y) :: (.long x) :: st))) := by
  obtain ⟨locs, X, N, eT, hx, hZ, hown, hby, hml, hnm, hret, hlk⟩ := X
  subst hp
  exact own_go (fun t k => XT.lushr X.here hx rfl (hb hby d) rfl k) q
theorem own_lneg (X : own_Cx Z p l e R s m args below meth c n0 own bytes maxL nm ret T h cells slots) {x : Int64} (d : decode bytes pc = .ok (.lneg, 1)) (hp : pc + 1 = pc') 
    (q : own_Fin p e below G (T.setTop (mkF m pc' L ((.long (-x)) :: st)))) : own_Fin p e below G (T.setTop (mkF m pc L ((.long x) :: st))) := by
  obtain ⟨locs, X, N, eT, hx, hZ, hown, hby, hml, hnm, hret, hlk⟩ := X
  subst hp
  exact own_go (fun t k => XT.lneg X.here hx rfl (hb hby d) rfl k) q
theorem own_i2l (X : own_Cx Z p l e R s m args below meth c n0 own bytes maxL nm ret T h cells slots) {x : Int32} (d : decode bytes pc = .ok (.i2l, 1)) (hp : pc + 1 = pc') 
    (q : own_Fin p e below G (T.setTop (mkF m pc' L ((.long x.toInt64) :: st)))) : own_Fin p e below G (T.setTop (mkF m pc L ((.int x) :: st))) := by
  obtain ⟨locs, X, N, eT, hx, hZ, hown, hby, hml, hnm, hret, hlk⟩ := X
  subst hp
  exact own_go (fun t k => XT.i2l X.here hx rfl (hb hby d) rfl k) q
theorem own_l2i (X : own_Cx Z p l e R s m args below meth c n0 own bytes maxL nm ret T h cells slots) {x : Int64} (d : decode bytes pc = .ok (.l2i, 1)) (hp : pc + 1 = pc') 
    (q : own_Fin p e below G (T.setTop (mkF m pc' L ((.int x.toInt32) :: st)))) : own_Fin p e below G (T.setTop (mkF m pc L ((.long x) :: st))) := by
  obtain ⟨locs, X, N, eT, hx, hZ, hown, hby, hml, hnm, hret, hlk⟩ := X
  subst hp
  exact own_go (fun t k => XT.l2i X.here hx rfl (hb hby d) rfl k) q
theorem own_i2c (X : own_Cx Z p l e R s m args below meth c n0 own bytes maxL nm ret T h cells slots) {x : Int32} (d : decode bytes pc = .ok (.i2c, 1)) (hp : pc + 1 = pc') 
    (q : own_Fin p e below G (T.setTop (mkF m pc' L ((.int x.toUInt32.toUInt16.toUInt32.toInt32) :: st)))) : own_Fin p e below G (T.setTop (mkF m pc L ((.int x) :: st))) := by
  obtain ⟨locs, X, N, eT, hx, hZ, hown, hby, hml, hnm, hret, hlk⟩ := X
  subst hp
  exact own_go (fun t k => XT.i2c X.here hx rfl (hb hby d) rfl k) q
theorem own_dup (X : own_Cx Z p l e R s m args below meth c n0 own bytes maxL nm ret T h cells slots) {v : Value} (d : decode bytes pc = .ok (.dup, 1)) (hp : pc + 1 = pc') (hc : v.category = 1)
    (q : own_Fin p e below G (T.setTop (mkF m pc' L (v :: v :: st)))) : own_Fin p e below G (T.setTop (mkF m pc L (v :: st))) := by
  obtain ⟨locs, X, N, eT, hx, hZ, hown, hby, hml, hnm, hret, hlk⟩ := X
  subst hp
  exact own_go (fun t k => XS.dup X.here hx rfl (hb hby d) rfl hc k) q
theorem own_pop (X : own_Cx Z p l e R s m args below meth c n0 own bytes maxL nm ret T h cells slots) {v : Value} (d : decode bytes pc = .ok (.pop, 1)) (hp : pc + 1 = pc') (hc : v.category = 1)
    (q : own_Fin p e below G (T.setTop (mkF m pc' L (st)))) : own_Fin p e below G (T.setTop (mkF m pc L (v :: st))) := by
  obtain ⟨locs, X, N, eT, hx, hZ, hown, hby, hml, hnm, hret, hlk⟩ := X
  subst hp
  exact own_go (fun t k => XT.pop X.here hx rfl (hb hby d) rfl hc k) q
theorem own_ldcI (X : own_Cx Z p l e R s m args below meth c n0 own bytes maxL nm ret T h cells slots) {i : Nat} {v : Int32} (d : decode bytes pc = .ok (.ldc i, 2)) (hp : pc + 2 = pc') (w : (Jvm.Cond.constant own i v).before a0 Z = true)
    (q : own_Fin p e below G (T.setTop (mkF m pc' L ((.int v) :: st)))) : own_Fin p e below G (T.setTop (mkF m pc L (st))) := by
  obtain ⟨locs, X, N, eT, hx, hZ, hown, hby, hml, hnm, hret, hlk⟩ := X
  subst hp
  exact own_go (fun t k => X.ldcInt hx hown (mvT hZ w) (g := mkF m pc L st) rfl (hb hby d) t k) q
theorem own_ldc2J (X : own_Cx Z p l e R s m args below meth c n0 own bytes maxL nm ret T h cells slots) {i : Nat} {v : Int64} (d : decode bytes pc = .ok (.ldc2_w i, 3)) (hp : pc + 3 = pc') (w : (Jvm.Cond.constantLong own i v).before a0 Z = true)
    (q : own_Fin p e below G (T.setTop (mkF m pc' L ((.long v) :: st)))) : own_Fin p e below G (T.setTop (mkF m pc L (st))) := by
  obtain ⟨locs, X, N, eT, hx, hZ, hown, hby, hml, hnm, hret, hlk⟩ := X
  subst hp
  exact own_go (fun t k => X.ldc2Long hx hown (mvT hZ w) (g := mkF m pc L st) rfl (hb hby d) t k) q
theorem own_ldcF (X : own_Cx Z p l e R s m args below meth c n0 own bytes maxL nm ret T h cells slots) {i : Nat} {v : UInt32} (d : decode bytes pc = .ok (.ldc i, 2)) (hp : pc + 2 = pc') (w : (Jvm.Cond.constantFloat own i v).before a0 Z = true)
    (q : own_Fin p e below G (T.setTop (mkF m pc' L ((.float v) :: st)))) : own_Fin p e below G (T.setTop (mkF m pc L (st))) := by
  obtain ⟨locs, X, N, eT, hx, hZ, hown, hby, hml, hnm, hret, hlk⟩ := X
  subst hp
  exact own_go (fun t k => X.ldcFloatC hx hown (mvT hZ w) (g := mkF m pc L st) rfl (hb hby d) t k) q
theorem own_goto (X : own_Cx Z p l e R s m args below meth c n0 own bytes maxL nm ret T h cells slots) {o : Int} (d : decode bytes pc = .ok (.goto o, 3)) (ho : 0 ≤ (pc : Int) + o) (hp : ((pc : Int) + o).toNat = pc')
    (q : own_Fin p e below G (T.setTop (mkF m pc' L (st)))) : own_Fin p e below G (T.setTop (mkF m pc L (st))) := by
  obtain ⟨locs, X, N, eT, hx, hZ, hown, hby, hml, hnm, hret, hlk⟩ := X
  exact own_go (fun t k => XS.goto X.here hx rfl rfl (hb hby d) ho hp k) q
theorem own_icmp_eq (X : own_Cx Z p l e R s m args below meth c n0 own bytes maxL nm ret T h cells slots) {x y : Int32} {o : Int} {pcT pcF : Nat} (d : decode bytes pc = .ok (.if_icmp .eq o, 3)) (ho : 0 ≤ (pc : Int) + o) (hT : ((pc : Int) + o).toNat = pcT) (hF : pc + 3 = pcF)
    (qT : (x = y) → own_Fin p e below G (T.setTop (mkF m pcT L (st)))) (qF : (¬ (x = y)) → own_Fin p e below G (T.setTop (mkF m pcF L (st)))) : own_Fin p e below G (T.setTop (mkF m pc L ((.int y) :: (.int x) :: st))) := by
  obtain ⟨locs, X, N, eT, hx, hZ, hown, hby, hml, hnm, hret, hlk⟩ := X
  subst hF
  by_cases hc : x = y
  · exact own_go (fun t k => XS.icmpYes X.here hx rfl rfl (hb hby d) rfl (XT.ii_eq_t hc) ho hT k) (qT hc)
  · exact own_go (fun t k => XS.icmpNo X.here hx rfl (hb hby d) rfl (XT.ii_eq_f hc) k) (qF hc)
theorem own_if_eq (X : own_Cx Z p l e R s m args below meth c n0 own bytes maxL nm ret T h cells slots) {x : Int32} {o : Int} {pcT pcF : Nat} (d : decode bytes pc = .ok (.ifCond .eq o, 3)) (ho : 0 ≤ (pc : Int) + o) (hT : ((pc : Int) + o).toNat = pcT) (hF : pc + 3 = pcF)
    (qT : (x = 0) → own_Fin p e below G (T.setTop (mkF m pcT L (st)))) (qF : (¬ (x = 0)) → own_Fin p e below G (T.setTop (mkF m pcF L (st)))) : own_Fin p e below G (T.setTop (mkF m pc L ((.int x) :: st))) := by
  obtain ⟨locs, X, N, eT, hx, hZ, hown, hby, hml, hnm, hret, hlk⟩ := X
  subst hF
  by_cases hc : x = 0
  · exact own_go (fun t k => XS.ifYes X.here hx rfl rfl (hb hby d) rfl (XT.i0_eq_t hc) ho hT k) (qT hc)
  · exact own_go (fun t k => XS.ifNo X.here hx rfl (hb hby d) rfl (XT.i0_eq_f hc) k) (qF hc)
theorem own_lcmp_eq (X : own_Cx Z p l e R s m args below meth c n0 own bytes maxL nm ret T h cells slots) {x y : Int64} {pc1 : Nat} {o : Int} {pcT pcF : Nat} (d0 : decode bytes pc = .ok (.lcmp, 1)) (h1 : pc + 1 = pc1) (d : decode bytes pc1 = .ok (.ifCond .eq o, 3)) (ho : 0 ≤ (pc1 : Int) + o) (hT : ((pc1 : Int) + o).toNat = pcT) (hF : pc1 + 3 = pcF)
    (qT : (x = y) → own_Fin p e below G (T.setTop (mkF m pcT L (st)))) (qF : (¬ (x = y)) → own_Fin p e below G (T.setTop (mkF m pcF L (st)))) : own_Fin p e below G (T.setTop (mkF m pc L ((.long y) :: (.long x) :: st))) := by
  obtain ⟨locs, X, N, eT, hx, hZ, hown, hby, hml, hnm, hret, hlk⟩ := X
  subst h1
  subst hF
  by_cases hc : x = y
  · exact own_go (fun t k => XT.lcmp X.here hx rfl (hb hby d0) rfl (XS.ifYes X.here hx rfl rfl (hb hby d) rfl (XT.ll_eq_t hc) ho hT k)) (qT hc)
  · exact own_go (fun t k => XT.lcmp X.here hx rfl (hb hby d0) rfl (XS.ifNo X.here hx rfl (hb hby d) rfl (XT.ll_eq_f hc) k)) (qF hc)
theorem own_icmp_ne (X : own_Cx Z p l e R s m args below meth c n0 own bytes maxL nm ret T h cells slots) {x y : Int32} {o : Int} {pcT pcF : Nat} (d : decode bytes pc = .ok (.if_icmp .ne o, 3)) (ho : 0 ≤ (pc : Int) + o) (hT : ((pc : Int) + o).toNat = pcT) (hF : pc + 3 = pcF)
    (qT : (¬ (x = y)) → own_Fin p e below G (T.setTop (mkF m pcT L (st)))) (qF : (x = y) → own_Fin p e below G (T.setTop (mkF m pcF L (st)))) : own_Fin p e below G (T.setTop (mkF m pc L ((.int y) :: (.int x) :: st))) := by
  obtain ⟨locs, X, N, eT, hx, hZ, hown, hby, hml, hnm, hret, hlk⟩ := X
  subst hF
  by_cases hc : x = y
  · exact own_go (fun t k => XS.icmpNo X.here hx rfl (hb hby d) rfl (XT.ii_ne_f hc) k) (qF hc)
  · exact own_go (fun t k => XS.icmpYes X.here hx rfl rfl (hb hby d) rfl (XT.ii_ne_t hc) ho hT k) (qT hc)
theorem own_if_ne (X : own_Cx Z p l e R s m args below meth c n0 own bytes maxL nm ret T h cells slots) {x : Int32} {o : Int} {pcT pcF : Nat} (d : decode bytes pc = .ok (.ifCond .ne o, 3)) (ho : 0 ≤ (pc : Int) + o) (hT : ((pc : Int) + o).toNat = pcT) (hF : pc + 3 = pcF)
    (qT : (¬ (x = 0)) → own_Fin p e below G (T.setTop (mkF m pcT L (st)))) (qF : (x = 0) → own_Fin p e below G (T.setTop (mkF m pcF L (st)))) : own_Fin p e below G (T.setTop (mkF m pc L ((.int x) :: st))) := by
  obtain ⟨locs, X, N, eT, hx, hZ, hown, hby, hml, hnm, hret, hlk⟩ := X
  subst hF
  by_cases hc : x = 0
  · exact own_go (fun t k => XS.ifNo X.here hx rfl (hb hby d) rfl (XT.i0_ne_f hc) k) (qF hc)
  · exact own_go (fun t k => XS.ifYes X.here hx rfl rfl (hb hby d) rfl (XT.i0_ne_t hc) ho hT k) (qT hc)
theorem own_lcmp_ne (X : own_Cx Z p l e R s m args below meth c n0 own bytes maxL nm ret T h cells slots) {x y : Int64} {pc1 : Nat} {o : Int} {pcT pcF : Nat} (d0 : decode bytes pc = .ok (.lcmp, 1)) (h1 : pc + 1 = pc1) (d : decode bytes pc1 = .ok (.ifCond .ne o, 3)) (ho : 0 ≤ (pc1 : Int) + o) (hT : ((pc1 : Int) + o).toNat = pcT) (hF : pc1 + 3 = pcF)
    (qT : (¬ (x = y)) → own_Fin p e below G (T.setTop (mkF m pcT L (st)))) (qF : (x = y) → own_Fin p e below G (T.setTop (mkF m pcF L (st)))) : own_Fin p e below G (T.setTop (mkF m pc L ((.long y) :: (.long x) :: st))) := by
  obtain ⟨locs, X, N, eT, hx, hZ, hown, hby, hml, hnm, hret, hlk⟩ := X
  subst h1
  subst hF
  by_cases hc : x = y
  · exact own_go (fun t k => XT.lcmp X.here hx rfl (hb hby d0) rfl (XS.ifNo X.here hx rfl (hb hby d) rfl (XT.ll_ne_f hc) k)) (qF hc)
  · exact own_go (fun t k => XT.lcmp X.here hx rfl (hb hby d0) rfl (XS.ifYes X.here hx rfl rfl (hb hby d) rfl (XT.ll_ne_t hc) ho hT k)) (qT hc)
theorem own_icmp_lt (X : own_Cx Z p l e R s m args below meth c n0 own bytes maxL nm ret T h cells slots) {x y : Int32} {o : Int} {pcT pcF : Nat} (d : decode bytes pc = .ok (.if_icmp .lt o, 3)) (ho : 0 ≤ (pc : Int) + o) (hT : ((pc : Int) + o).toNat = pcT) (hF : pc + 3 = pcF)
    (qT : (x < y) → own_Fin p e below G (T.setTop (mkF m pcT L (st)))) (qF : (¬ (x < y)) → own_Fin p e below G (T.setTop (mkF m pcF L (st)))) : own_Fin p e below G (T.setTop (mkF m pc L ((.int y) :: (.int x) :: st))) := by
  obtain ⟨locs, X, N, eT, hx, hZ, hown, hby, hml, hnm, hret, hlk⟩ := X
  subst hF
  by_cases hc : x < y
  · exact own_go (fun t k => XS.icmpYes X.here hx rfl rfl (hb hby d) rfl (XT.ii_lt_t hc) ho hT k) (qT hc)
  · exact own_go (fun t k => XS.icmpNo X.here hx rfl (hb hby d) rfl (XT.ii_lt_f hc) k) (qF hc)
theorem own_if_lt (X : own_Cx Z p l e R s m args below meth c n0 own bytes maxL nm ret T h cells slots) {x : Int32} {o : Int} {pcT pcF : Nat} (d : decode bytes pc = .ok (.ifCond .lt o, 3)) (ho : 0 ≤ (pc : Int) + o) (hT : ((pc : Int) + o).toNat = pcT) (hF : pc + 3 = pcF)
    (qT : (x < 0) → own_Fin p e below G (T.setTop (mkF m pcT L (st)))) (qF : (¬ (x < 0)) → own_Fin p e below G (T.setTop (mkF m pcF L (st)))) : own_Fin p e below G (T.setTop (mkF m pc L ((.int x) :: st))) := by
  obtain ⟨locs, X, N, eT, hx, hZ, hown, hby, hml, hnm, hret, hlk⟩ := X
  subst hF
  by_cases hc : x < 0
  · exact own_go (fun t k => XS.ifYes X.here hx rfl rfl (hb hby d) rfl (XT.i0_lt_t hc) ho hT k) (qT hc)
  · exact own_go (fun t k => XS.ifNo X.here hx rfl (hb hby d) rfl (XT.i0_lt_f hc) k) (qF hc)
theorem own_lcmp_lt (X : own_Cx Z p l e R s m args below meth c n0 own bytes maxL nm ret T h cells slots) {x y : Int64} {pc1 : Nat} {o : Int} {pcT pcF : Nat} (d0 : decode bytes pc = .ok (.lcmp, 1)) (h1 : pc + 1 = pc1) (d : decode bytes pc1 = .ok (.ifCond .lt o, 3)) (ho : 0 ≤ (pc1 : Int) + o) (hT : ((pc1 : Int) + o).toNat = pcT) (hF : pc1 + 3 = pcF)
    (qT : (x < y) → own_Fin p e below G (T.setTop (mkF m pcT L (st)))) (qF : (¬ (x < y)) → own_Fin p e below G (T.setTop (mkF m pcF L (st)))) : own_Fin p e below G (T.setTop (mkF m pc L ((.long y) :: (.long x) :: st))) := by
  obtain ⟨locs, X, N, eT, hx, hZ, hown, hby, hml, hnm, hret, hlk⟩ := X
  subst h1
  subst hF
  by_cases hc : x < y
  · exact own_go (fun t k => XT.lcmp X.here hx rfl (hb hby d0) rfl (XS.ifYes X.here hx rfl rfl (hb hby d) rfl (XT.ll_lt_t hc) ho hT k)) (qT hc)
  · exact own_go (fun t k => XT.lcmp X.here hx rfl (hb hby d0) rfl (XS.ifNo X.here hx rfl (hb hby d) rfl (XT.ll_lt_f hc) k)) (qF hc)
theorem own_icmp_ge (X : own_Cx Z p l e R s m args below meth c n0 own bytes maxL nm ret T h cells slots) {x y : Int32} {o : Int} {pcT pcF : Nat} (d : decode bytes pc = .ok (.if_icmp .ge o, 3)) (ho : 0 ≤ (pc : Int) + o) (hT : ((pc : Int) + o).toNat = pcT) (hF : pc + 3 = pcF)
    (qT : (¬ (x < y)) → own_Fin p e below G (T.setTop (mkF m pcT L (st)))) (qF : (x < y) → own_Fin p e below G (T.setTop (mkF m pcF L (st)))) : own_Fin p e below G (T.setTop (mkF m pc L ((.int y) :: (.int x) :: st))) := by
  obtain ⟨locs, X, N, eT, hx, hZ, hown, hby, hml, hnm, hret, hlk⟩ := X
  subst hF
  by_cases hc : x < y
  · exact own_go (fun t k => XS.icmpNo X.here hx rfl (hb hby d) rfl (XT.ii_ge_f hc) k) (qF hc)
  · exact own_go (fun t k => XS.icmpYes X.here hx rfl rfl (hb hby d) rfl (XT.ii_ge_t hc) ho hT k) (qT hc)
theorem own_if_ge (X : own_Cx Z p l e R s m args below meth c n0 own bytes maxL nm ret T h cells slots) {x : Int32} {o : Int} {pcT pcF : Nat} (d : decode bytes pc = .ok (.ifCond .ge o, 3)) (ho : 0 ≤ (pc : Int) + o) (hT : ((pc : Int) + o).toNat = pcT) (hF : pc + 3 = pcF)
    (qT : (¬ (x < 0)) → own_Fin p e below G (T.setTop (mkF m pcT L (st)))) (qF : (x < 0) → own_Fin p e below G (T.setTop (mkF m pcF L (st)))) : own_Fin p e below G (T.setTop (mkF m pc L ((.int x) :: st))) := by
  obtain ⟨locs, X, N, eT, hx, hZ, hown, hby, hml, hnm, hret, hlk⟩ := X
  subst hF
  by_cases hc : x < 0
  · exact own_go (fun t k => XS.ifNo X.here hx rfl (hb hby d) rfl (XT.i0_ge_f hc) k) (qF hc)
  · exact own_go (fun t k => XS.ifYes X.here hx rfl rfl (hb hby d) rfl (XT.i0_ge_t hc) ho hT k) (qT hc)
theorem own_lcmp_ge (X : own_Cx Z p l e R s m args below meth c n0 own bytes maxL nm ret T h cells slots) {x y : Int64} {pc1 : Nat} {o : Int} {pcT pcF : Nat} (d0 : decode bytes pc = .ok (.lcmp, 1)) (h1 : pc + 1 = pc1) (d : decode bytes pc1 = .ok (.ifCond .ge o, 3)) (ho : 0 ≤ (pc1 : Int) + o) (hT : ((pc1 : Int) + o).toNat = pcT) (hF : pc1 + 3 = pcF)
    (qT : (¬ (x < y)) → own_Fin p e below G (T.setTop (mkF m pcT L (st)))) (qF : (x < y) → own_Fin p e below G (T.setTop (mkF m pcF L (st)))) : own_Fin p e below G (T.setTop (mkF m pc L ((.long y) :: (.long x) :: st))) := by
  obtain ⟨locs, X, N, eT, hx, hZ, hown, hby, hml, hnm, hret, hlk⟩ := X
  subst h1
  subst hF
  by_cases hc : x < y
  · exact own_go (fun t k => XT.lcmp X.here hx rfl (hb hby d0) rfl (XS.ifNo X.here hx rfl (hb hby d) rfl (XT.ll_ge_f hc) k)) (qF hc)
  · exact own_go (fun t k => XT.lcmp X.here hx rfl (hb hby d0) rfl (XS.ifYes X.here hx rfl rfl (hb hby d) rfl (XT.ll_ge_t hc) ho hT k)) (qT hc)
theorem own_icmp_gt (X : own_Cx Z p l e R s m args below meth c n0 own bytes maxL nm ret T h cells slots) {x y : Int32} {o : Int} {pcT pcF : Nat} (d : decode bytes pc = .ok (.if_icmp .gt o, 3)) (ho : 0 ≤ (pc : Int) + o) (hT : ((pc : Int) + o).toNat = pcT) (hF : pc + 3 = pcF)
    (qT : (y < x) → own_Fin p e below G (T.setTop (mkF m pcT L (st)))) (qF : (¬ (y < x)) → own_Fin p e below G (T.setTop (mkF m pcF L (st)))) : own_Fin p e below G (T.setTop (mkF m pc L ((.int y) :: (.int x) :: st))) := by
  obtain ⟨locs, X, N, eT, hx, hZ, hown, hby, hml, hnm, hret, hlk⟩ := X
  subst hF
  by_cases hc : y < x
  · exact own_go (fun t k => XS.icmpYes X.here hx rfl rfl (hb hby d) rfl (XT.ii_gt_t hc) ho hT k) (qT hc)
  · exact own_go (fun t k => XS.icmpNo X.here hx rfl (hb hby d) rfl (XT.ii_gt_f hc) k) (qF hc)
theorem own_if_gt (X : own_Cx Z p l e R s m args below meth c n0 own bytes maxL nm ret T h cells slots) {x : Int32} {o : Int} {pcT pcF : Nat} (d : decode bytes pc = .ok (.ifCond .gt o, 3)) (ho : 0 ≤ (pc : Int) + o) (hT : ((pc : Int) + o).toNat = pcT) (hF : pc + 3 = pcF)
    (qT : (0 < x) → own_Fin p e below G (T.setTop (mkF m pcT L (st)))) (qF : (¬ (0 < x)) → own_Fin p e below G (T.setTop (mkF m pcF L (st)))) : own_Fin p e below G (T.setTop (mkF m pc L ((.int x) :: st))) := by
  obtain ⟨locs, X, N, eT, hx, hZ, hown, hby, hml, hnm, hret, hlk⟩ := X
  subst hF
  by_cases hc : 0 < x
  · exact own_go (fun t k => XS.ifYes X.here hx rfl rfl (hb hby d) rfl (XT.i0_gt_t hc) ho hT k) (qT hc)
  · exact own_go (fun t k => XS.ifNo X.here hx rfl (hb hby d) rfl (XT.i0_gt_f hc) k) (qF hc)
theorem own_lcmp_gt (X : own_Cx Z p l e R s m args below meth c n0 own bytes maxL nm ret T h cells slots) {x y : Int64} {pc1 : Nat} {o : Int} {pcT pcF : Nat} (d0 : decode bytes pc = .ok (.lcmp, 1)) (h1 : pc + 1 = pc1) (d : decode bytes pc1 = .ok (.ifCond .gt o, 3)) (ho : 0 ≤ (pc1 : Int) + o) (hT : ((pc1 : Int) + o).toNat = pcT) (hF : pc1 + 3 = pcF)
    (qT : (y < x) → own_Fin p e below G (T.setTop (mkF m pcT L (st)))) (qF : (¬ (y < x)) → own_Fin p e below G (T.setTop (mkF m pcF L (st)))) : own_Fin p e below G (T.setTop (mkF m pc L ((.long y) :: (.long x) :: st))) := by
  obtain ⟨locs, X, N, eT, hx, hZ, hown, hby, hml, hnm, hret, hlk⟩ := X
  subst h1
  subst hF
  by_cases hc : y < x
  · exact own_go (fun t k => XT.lcmp X.here hx rfl (hb hby d0) rfl (XS.ifYes X.here hx rfl rfl (hb hby d) rfl (XT.ll_gt_t hc) ho hT k)) (qT hc)
  · exact own_go (fun t k => XT.lcmp X.here hx rfl (hb hby d0) rfl (XS.ifNo X.here hx rfl (hb hby d) rfl (XT.ll_gt_f hc) k)) (qF hc)
theorem own_icmp_le (X : own_Cx Z p l e R s m args below meth c n0 own bytes maxL nm ret T h cells slots) {x y : Int32} {o : Int} {pcT pcF : Nat} (d : decode bytes pc = .ok (.if_icmp .le o, 3)) (ho : 0 ≤ (pc : Int) + o) (hT : ((pc : Int) + o).toNat = pcT) (hF : pc + 3 = pcF)
    (qT : (¬ (y < x)) → own_Fin p e below G (T.setTop (mkF m pcT L (st)))) (qF : (y < x) → own_Fin p e below G (T.setTop (mkF m pcF L (st)))) : own_Fin p e below G (T.setTop (mkF m pc L ((.int y) :: (.int x) :: st))) := by
  obtain ⟨locs, X, N, eT, hx, hZ, hown, hby, hml, hnm, hret, hlk⟩ := X
  subst hF
  by_cases hc : y < x
  · exact own_go (fun t k => XS.icmpNo X.here hx rfl (hb hby d) rfl (XT.ii_le_f hc) k) (qF hc)
  · exact own_go (fun t k => XS.icmpYes X.here hx rfl rfl (hb hby d) rfl (XT.ii_le_t hc) ho hT k) (qT hc)
theorem own_if_le (X : own_Cx Z p l e R s m args below meth c n0 own bytes maxL nm ret T h cells slots) {x : Int32} {o : Int} {pcT pcF : Nat} (d : decode bytes pc = .ok (.ifCond .le o, 3)) (ho : 0 ≤ (pc : Int) + o) (hT : ((pc : Int) + o).toNat = pcT) (hF : pc + 3 = pcF)
    (qT : (¬ (0 < x)) → own_Fin p e below G (T.setTop (mkF m pcT L (st)))) (qF : (0 < x) → own_Fin p e below G (T.setTop (mkF m pcF L (st)))) : own_Fin p e below G (T.setTop (mkF m pc L ((.int x) :: st))) := by
  obtain ⟨locs, X, N, eT, hx, hZ, hown, hby, hml, hnm, hret, hlk⟩ := X
  subst hF
  by_cases hc : 0 < x
  · exact own_go (fun t k => XS.ifNo X.here hx rfl (hb hby d) rfl (XT.i0_le_f hc) k) (qF hc)
  · exact own_go (fun t k => XS.ifYes X.here hx rfl rfl (hb hby d) rfl (XT.i0_le_t hc) ho hT k) (qT hc)
theorem own_lcmp_le (X : own_Cx Z p l e R s m args below meth c n0 own bytes maxL nm ret T h cells slots) {x y : Int64} {pc1 : Nat} {o : Int} {pcT pcF : Nat} (d0 : decode bytes pc = .ok (.lcmp, 1)) (h1 : pc + 1 = pc1) (d : decode bytes pc1 = .ok (.ifCond .le o, 3)) (ho : 0 ≤ (pc1 : Int) + o) (hT : ((pc1 : Int) + o).toNat = pcT) (hF : pc1 + 3 = pcF)
    (qT : (¬ (y < x)) → own_Fin p e below G (T.setTop (mkF m pcT L (st)))) (qF : (y < x) → own_Fin p e below G (T.setTop (mkF m pcF L (st)))) : own_Fin p e below G (T.setTop (mkF m pc L ((.long y) :: (.long x) :: st))) := by
  obtain ⟨locs, X, N, eT, hx, hZ, hown, hby, hml, hnm, hret, hlk⟩ := X
  subst h1
  subst hF
  by_cases hc : y < x
  · exact own_go (fun t k => XT.lcmp X.here hx rfl (hb hby d0) rfl (XS.ifNo X.here hx rfl (hb hby d) rfl (XT.ll_le_f hc) k)) (qF hc)
  · exact own_go (fun t k => XT.lcmp X.here hx rfl (hb hby d0) rfl (XS.ifYes X.here hx rfl rfl (hb hby d) rfl (XT.ll_le_t hc) ho hT k)) (qT hc)
theorem own_acmp_eq (X : own_Cx Z p l e R s m args below meth c n0 own bytes maxL nm ret T h cells slots) {x y : Value} {o : Int} {pcT pcF : Nat} (d : decode bytes pc = .ok (.if_acmp .eq o, 3)) (hx1 : x.isRef = true) (hy1 : y.isRef = true) (ho : 0 ≤ (pc : Int) + o) (hT : ((pc : Int) + o).toNat = pcT) (hF : pc + 3 = pcF)
    (qT : (x = y) → own_Fin p e below G (T.setTop (mkF m pcT L (st)))) (qF : (¬ (x = y)) → own_Fin p e below G (T.setTop (mkF m pcF L (st)))) : own_Fin p e below G (T.setTop (mkF m pc L (y :: x :: st))) := by
  obtain ⟨locs, X, N, eT, hx, hZ, hown, hby, hml, hnm, hret, hlk⟩ := X
  subst hF
  by_cases hc : x = y
  · exact own_go (fun t k => XT.acmpYes X.here hx rfl rfl (hb hby d) rfl hx1 hy1 (XT.aa_eq_t hc) ho hT k) (qT hc)
  · exact own_go (fun t k => XT.acmpNo X.here hx rfl (hb hby d) rfl hx1 hy1 (XT.aa_eq_f hc) k) (qF hc)
theorem own_acmp_ne (X : own_Cx Z p l e R s m args below meth c n0 own bytes maxL nm ret T h cells slots) {x y : Value} {o : Int} {pcT pcF : Nat} (d : decode bytes pc = .ok (.if_acmp .ne o, 3)) (hx1 : x.isRef = true) (hy1 : y.isRef = true) (ho : 0 ≤ (pc : Int) + o) (hT : ((pc : Int) + o).toNat = pcT) (hF : pc + 3 = pcF)
    (qT : (¬ (x = y)) → own_Fin p e below G (T.setTop (mkF m pcT L (st)))) (qF : (x = y) → own_Fin p e below G (T.setTop (mkF m pcF L (st)))) : own_Fin p e below G (T.setTop (mkF m pc L (y :: x :: st))) := by
  obtain ⟨locs, X, N, eT, hx, hZ, hown, hby, hml, hnm, hret, hlk⟩ := X
  subst hF
  by_cases hc : x = y
  · exact own_go (fun t k => XT.acmpNo X.here hx rfl (hb hby d) rfl hx1 hy1 (XT.aa_ne_f hc) k) (qF hc)
  · exact own_go (fun t k => XT.acmpYes X.here hx rfl rfl (hb hby d) rfl hx1 hy1 (XT.aa_ne_t hc) ho hT k) (qT hc)
theorem own_nonnullN (X : own_Cx Z p l e R s m args below meth c n0 own bytes maxL nm ret T h cells slots) {o : Int} (d : decode bytes pc = .ok (.ifnonnull o, 3)) (hp : pc + 3 = pc') 
    (q : own_Fin p e below G (T.setTop (mkF m pc' L (st)))) : own_Fin p e below G (T.setTop (mkF m pc L (.null :: st))) := by
  obtain ⟨locs, X, N, eT, hx, hZ, hown, hby, hml, hnm, hret, hlk⟩ := X
  subst hp
  exact own_go (fun t k => XT.nonnullNo X.here hx rfl (hb hby d) rfl rfl k) q
theorem own_more (X : own_Cx Z p l e R s m args below meth c n0 own bytes maxL nm ret T h cells slots) {cells' slots' : Nat} (h1 : cells ≤ cells') (h2 : slots ≤ slots') : own_Cx Z p l e R s m args below meth c n0 own bytes maxL nm ret T h cells' slots' := by
  obtain ⟨locs, X, N, eT, hx, hZ, hown, hby, hml, hnm, hret, hlk⟩ := X
  exact ⟨locs, X.more h1 h2, N, eT, hx, hZ, hown, hby, hml, hnm, hret, hlk⟩
theorem own_nar {ty : FieldType} {z : Value} (h : ty.isReference = true) : narrow ty z = z := by cases ty <;> first | rfl | (cases h; done)
theorem own_retI (X : own_Cx Z p l e R s m args below meth c n0 own bytes maxL nm ret T h cells slots) {z : Int32} {q : Option Value → Heap → Prop} {k n : Nat} (hr0 : ret = some .int) (d : decode bytes pc = .ok (.ireturn, 1)) (hq : q (some (.int z)) h) (hc : cells ≤ k) (hs : slots ≤ n) :
    own_Fin p e below (own_End s n0 q k n) (T.setTop (mkF m pc L ((.int z) :: st))) := by
  obtain ⟨locs, X, N, eT, hx, hZ, hown, hby, hml, hnm, hret, hlk⟩ := X
  obtain ⟨fs, hr, hrun, hended, hW, hsame⟩ := X.leave (v := some (.int z)) (fun h => by first | rfl | (rw [hret, hr0] at h; cases h)) hlk
  refine ⟨_, _, retOut X hx (hret.trans hr0) rfl (Or.inl ⟨rfl, Or.inl rfl, _, rfl⟩) (hb hby d) hr, hrun, hended, _, _, rfl, ⟨?_, N⟩, ⟨_, rfl⟩, hW, hsame.mono hc hs⟩
  show q _ T.heap
  rw [eT]
  exact hq
theorem own_retJ (X : own_Cx Z p l e R s m args below meth c n0 own bytes maxL nm ret T h cells slots) {z : Int64} {q : Option Value → Heap → Prop} {k n : Nat} (hr0 : ret = some .long) (d : decode bytes pc = .ok (.lreturn, 1)) (hq : q (some (.long z)) h) (hc : cells ≤ k) (hs : slots ≤ n) :
    own_Fin p e below (own_End s n0 q k n) (T.setTop (mkF m pc L ((.long z) :: st))) := by
  obtain ⟨locs, X, N, eT, hx, hZ, hown, hby, hml, hnm, hret, hlk⟩ := X
  obtain ⟨fs, hr, hrun, hended, hW, hsame⟩ := X.leave (v := some (.long z)) (fun h => by first | rfl | (rw [hret, hr0] at h; cases h)) hlk
  refine ⟨_, _, retOut X hx (hret.trans hr0) rfl (Or.inr (Or.inl ⟨rfl, rfl, _, rfl⟩)) (hb hby d) hr, hrun, hended, _, _, rfl, ⟨?_, N⟩, ⟨_, rfl⟩, hW, hsame.mono hc hs⟩
  show q _ T.heap
  rw [eT]
  exact hq
theorem own_retZ (X : own_Cx Z p l e R s m args below meth c n0 own bytes maxL nm ret T h cells slots) {z : Int32} {q : Option Value → Heap → Prop} {k n : Nat} (hr0 : ret = some .boolean) (d : decode bytes pc = .ok (.ireturn, 1)) (hz : narrow .boolean (.int z) = .int z) (hq : q (some (.int z)) h) (hc : cells ≤ k) (hs : slots ≤ n) :
    own_Fin p e below (own_End s n0 q k n) (T.setTop (mkF m pc L ((.int z) :: st))) := by
  obtain ⟨locs, X, N, eT, hx, hZ, hown, hby, hml, hnm, hret, hlk⟩ := X
  obtain ⟨fs, hr, hrun, hended, hW, hsame⟩ := X.leave (v := some (.int z)) (fun h => by first | rfl | (rw [hret, hr0] at h; cases h)) hlk
  refine ⟨_, _, retOut X hx (hret.trans hr0) hz (Or.inl ⟨rfl, Or.inr (Or.inl rfl), _, rfl⟩) (hb hby d) hr, hrun, hended, _, _, rfl, ⟨?_, N⟩, ⟨_, rfl⟩, hW, hsame.mono hc hs⟩
  show q _ T.heap
  rw [eT]
  exact hq
theorem own_retC (X : own_Cx Z p l e R s m args below meth c n0 own bytes maxL nm ret T h cells slots) {z : Int32} {q : Option Value → Heap → Prop} {k n : Nat} (hr0 : ret = some .char) (d : decode bytes pc = .ok (.ireturn, 1)) (hz : narrow .char (.int z) = .int z) (hq : q (some (.int z)) h) (hc : cells ≤ k) (hs : slots ≤ n) :
    own_Fin p e below (own_End s n0 q k n) (T.setTop (mkF m pc L ((.int z) :: st))) := by
  obtain ⟨locs, X, N, eT, hx, hZ, hown, hby, hml, hnm, hret, hlk⟩ := X
  obtain ⟨fs, hr, hrun, hended, hW, hsame⟩ := X.leave (v := some (.int z)) (fun h => by first | rfl | (rw [hret, hr0] at h; cases h)) hlk
  refine ⟨_, _, retOut X hx (hret.trans hr0) hz (Or.inl ⟨rfl, Or.inr (Or.inr (Or.inr (Or.inl rfl))), _, rfl⟩) (hb hby d) hr, hrun, hended, _, _, rfl, ⟨?_, N⟩, ⟨_, rfl⟩, hW, hsame.mono hc hs⟩
  show q _ T.heap
  rw [eT]
  exact hq
theorem own_retA (X : own_Cx Z p l e R s m args below meth c n0 own bytes maxL nm ret T h cells slots) {z : Value} {ty : FieldType} {q : Option Value → Heap → Prop} {k n : Nat} (hr0 : ret = some ty) (hty : ty.isReference = true) (hz : z.isRef = true) (d : decode bytes pc = .ok (.areturn, 1)) (hq : q (some z) h) (hc : cells ≤ k) (hs : slots ≤ n) :
    own_Fin p e below (own_End s n0 q k n) (T.setTop (mkF m pc L (z :: st))) := by
  obtain ⟨locs, X, N, eT, hx, hZ, hown, hby, hml, hnm, hret, hlk⟩ := X
  obtain ⟨fs, hr, hrun, hended, hW, hsame⟩ := X.leave (v := some z) (fun h => by first | rfl | (rw [hret, hr0] at h; cases h)) hlk
  refine ⟨_, _, retOut X hx (hret.trans hr0) (own_nar hty) (Or.inr (Or.inr (Or.inr (Or.inr ⟨rfl, hty, hz⟩)))) (hb hby d) hr, hrun, hended, _, _, rfl, ⟨?_, N⟩, ⟨_, rfl⟩, hW, hsame.mono hc hs⟩
  show q _ T.heap
  rw [eT]
  exact hq
theorem own_retV (X : own_Cx Z p l e R s m args below meth c n0 own bytes maxL nm ret T h cells slots)  {q : Option Value → Heap → Prop} {k n : Nat} (hr0 : ret = none) (d : decode bytes pc = .ok (.return_, 1)) (hq : q (none) h) (hc : cells ≤ k) (hs : slots ≤ n) :
    own_Fin p e below (own_End s n0 q k n) (T.setTop (mkF m pc L ([]))) := by
  obtain ⟨locs, X, N, eT, hx, hZ, hown, hby, hml, hnm, hret, hlk⟩ := X
  obtain ⟨fs, hr, hrun, hended, hW, hsame⟩ := X.leave (v := none) (fun h => by first | rfl | (rw [hret, hr0] at h; cases h)) hlk
  refine ⟨_, _, X.returnOut hx (hret.trans hr0) (hb hby d) hr, hrun, hended, _, _, rfl, ⟨?_, N⟩, ⟨_, rfl⟩, hW, hsame.mono hc hs⟩
  show q _ T.heap
  rw [eT]
  exact hq
theorem own_getf (X : own_Cx Z p l e R s m args below meth c n0 own bytes maxL nm ret T h cells slots) {R0 n d0 : String} {i : Nat} {a : Addr} {v : Value} (w : (Jvm.Cond.fieldLink own i R0 n d0).before a0 Z = true) (F : Fld Z h a R0 n d0 v) (d : decode bytes pc = .ok (.getfield i, 3)) (hp : pc + 3 = pc')
    (q : ∀ T', own_Cx Z p l e R s m args below meth c n0 own bytes maxL nm ret T' h cells slots → own_Fin p e below G (T'.setTop (mkF m pc' L (v :: st)))) : own_Fin p e below G (T.setTop (mkF m pc L ((.ref a) :: st))) := by
  obtain ⟨locs, X, N, eT, hx, hZ, hown, hby, hml, hnm, hret, hlk⟩ := X
  subst hp
  obtain ⟨T1, X1, e1, st1⟩ := getF X hx hZ hown (host := "") (Or.inl w) Via.refl eT F (g := mkF m pc L ((.ref a) :: st)) rfl rfl (hb hby d)
  exact own_go st1 (q T1 ⟨locs, X1, N, e1, hx, hZ, hown, hby, hml, hnm, hret, hlk⟩)
theorem own_gets (X : own_Cx Z p l e R s m args below meth c n0 own bytes maxL nm ret T h cells slots) {R0 n d0 : String} {i : Nat} {v : Value} (w : (Jvm.Cond.fieldLink own i R0 n d0).before a0 Z = true) (F : Sta Z h R0 n d0 v) (d : decode bytes pc = .ok (.getstatic i, 3)) (hp : pc + 3 = pc')
    (q : ∀ T', own_Cx Z p l e R s m args below meth c n0 own bytes maxL nm ret T' h cells slots → own_Fin p e below G (T'.setTop (mkF m pc' L (v :: st)))) : own_Fin p e below G (T.setTop (mkF m pc L (st))) := by
  obtain ⟨locs, X, N, eT, hx, hZ, hown, hby, hml, hnm, hret, hlk⟩ := X
  subst hp
  obtain ⟨T1, X1, e1, st1⟩ := getS X hx hZ hown (host := "") w Via.refl eT F (g := mkF m pc L st) rfl (hb hby d)
  exact own_go st1 (q T1 ⟨locs, X1, N, e1, hx, hZ, hown, hby, hml, hnm, hret, hlk⟩)
theorem own_putf (X : own_Cx Z p l e R s m args below meth c n0 own bytes maxL nm ret T h cells slots) {R0 n d0 C : String} {i kk : Nat} {a : Addr} {v old : Value} {ty : FieldType} (w : (Jvm.Cond.fieldLink own i R0 n d0).before a0 Z = true) (F : Fld Z h a R0 n d0 old) (E : Exa Z h a C) (Ly : (Jvm.Cond.lays C R0 n d0).before a0 Z = true ∨ ((Jvm.Cond.laysFinal C R0 n d0).before a0 Z = true ∧ own = R0 ∧ nm = "<init>")) (wi : (Jvm.Cond.instantiable C kk).before a0 Z = true) (hty : parseFieldDescriptor d0 = some ty) (hn : narrow ty v = v) (hf : fits ty v = true) (hge : n0 ≤ a) (d : decode bytes pc = .ok (.putfield i, 3)) (hp : pc + 3 = pc')
    (q : ∀ T' h', own_Cx Z p l e R s m args below meth c n0 own bytes maxL nm ret T' h' cells slots → Wr h h' a (Jvm.RoadKit.slotOf Z R0 n d0) v → own_Fin p e below G (T'.setTop (mkF m pc' L (st)))) : own_Fin p e below G (T.setTop (mkF m pc L (v :: (.ref a) :: st))) := by
  obtain ⟨locs, X, N, eT, hx, hZ, hown, hby, hml, hnm, hret, hlk⟩ := X
  subst hp
  have Ly' : (Jvm.Cond.lays C R0 n d0).before a0 Z = true ∨ ((Jvm.Cond.laysFinal C R0 n d0).before a0 Z = true ∧ own = R0 ∧ meth.name = "<init>") := by
    rcases Ly with q | ⟨q1, q2, q3⟩
    · exact Or.inl q
    · exact Or.inr ⟨q1, q2, hnm.trans q3⟩
  obtain ⟨T1, h1, X1, e1, W1, st1⟩ := putF X hx hZ hown (host := "") (Or.inl w) Via.refl eT F E Ly' wi hty hn hf (g := mkF m pc L (v :: (.ref a) :: st)) rfl rfl (hb hby d)
  exact own_go st1 (q T1 h1 ⟨_, X1, Fr.snoc X1 N hge, e1, hx, hZ, hown, hby, hml, hnm, hret, hlk⟩ W1)
theorem own_new (X : own_Cx Z p l e R s m args below meth c n0 own bytes maxL nm ret T h cells slots) {C : String} {i n : Nat} (w : (Jvm.Cond.classLink own i C).before a0 Z = true) (wi : (Jvm.Cond.instantiable C n).before a0 Z = true) (wz : (Jvm.Cond.initialized C).before a0 Z = true) (d : decode bytes pc = .ok (.new i, 3)) (hp : pc + 3 = pc') {cells' slots' : Nat} (ec : cells + 1 = cells') (es : slots + n = slots') (hc : cells' ≤ R.cells) (hl : slots' ≤ R.slots)
    (q : ∀ T' h' a, a = h.size → own_Cx Z p l e R s m args below meth c n0 own bytes maxL nm ret T' h' cells' slots' → Ext h h' → Exa Z h' a C → (∀ {O nm d : String} {ty : FieldType}, Laid Z a0 C O nm d → parseFieldDescriptor d = some ty → Fld Z h' a O nm d (defaultValue ty)) → own_Fin p e below G (T'.setTop (mkF m pc' L ((.ref a) :: st)))) : own_Fin p e below G (T.setTop (mkF m pc L (st))) := by
  obtain ⟨locs, X, N, eT, hx, hZ, hown, hby, hml, hnm, hret, hlk⟩ := X
  subst hp ec es
  obtain ⟨T1, h1, X1, e1, E1, A1, D1, -, st1⟩ := newO X hx hZ hown w wi wz eT (g := mkF m pc L st) rfl (hb hby d) hc hl
  exact own_go st1 (q T1 h1 _ rfl ⟨_, X1, N, e1, hx, hZ, hown, hby, hml, hnm, hret, hlk⟩ E1 A1 D1)
theorem own_newarray (X : own_Cx Z p l e R s m args below meth c n0 own bytes maxL nm ret T h cells slots) {aty : ArrayType} (w : (Jvm.Cond.arrayClass (newarray.typeOf aty)).before a0 Z = true) {n : Int32} (cap : Nat) (hn : ¬ n < 0) (hcap : n.toNatClampNeg ≤ cap) (hb8 : cap * 8 ≤ 536870912) (d : decode bytes pc = .ok (.newarray aty, 2)) (hp : pc + 2 = pc') {cells' slots' : Nat} (ec : cells + 1 = cells') (es : slots + cap = slots') (hc : cells' ≤ R.cells) (hl : slots' ≤ R.slots)
    (q : ∀ T' h' cA a, a = h.size → own_Cx Z p l e R s m args below meth c n0 own bytes maxL nm ret T' h' cells' slots' → Ext h h' → Arr Z h' a (newA cA (newarray.typeOf aty) n) (newarray.typeOf aty) → own_Fin p e below G (T'.setTop (mkF m pc' L ((.ref a) :: st)))) : own_Fin p e below G (T.setTop (mkF m pc L ((.int n) :: st))) := by
  obtain ⟨locs, X, N, eT, hx, hZ, hown, hby, hml, hnm, hret, hlk⟩ := X
  subst hp ec es
  obtain ⟨T1, h1, cA, X1, e1, E1, A1, st1⟩ := newP X hx hZ w eT (g := mkF m pc L ((.int n) :: st)) rfl (hb hby d) rfl hn hcap hb8 hc hl
  exact own_go st1 (q T1 h1 cA _ rfl ⟨_, X1, N, e1, hx, hZ, hown, hby, hml, hnm, hret, hlk⟩ E1 A1)
theorem own_anewarray (X : own_Cx Z p l e R s m args below meth c n0 own bytes maxL nm ret T h cells slots) {C : String} {i : Nat} (w : (Jvm.Cond.classLink own i C).before a0 Z = true) (w2 : (Jvm.Cond.arrayOver (.object C)).before a0 Z = true) {n : Int32} (cap : Nat) (hn : ¬ n < 0) (hcap : n.toNatClampNeg ≤ cap) (hb8 : cap * 8 ≤ 536870912) (d : decode bytes pc = .ok (.anewarray i, 3)) (hp : pc + 3 = pc') {cells' slots' : Nat} (ec : cells + 1 = cells') (es : slots + cap = slots') (hc : cells' ≤ R.cells) (hl : slots' ≤ R.slots)
    (q : ∀ T' h' cA a, a = h.size → own_Cx Z p l e R s m args below meth c n0 own bytes maxL nm ret T' h' cells' slots' → Ext h h' → Arr Z h' a (newA cA (.object C) n) (.object C) → own_Fin p e below G (T'.setTop (mkF m pc' L ((.ref a) :: st)))) : own_Fin p e below G (T.setTop (mkF m pc L ((.int n) :: st))) := by
  obtain ⟨locs, X, N, eT, hx, hZ, hown, hby, hml, hnm, hret, hlk⟩ := X
  subst hp ec es
  obtain ⟨T1, h1, cA, X1, e1, E1, A1, -, st1⟩ := newR X hx hZ hown w w2 eT (g := mkF m pc L ((.int n) :: st)) rfl (hb hby d) rfl hn hcap hb8 hc hl
  exact own_go st1 (q T1 h1 cA _ rfl ⟨_, X1, N, e1, hx, hZ, hown, hby, hml, hnm, hret, hlk⟩ E1 A1)
theorem own_iaload (X : own_Cx Z p l e R s m args below meth c n0 own bytes maxL nm ret T h cells slots) {a : Addr} {cl : Cell} {j : Int32} {v : Value} (A : Arr Z h a cl .int) (hj : ¬ (j < 0 ∨ cl.slots.size ≤ j.toNatClampNeg)) (hv : cl.slots[j.toNatClampNeg]? = some v) (d : decode bytes pc = .ok (.iaload, 1)) (hp : pc + 1 = pc')
    (q : own_Fin p e below G (T.setTop (mkF m pc' L (v :: st)))) : own_Fin p e below G (T.setTop (mkF m pc L ((.int j) :: (.ref a) :: st))) := by
  obtain ⟨locs, X, N, eT, hx, hZ, hown, hby, hml, hnm, hret, hlk⟩ := X
  subst hp
  exact own_go (fun t k => X.iaload hx (by rw [eT]; exact A.1) (State.isArrayOf_alike hZ.alike A.2.1) A.2.2 hj hv (g := mkF m pc L ((.int j) :: (.ref a) :: st)) rfl rfl (hb hby d) t k) q
theorem own_laload (X : own_Cx Z p l e R s m args below meth c n0 own bytes maxL nm ret T h cells slots) {a : Addr} {cl : Cell} {j : Int32} {v : Value} (A : Arr Z h a cl .long) (hj : ¬ (j < 0 ∨ cl.slots.size ≤ j.toNatClampNeg)) (hv : cl.slots[j.toNatClampNeg]? = some v) (d : decode bytes pc = .ok (.laload, 1)) (hp : pc + 1 = pc')
    (q : own_Fin p e below G (T.setTop (mkF m pc' L (v :: st)))) : own_Fin p e below G (T.setTop (mkF m pc L ((.int j) :: (.ref a) :: st))) := by
  obtain ⟨locs, X, N, eT, hx, hZ, hown, hby, hml, hnm, hret, hlk⟩ := X
  subst hp
  exact own_go (fun t k => X.laload hx (by rw [eT]; exact A.1) (State.isArrayOf_alike hZ.alike A.2.1) A.2.2 hj hv (g := mkF m pc L ((.int j) :: (.ref a) :: st)) rfl rfl (hb hby d) t k) q
theorem own_baload (X : own_Cx Z p l e R s m args below meth c n0 own bytes maxL nm ret T h cells slots) {a : Addr} {cl : Cell} {j : Int32} {v : Value} (A : Arr Z h a cl .byte) (hj : ¬ (j < 0 ∨ cl.slots.size ≤ j.toNatClampNeg)) (hv : cl.slots[j.toNatClampNeg]? = some v) (d : decode bytes pc = .ok (.baload, 1)) (hp : pc + 1 = pc')
    (q : own_Fin p e below G (T.setTop (mkF m pc' L (v :: st)))) : own_Fin p e below G (T.setTop (mkF m pc L ((.int j) :: (.ref a) :: st))) := by
  obtain ⟨locs, X, N, eT, hx, hZ, hown, hby, hml, hnm, hret, hlk⟩ := X
  subst hp
  exact own_go (fun t k => X.baloadBytes hx (by rw [eT]; exact A.1) (State.isArrayOf_alike hZ.alike A.2.1) A.2.2 hj hv (g := mkF m pc L ((.int j) :: (.ref a) :: st)) rfl rfl (hb hby d) t k) q
theorem own_arraylength (X : own_Cx Z p l e R s m args below meth c n0 own bytes maxL nm ret T h cells slots) {a : Addr} {cl : Cell} {ty : FieldType} {z : Int32} (A : Arr Z h a cl ty) (hz : cl.slots.size.toInt32 = z) (d : decode bytes pc = .ok (.arraylength, 1)) (hp : pc + 1 = pc')
    (q : own_Fin p e below G (T.setTop (mkF m pc' L ((.int z) :: st)))) : own_Fin p e below G (T.setTop (mkF m pc L ((.ref a) :: st))) := by
  obtain ⟨locs, X, N, eT, hx, hZ, hown, hby, hml, hnm, hret, hlk⟩ := X
  subst hp hz
  exact own_go (fun t k => X.arraylength hx (by rw [eT]; exact A.1) (State.isArrayOf_alike hZ.alike A.2.1) (g := mkF m pc L ((.ref a) :: st)) rfl rfl (hb hby d) t k) q
theorem own_iastore (X : own_Cx Z p l e R s m args below meth c n0 own bytes maxL nm ret T h cells slots) {a : Addr} {cl : Cell} {j : Int32} {x : Int32} (A : Arr Z h a cl .int) (hj : ¬ (j < 0 ∨ cl.slots.size ≤ j.toNatClampNeg)) (hge : n0 ≤ a) (d : decode bytes pc = .ok (.iastore, 1)) (hp : pc + 1 = pc')
    (q : ∀ T' h', own_Cx Z p l e R s m args below meth c n0 own bytes maxL nm ret T' h' cells slots → Wr h h' a j.toNatClampNeg (.int x) → own_Fin p e below G (T'.setTop (mkF m pc' L (st)))) : own_Fin p e below G (T.setTop (mkF m pc L ((.int x) :: (.int j) :: (.ref a) :: st))) := by
  obtain ⟨locs, X, N, eT, hx, hZ, hown, hby, hml, hnm, hret, hlk⟩ := X
  subst hp
  obtain ⟨T1, h1, X1, e1, W1, st1⟩ := stI X hx hZ eT A hj (g := mkF m pc L ((.int x) :: (.int j) :: (.ref a) :: st)) rfl rfl (hb hby d)
  exact own_go st1 (q T1 h1 ⟨_, X1, Fr.snoc X1 N hge, e1, hx, hZ, hown, hby, hml, hnm, hret, hlk⟩ W1)
theorem own_lastore (X : own_Cx Z p l e R s m args below meth c n0 own bytes maxL nm ret T h cells slots) {a : Addr} {cl : Cell} {j : Int32} {x : Int64} (A : Arr Z h a cl .long) (hj : ¬ (j < 0 ∨ cl.slots.size ≤ j.toNatClampNeg)) (hge : n0 ≤ a) (d : decode bytes pc = .ok (.lastore, 1)) (hp : pc + 1 = pc')
    (q : ∀ T' h', own_Cx Z p l e R s m args below meth c n0 own bytes maxL nm ret T' h' cells slots → Wr h h' a j.toNatClampNeg (.long x) → own_Fin p e below G (T'.setTop (mkF m pc' L (st)))) : own_Fin p e below G (T.setTop (mkF m pc L ((.long x) :: (.int j) :: (.ref a) :: st))) := by
  obtain ⟨locs, X, N, eT, hx, hZ, hown, hby, hml, hnm, hret, hlk⟩ := X
  subst hp
  obtain ⟨T1, h1, X1, e1, W1, st1⟩ := stJ X hx hZ eT A hj (g := mkF m pc L ((.long x) :: (.int j) :: (.ref a) :: st)) rfl rfl (hb hby d)
  exact own_go st1 (q T1 h1 ⟨_, X1, Fr.snoc X1 N hge, e1, hx, hZ, hown, hby, hml, hnm, hret, hlk⟩ W1)
theorem own_initO (X : own_Cx Z p l e R s m args below meth c n0 own bytes maxL nm ret T h cells slots) {i : Nat} {a : Addr} (w1 : (Jvm.Cond.methodLink own i Lib.objectInit).before a0 Z = true) (w2 : (Jvm.Cond.instanceMethod Lib.objectInit).before a0 Z = true) (w3 : (Jvm.Cond.code Lib.objectInit ⟨#[0xb1]⟩ 1 none).before a0 Z = true) (d : decode bytes pc = .ok (.invokespecial i, 3)) (hp : pc + 3 = pc') (hsz : L.size = maxL) (hf : 1 ≤ R.frames) {W : Nat} (hW : (st.map fun v => v.category).sum = W) (hl : W + 12 ≤ R.locals)
    (q : ∀ T', own_Cx Z p l e R s m args below meth c n0 own bytes maxL nm ret T' h cells slots → own_Fin p e below G (T'.setTop (mkF m pc' L (st)))) : own_Fin p e below G (T.setTop (mkF m pc L ((.ref a) :: st))) := by
  obtain ⟨locs, X, N, eT, hx, hZ, hown, hby, hml, hnm, hret, hlk⟩ := X
  subst hp
  obtain ⟨T1, X1, e1, st1⟩ := initO X hx hZ hown w1 w2 w3 eT (g := mkF m pc L ((.ref a) :: st)) rfl (hsz.trans hml.symm) rfl (hb hby d) hf (W := W) (by show 2 * 0 + _ ≤ _; omega) hl
  exact own_go st1 (q T1 ⟨locs, X1, N, e1, hx, hZ, hown, hby, hml, hnm, hret, hlk⟩)
theorem own_callS (X : own_Cx Z p l e R s m args below meth c n0 own bytes maxL nm ret T h cells slots) {y : MethodName} {yb : ByteArray} {ymax : Nat} {yr : Option FieldType} {i : Nat} (w1 : (Jvm.Cond.methodLink own i y).before a0 Z = true) (w2 : (Jvm.Cond.static y).before a0 Z = true) (w3 : (Jvm.Cond.initialized y.cls).before a0 Z = true) (w4 : (Jvm.Cond.code y yb ymax yr).before a0 Z = true) (hy : y.cls ≠ "java/lang/invoke/MethodHandle" ∧ y.cls ≠ "java/lang/invoke/VarHandle")
    {rm : Room} {argsL rest : List Value} {q : Option Value → Heap → Prop} (hM : own_Met l Z y yb ymax yr [] rm argsL.toArray h n0 q) {ps : List FieldType} {r : Option FieldType} (pd : parseMethodDescriptor y.desc = some ⟨ps, r⟩) (hlen : argsL.length = ps.length) (d : decode bytes pc = .ok (.invokestatic i, 3)) (hp : pc + 3 = pc') (hsz : L.size = maxL) (hst : st = argsL.reverse ++ rest) {W : Nat} (hW : (rest.map fun v => v.category).sum = W) (hfr : rm.frames + 1 ≤ R.frames) (hlo : W + (ymax + 11) + rm.locals ≤ R.locals) {cells' slots' : Nat} (ec : cells + rm.cells = cells') (es : slots + rm.slots = slots') (hc : cells' ≤ R.cells) (hs : slots' ≤ R.slots)
    (k : ∀ v T' h', own_Cx Z p l e R s m args below meth c n0 own bytes maxL nm ret T' h' cells' slots' → q v h' → own_Fin p e below G (T'.setTop (mkF m pc' L (v.toList ++ rest)))) : own_Fin p e below G (T.setTop (mkF m pc L st)) := by
  obtain ⟨locs, X, N, eT, hx, hZ, hown, hby, hml, hnm, hret, hlk⟩ := X
  subst hp ec es
  obtain ⟨v, _, ⟨T1, L1, k1, n1⟩, -, X1, ⟨Lc, hQ, l1, y1, z1⟩, st1⟩ := Jvm.LawKit.callS X hx (y := y) hown (mvT hZ w1) (mvT hZ w2) (mvT hZ w3) (mvT hZ w4) hy (backOf (W := W) (Q := fun v h L => q v h ∧ Fr n0 L) hM hZ w4 w3 hfr hlo) (g := mkF m pc L st) rfl (hsz.trans hml.symm) (argsL := argsL) (rest := rest) (lenOf pd hlen) hst (by show 2 * 0 + _ ≤ _; omega) (hb hby d) (fun _ _ => ⟨rfl, eT, hc, hs⟩)
  dsimp only [Pt.U, Pt.locs, Pt.cells, Pt.slots] at X1 l1 y1 z1 st1 hQ
  subst l1 y1 z1
  exact own_go st1 (k v T1 _ ⟨_, X1, Fr.app N hQ.2, rfl, hx, hZ, hown, hby, hml, hnm, hret, hlk⟩ hQ.1)
theorem own_callI (X : own_Cx Z p l e R s m args below meth c n0 own bytes maxL nm ret T h cells slots) {y : MethodName} {yb : ByteArray} {ymax : Nat} {i : Nat} (hi : y.name = "<init>") (w1 : (Jvm.Cond.methodLink own i y).before a0 Z = true) (w2 : (Jvm.Cond.instanceMethod y).before a0 Z = true) (w3 : (Jvm.Cond.initialized y.cls).before a0 Z = true) (w4 : (Jvm.Cond.code y yb ymax none).before a0 Z = true) (hy : y.cls ≠ "java/lang/invoke/MethodHandle" ∧ y.cls ≠ "java/lang/invoke/VarHandle")
    {rm : Room} {a : Addr} {argsL rest : List Value} {q : Option Value → Heap → Prop} (hM : own_Met l Z y yb ymax none [] rm (Value.ref a :: argsL).toArray h n0 q) {ps : List FieldType} {r : Option FieldType} (pd : parseMethodDescriptor y.desc = some ⟨ps, r⟩) (hlen : argsL.length = ps.length) (d : decode bytes pc = .ok (.invokespecial i, 3)) (hp : pc + 3 = pc') (hsz : L.size = maxL) (hst : st = argsL.reverse ++ .ref a :: rest) {W : Nat} (hW : (rest.map fun v => v.category).sum = W) (hfr : rm.frames + 1 ≤ R.frames) (hlo : W + (ymax + 11) + rm.locals ≤ R.locals) {cells' slots' : Nat} (ec : cells + rm.cells = cells') (es : slots + rm.slots = slots') (hc : cells' ≤ R.cells) (hs : slots' ≤ R.slots)
    (k : ∀ v T' h', own_Cx Z p l e R s m args below meth c n0 own bytes maxL nm ret T' h' cells' slots' → q v h' → own_Fin p e below G (T'.setTop (mkF m pc' L (v.toList ++ rest)))) : own_Fin p e below G (T.setTop (mkF m pc L st)) := by
  obtain ⟨locs, X, N, eT, hx, hZ, hown, hby, hml, hnm, hret, hlk⟩ := X
  subst hp ec es
  obtain ⟨v, _, ⟨T1, L1, k1, n1⟩, -, X1, ⟨Lc, hQ, l1, y1, z1⟩, st1⟩ := X.specialBack hx (y := y) hi hown (mvT hZ w1) (mvT hZ w2) (mvT hZ w4) hy (backOf (W := W) (Q := fun v h L => q v h ∧ Fr n0 L) hM hZ w4 w3 hfr hlo) (g := mkF m pc L st) rfl (hsz.trans hml.symm) (Steps.refl _) (a := a) (argsL := argsL) (rest := rest) (lenOf pd hlen) hst (by show 2 * 0 + _ ≤ _; omega) (hb hby d) (fun _ _ => ⟨rfl, eT, hc, hs⟩)
  dsimp only [Pt.U, Pt.locs, Pt.cells, Pt.slots] at X1 l1 y1 z1 st1 hQ
  subst l1 y1 z1
  exact own_go (fun t k => st1.trans k) (k v T1 _ ⟨_, X1, Fr.app N hQ.2, rfl, hx, hZ, hown, hby, hml, hnm, hret, hlk⟩ hQ.1)
theorem own_callV (X : own_Cx Z p l e R s m args below meth c n0 own bytes maxL nm ret T h cells slots) {y : MethodName} {yb : ByteArray} {ymax : Nat} {yr : Option FieldType} {i : Nat} {C : String} (w1 : (Jvm.Cond.methodLink own i y).before a0 Z = true) (w2 : (Jvm.Cond.declares y).before a0 Z = true) (w5 : (Jvm.Cond.selects C y y).before a0 Z = true) (w6 : (Jvm.Cond.instanceMethod y).before a0 Z = true) (w3 : (Jvm.Cond.initialized y.cls).before a0 Z = true) (w4 : (Jvm.Cond.code y yb ymax yr).before a0 Z = true) (hy : y.cls ≠ "java/lang/invoke/MethodHandle" ∧ y.cls ≠ "java/lang/invoke/VarHandle")
    {rm : Room} {a : Addr} {argsL rest : List Value} {q : Option Value → Heap → Prop} (hM : own_Met l Z y yb ymax yr [] rm (Value.ref a :: argsL).toArray h n0 q) (E : Exa Z h a C) {ps : List FieldType} {r : Option FieldType} (pd : parseMethodDescriptor y.desc = some ⟨ps, r⟩) (hlen : argsL.length = ps.length) (d : decode bytes pc = .ok (.invokevirtual i, 3)) (hp : pc + 3 = pc') (hsz : L.size = maxL) (hst : st = argsL.reverse ++ .ref a :: rest) {W : Nat} (hW : (rest.map fun v => v.category).sum = W) (hfr : rm.frames + 1 ≤ R.frames) (hlo : W + (ymax + 11) + rm.locals ≤ R.locals) {cells' slots' : Nat} (ec : cells + rm.cells = cells') (es : slots + rm.slots = slots') (hc : cells' ≤ R.cells) (hs : slots' ≤ R.slots)
    (k : ∀ v T' h', own_Cx Z p l e R s m args below meth c n0 own bytes maxL nm ret T' h' cells' slots' → q v h' → own_Fin p e below G (T'.setTop (mkF m pc' L (v.toList ++ rest)))) : own_Fin p e below G (T.setTop (mkF m pc L st)) := by
  obtain ⟨locs, X, N, eT, hx, hZ, hown, hby, hml, hnm, hret, hlk⟩ := X
  subst hp ec es
  obtain ⟨cq, kq, qa, qb, qc⟩ := isOf (T := T) hZ eT E
  obtain ⟨v, _, ⟨T1, L1, k1, n1⟩, -, X1, ⟨Lc, hQ, l1, y1, z1⟩, st1⟩ := X.virtualBack hx (y := y) (z := y) hown (mvT hZ w1) (mvT hZ w2) (notFace_of_selects (args := #[]) (mvT hZ w5)) (mvT hZ w5) (mvT hZ w6) hy (backOf (W := W) (Q := fun v h L => q v h ∧ Fr n0 L) hM hZ w4 w3 hfr hlo) qa qc (g := mkF m pc L st) rfl (hsz.trans hml.symm) (Steps.refl _) (argsL := argsL) (rest := rest) (lenOf pd hlen) hst (by show 2 * 0 + _ ≤ _; omega) (hb hby d) (fun _ _ => ⟨rfl, eT, hc, hs⟩)
  dsimp only [Pt.U, Pt.locs, Pt.cells, Pt.slots] at X1 l1 y1 z1 st1 hQ
  subst l1 y1 z1
  exact own_go (fun t k => st1.trans k) (k v T1 _ ⟨_, X1, Fr.app N hQ.2, rfl, hx, hZ, hown, hby, hml, hnm, hret, hlk⟩ hQ.1)
end OwnKit

section OwnLA
variable {Z : State} {p : Program} {l : Launch} {e : Env} {R : Room} {s : State} {m : MethodId} {args : Array Value} {below : List Frame} {meth : Method} {c : Code} {n0 : Nat} {own : String} {bytes : ByteArray} {maxL : Nat} {nm : String} {ret : Option FieldType} {T : State} {h : Heap} {cells slots : Nat} {G : Outcome → State → Prop} {L : Array Slot} {st : List Value} {pc pc' : Nat} {a0 : Array Value}
def own_LA (Z : State) (h : Heap) (a : Addr) (n : Nat) : Prop := ∃ c : Cell, Arr Z h a c .long ∧ c.slots.size = n ∧ ∀ k, k < n → ∃ y : Int64, c.slots[k]? = some (.long y)
theorem own_LA_new {a : Addr} {cA : ClassId} {n : Int32} {k : Nat} (A : Arr Z h a (newA cA .long n) .long) (hk : n.toNatClampNeg = k) : own_LA Z h a k := by
  refine ⟨_, A, (sz_new _ _ _).trans hk, fun i hi => ⟨0, ?_⟩⟩
  simp only [newA]
  rw [Array.getElem?_replicate, if_pos (by omega)]
  rfl
theorem own_LA_wr {h' : Heap} {a : Addr} {n j : Nat} {x : Int64} (A : own_LA Z h a n) (W : Wr h h' a j (.long x)) : own_LA Z h' a n := by
  obtain ⟨cl, A, S, H⟩ := A
  refine ⟨_, A.same W, (sz_set _ _ _).trans S, fun k hk => ?_⟩
  by_cases q : k = j
  · subst q
    exact ⟨x, by simp [Cell.setSlot, S, hk]⟩
  · obtain ⟨y, hy⟩ := H k hk
    exact ⟨y, by simp only [Cell.setSlot]; rw [Array.getElem?_setIfInBounds_ne (Ne.symm q)]; exact hy⟩
theorem own_lastoreL (X : own_Cx Z p l e R s m args below meth c n0 own bytes maxL nm ret T h cells slots) {a : Addr} {n : Nat} {j : Int32} {x : Int64} (A : own_LA Z h a n) (hj : ¬ (j < 0 ∨ n ≤ j.toNatClampNeg)) (hge : n0 ≤ a) (d : decode bytes pc = .ok (.lastore, 1)) (hp : pc + 1 = pc')
    (q : ∀ T' h', own_Cx Z p l e R s m args below meth c n0 own bytes maxL nm ret T' h' cells slots → own_LA Z h' a n → own_Fin p e below G (T'.setTop (mkF m pc' L st))) : own_Fin p e below G (T.setTop (mkF m pc L ((.long x) :: (.int j) :: (.ref a) :: st))) := by
  have A' := A
  obtain ⟨cl, A1, S, H⟩ := A
  exact own_lastore X A1 (by rw [S]; exact hj) hge d hp (fun T' h' X' W => q T' h' X' (own_LA_wr A' W))
theorem own_laloadL (X : own_Cx Z p l e R s m args below meth c n0 own bytes maxL nm ret T h cells slots) {a : Addr} {n : Nat} {j : Int32} (A : own_LA Z h a n) (hj : ¬ (j < 0 ∨ n ≤ j.toNatClampNeg)) (d : decode bytes pc = .ok (.laload, 1)) (hp : pc + 1 = pc')
    (q : ∀ y : Int64, own_Fin p e below G (T.setTop (mkF m pc' L ((.long y) :: st)))) : own_Fin p e below G (T.setTop (mkF m pc L ((.int j) :: (.ref a) :: st))) := by
  obtain ⟨cl, A1, S, H⟩ := A
  obtain ⟨y, hy⟩ := H j.toNatClampNeg (Nat.lt_of_not_le fun z => hj (Or.inr z))
  exact own_laload X A1 (by rw [S]; exact hj) hy d hp (q y)
end OwnLA
theorem d1_0 : decode prog_54_method_2_code 0 = .ok (.lload_n 0, 1) := by decide +kernel
theorem d1_1 : decode prog_54_method_2_code 1 = .ok (.ldc2_w 7, 3) := by decide +kernel
theorem d1_4 : decode prog_54_method_2_code 4 = .ok (.lcmp, 1) := by decide +kernel
theorem d1_5 : decode prog_54_method_2_code 5 = .ok (.ifCond .eq 67, 3) := by decide +kernel
theorem d1_8 : decode prog_54_method_2_code 8 = .ok (.lload_n 0, 1) := by decide +kernel
theorem d1_9 : decode prog_54_method_2_code 9 = .ok (.ldc2_w 9, 3) := by decide +kernel
theorem d1_12 : decode prog_54_method_2_code 12 = .ok (.lcmp, 1) := by decide +kernel
theorem d1_13 : decode prog_54_method_2_code 13 = .ok (.ifCond .eq 59, 3) := by decide +kernel
theorem d1_16 : decode prog_54_method_2_code 16 = .ok (.lload_n 0, 1) := by decide +kernel
theorem d1_17 : decode prog_54_method_2_code 17 = .ok (.ldc2_w 11, 3) := by decide +kernel
theorem d1_20 : decode prog_54_method_2_code 20 = .ok (.lcmp, 1) := by decide +kernel
theorem d1_21 : decode prog_54_method_2_code 21 = .ok (.ifCond .eq 51, 3) := by decide +kernel
theorem d1_24 : decode prog_54_method_2_code 24 = .ok (.lload_n 0, 1) := by decide +kernel
theorem d1_25 : decode prog_54_method_2_code 25 = .ok (.ldc2_w 13, 3) := by decide +kernel
theorem d1_28 : decode prog_54_method_2_code 28 = .ok (.lcmp, 1) := by decide +kernel
theorem d1_29 : decode prog_54_method_2_code 29 = .ok (.ifCond .lt 11, 3) := by decide +kernel
theorem d1_32 : decode prog_54_method_2_code 32 = .ok (.lload_n 0, 1) := by decide +kernel
theorem d1_33 : decode prog_54_method_2_code 33 = .ok (.ldc2_w 15, 3) := by decide +kernel
theorem d1_36 : decode prog_54_method_2_code 36 = .ok (.lcmp, 1) := by decide +kernel
theorem d1_37 : decode prog_54_method_2_code 37 = .ok (.ifCond .le 35, 3) := by decide +kernel
theorem d1_40 : decode prog_54_method_2_code 40 = .ok (.lload_n 0, 1) := by decide +kernel
theorem d1_41 : decode prog_54_method_2_code 41 = .ok (.ldc2_w 17, 3) := by decide +kernel
theorem d1_44 : decode prog_54_method_2_code 44 = .ok (.lcmp, 1) := by decide +kernel
theorem d1_45 : decode prog_54_method_2_code 45 = .ok (.ifCond .lt 11, 3) := by decide +kernel
theorem d1_48 : decode prog_54_method_2_code 48 = .ok (.lload_n 0, 1) := by decide +kernel
theorem d1_49 : decode prog_54_method_2_code 49 = .ok (.ldc2_w 19, 3) := by decide +kernel
theorem d1_52 : decode prog_54_method_2_code 52 = .ok (.lcmp, 1) := by decide +kernel
theorem d1_53 : decode prog_54_method_2_code 53 = .ok (.ifCond .le 19, 3) := by decide +kernel
theorem d1_56 : decode prog_54_method_2_code 56 = .ok (.lload_n 0, 1) := by decide +kernel
theorem d1_57 : decode prog_54_method_2_code 57 = .ok (.ldc2_w 21, 3) := by decide +kernel
theorem d1_60 : decode prog_54_method_2_code 60 = .ok (.lcmp, 1) := by decide +kernel
theorem d1_61 : decode prog_54_method_2_code 61 = .ok (.ifCond .lt 15, 3) := by decide +kernel
theorem d1_64 : decode prog_54_method_2_code 64 = .ok (.lload_n 0, 1) := by decide +kernel
theorem d1_65 : decode prog_54_method_2_code 65 = .ok (.ldc2_w 25, 3) := by decide +kernel
theorem d1_68 : decode prog_54_method_2_code 68 = .ok (.lcmp, 1) := by decide +kernel
theorem d1_69 : decode prog_54_method_2_code 69 = .ok (.ifCond .gt 7, 3) := by decide +kernel
theorem d1_72 : decode prog_54_method_2_code 72 = .ok (.iconst 1, 1) := by decide +kernel
theorem d1_73 : decode prog_54_method_2_code 73 = .ok (.goto 4, 3) := by decide +kernel
theorem d1_76 : decode prog_54_method_2_code 76 = .ok (.iconst 0, 1) := by decide +kernel
theorem d1_77 : decode prog_54_method_2_code 77 = .ok (.ireturn, 1) := by decide +kernel
theorem own_pn1 : plainFor (⟨"com/example/tokenweave/tokenweave/codec/XmlChars", "isChar", "(J)Z"⟩ : MethodName) = true := by first | exact plainFor_of_name (by first | (simp [plainName, overriddenIn, x]; done) | decide +kernel) | decide +kernel
theorem own_ef1 (p1 : Int64) (m : MethodId) : entryFrame m #[(.long p1)] 2 = mkF m 0 #[.val (.long p1), .second] [] := by
  first | (simp [entryFrame, mkF, argsToLocals, Value.category]; done) | rfl
theorem own_pd1 : parseMethodDescriptor "(J)Z" = some ⟨[.long], some .boolean⟩ := by decide +kernel
def own_f1 (p1 : Int64) : Int32 := (if p1 = (9 : Int64) then (1 : Int32) else (if p1 = (10 : Int64) then (1 : Int32) else (if p1 = (13 : Int64) then (1 : Int32) else (if p1 < (32 : Int64) then (if p1 < (57344 : Int64) then (if p1 < (65536 : Int64) then (0 : Int32) else (if (1114111 : Int64) < p1 then (0 : Int32) else (1 : Int32))) else (if (65533 : Int64) < p1 then (if p1 < (65536 : Int64) then (0 : Int32) else (if (1114111 : Int64) < p1 then (0 : Int32) else (1 : Int32))) else (1 : Int32))) else (if (55295 : Int64) < p1 then (if p1 < (57344 : Int64) then (if p1 < (65536 : Int64) then (0 : Int32) else (if (1114111 : Int64) < p1 then (0 : Int32) else (1 : Int32))) else (if (65533 : Int64) < p1 then (if p1 < (65536 : Int64) then (0 : Int32) else (if (1114111 : Int64) < p1 then (0 : Int32) else (1 : Int32))) else (1 : Int32))) else (1 : Int32))))))
set_option maxRecDepth 65536 in
set_option maxHeartbeats 40000000 in
theorem own_m1 (l : Launch) (Z : State) (a0 : Array Value) (hw : ∀ d ∈ tables_1, d.before a0 Z = true) (ws : List Jvm.Cond) (p1 : Int64) (h0 : Heap) (n0 : Nat) :
    own_Met l Z (⟨"com/example/tokenweave/tokenweave/codec/XmlChars", "isChar", "(J)Z"⟩ : MethodName) prog_54_method_2_code 2 (some .boolean) ws ({ frames := 0, cells := 0, slots := 0, locals := 0 } : Room) #[(.long p1)] h0 n0 (fun v h => v = some (.int (own_f1 p1)) ∧ h0 = h) := by
  refine own_enter (own := "com/example/tokenweave/tokenweave/codec/XmlChars") (nm := "isChar") rfl rfl own_pn1 (own_ef1 p1) ?_
  intro p e s m below meth c T0 X0
  refine own_lloadN X0 d1_0 rfl rfl ?_
  refine own_ldc2J X0 (v := (9 : Int64)) d1_1 rfl (hw _ (List.mem_of_getElem? (i := 22) rfl)) ?_
  refine own_lcmp_eq X0 d1_4 rfl d1_5 (by decide) (pcT := 72) (by decide) rfl (fun hc1 => ?_) (fun hc1 => ?_)
  · skip
    refine own_iconst X0 (1 : Int32) d1_72 rfl (by decide) ?_
    refine own_goto X0 d1_73 (by decide) (pc' := 77) (by decide) ?_
    exact own_retZ X0 rfl d1_77 rfl ⟨by rw [own_f1, if_pos hc1], rfl⟩ (Nat.le_refl _) (Nat.le_refl _)
  · skip
    refine own_lloadN X0 d1_8 rfl rfl ?_
    refine own_ldc2J X0 (v := (10 : Int64)) d1_9 rfl (hw _ (List.mem_of_getElem? (i := 23) rfl)) ?_
    refine own_lcmp_eq X0 d1_12 rfl d1_13 (by decide) (pcT := 72) (by decide) rfl (fun hc2 => ?_) (fun hc2 => ?_)
    · skip
      refine own_iconst X0 (1 : Int32) d1_72 rfl (by decide) ?_
      refine own_goto X0 d1_73 (by decide) (pc' := 77) (by decide) ?_
      exact own_retZ X0 rfl d1_77 rfl ⟨by rw [own_f1, if_neg hc1, if_pos hc2], rfl⟩ (Nat.le_refl _) (Nat.le_refl _)
    · skip
      refine own_lloadN X0 d1_16 rfl rfl ?_
      refine own_ldc2J X0 (v := (13 : Int64)) d1_17 rfl (hw _ (List.mem_of_getElem? (i := 24) rfl)) ?_
      refine own_lcmp_eq X0 d1_20 rfl d1_21 (by decide) (pcT := 72) (by decide) rfl (fun hc3 => ?_) (fun hc3 => ?_)
      · skip
        refine own_iconst X0 (1 : Int32) d1_72 rfl (by decide) ?_
        refine own_goto X0 d1_73 (by decide) (pc' := 77) (by decide) ?_
        exact own_retZ X0 rfl d1_77 rfl ⟨by rw [own_f1, if_neg hc1, if_neg hc2, if_pos hc3], rfl⟩ (Nat.le_refl _) (Nat.le_refl _)
      · skip
        refine own_lloadN X0 d1_24 rfl rfl ?_
        refine own_ldc2J X0 (v := (32 : Int64)) d1_25 rfl (hw _ (List.mem_of_getElem? (i := 25) rfl)) ?_
        refine own_lcmp_lt X0 d1_28 rfl d1_29 (by decide) (pcT := 40) (by decide) rfl (fun hc4 => ?_) (fun hc4 => ?_)
        · skip
          refine own_lloadN X0 d1_40 rfl rfl ?_
          refine own_ldc2J X0 (v := (57344 : Int64)) d1_41 rfl (hw _ (List.mem_of_getElem? (i := 26) rfl)) ?_
          refine own_lcmp_lt X0 d1_44 rfl d1_45 (by decide) (pcT := 56) (by decide) rfl (fun hc5 => ?_) (fun hc5 => ?_)
          · skip
            refine own_lloadN X0 d1_56 rfl rfl ?_
            refine own_ldc2J X0 (v := (65536 : Int64)) d1_57 rfl (hw _ (List.mem_of_getElem? (i := 27) rfl)) ?_
            refine own_lcmp_lt X0 d1_60 rfl d1_61 (by decide) (pcT := 76) (by decide) rfl (fun hc6 => ?_) (fun hc6 => ?_)
            · skip
              refine own_iconst X0 (0 : Int32) d1_76 rfl (by decide) ?_
              exact own_retZ X0 rfl d1_77 rfl ⟨by rw [own_f1, if_neg hc1, if_neg hc2, if_neg hc3, if_pos hc4, if_pos hc5, if_pos hc6], rfl⟩ (Nat.le_refl _) (Nat.le_refl _)
            · skip
              refine own_lloadN X0 d1_64 rfl rfl ?_
              refine own_ldc2J X0 (v := (1114111 : Int64)) d1_65 rfl (hw _ (List.mem_of_getElem? (i := 34) rfl)) ?_
              refine own_lcmp_gt X0 d1_68 rfl d1_69 (by decide) (pcT := 76) (by decide) rfl (fun hc7 => ?_) (fun hc7 => ?_)
              · skip
                refine own_iconst X0 (0 : Int32) d1_76 rfl (by decide) ?_
                exact own_retZ X0 rfl d1_77 rfl ⟨by rw [own_f1, if_neg hc1, if_neg hc2, if_neg hc3, if_pos hc4, if_pos hc5, if_neg hc6, if_pos hc7], rfl⟩ (Nat.le_refl _) (Nat.le_refl _)
              · skip
                refine own_iconst X0 (1 : Int32) d1_72 rfl (by decide) ?_
                refine own_goto X0 d1_73 (by decide) (pc' := 77) (by decide) ?_
                exact own_retZ X0 rfl d1_77 rfl ⟨by rw [own_f1, if_neg hc1, if_neg hc2, if_neg hc3, if_pos hc4, if_pos hc5, if_neg hc6, if_neg hc7], rfl⟩ (Nat.le_refl _) (Nat.le_refl _)
          · skip
            refine own_lloadN X0 d1_48 rfl rfl ?_
            refine own_ldc2J X0 (v := (65533 : Int64)) d1_49 rfl (hw _ (List.mem_of_getElem? (i := 33) rfl)) ?_
            refine own_lcmp_le X0 d1_52 rfl d1_53 (by decide) (pcT := 72) (by decide) rfl (fun hc8 => ?_) (fun hc8 => ?_)
            · skip
              refine own_iconst X0 (1 : Int32) d1_72 rfl (by decide) ?_
              refine own_goto X0 d1_73 (by decide) (pc' := 77) (by decide) ?_
              exact own_retZ X0 rfl d1_77 rfl ⟨by rw [own_f1, if_neg hc1, if_neg hc2, if_neg hc3, if_pos hc4, if_neg hc5, if_neg hc8], rfl⟩ (Nat.le_refl _) (Nat.le_refl _)
            · skip
              refine own_lloadN X0 d1_56 rfl rfl ?_
              refine own_ldc2J X0 (v := (65536 : Int64)) d1_57 rfl (hw _ (List.mem_of_getElem? (i := 27) rfl)) ?_
              refine own_lcmp_lt X0 d1_60 rfl d1_61 (by decide) (pcT := 76) (by decide) rfl (fun hc9 => ?_) (fun hc9 => ?_)
              · skip
                refine own_iconst X0 (0 : Int32) d1_76 rfl (by decide) ?_
                exact own_retZ X0 rfl d1_77 rfl ⟨by rw [own_f1, if_neg hc1, if_neg hc2, if_neg hc3, if_pos hc4, if_neg hc5, if_pos hc8, if_pos hc9], rfl⟩ (Nat.le_refl _) (Nat.le_refl _)
              · skip
                refine own_lloadN X0 d1_64 rfl rfl ?_
                refine own_ldc2J X0 (v := (1114111 : Int64)) d1_65 rfl (hw _ (List.mem_of_getElem? (i := 34) rfl)) ?_
                refine own_lcmp_gt X0 d1_68 rfl d1_69 (by decide) (pcT := 76) (by decide) rfl (fun hc10 => ?_) (fun hc10 => ?_)
                · skip
                  refine own_iconst X0 (0 : Int32) d1_76 rfl (by decide) ?_
                  exact own_retZ X0 rfl d1_77 rfl ⟨by rw [own_f1, if_neg hc1, if_neg hc2, if_neg hc3, if_pos hc4, if_neg hc5, if_pos hc8, if_neg hc9, if_pos hc10], rfl⟩ (Nat.le_refl _) (Nat.le_refl _)
                · skip
                  refine own_iconst X0 (1 : Int32) d1_72 rfl (by decide) ?_
                  refine own_goto X0 d1_73 (by decide) (pc' := 77) (by decide) ?_
                  exact own_retZ X0 rfl d1_77 rfl ⟨by rw [own_f1, if_neg hc1, if_neg hc2, if_neg hc3, if_pos hc4, if_neg hc5, if_pos hc8, if_neg hc9, if_neg hc10], rfl⟩ (Nat.le_refl _) (Nat.le_refl _)
        · skip
          refine own_lloadN X0 d1_32 rfl rfl ?_
          refine own_ldc2J X0 (v := (55295 : Int64)) d1_33 rfl (hw _ (List.mem_of_getElem? (i := 32) rfl)) ?_
          refine own_lcmp_le X0 d1_36 rfl d1_37 (by decide) (pcT := 72) (by decide) rfl (fun hc11 => ?_) (fun hc11 => ?_)
          · skip
            refine own_iconst X0 (1 : Int32) d1_72 rfl (by decide) ?_
            refine own_goto X0 d1_73 (by decide) (pc' := 77) (by decide) ?_
            exact own_retZ X0 rfl d1_77 rfl ⟨by rw [own_f1, if_neg hc1, if_neg hc2, if_neg hc3, if_neg hc4, if_neg hc11], rfl⟩ (Nat.le_refl _) (Nat.le_refl _)
          · skip
            refine own_lloadN X0 d1_40 rfl rfl ?_
            refine own_ldc2J X0 (v := (57344 : Int64)) d1_41 rfl (hw _ (List.mem_of_getElem? (i := 26) rfl)) ?_
            refine own_lcmp_lt X0 d1_44 rfl d1_45 (by decide) (pcT := 56) (by decide) rfl (fun hc12 => ?_) (fun hc12 => ?_)
            · skip
              refine own_lloadN X0 d1_56 rfl rfl ?_
              refine own_ldc2J X0 (v := (65536 : Int64)) d1_57 rfl (hw _ (List.mem_of_getElem? (i := 27) rfl)) ?_
              refine own_lcmp_lt X0 d1_60 rfl d1_61 (by decide) (pcT := 76) (by decide) rfl (fun hc13 => ?_) (fun hc13 => ?_)
              · skip
                refine own_iconst X0 (0 : Int32) d1_76 rfl (by decide) ?_
                exact own_retZ X0 rfl d1_77 rfl ⟨by rw [own_f1, if_neg hc1, if_neg hc2, if_neg hc3, if_neg hc4, if_pos hc11, if_pos hc12, if_pos hc13], rfl⟩ (Nat.le_refl _) (Nat.le_refl _)
              · skip
                refine own_lloadN X0 d1_64 rfl rfl ?_
                refine own_ldc2J X0 (v := (1114111 : Int64)) d1_65 rfl (hw _ (List.mem_of_getElem? (i := 34) rfl)) ?_
                refine own_lcmp_gt X0 d1_68 rfl d1_69 (by decide) (pcT := 76) (by decide) rfl (fun hc14 => ?_) (fun hc14 => ?_)
                · skip
                  refine own_iconst X0 (0 : Int32) d1_76 rfl (by decide) ?_
                  exact own_retZ X0 rfl d1_77 rfl ⟨by rw [own_f1, if_neg hc1, if_neg hc2, if_neg hc3, if_neg hc4, if_pos hc11, if_pos hc12, if_neg hc13, if_pos hc14], rfl⟩ (Nat.le_refl _) (Nat.le_refl _)
                · skip
                  refine own_iconst X0 (1 : Int32) d1_72 rfl (by decide) ?_
                  refine own_goto X0 d1_73 (by decide) (pc' := 77) (by decide) ?_
                  exact own_retZ X0 rfl d1_77 rfl ⟨by rw [own_f1, if_neg hc1, if_neg hc2, if_neg hc3, if_neg hc4, if_pos hc11, if_pos hc12, if_neg hc13, if_neg hc14], rfl⟩ (Nat.le_refl _) (Nat.le_refl _)
            · skip
              refine own_lloadN X0 d1_48 rfl rfl ?_
              refine own_ldc2J X0 (v := (65533 : Int64)) d1_49 rfl (hw _ (List.mem_of_getElem? (i := 33) rfl)) ?_
              refine own_lcmp_le X0 d1_52 rfl d1_53 (by decide) (pcT := 72) (by decide) rfl (fun hc15 => ?_) (fun hc15 => ?_)
              · skip
                refine own_iconst X0 (1 : Int32) d1_72 rfl (by decide) ?_
                refine own_goto X0 d1_73 (by decide) (pc' := 77) (by decide) ?_
                exact own_retZ X0 rfl d1_77 rfl ⟨by rw [own_f1, if_neg hc1, if_neg hc2, if_neg hc3, if_neg hc4, if_pos hc11, if_neg hc12, if_neg hc15], rfl⟩ (Nat.le_refl _) (Nat.le_refl _)
              · skip
                refine own_lloadN X0 d1_56 rfl rfl ?_
                refine own_ldc2J X0 (v := (65536 : Int64)) d1_57 rfl (hw _ (List.mem_of_getElem? (i := 27) rfl)) ?_
                refine own_lcmp_lt X0 d1_60 rfl d1_61 (by decide) (pcT := 76) (by decide) rfl (fun hc16 => ?_) (fun hc16 => ?_)
                · skip
                  refine own_iconst X0 (0 : Int32) d1_76 rfl (by decide) ?_
                  exact own_retZ X0 rfl d1_77 rfl ⟨by rw [own_f1, if_neg hc1, if_neg hc2, if_neg hc3, if_neg hc4, if_pos hc11, if_neg hc12, if_pos hc15, if_pos hc16], rfl⟩ (Nat.le_refl _) (Nat.le_refl _)
                · skip
                  refine own_lloadN X0 d1_64 rfl rfl ?_
                  refine own_ldc2J X0 (v := (1114111 : Int64)) d1_65 rfl (hw _ (List.mem_of_getElem? (i := 34) rfl)) ?_
                  refine own_lcmp_gt X0 d1_68 rfl d1_69 (by decide) (pcT := 76) (by decide) rfl (fun hc17 => ?_) (fun hc17 => ?_)
                  · skip
                    refine own_iconst X0 (0 : Int32) d1_76 rfl (by decide) ?_
                    exact own_retZ X0 rfl d1_77 rfl ⟨by rw [own_f1, if_neg hc1, if_neg hc2, if_neg hc3, if_neg hc4, if_pos hc11, if_neg hc12, if_pos hc15, if_neg hc16, if_pos hc17], rfl⟩ (Nat.le_refl _) (Nat.le_refl _)
                  · skip
                    refine own_iconst X0 (1 : Int32) d1_72 rfl (by decide) ?_
                    refine own_goto X0 d1_73 (by decide) (pc' := 77) (by decide) ?_
                    exact own_retZ X0 rfl d1_77 rfl ⟨by rw [own_f1, if_neg hc1, if_neg hc2, if_neg hc3, if_neg hc4, if_pos hc11, if_neg hc12, if_pos hc15, if_neg hc16, if_neg hc17], rfl⟩ (Nat.le_refl _) (Nat.le_refl _)
theorem d2_0 : decode method_2_code 0 = .ok (.lload_n 0, 1) := by decide +kernel
theorem d2_1 : decode method_2_code 1 = .ok (.lconst 0, 1) := by decide +kernel
theorem d2_2 : decode method_2_code 2 = .ok (.lcmp, 1) := by decide +kernel
theorem d2_3 : decode method_2_code 3 = .ok (.ifCond .lt 11, 3) := by decide +kernel
theorem d2_6 : decode method_2_code 6 = .ok (.lload_n 0, 1) := by decide +kernel
theorem d2_7 : decode method_2_code 7 = .ok (.ldc2_w 7, 3) := by decide +kernel
theorem d2_10 : decode method_2_code 10 = .ok (.lcmp, 1) := by decide +kernel
theorem d2_11 : decode method_2_code 11 = .ok (.ifCond .le 5, 3) := by decide +kernel
theorem d2_14 : decode method_2_code 14 = .ok (.iconst 0, 1) := by decide +kernel
theorem d2_15 : decode method_2_code 15 = .ok (.ireturn, 1) := by decide +kernel
theorem d2_16 : decode method_2_code 16 = .ok (.lload_n 0, 1) := by decide +kernel
theorem d2_17 : decode method_2_code 17 = .ok (.ldc2_w 9, 3) := by decide +kernel
theorem d2_20 : decode method_2_code 20 = .ok (.lcmp, 1) := by decide +kernel
theorem d2_21 : decode method_2_code 21 = .ok (.ifCond .ge 33, 3) := by decide +kernel
theorem d2_24 : decode method_2_code 24 = .ok (.lload_n 0, 1) := by decide +kernel
theorem d2_25 : decode method_2_code 25 = .ok (.ldc2_w 11, 3) := by decide +kernel
theorem d2_28 : decode method_2_code 28 = .ok (.lcmp, 1) := by decide +kernel
theorem d2_29 : decode method_2_code 29 = .ok (.ifCond .eq 19, 3) := by decide +kernel
theorem d2_32 : decode method_2_code 32 = .ok (.lload_n 0, 1) := by decide +kernel
theorem d2_33 : decode method_2_code 33 = .ok (.ldc2_w 13, 3) := by decide +kernel
theorem d2_36 : decode method_2_code 36 = .ok (.lcmp, 1) := by decide +kernel
theorem d2_37 : decode method_2_code 37 = .ok (.ifCond .eq 11, 3) := by decide +kernel
theorem d2_40 : decode method_2_code 40 = .ok (.lload_n 0, 1) := by decide +kernel
theorem d2_41 : decode method_2_code 41 = .ok (.ldc2_w 15, 3) := by decide +kernel
theorem d2_44 : decode method_2_code 44 = .ok (.lcmp, 1) := by decide +kernel
theorem d2_45 : decode method_2_code 45 = .ok (.ifCond .ne 7, 3) := by decide +kernel
theorem d2_48 : decode method_2_code 48 = .ok (.iconst 1, 1) := by decide +kernel
theorem d2_49 : decode method_2_code 49 = .ok (.goto 4, 3) := by decide +kernel
theorem d2_52 : decode method_2_code 52 = .ok (.iconst 0, 1) := by decide +kernel
theorem d2_53 : decode method_2_code 53 = .ok (.ireturn, 1) := by decide +kernel
theorem d2_54 : decode method_2_code 54 = .ok (.lload_n 0, 1) := by decide +kernel
theorem d2_55 : decode method_2_code 55 = .ok (.ldc2_w 17, 3) := by decide +kernel
theorem d2_58 : decode method_2_code 58 = .ok (.lcmp, 1) := by decide +kernel
theorem d2_59 : decode method_2_code 59 = .ok (.ifCond .lt 13, 3) := by decide +kernel
theorem d2_62 : decode method_2_code 62 = .ok (.lload_n 0, 1) := by decide +kernel
theorem d2_63 : decode method_2_code 63 = .ok (.ldc2_w 19, 3) := by decide +kernel
theorem d2_66 : decode method_2_code 66 = .ok (.lcmp, 1) := by decide +kernel
theorem d2_67 : decode method_2_code 67 = .ok (.ifCond .gt 5, 3) := by decide +kernel
theorem d2_70 : decode method_2_code 70 = .ok (.iconst 0, 1) := by decide +kernel
theorem d2_71 : decode method_2_code 71 = .ok (.ireturn, 1) := by decide +kernel
theorem d2_72 : decode method_2_code 72 = .ok (.lload_n 0, 1) := by decide +kernel
theorem d2_73 : decode method_2_code 73 = .ok (.ldc2_w 21, 3) := by decide +kernel
theorem d2_76 : decode method_2_code 76 = .ok (.lcmp, 1) := by decide +kernel
theorem d2_77 : decode method_2_code 77 = .ok (.ifCond .eq 11, 3) := by decide +kernel
theorem d2_80 : decode method_2_code 80 = .ok (.lload_n 0, 1) := by decide +kernel
theorem d2_81 : decode method_2_code 81 = .ok (.ldc2_w 23, 3) := by decide +kernel
theorem d2_84 : decode method_2_code 84 = .ok (.lcmp, 1) := by decide +kernel
theorem d2_85 : decode method_2_code 85 = .ok (.ifCond .ne 5, 3) := by decide +kernel
theorem d2_88 : decode method_2_code 88 = .ok (.iconst 0, 1) := by decide +kernel
theorem d2_89 : decode method_2_code 89 = .ok (.ireturn, 1) := by decide +kernel
theorem d2_90 : decode method_2_code 90 = .ok (.iconst 1, 1) := by decide +kernel
theorem d2_91 : decode method_2_code 91 = .ok (.ireturn, 1) := by decide +kernel
theorem own_pn2 : plainFor (⟨"com/example/tokenweave/tokenweave/codec/XmlCharsIsCharPinLaw", "ref", "(J)Z"⟩ : MethodName) = true := by first | exact plainFor_of_name (by first | (simp [plainName, overriddenIn, x]; done) | decide +kernel) | decide +kernel
theorem own_ef2 (p1 : Int64) (m : MethodId) : entryFrame m #[(.long p1)] 2 = mkF m 0 #[.val (.long p1), .second] [] := by
  first | (simp [entryFrame, mkF, argsToLocals, Value.category]; done) | rfl
theorem own_pd2 : parseMethodDescriptor "(J)Z" = some ⟨[.long], some .boolean⟩ := by decide +kernel
def own_f2 (p1 : Int64) : Int32 := (if p1 < (0 : Int64) then (0 : Int32) else (if (1114111 : Int64) < p1 then (0 : Int32) else (if p1 < (32 : Int64) then (if p1 = (9 : Int64) then (1 : Int32) else (if p1 = (10 : Int64) then (1 : Int32) else (if p1 = (13 : Int64) then (1 : Int32) else (0 : Int32)))) else (if p1 < (55296 : Int64) then (if p1 = (65534 : Int64) then (0 : Int32) else (if p1 = (65535 : Int64) then (0 : Int32) else (1 : Int32))) else (if (57343 : Int64) < p1 then (if p1 = (65534 : Int64) then (0 : Int32) else (if p1 = (65535 : Int64) then (0 : Int32) else (1 : Int32))) else (0 : Int32))))))
set_option maxRecDepth 65536 in
set_option maxHeartbeats 40000000 in
theorem own_m2 (l : Launch) (Z : State) (a0 : Array Value) (hw : ∀ d ∈ tables_1, d.before a0 Z = true) (ws : List Jvm.Cond) (p1 : Int64) (h0 : Heap) (n0 : Nat) :
    own_Met l Z (⟨"com/example/tokenweave/tokenweave/codec/XmlCharsIsCharPinLaw", "ref", "(J)Z"⟩ : MethodName) method_2_code 2 (some .boolean) ws ({ frames := 0, cells := 0, slots := 0, locals := 0 } : Room) #[(.long p1)] h0 n0 (fun v h => v = some (.int (own_f2 p1)) ∧ h0 = h) := by
  refine own_enter (own := "com/example/tokenweave/tokenweave/codec/XmlCharsIsCharPinLaw") (nm := "ref") rfl rfl own_pn2 (own_ef2 p1) ?_
  intro p e s m below meth c T0 X0
  refine own_lloadN X0 d2_0 rfl rfl ?_
  refine own_lconst X0 (0 : Int64) d2_1 rfl (by decide) ?_
  refine own_lcmp_lt X0 d2_2 rfl d2_3 (by decide) (pcT := 14) (by decide) rfl (fun hc1 => ?_) (fun hc1 => ?_)
  · skip
    refine own_iconst X0 (0 : Int32) d2_14 rfl (by decide) ?_
    exact own_retZ X0 rfl d2_15 rfl ⟨by rw [own_f2, if_pos hc1], rfl⟩ (Nat.le_refl _) (Nat.le_refl _)
  · skip
    refine own_lloadN X0 d2_6 rfl rfl ?_
    refine own_ldc2J X0 (v := (1114111 : Int64)) d2_7 rfl (hw _ (List.mem_of_getElem? (i := 12) rfl)) ?_
    refine own_lcmp_le X0 d2_10 rfl d2_11 (by decide) (pcT := 16) (by decide) rfl (fun hc2 => ?_) (fun hc2 => ?_)
    · skip
      refine own_lloadN X0 d2_16 rfl rfl ?_
      refine own_ldc2J X0 (v := (32 : Int64)) d2_17 rfl (hw _ (List.mem_of_getElem? (i := 4) rfl)) ?_
      refine own_lcmp_ge X0 d2_20 rfl d2_21 (by decide) (pcT := 54) (by decide) rfl (fun hc3 => ?_) (fun hc3 => ?_)
      · skip
        refine own_lloadN X0 d2_54 rfl rfl ?_
        refine own_ldc2J X0 (v := (55296 : Int64)) d2_55 rfl (hw _ (List.mem_of_getElem? (i := 6) rfl)) ?_
        refine own_lcmp_lt X0 d2_58 rfl d2_59 (by decide) (pcT := 72) (by decide) rfl (fun hc4 => ?_) (fun hc4 => ?_)
        · skip
          refine own_lloadN X0 d2_72 rfl rfl ?_
          refine own_ldc2J X0 (v := (65534 : Int64)) d2_73 rfl (hw _ (List.mem_of_getElem? (i := 35) rfl)) ?_
          refine own_lcmp_eq X0 d2_76 rfl d2_77 (by decide) (pcT := 88) (by decide) rfl (fun hc5 => ?_) (fun hc5 => ?_)
          · skip
            refine own_iconst X0 (0 : Int32) d2_88 rfl (by decide) ?_
            exact own_retZ X0 rfl d2_89 rfl ⟨by rw [own_f2, if_neg hc1, if_neg hc2, if_neg hc3, if_pos hc4, if_pos hc5], rfl⟩ (Nat.le_refl _) (Nat.le_refl _)
          · skip
            refine own_lloadN X0 d2_80 rfl rfl ?_
            refine own_ldc2J X0 (v := (65535 : Int64)) d2_81 rfl (hw _ (List.mem_of_getElem? (i := 10) rfl)) ?_
            refine own_lcmp_ne X0 d2_84 rfl d2_85 (by decide) (pcT := 90) (by decide) rfl (fun hc6 => ?_) (fun hc6 => ?_)
            · skip
              refine own_iconst X0 (1 : Int32) d2_90 rfl (by decide) ?_
              exact own_retZ X0 rfl d2_91 rfl ⟨by rw [own_f2, if_neg hc1, if_neg hc2, if_neg hc3, if_pos hc4, if_neg hc5, if_neg hc6], rfl⟩ (Nat.le_refl _) (Nat.le_refl _)
            · skip
              refine own_iconst X0 (0 : Int32) d2_88 rfl (by decide) ?_
              exact own_retZ X0 rfl d2_89 rfl ⟨by rw [own_f2, if_neg hc1, if_neg hc2, if_neg hc3, if_pos hc4, if_neg hc5, if_pos hc6], rfl⟩ (Nat.le_refl _) (Nat.le_refl _)
        · skip
          refine own_lloadN X0 d2_62 rfl rfl ?_
          refine own_ldc2J X0 (v := (57343 : Int64)) d2_63 rfl (hw _ (List.mem_of_getElem? (i := 7) rfl)) ?_
          refine own_lcmp_gt X0 d2_66 rfl d2_67 (by decide) (pcT := 72) (by decide) rfl (fun hc7 => ?_) (fun hc7 => ?_)
          · skip
            refine own_lloadN X0 d2_72 rfl rfl ?_
            refine own_ldc2J X0 (v := (65534 : Int64)) d2_73 rfl (hw _ (List.mem_of_getElem? (i := 35) rfl)) ?_
            refine own_lcmp_eq X0 d2_76 rfl d2_77 (by decide) (pcT := 88) (by decide) rfl (fun hc8 => ?_) (fun hc8 => ?_)
            · skip
              refine own_iconst X0 (0 : Int32) d2_88 rfl (by decide) ?_
              exact own_retZ X0 rfl d2_89 rfl ⟨by rw [own_f2, if_neg hc1, if_neg hc2, if_neg hc3, if_neg hc4, if_pos hc7, if_pos hc8], rfl⟩ (Nat.le_refl _) (Nat.le_refl _)
            · skip
              refine own_lloadN X0 d2_80 rfl rfl ?_
              refine own_ldc2J X0 (v := (65535 : Int64)) d2_81 rfl (hw _ (List.mem_of_getElem? (i := 10) rfl)) ?_
              refine own_lcmp_ne X0 d2_84 rfl d2_85 (by decide) (pcT := 90) (by decide) rfl (fun hc9 => ?_) (fun hc9 => ?_)
              · skip
                refine own_iconst X0 (1 : Int32) d2_90 rfl (by decide) ?_
                exact own_retZ X0 rfl d2_91 rfl ⟨by rw [own_f2, if_neg hc1, if_neg hc2, if_neg hc3, if_neg hc4, if_pos hc7, if_neg hc8, if_neg hc9], rfl⟩ (Nat.le_refl _) (Nat.le_refl _)
              · skip
                refine own_iconst X0 (0 : Int32) d2_88 rfl (by decide) ?_
                exact own_retZ X0 rfl d2_89 rfl ⟨by rw [own_f2, if_neg hc1, if_neg hc2, if_neg hc3, if_neg hc4, if_pos hc7, if_neg hc8, if_pos hc9], rfl⟩ (Nat.le_refl _) (Nat.le_refl _)
          · skip
            refine own_iconst X0 (0 : Int32) d2_70 rfl (by decide) ?_
            exact own_retZ X0 rfl d2_71 rfl ⟨by rw [own_f2, if_neg hc1, if_neg hc2, if_neg hc3, if_neg hc4, if_neg hc7], rfl⟩ (Nat.le_refl _) (Nat.le_refl _)
      · skip
        refine own_lloadN X0 d2_24 rfl rfl ?_
        refine own_ldc2J X0 (v := (9 : Int64)) d2_25 rfl (hw _ (List.mem_of_getElem? (i := 1) rfl)) ?_
        refine own_lcmp_eq X0 d2_28 rfl d2_29 (by decide) (pcT := 48) (by decide) rfl (fun hc10 => ?_) (fun hc10 => ?_)
        · skip
          refine own_iconst X0 (1 : Int32) d2_48 rfl (by decide) ?_
          refine own_goto X0 d2_49 (by decide) (pc' := 53) (by decide) ?_
          exact own_retZ X0 rfl d2_53 rfl ⟨by rw [own_f2, if_neg hc1, if_neg hc2, if_pos hc3, if_pos hc10], rfl⟩ (Nat.le_refl _) (Nat.le_refl _)
        · skip
          refine own_lloadN X0 d2_32 rfl rfl ?_
          refine own_ldc2J X0 (v := (10 : Int64)) d2_33 rfl (hw _ (List.mem_of_getElem? (i := 2) rfl)) ?_
          refine own_lcmp_eq X0 d2_36 rfl d2_37 (by decide) (pcT := 48) (by decide) rfl (fun hc11 => ?_) (fun hc11 => ?_)
          · skip
            refine own_iconst X0 (1 : Int32) d2_48 rfl (by decide) ?_
            refine own_goto X0 d2_49 (by decide) (pc' := 53) (by decide) ?_
            exact own_retZ X0 rfl d2_53 rfl ⟨by rw [own_f2, if_neg hc1, if_neg hc2, if_pos hc3, if_neg hc10, if_pos hc11], rfl⟩ (Nat.le_refl _) (Nat.le_refl _)
          · skip
            refine own_lloadN X0 d2_40 rfl rfl ?_
            refine own_ldc2J X0 (v := (13 : Int64)) d2_41 rfl (hw _ (List.mem_of_getElem? (i := 3) rfl)) ?_
            refine own_lcmp_ne X0 d2_44 rfl d2_45 (by decide) (pcT := 52) (by decide) rfl (fun hc12 => ?_) (fun hc12 => ?_)
            · skip
              refine own_iconst X0 (0 : Int32) d2_52 rfl (by decide) ?_
              exact own_retZ X0 rfl d2_53 rfl ⟨by rw [own_f2, if_neg hc1, if_neg hc2, if_pos hc3, if_neg hc10, if_neg hc11, if_neg hc12], rfl⟩ (Nat.le_refl _) (Nat.le_refl _)
            · skip
              refine own_iconst X0 (1 : Int32) d2_48 rfl (by decide) ?_
              refine own_goto X0 d2_49 (by decide) (pc' := 53) (by decide) ?_
              exact own_retZ X0 rfl d2_53 rfl ⟨by rw [own_f2, if_neg hc1, if_neg hc2, if_pos hc3, if_neg hc10, if_neg hc11, if_pos hc12], rfl⟩ (Nat.le_refl _) (Nat.le_refl _)
    · skip
      refine own_iconst X0 (0 : Int32) d2_14 rfl (by decide) ?_
      exact own_retZ X0 rfl d2_15 rfl ⟨by rw [own_f2, if_neg hc1, if_pos hc2], rfl⟩ (Nat.le_refl _) (Nat.le_refl _)

theorem own_core (t : Int64) : own_f1 t = own_f2 t := by
  have L : ∀ k : Int64, (t < k ↔ t.toInt < k.toInt) := fun k => Int64.lt_iff_toInt_lt
  have U : ∀ k : Int64, (k < t ↔ k.toInt < t.toInt) := fun k => Int64.lt_iff_toInt_lt
  have E : ∀ k : Int64, (t = k ↔ t.toInt = k.toInt) := fun k => Int64.toInt_inj.symm
  unfold own_f1 own_f2
  simp only [L, U, E, Int64.reduceToInt]
  generalize t.toInt = n
  split <;> split <;> first | rfl | omega | skip
  all_goals (repeat' split) <;> first | rfl | omega
theorem own_idx (x : Int32) : ¬ ((x &&& (2147483647 : Int32)) % (16 : Int32) < 0 ∨ 16 ≤ ((x &&& (2147483647 : Int32)) % (16 : Int32)).toNatClampNeg) := by
  have h1 : 0 ≤ (x &&& (2147483647 : Int32)).toInt := (c_andS x 2147483647).2.2 (by decide)
  have h2 : ((x &&& (2147483647 : Int32)) % (16 : Int32)).toInt = (x &&& (2147483647 : Int32)).toInt % 16 := (Int32.toInt_mod _ _).trans (Int.tmod_eq_emod_of_nonneg h1)
  simp only [Int32.lt_iff_toInt_lt, Int32.toNatClampNeg, h2, Int32.reduceToInt]
  omega
theorem own_pnlaw : plainFor x = true := by first | exact plainFor_of_name (by first | (simp [plainName, overriddenIn, x]; done) | decide +kernel) | decide +kernel
theorem own_eflaw (p1 : Int64) (p2 : Int32) (p3 : Int32) (m : MethodId) : entryFrame m #[(.long p1), (.int p2), (.int p3)] maxLocals = mkF m 0 #[.val (.long p1), .second, .val (.int p2), .val (.int p3), .unset, .unset, .unset, .unset, .unset, .unset] [] := by
  first | (simp [entryFrame, mkF, argsToLocals, Value.category, maxLocals]; done) | rfl
set_option maxRecDepth 65536 in
set_option maxHeartbeats 40000000 in
theorem own_law (l : Launch) (Z : State) (a0 : Array Value) (hw : ∀ d ∈ tables_1, d.before a0 Z = true) (ws : List Jvm.Cond) (p1 : Int64) (p2 : Int32) (p3 : Int32) (h0 : Heap) (n0 : Nat) (Z0 : n0 ≤ h0.size) :
    own_Met l Z x code maxLocals ret ws room_1 #[(.long p1), (.int p2), (.int p3)] h0 n0 (fun v _ => v = some (.int 1)) := by
  refine own_enter (own := "com/example/tokenweave/tokenweave/codec/XmlCharsIsCharPinLaw") (nm := "law") rfl rfl own_pnlaw (own_eflaw p1 p2 p3) ?_
  intro p e s m below meth c T0 X0
  refine own_bipush X0 (16 : Int32) at_0 rfl (by decide) ?_
  refine own_newarray X0 (hw _ (List.mem_of_getElem? (i := 0) rfl)) (n := (16 : Int32)) 16 (by decide) (by decide) (by decide) at_2 rfl (cells' := 1) (slots' := 16) rfl rfl (by decide) (by decide) (fun T1 h3 cA8 a6 g7 X2 E4 A5 => ?_)
  have ge_a6 : n0 ≤ a6 := Nat.le_trans Z0 (Nat.le_of_eq g7.symm)
  have LA9 := own_LA_new (k := 16) A5 (by decide)
  refine own_dup X2 at_4 rfl rfl ?_
  refine own_iconst X2 (0 : Int32) at_5 rfl (by decide) ?_
  refine own_lconst X2 (0 : Int64) at_6 rfl (by decide) ?_
  refine own_lastoreL X2 LA9 (by decide) ge_a6 at_7 rfl (fun T10 h12 X11 LA13 => ?_)
  refine own_dup X11 at_8 rfl rfl ?_
  refine own_iconst X11 (1 : Int32) at_9 rfl (by decide) ?_
  refine own_ldc2J X11 (v := (9 : Int64)) at_10 rfl (hw _ (List.mem_of_getElem? (i := 1) rfl)) ?_
  refine own_lastoreL X11 LA13 (by decide) ge_a6 at_13 rfl (fun T14 h16 X15 LA17 => ?_)
  refine own_dup X15 at_14 rfl rfl ?_
  refine own_iconst X15 (2 : Int32) at_15 rfl (by decide) ?_
  refine own_ldc2J X15 (v := (10 : Int64)) at_16 rfl (hw _ (List.mem_of_getElem? (i := 2) rfl)) ?_
  refine own_lastoreL X15 LA17 (by decide) ge_a6 at_19 rfl (fun T18 h20 X19 LA21 => ?_)
  refine own_dup X19 at_20 rfl rfl ?_
  refine own_iconst X19 (3 : Int32) at_21 rfl (by decide) ?_
  refine own_ldc2J X19 (v := (13 : Int64)) at_22 rfl (hw _ (List.mem_of_getElem? (i := 3) rfl)) ?_
  refine own_lastoreL X19 LA21 (by decide) ge_a6 at_25 rfl (fun T22 h24 X23 LA25 => ?_)
  refine own_dup X23 at_26 rfl rfl ?_
  refine own_iconst X23 (4 : Int32) at_27 rfl (by decide) ?_
  refine own_ldc2J X23 (v := (32 : Int64)) at_28 rfl (hw _ (List.mem_of_getElem? (i := 4) rfl)) ?_
  refine own_lastoreL X23 LA25 (by decide) ge_a6 at_31 rfl (fun T26 h28 X27 LA29 => ?_)
  refine own_dup X27 at_32 rfl rfl ?_
  refine own_iconst X27 (5 : Int32) at_33 rfl (by decide) ?_
  refine own_ldc2J X27 (v := (55295 : Int64)) at_34 rfl (hw _ (List.mem_of_getElem? (i := 5) rfl)) ?_
  refine own_lastoreL X27 LA29 (by decide) ge_a6 at_37 rfl (fun T30 h32 X31 LA33 => ?_)
  refine own_dup X31 at_38 rfl rfl ?_
  refine own_bipush X31 (6 : Int32) at_39 rfl (by decide) ?_
  refine own_ldc2J X31 (v := (55296 : Int64)) at_41 rfl (hw _ (List.mem_of_getElem? (i := 6) rfl)) ?_
  refine own_lastoreL X31 LA33 (by decide) ge_a6 at_44 rfl (fun T34 h36 X35 LA37 => ?_)
  refine own_dup X35 at_45 rfl rfl ?_
  refine own_bipush X35 (7 : Int32) at_46 rfl (by decide) ?_
  refine own_ldc2J X35 (v := (57343 : Int64)) at_48 rfl (hw _ (List.mem_of_getElem? (i := 7) rfl)) ?_
  refine own_lastoreL X35 LA37 (by decide) ge_a6 at_51 rfl (fun T38 h40 X39 LA41 => ?_)
  refine own_dup X39 at_52 rfl rfl ?_
  refine own_bipush X39 (8 : Int32) at_53 rfl (by decide) ?_
  refine own_ldc2J X39 (v := (57344 : Int64)) at_55 rfl (hw _ (List.mem_of_getElem? (i := 8) rfl)) ?_
  refine own_lastoreL X39 LA41 (by decide) ge_a6 at_58 rfl (fun T42 h44 X43 LA45 => ?_)
  refine own_dup X43 at_59 rfl rfl ?_
  refine own_bipush X43 (9 : Int32) at_60 rfl (by decide) ?_
  refine own_ldc2J X43 (v := (65533 : Int64)) at_62 rfl (hw _ (List.mem_of_getElem? (i := 9) rfl)) ?_
  refine own_lastoreL X43 LA45 (by decide) ge_a6 at_65 rfl (fun T46 h48 X47 LA49 => ?_)
  refine own_dup X47 at_66 rfl rfl ?_
  refine own_bipush X47 (10 : Int32) at_67 rfl (by decide) ?_
  refine own_ldc2J X47 (v := (65535 : Int64)) at_69 rfl (hw _ (List.mem_of_getElem? (i := 10) rfl)) ?_
  refine own_lastoreL X47 LA49 (by decide) ge_a6 at_72 rfl (fun T50 h52 X51 LA53 => ?_)
  refine own_dup X51 at_73 rfl rfl ?_
  refine own_bipush X51 (11 : Int32) at_74 rfl (by decide) ?_
  refine own_ldc2J X51 (v := (65536 : Int64)) at_76 rfl (hw _ (List.mem_of_getElem? (i := 11) rfl)) ?_
  refine own_lastoreL X51 LA53 (by decide) ge_a6 at_79 rfl (fun T54 h56 X55 LA57 => ?_)
  refine own_dup X55 at_80 rfl rfl ?_
  refine own_bipush X55 (12 : Int32) at_81 rfl (by decide) ?_
  refine own_ldc2J X55 (v := (1114111 : Int64)) at_83 rfl (hw _ (List.mem_of_getElem? (i := 12) rfl)) ?_
  refine own_lastoreL X55 LA57 (by decide) ge_a6 at_86 rfl (fun T58 h60 X59 LA61 => ?_)
  refine own_dup X59 at_87 rfl rfl ?_
  refine own_bipush X59 (13 : Int32) at_88 rfl (by decide) ?_
  refine own_ldc2J X59 (v := (1114112 : Int64)) at_90 rfl (hw _ (List.mem_of_getElem? (i := 13) rfl)) ?_
  refine own_lastoreL X59 LA61 (by decide) ge_a6 at_93 rfl (fun T62 h64 X63 LA65 => ?_)
  refine own_dup X63 at_94 rfl rfl ?_
  refine own_bipush X63 (14 : Int32) at_95 rfl (by decide) ?_
  refine own_ldc2J X63 (v := ((-9223372036854775808) : Int64)) at_97 rfl (hw _ (List.mem_of_getElem? (i := 14) rfl)) ?_
  refine own_lastoreL X63 LA65 (by decide) ge_a6 at_100 rfl (fun T66 h68 X67 LA69 => ?_)
  refine own_dup X67 at_101 rfl rfl ?_
  refine own_bipush X67 (15 : Int32) at_102 rfl (by decide) ?_
  refine own_ldc2J X67 (v := (9223372036854775807 : Int64)) at_104 rfl (hw _ (List.mem_of_getElem? (i := 15) rfl)) ?_
  refine own_lastoreL X67 LA69 (by decide) ge_a6 at_107 rfl (fun T70 h72 X71 LA73 => ?_)
  refine own_astore X71 (L' := #[.val (.long p1), .second, .val (.int p2), .val (.int p3), .val (.ref a6), .unset, .unset, .unset, .unset, .unset]) at_108 rfl rfl rfl ?_
  refine own_iloadN X71 at_110 rfl rfl ?_
  refine own_ldcI X71 (v := (2147483647 : Int32)) at_111 rfl (hw _ (List.mem_of_getElem? (i := 16) rfl)) ?_
  refine own_iand X71 at_113 rfl ?_
  refine own_bipush X71 (16 : Int32) at_114 rfl (by decide) ?_
  refine own_irem X71 at_116 rfl (by decide) ?_
  refine own_istore X71 (L' := #[.val (.long p1), .second, .val (.int p2), .val (.int p3), .val (.ref a6), .val (.int ((p2 &&& (2147483647 : Int32)) % (16 : Int32))), .unset, .unset, .unset, .unset]) at_117 rfl rfl ?_
  refine own_aload X71 at_119 rfl rfl rfl ?_
  refine own_iload X71 at_121 rfl rfl ?_
  refine own_laloadL X71 LA73 (own_idx p2) at_123 rfl (fun y74 => ?_)
  refine own_iloadN X71 at_124 rfl rfl ?_
  refine own_bipush X71 (7 : Int32) at_125 rfl (by decide) ?_
  refine own_iand X71 at_127 rfl ?_
  refine own_iconst X71 (4 : Int32) at_128 rfl (by decide) ?_
  refine own_isub X71 at_129 rfl ?_
  refine own_i2l X71 at_130 rfl ?_
  refine own_ladd X71 at_131 rfl ?_
  refine own_lstore X71 (L' := #[.val (.long p1), .second, .val (.int p2), .val (.int p3), .val (.ref a6), .val (.int ((p2 &&& (2147483647 : Int32)) % (16 : Int32))), .val (.long (y74 + (((p3 &&& (7 : Int32)) - (4 : Int32)).toInt64))), .second, .unset, .unset]) at_132 rfl rfl ?_
  refine own_lloadN X71 at_134 rfl rfl ?_
  refine own_ldc2J X71 (v := (2097151 : Int64)) at_135 rfl (hw _ (List.mem_of_getElem? (i := 17) rfl)) ?_
  refine own_land X71 at_138 rfl ?_
  refine own_lstore X71 (L' := #[.val (.long p1), .second, .val (.int p2), .val (.int p3), .val (.ref a6), .val (.int ((p2 &&& (2147483647 : Int32)) % (16 : Int32))), .val (.long (y74 + (((p3 &&& (7 : Int32)) - (4 : Int32)).toInt64))), .second, .val (.long (p1 &&& (2097151 : Int64))), .second]) at_139 rfl rfl ?_
  refine own_lloadN X71 at_141 rfl rfl ?_
  refine own_callS X71 (hw _ (List.mem_of_getElem? (i := 18) rfl)) (hw _ (List.mem_of_getElem? (i := 19) rfl)) (hw _ (List.mem_of_getElem? (i := 20) rfl)) (hw _ (List.mem_of_getElem? (i := 21) rfl)) (by decide) (argsL := [(.long p1)]) (rest := []) (own_m1 l Z a0 hw [] p1 _ _) own_pd1 rfl at_142 rfl rfl rfl (W := 0) rfl (by decide) (by decide) (cells' := 1) (slots' := 16) rfl rfl (by decide) (by decide) (fun v T75 h77 X76 q78 => ?_)
  obtain ⟨rfl, rfl⟩ := q78
  show own_Fin p e below (own_End s n0 (fun v _ => v = some (.int 1)) room_1.cells room_1.slots) (T75.setTop (mkF m 145 #[.val (.long p1), .second, .val (.int p2), .val (.int p3), .val (.ref a6), .val (.int ((p2 &&& (2147483647 : Int32)) % (16 : Int32))), .val (.long (y74 + (((p3 &&& (7 : Int32)) - (4 : Int32)).toInt64))), .second, .val (.long (p1 &&& (2097151 : Int64))), .second] [(.int (own_f1 p1))]))
  refine own_lloadN X76 at_145 rfl rfl ?_
  refine own_callS X76 (hw _ (List.mem_of_getElem? (i := 28) rfl)) (hw _ (List.mem_of_getElem? (i := 29) rfl)) (hw _ (List.mem_of_getElem? (i := 30) rfl)) (hw _ (List.mem_of_getElem? (i := 31) rfl)) (by decide) (argsL := [(.long p1)]) (rest := [(.int (own_f1 p1))]) (own_m2 l Z a0 hw [] p1 _ _) own_pd2 rfl at_146 rfl rfl rfl (W := 1) rfl (by decide) (by decide) (cells' := 1) (slots' := 16) rfl rfl (by decide) (by decide) (fun v T79 h81 X80 q82 => ?_)
  obtain ⟨rfl, rfl⟩ := q82
  show own_Fin p e below (own_End s n0 (fun v _ => v = some (.int 1)) room_1.cells room_1.slots) (T79.setTop (mkF m 149 #[.val (.long p1), .second, .val (.int p2), .val (.int p3), .val (.ref a6), .val (.int ((p2 &&& (2147483647 : Int32)) % (16 : Int32))), .val (.long (y74 + (((p3 &&& (7 : Int32)) - (4 : Int32)).toInt64))), .second, .val (.long (p1 &&& (2097151 : Int64))), .second] [(.int (own_f2 p1)), (.int (own_f1 p1))]))
  refine own_icmp_ne X80 at_149 (by decide) (pcT := 182) (by decide) rfl (fun hc => absurd (own_core _) hc) (fun hc => ?_)
  refine own_lload X80 at_152 rfl rfl ?_
  refine own_callS X80 (hw _ (List.mem_of_getElem? (i := 18) rfl)) (hw _ (List.mem_of_getElem? (i := 19) rfl)) (hw _ (List.mem_of_getElem? (i := 20) rfl)) (hw _ (List.mem_of_getElem? (i := 21) rfl)) (by decide) (argsL := [(.long (y74 + (((p3 &&& (7 : Int32)) - (4 : Int32)).toInt64)))]) (rest := []) (own_m1 l Z a0 hw [] (y74 + (((p3 &&& (7 : Int32)) - (4 : Int32)).toInt64)) _ _) own_pd1 rfl at_154 rfl rfl rfl (W := 0) rfl (by decide) (by decide) (cells' := 1) (slots' := 16) rfl rfl (by decide) (by decide) (fun v T83 h85 X84 q86 => ?_)
  obtain ⟨rfl, rfl⟩ := q86
  show own_Fin p e below (own_End s n0 (fun v _ => v = some (.int 1)) room_1.cells room_1.slots) (T83.setTop (mkF m 157 #[.val (.long p1), .second, .val (.int p2), .val (.int p3), .val (.ref a6), .val (.int ((p2 &&& (2147483647 : Int32)) % (16 : Int32))), .val (.long (y74 + (((p3 &&& (7 : Int32)) - (4 : Int32)).toInt64))), .second, .val (.long (p1 &&& (2097151 : Int64))), .second] [(.int (own_f1 (y74 + (((p3 &&& (7 : Int32)) - (4 : Int32)).toInt64))))]))
  refine own_lload X84 at_157 rfl rfl ?_
  refine own_callS X84 (hw _ (List.mem_of_getElem? (i := 28) rfl)) (hw _ (List.mem_of_getElem? (i := 29) rfl)) (hw _ (List.mem_of_getElem? (i := 30) rfl)) (hw _ (List.mem_of_getElem? (i := 31) rfl)) (by decide) (argsL := [(.long (y74 + (((p3 &&& (7 : Int32)) - (4 : Int32)).toInt64)))]) (rest := [(.int (own_f1 (y74 + (((p3 &&& (7 : Int32)) - (4 : Int32)).toInt64))))]) (own_m2 l Z a0 hw [] (y74 + (((p3 &&& (7 : Int32)) - (4 : Int32)).toInt64)) _ _) own_pd2 rfl at_159 rfl rfl rfl (W := 1) rfl (by decide) (by decide) (cells' := 1) (slots' := 16) rfl rfl (by decide) (by decide) (fun v T87 h89 X88 q90 => ?_)
  obtain ⟨rfl, rfl⟩ := q90
  show own_Fin p e below (own_End s n0 (fun v _ => v = some (.int 1)) room_1.cells room_1.slots) (T87.setTop (mkF m 162 #[.val (.long p1), .second, .val (.int p2), .val (.int p3), .val (.ref a6), .val (.int ((p2 &&& (2147483647 : Int32)) % (16 : Int32))), .val (.long (y74 + (((p3 &&& (7 : Int32)) - (4 : Int32)).toInt64))), .second, .val (.long (p1 &&& (2097151 : Int64))), .second] [(.int (own_f2 (y74 + (((p3 &&& (7 : Int32)) - (4 : Int32)).toInt64)))), (.int (own_f1 (y74 + (((p3 &&& (7 : Int32)) - (4 : Int32)).toInt64))))]))
  refine own_icmp_ne X88 at_162 (by decide) (pcT := 182) (by decide) rfl (fun hc => absurd (own_core _) hc) (fun hc => ?_)
  refine own_lload X88 at_165 rfl rfl ?_
  refine own_callS X88 (hw _ (List.mem_of_getElem? (i := 18) rfl)) (hw _ (List.mem_of_getElem? (i := 19) rfl)) (hw _ (List.mem_of_getElem? (i := 20) rfl)) (hw _ (List.mem_of_getElem? (i := 21) rfl)) (by decide) (argsL := [(.long (p1 &&& (2097151 : Int64)))]) (rest := []) (own_m1 l Z a0 hw [] (p1 &&& (2097151 : Int64)) _ _) own_pd1 rfl at_167 rfl rfl rfl (W := 0) rfl (by decide) (by decide) (cells' := 1) (slots' := 16) rfl rfl (by decide) (by decide) (fun v T91 h93 X92 q94 => ?_)
  obtain ⟨rfl, rfl⟩ := q94
  show own_Fin p e below (own_End s n0 (fun v _ => v = some (.int 1)) room_1.cells room_1.slots) (T91.setTop (mkF m 170 #[.val (.long p1), .second, .val (.int p2), .val (.int p3), .val (.ref a6), .val (.int ((p2 &&& (2147483647 : Int32)) % (16 : Int32))), .val (.long (y74 + (((p3 &&& (7 : Int32)) - (4 : Int32)).toInt64))), .second, .val (.long (p1 &&& (2097151 : Int64))), .second] [(.int (own_f1 (p1 &&& (2097151 : Int64))))]))
  refine own_lload X92 at_170 rfl rfl ?_
  refine own_callS X92 (hw _ (List.mem_of_getElem? (i := 28) rfl)) (hw _ (List.mem_of_getElem? (i := 29) rfl)) (hw _ (List.mem_of_getElem? (i := 30) rfl)) (hw _ (List.mem_of_getElem? (i := 31) rfl)) (by decide) (argsL := [(.long (p1 &&& (2097151 : Int64)))]) (rest := [(.int (own_f1 (p1 &&& (2097151 : Int64))))]) (own_m2 l Z a0 hw [] (p1 &&& (2097151 : Int64)) _ _) own_pd2 rfl at_172 rfl rfl rfl (W := 1) rfl (by decide) (by decide) (cells' := 1) (slots' := 16) rfl rfl (by decide) (by decide) (fun v T95 h97 X96 q98 => ?_)
  obtain ⟨rfl, rfl⟩ := q98
  show own_Fin p e below (own_End s n0 (fun v _ => v = some (.int 1)) room_1.cells room_1.slots) (T95.setTop (mkF m 175 #[.val (.long p1), .second, .val (.int p2), .val (.int p3), .val (.ref a6), .val (.int ((p2 &&& (2147483647 : Int32)) % (16 : Int32))), .val (.long (y74 + (((p3 &&& (7 : Int32)) - (4 : Int32)).toInt64))), .second, .val (.long (p1 &&& (2097151 : Int64))), .second] [(.int (own_f2 (p1 &&& (2097151 : Int64)))), (.int (own_f1 (p1 &&& (2097151 : Int64))))]))
  refine own_icmp_ne X96 at_175 (by decide) (pcT := 182) (by decide) rfl (fun hc => absurd (own_core _) hc) (fun hc => ?_)
  refine own_iconst X96 (1 : Int32) at_178 rfl (by decide) ?_
  refine own_goto X96 at_179 (by decide) (pc' := 183) (by decide) ?_
  exact own_retZ X96 rfl at_183 rfl rfl (by decide) (by decide)
set_option maxRecDepth 65536 in
set_option maxHeartbeats 40000000 in
theorem comes_1 {Post : Tables → Env → Array Value → State → Outcome → State → Prop} (hpost : ∀ tb e args s v u, (limb_1_1.after args s (.returned v) u = true ∧ limb_1_2.after args s (.returned v) u = true ∧ True) → FrameEnd s (.returned v) u (Jvm.fieldLocs frame_1_writes args s ++ Jvm.arrayLocs frame_1_arrays args s ++ Jvm.staticLocs frame_1_statics s) 16 128 → Post tb e args s (.returned v) u) :
    ArmFor flags0 classFile x code maxLocals ret World_1 tables_1 room_1 Calls_1 rest_1 Pre_1 Post := by
  intro l hfl _ _ p e ha hc hk s m args below hf hA hF happ hP
  obtain ⟨hcalls, hrest, hpre⟩ := hP
  obtain ⟨-, -, -, hnamed, -, -, -, hat⟩ := (Spec.applies_iff hf).mp happ
  obtain ⟨hg, hn⟩ := and_e (Cond.before_iff.mp (show (Jvm.Cond.and given_1 narrow_1).before args s = true from hpre))
  obtain ⟨h1, g0⟩ := and_e hg
  obtain ⟨g0, g1⟩ := and_e g0
  obtain ⟨g1, g2⟩ := and_e g1
  obtain ⟨w0, w1, w2, rfl⟩ : ∃ w0 w1 w2 : Value, args = #[w0, w1, w2] := by
    have hs : args.size = 3 := by simpa [Cond.value, given_1] using h1
    obtain ⟨L⟩ := args
    match L, hs with
    | [w0, w1, w2], _ => exact ⟨w0, w1, w2, rfl⟩
  have hw := fun d (hd : d ∈ tables_1) => atoms_spec (ws := Jvm.Cond.code x code maxLocals ret :: tables_1) hat d (List.mem_cons_of_mem _ hd)
  obtain ⟨i0, e0⟩ := isL_v g0
  obtain rfl : w0 = (.long i0) := Option.some.inj e0
  obtain ⟨i1, e1⟩ := is_v g1
  obtain rfl : w1 = (.int i1) := Option.some.inj e1
  obtain ⟨i2, e2⟩ := is_v g2
  obtain rfl : w2 = (.int i2) := Option.some.inj e2
  obtain ⟨n, o, h1, h2, h3, _, L, rfl, ⟨rfl, N⟩, hq⟩ := own_law l s _ hw tables_1 i0 i1 i2 s.heap s.heap.size (Nat.le_refl _) p e ha hc hk s m _ below hf ((Spec.applies_iff_loose hf).mp happ).1 ⟨rfl, State.Warmed39.refl s, rfl⟩ trivial
  refine ⟨n, _, h1, h2, h3, hpost _ _ _ _ _ _ ⟨Cond.after_iff.mpr rfl, Cond.after_iff.mpr (eq_i res_at (Term.int_eval (1)) rfl), trivial⟩ ⟨hq.1, hq.2.1, (hq.2.2.sift fun y hy => Or.inr (N y hy)).mono (by decide) (by decide)⟩⟩
theorem main_1_1 : Claimed_1_1 := comes_1 fun _ _ _ _ _ _ h hF => ⟨h.1, hF⟩
theorem main_1_2 : Claimed_1_2 := comes_1 fun _ _ _ _ _ _ h hF => ⟨h.2.1, hF⟩
end Jvm.Pilot.@@N@@
namespace Jvm.Pilot.@@N@@
open Jvm Jvm.ClassFile Sem Op Lib Jvm.Free Jvm.Stand Jvm.Pilot.@@N@@.Jvm.D
/-! MADE BY PROGRAM (witnessworld.py) out of the Statement's table words and the real class files: 11 classes; the members and pool entries that the words name. The judged class is class 1, her method 2. -/
namespace start1
open Jvm.ClassFile
def u (s : String) : CpInfo := .utf8 (stringToUtf16 s)
/-- a pool by its gaps: so many unusable entries, then the entry; so many at the end -/
def gap : Nat → List CpInfo → List CpInfo
  | 0, r => r
  | n + 1, r => .unusable :: gap n r
def poolList (es : List (Nat × CpInfo)) (last : Nat) : List CpInfo := es.foldr (fun e r => gap e.1 (e.2 :: r)) (gap last [])
def pool (es : List (Nat × CpInfo)) (last : Nat) : Array CpInfo := ⟨poolList es last⟩
def fileOf (pool : Array CpInfo) (this : Nat) (attrs : Array Attribute := #[]) (ms : Array MethodInfo := #[]) (fl : Nat := 33) (sup : Nat := 0) (ifs : Array Nat := #[]) (fds : Array FieldInfo := #[]) : ClassFile where
  minorVersion := 0
  majorVersion := 65
  constantPool := pool
  accessFlags := fl
  thisClass := this
  superClass := sup
  interfaces := ifs
  fields := fds
  methods := ms
  attributes := attrs
def plain (name : String) (sup : Option ClassId) : Class where
  name := name
  kind := .ordinary
  loader := none
  accessFlags := 33
  super := sup
  interfaces := #[]
  cf := none
  fields := #[]
  methods := #[]
  instanceTypes := #[]
  staticTypes := #[]
  resolved := #[]
  callSites := []
  init := .initialized
  statics := none
  mirror := none

def pool0 : Array CpInfo := pool [(5, u "<init>"), (0, u "()V"), (1, .class_ 10), (1, u "java/lang/Object")] 113

def k0m0 : Method := { name := "<init>", desc := "()V", sig := { parameters := [], returnType := none }, accessFlags := 1, code := none }
/-- java/lang/Object -/
def k0 : Class := { plain "java/lang/Object" none with
  accessFlags := 33
  interfaces := #[]
  cf := some (fileOf pool0 8 #[] #[{ accessFlags := 1, nameIndex := 5, descriptorIndex := 6, attributes := #[] }] 33 0 #[] #[])
  fields := #[]
  methods := #[k0m0]
  instanceTypes := #[]
  staticTypes := #[]
  resolved := Array.replicate 124 none
  statics := none }

def pool1 : Array CpInfo := pool [(2, .class_ 4), (1, u "java/lang/Object"), (0, u "<init>"), (0, u "()V"), (0, .long 1114111), (1, .long 32), (1, .long 9), (1, .long 10), (1, .long 13), (1, .long 55296), (1, .long 57343), (1, .long 65534), (1, .long 65535), (1, .long 55295), (1, .long 57344), (1, .long 65533), (1, .long 65536), (1, .long 1114112), (3, .long 9223372036854775808), (1, .long 9223372036854775807), (1, .integer 2147483647), (0, .long 2097151), (1, .methodref 45 46), (0, .class_ 47), (0, .nameAndType 48 49), (0, u "com/example/tokenweave/tokenweave/codec/XmlChars"), (0, u "isChar"), (0, u "(J)Z"), (0, .methodref 51 52), (0, .class_ 53), (0, .nameAndType 54 49), (0, u "com/example/tokenweave/tokenweave/codec/XmlCharsIsCharPinLaw"), (0, u "ref"), (3, u "law"), (0, u "(JII)Z")] 4

def k1m0 : Method := { name := "<init>", desc := "()V", sig := { parameters := [], returnType := none }, accessFlags := 2, code := none }
def k1c1 : Code := { maxStack := 4, maxLocals := 2, code := method_2_code, exceptionTable := #[], attributes := #[] }
def k1m1 : Method := { name := "ref", desc := "(J)Z", sig := { parameters := [.long], returnType := some .boolean }, accessFlags := 10, code := some k1c1 }
def k1c2 : Code := { maxStack := 5, maxLocals := 10, code := code, exceptionTable := #[], attributes := #[] }
def k1m2 : Method := { name := "law", desc := "(JII)Z", sig := { parameters := [.long, .int, .int], returnType := some .boolean }, accessFlags := 9, code := some k1c2 }
/-- com/example/tokenweave/tokenweave/codec/XmlCharsIsCharPinLaw -/
def k1 : Class := { plain "com/example/tokenweave/tokenweave/codec/XmlCharsIsCharPinLaw" (some 0) with
  accessFlags := 49
  interfaces := #[]
  cf := some (fileOf pool1 51 #[] #[{ accessFlags := 2, nameIndex := 5, descriptorIndex := 6, attributes := #[] }, { accessFlags := 10, nameIndex := 54, descriptorIndex := 49, attributes := #[] }, { accessFlags := 9, nameIndex := 58, descriptorIndex := 59, attributes := #[] }] 49 2 #[] #[])
  fields := #[]
  methods := #[k1m0, k1m1, k1m2]
  instanceTypes := #[]
  staticTypes := #[]
  resolved := Array.replicate 64 none
  statics := none }

def pool2 : Array CpInfo := pool [(2, .class_ 4), (1, u "java/lang/Object"), (0, u "<init>"), (0, u "()V"), (0, .long 9), (1, .long 10), (1, .long 13), (1, .long 32), (1, .long 55295), (1, .long 57344), (1, .long 65533), (1, .long 65536), (3, .long 1114111), (16, .class_ 44), (1, u "com/example/tokenweave/tokenweave/codec/XmlChars"), (0, u "isChar"), (0, u "(J)Z"), (8, u "NAME_START"), (0, u "[I"), (24, u "NAME_REST"), (4, u "RESERVED_TARGET"), (0, u "Ljava/util/regex/Pattern;")] 73

def k2m0 : Method := { name := "<init>", desc := "()V", sig := { parameters := [], returnType := none }, accessFlags := 2, code := none }
def k2c1 : Code := { maxStack := 4, maxLocals := 2, code := prog_54_method_2_code, exceptionTable := #[], attributes := #[] }
def k2m1 : Method := { name := "isChar", desc := "(J)Z", sig := { parameters := [.long], returnType := some .boolean }, accessFlags := 8, code := some k2c1 }
/-- com/example/tokenweave/tokenweave/codec/XmlChars -/
def k2 : Class := { plain "com/example/tokenweave/tokenweave/codec/XmlChars" (some 0) with
  accessFlags := 49
  interfaces := #[]
  cf := some (fileOf pool2 42 #[] #[{ accessFlags := 2, nameIndex := 5, descriptorIndex := 6, attributes := #[] }, { accessFlags := 8, nameIndex := 45, descriptorIndex := 46, attributes := #[] }] 49 2 #[] #[{ accessFlags := 26, nameIndex := 86, descriptorIndex := 87, attributes := #[] }, { accessFlags := 26, nameIndex := 55, descriptorIndex := 56, attributes := #[] }, { accessFlags := 26, nameIndex := 81, descriptorIndex := 56, attributes := #[] }])
  fields := #[{ name := "RESERVED_TARGET", type := (.object "java/util/regex/Pattern"), accessFlags := 26, slot := 0, constantValue := 0 }, { name := "NAME_START", type := (.array .int), accessFlags := 26, slot := 1, constantValue := 0 }, { name := "NAME_REST", type := (.array .int), accessFlags := 26, slot := 2, constantValue := 0 }]
  methods := #[k2m0, k2m1]
  instanceTypes := #[]
  staticTypes := #[(.object "java/util/regex/Pattern"), (.array .int), (.array .int)]
  resolved := Array.replicate 161 none
  statics := none }

def pool3 : Array CpInfo := pool [(1, u "java/lang/Cloneable"), (0, .class_ 1), (0, u "java/lang/Object"), (0, .class_ 3)] 3

/-- java/lang/Cloneable -/
def k3 : Class := { plain "java/lang/Cloneable" (some 0) with
  accessFlags := 1537
  interfaces := #[]
  cf := some (fileOf pool3 2 #[] #[] 1537 4 #[] #[])
  fields := #[]
  methods := #[]
  instanceTypes := #[]
  staticTypes := #[]
  resolved := Array.replicate 8 none
  statics := none }

def pool4 : Array CpInfo := pool [(1, u "java/io/Serializable"), (0, .class_ 1), (0, u "java/lang/Object"), (0, .class_ 3)] 3

/-- java/io/Serializable -/
def k4 : Class := { plain "java/io/Serializable" (some 0) with
  accessFlags := 1537
  interfaces := #[]
  cf := some (fileOf pool4 2 #[] #[] 1537 4 #[] #[])
  fields := #[]
  methods := #[]
  instanceTypes := #[]
  staticTypes := #[]
  resolved := Array.replicate 8 none
  statics := none }

/-- the primitive byte -/
def k5 : Class := { plain "byte" none with kind := .primitive 'B', accessFlags := 0x411 }
/-- [B -/
def k6 : Class := { plain "[B" (some 0) with kind := .array 5 .byte, interfaces := #[3, 4], accessFlags := 1041 }

/-- the primitive int -/
def k7 : Class := { plain "int" none with kind := .primitive 'I', accessFlags := 0x411 }
/-- [I -/
def k8 : Class := { plain "[I" (some 0) with kind := .array 7 .int, interfaces := #[3, 4], accessFlags := 1041 }

/-- the primitive long -/
def k9 : Class := { plain "long" none with kind := .primitive 'J', accessFlags := 0x411 }
/-- [J -/
def k10 : Class := { plain "[J" (some 0) with kind := .array 9 .long, interfaces := #[3, 4], accessFlags := 1041 }

def heap : Heap := #[]
def classes : Array Class := #[k0, k1, k2, k3, k4, k5, k6, k7, k8, k9, k10]
def interned : List (Array UInt16 × Addr) := []
def slotsUsed : Nat := 0
def theMethod : MethodId := ⟨1, 2⟩
def args0 : Array Value := #[.long 5, .int 6, .int 7]
def aboutOver (below : List Frame) : State where
  vm := { classes := classes, interned := interned.toArray }
  heap := heap
  slotsUsed := slotsUsed
  threads := #[{ frames := .invoking theMethod args0 :: below }]
def below0 : List Frame := [.native { method := ⟨0, 0⟩, args := #[] }]
def about1 : State := aboutOver below0
def p0 : Program := .bare "" "" ""
def e0 : Env := launch0.env 0 0 0
theorem w_frames : about1.frames = Frame.invoking theMethod args0 :: below0 := rfl
set_option maxRecDepth 65536 in
theorem w_args : argsFit about1.vm theMethod args0 = true := by decide +kernel
set_option maxRecDepth 65536 in
theorem w_heap : heapFits about1 = true := by decide +kernel
set_option maxRecDepth 65536 in
theorem w_runnable : about1.curStatus? = some .runnable := by decide +kernel
set_option maxRecDepth 65536 in
theorem w_alone : about1.alone = true := by decide +kernel
set_option maxRecDepth 65536 in
theorem w_named : about1.methodNamed? x = some theMethod := by decide +kernel
set_option maxRecDepth 65536 in
theorem w_hears : about1.hears theMethod below0 = true := by decide +kernel
set_option maxRecDepth 65536 in
theorem w_ripe : about1.ripe theMethod args0 below0 = true := by decide +kernel
theorem w_running : about1.status = .running := rfl
set_option maxRecDepth 65536 in
theorem w_room : about1.hasRoom e0.platform room_1 = true :=
  launch0.hasRoom_least _ room_1 (by decide +kernel) (by decide +kernel) (by decide +kernel) (by decide +kernel) (by decide +kernel) (by decide +kernel)
theorem allAtoms_all (ts : List Jvm.Cond) (a : Array Jvm.Value) (st : Jvm.State) : (allAtoms ts).before a st = ts.all (fun c => c.before a st) := by
  induction ts with
  | nil => rfl
  | cons c t ih =>
    show (Jvm.Cond.and c (allAtoms t)).before a st = _
    rw [Jvm.Cond.before_and, ih, List.all_cons]
def words1 : List Jvm.Cond := Jvm.Cond.code x code maxLocals ret :: tables_1
/-- a 'code' word, met by the world's own term for the bytes: nothing is compared byte by byte -/
theorem code_word {y : MethodName} {bytes : ByteArray} {mx : Nat} {rt : Option FieldType} {a : Array Value} {s : State} {m : MethodId} {meth : Method} {c : Code} (h1 : s.methodNamed? y = some m) (h2 : s.vm.method? m = some meth) (h3 : meth.code = some c) (h4 : c.code = bytes)
    (h5 : (c.maxLocals == mx && c.exceptionTable.isEmpty && decide (c.maxStack ≤ mostOperands) && decide (meth.sig.returnType = rt) && !meth.locks && decide (parseMethodDescriptor y.desc = some meth.sig)) = true) : (Jvm.Cond.code y bytes mx rt).before a s = true := by
  simp only [Bool.and_eq_true, beq_iff_eq, Bool.not_eq_true', decide_eq_true_eq] at h5
  obtain ⟨⟨⟨⟨⟨g1, g2⟩, g3⟩, g4⟩, g5⟩, g6⟩ := h5
  simp [Cond.before, Cond.holds, Cond.value, h1, h2, h3, h4, g1, g2, g3, g4, g5, g6]
def isCode : Jvm.Cond → Bool
  | .code _ _ _ _ => true
  | _ => false
theorem all_split {L : List Jvm.Cond} {P : Jvm.Cond → Bool} (h1 : L.all (fun c => isCode c || P c) = true) (h2 : ∀ c ∈ L.filter isCode, P c = true) : L.all P = true := by
  refine List.all_eq_true.mpr fun c hc => ?_
  have h := List.all_eq_true.mp h1 c hc
  rcases Bool.eq_false_or_eq_true (isCode c) with hi | hi
  · exact h2 c (List.mem_filter.mpr ⟨hc, hi⟩)
  · simpa [hi] using h
set_option maxRecDepth 65536 in
theorem w_c0 : (Jvm.Cond.code x code maxLocals ret).before args0 about1 = true := code_word (m := ⟨1, 2⟩) (meth := k1m2) (c := k1c2) (by decide +kernel) rfl rfl rfl (by decide +kernel)
set_option maxRecDepth 65536 in
theorem w_c1 : (Jvm.Cond.code ({ cls := "com/example/tokenweave/tokenweave/codec/XmlChars", name := "isChar", desc := "(J)Z" } : Jvm.MethodName) prog_54_method_2_code (2 : Nat) (Option.some Jvm.ClassFile.FieldType.boolean)).before args0 about1 = true := code_word (m := ⟨2, 1⟩) (meth := k2m1) (c := k2c1) (by decide +kernel) rfl rfl rfl (by decide +kernel)
set_option maxRecDepth 65536 in
theorem w_c2 : (Jvm.Cond.code ({ cls := "com/example/tokenweave/tokenweave/codec/XmlCharsIsCharPinLaw", name := "ref", desc := "(J)Z" } : Jvm.MethodName) method_2_code (2 : Nat) (Option.some Jvm.ClassFile.FieldType.boolean)).before args0 about1 = true := code_word (m := ⟨1, 1⟩) (meth := k1m1) (c := k1c1) (by decide +kernel) rfl rfl rfl (by decide +kernel)
def codes1 : List Jvm.Cond := [Jvm.Cond.code x code maxLocals ret, Jvm.Cond.code ({ cls := "com/example/tokenweave/tokenweave/codec/XmlChars", name := "isChar", desc := "(J)Z" } : Jvm.MethodName) prog_54_method_2_code (2 : Nat) (Option.some Jvm.ClassFile.FieldType.boolean), Jvm.Cond.code ({ cls := "com/example/tokenweave/tokenweave/codec/XmlCharsIsCharPinLaw", name := "ref", desc := "(J)Z" } : Jvm.MethodName) method_2_code (2 : Nat) (Option.some Jvm.ClassFile.FieldType.boolean)]
set_option maxRecDepth 65536 in
theorem codes_eq : words1.filter isCode = codes1 := rfl
theorem w_codes : ∀ c ∈ words1.filter isCode, c.before args0 about1 = true := by
  rw [codes_eq]
  intro c hc
  simp only [codes1, List.mem_cons, List.not_mem_nil, or_false] at hc
  rcases hc with rfl | rfl | rfl
  · exact w_c0
  · exact w_c1
  · exact w_c2
set_option maxRecDepth 65536 in
theorem w_t1 : (words1.take 24).all (fun c => isCode c || c.before args0 about1) = true := by decide +kernel
set_option maxRecDepth 65536 in
theorem w_t2 : (words1.drop 24).all (fun c => isCode c || c.before args0 about1) = true := by decide +kernel
theorem w_tables : (allAtoms (Jvm.Cond.code x code maxLocals ret :: tables_1)).before args0 about1 = true := by
  rw [allAtoms_all]
  show words1.all (fun c => c.before args0 about1) = true
  refine all_split ?_ w_codes
  rw [← List.take_append_drop 24 words1, List.all_append, w_t1, w_t2]
  rfl
set_option maxRecDepth 65536 in
theorem w_case : (Jvm.Cond.and given_1 narrow_1).before args0 about1 = true := by decide +kernel
theorem w_applies : (headSpec (Jvm.Cond.code x code maxLocals ret :: tables_1) room_1).applies x e0.platform about1 = true :=
  (Spec.applies_iff w_frames).mpr ⟨w_running, w_runnable, w_alone, w_named, w_hears, w_ripe, w_room, w_tables⟩
theorem atStart : AtStart classFile x code maxLocals ret World_1 tables_1 room_1 Calls_1 rest_1 Pre_1 launch0 p0 e0 about1 theMethod args0 below0 :=
  ⟨lists_1, trivial, launch0.admits_env _ _ _, launch0.least_env, fairChoices_fair.cas, fairChoices_fair.clock, w_frames, w_args, w_heap, w_applies, trivial, trivial, w_case⟩
end start1
theorem witness_1 : WitnessClaimed_1 := ⟨start1.p0, start1.e0, start1.about1, start1.theMethod, start1.args0, start1.below0, start1.atStart⟩
end Jvm.Pilot.@@N@@
