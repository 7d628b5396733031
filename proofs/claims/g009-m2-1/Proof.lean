import JvmDerived
import JvmDerived.Pilot.@@N@@Statement
import JvmDerived.Pilot.@@N@@Code
set_option linter.unusedVariables false
set_option linter.unusedSimpArgs false
namespace Jvm.Pilot.@@N@@
open Jvm Jvm.ClassFile Sem Op Lib Jvm.Free Jvm.Stand Jvm.LawKit Jvm.RoadKit Bundle Jvm.Pilot.@@N@@.Jvm.D
section OwnKit
variable {Z : State} {p : Program} {l : Launch} {e : Env} {R : Room} {s : State} {m : MethodId} {args : Array Value} {below : List Frame} {meth : Method} {c : Code} {n0 : Nat} {own : String} {bytes : ByteArray} {maxL : Nat} {nm : String} {ret : Option FieldType} {T : State} {h : Heap} {cells slots : Nat} {G : Outcome → State → Prop} {L : Array Slot} {st : List Value} {pc pc' : Nat} {a0 : Array Value}
def own_Fin (p : Program) (e : Env) (below : List Frame) (G : Outcome → State → Prop) (t : State) : Prop :=
  ∃ s₂ o, Steps p.tables e below t s₂ ∧ s₂.status = .running ∧ Ended s₂ below o ∧ G o s₂
theorem own_go {a a' : State} (k : ∀ t, Steps p.tables e below a' t → Steps p.tables e below a t) (q : own_Fin p e below G a') : own_Fin p e below G a := by
  obtain ⟨s2, o, h1, h2⟩ := q
  exact ⟨s2, o, k _ h1, h2⟩
def own_Cx (Z : State) (p : Program) (l : Launch) (e : Env) (R : Room) (s : State) (m : MethodId) (args : Array Value) (below : List Frame) (meth : Method) (c : Code) (n0 : Nat) (own : String) (bytes : ByteArray) (maxL : Nat) (nm : String) (ret : Option FieldType) (T : State) (h : Heap) (cells slots : Nat) : Prop :=
  ∃ locs, Stand p l e R s m args below meth c T locs cells slots ∧ Fr n0 locs ∧ T.heap = h ∧ p.tables.exec = Jvm.exec ∧ Z.Warmed39 s.vm ∧ s.vm.findClass own = some m.cls ∧ c.code = bytes ∧ c.maxLocals = maxL ∧ meth.name = nm ∧ meth.sig.returnType = ret ∧ meth.locks = false
def own_End (s : State) (n0 : Nat) (q : Option Value → Heap → Prop) (k n : Nat) (o : Outcome) (U' : State) : Prop :=
  ∃ v L, o = .returned v ∧ (q v U'.heap ∧ Fr n0 L) ∧ FrameEnd s o U' L k n
def own_Met (l : Launch) (Z : State) (y : MethodName) (bytes : ByteArray) (maxL : Nat) (ret : Option FieldType) (ws : List Jvm.Cond) (rm : Room) (as' : Array Value) (h0 : Heap) (n0 : Nat) (q : Option Value → Heap → Prop) : Prop :=
  MetFree l y (head1 (Jvm.Cond.code y bytes maxL ret :: ws) rm) (fun a U => a = as' ∧ Z.Warmed39 U.vm ∧ U.heap = h0) (fun _ _ _ _ _ => True) (fun _ U o U' => own_End U n0 q rm.cells rm.slots o U')
theorem own_enter {y : MethodName} {ws : List Jvm.Cond} {rm : Room} {as' : Array Value} {h0 : Heap} {q : Option Value → Heap → Prop} {L0 : Array Slot} {own nm : String} (ho : y.cls = own) (hnm0 : y.name = nm) (pn : plainFor y = true) (ef : ∀ m, entryFrame m as' maxL = mkF m 0 L0 [])
    (body : ∀ p e s m below meth c T, own_Cx Z p l e rm s m as' below meth c n0 own bytes maxL nm ret T h0 0 0 → own_Fin p e below (own_End s n0 q rm.cells rm.slots) (T.setTop (mkF m 0 L0 []))) :
    own_Met l Z y bytes maxL ret ws rm as' h0 n0 q := by
  subst ho hnm0
  refine MetFree.of_bodySF pn hisR ?_
  intro p e s m args below meth c s₁ Bd hml0 hP hK
  obtain ⟨rfl, hZ, hh⟩ := hP
  have hnm := (name_of_methodNamed Bd.named Bd.method).1
  have e0 : s₁.heap = h0 := by rw [← hh, Bd.state]; rfl
  obtain ⟨s2, o, k1, k2, k3, k4⟩ := body p e s m below meth c s₁ ⟨[], Stand.of_body Bd, Fr.nil _, e0, Bd.exec, hZ, findClass_of_methodNamed Bd.named, Bd.bytes, hml0, hnm, Bd.returns, Bd.notSynchronized⟩
  exact ⟨s2, o, castTop (ef m) k1, k2, k3, k4⟩
theorem own_iload (X : own_Cx Z p l e R s m args below meth c n0 own bytes maxL nm ret T h cells slots) {k : Nat} {v : Int32} (d : decode bytes pc = .ok (.iload k, 2)) (hp : pc + 2 = pc') (hl : L[k]? = some (.val (.int v)))
    (q : own_Fin p e below G (T.setTop (mkF m pc' L ((.int v) :: st)))) : own_Fin p e below G (T.setTop (mkF m pc L (st))) := by
  obtain ⟨locs, X, N, eT, hx, hZ, hown, hby, hml, hnm, hret, hlk⟩ := X
  subst hp
  exact own_go (fun t k => XS.iload X.here hx rfl (hb hby d) hl k) q
theorem own_lload (X : own_Cx Z p l e R s m args below meth c n0 own bytes maxL nm ret T h cells slots) {k : Nat} {v : Int64} (d : decode bytes pc = .ok (.lload k, 2)) (hp : pc + 2 = pc') (hl : L[k]? = some (.val (.long v)))
    (q : own_Fin p e below G (T.setTop (mkF m pc' L ((.long v) :: st)))) : own_Fin p e below G (T.setTop (mkF m pc L (st))) := by
  obtain ⟨locs, X, N, eT, hx, hZ, hown, hby, hml, hnm, hret, hlk⟩ := X
  subst hp
  exact own_go (fun t k => XT.lload X.here hx rfl (hb hby d) hl k) q
theorem own_iloadN (X : own_Cx Z p l e R s m args below meth c n0 own bytes maxL nm ret T h cells slots) {k : Fin 4} {v : Int32} (d : decode bytes pc = .ok (.iload_n k, 1)) (hp : pc + 1 = pc') (hl : L[k.val]? = some (.val (.int v)))
    (q : own_Fin p e below G (T.setTop (mkF m pc' L ((.int v) :: st)))) : own_Fin p e below G (T.setTop (mkF m pc L (st))) := by
  obtain ⟨locs, X, N, eT, hx, hZ, hown, hby, hml, hnm, hret, hlk⟩ := X
  subst hp
  exact own_go (fun t k => XS.iloadN X.here hx rfl (hb hby d) hl k) q
theorem own_lloadN (X : own_Cx Z p l e R s m args below meth c n0 own bytes maxL nm ret T h cells slots) {k : Fin 4} {v : Int64} (d : decode bytes pc = .ok (.lload_n k, 1)) (hp : pc + 1 = pc') (hl : L[k.val]? = some (.val (.long v)))
    (q : own_Fin p e below G (T.setTop (mkF m pc' L ((.long v) :: st)))) : own_Fin p e below G (T.setTop (mkF m pc L (st))) := by
  obtain ⟨locs, X, N, eT, hx, hZ, hown, hby, hml, hnm, hret, hlk⟩ := X
  subst hp
  exact own_go (fun t k => XT.lloadN X.here hx rfl (hb hby d) hl k) q
theorem own_aload (X : own_Cx Z p l e R s m args below meth c n0 own bytes maxL nm ret T h cells slots) {k : Nat} {v : Value} (d : decode bytes pc = .ok (.aload k, 2)) (hp : pc + 2 = pc') (hl : L[k]? = some (.val v)) (hv : v.isRef = true)
    (q : own_Fin p e below G (T.setTop (mkF m pc' L (v :: st)))) : own_Fin p e below G (T.setTop (mkF m pc L (st))) := by
  obtain ⟨locs, X, N, eT, hx, hZ, hown, hby, hml, hnm, hret, hlk⟩ := X
  subst hp
  exact own_go (fun t k => XS.aload X.here hx rfl (hb hby d) hl hv k) q
theorem own_aloadN (X : own_Cx Z p l e R s m args below meth c n0 own bytes maxL nm ret T h cells slots) {k : Fin 4} {v : Value} (d : decode bytes pc = .ok (.aload_n k, 1)) (hp : pc + 1 = pc') (hl : L[k.val]? = some (.val v)) (hv : v.isRef = true)
    (q : own_Fin p e below G (T.setTop (mkF m pc' L (v :: st)))) : own_Fin p e below G (T.setTop (mkF m pc L (st))) := by
  obtain ⟨locs, X, N, eT, hx, hZ, hown, hby, hml, hnm, hret, hlk⟩ := X
  subst hp
  exact own_go (fun t k => XS.aloadN X.here hx rfl (hb hby d) hl hv k) q
theorem own_istore (X : own_Cx Z p l e R s m args below meth c n0 own bytes maxL nm ret T h cells slots) {k : Nat} {v : Int32} {L' : Array Slot} (d : decode bytes pc = .ok (.istore k, 2)) (hp : pc + 2 = pc') (hl : storeLocals L k (.int v) = some L')
    (q : own_Fin p e below G (T.setTop (mkF m pc' L' (st)))) : own_Fin p e below G (T.setTop (mkF m pc L ((.int v) :: st))) := by
  obtain ⟨locs, X, N, eT, hx, hZ, hown, hby, hml, hnm, hret, hlk⟩ := X
  subst hp
  exact own_go (fun t k => XS.istore X.here hx rfl (hb hby d) rfl hl k) q
theorem own_lstore (X : own_Cx Z p l e R s m args below meth c n0 own bytes maxL nm ret T h cells slots) {k : Nat} {v : Int64} {L' : Array Slot} (d : decode bytes pc = .ok (.lstore k, 2)) (hp : pc + 2 = pc') (hl : storeLocals L k (.long v) = some L')
    (q : own_Fin p e below G (T.setTop (mkF m pc' L' (st)))) : own_Fin p e below G (T.setTop (mkF m pc L ((.long v) :: st))) := by
  obtain ⟨locs, X, N, eT, hx, hZ, hown, hby, hml, hnm, hret, hlk⟩ := X
  subst hp
  exact own_go (fun t k => XT.lstore X.here hx rfl (hb hby d) rfl hl k) q
theorem own_istoreN (X : own_Cx Z p l e R s m args below meth c n0 own bytes maxL nm ret T h cells slots) {k : Fin 4} {v : Int32} {L' : Array Slot} (d : decode bytes pc = .ok (.istore_n k, 1)) (hp : pc + 1 = pc') (hl : storeLocals L k.val (.int v) = some L')
    (q : own_Fin p e below G (T.setTop (mkF m pc' L' (st)))) : own_Fin p e below G (T.setTop (mkF m pc L ((.int v) :: st))) := by
  obtain ⟨locs, X, N, eT, hx, hZ, hown, hby, hml, hnm, hret, hlk⟩ := X
  subst hp
  exact own_go (fun t k => XS.istoreN X.here hx rfl (hb hby d) rfl hl k) q
theorem own_lstoreN (X : own_Cx Z p l e R s m args below meth c n0 own bytes maxL nm ret T h cells slots) {k : Fin 4} {v : Int64} {L' : Array Slot} (d : decode bytes pc = .ok (.lstore_n k, 1)) (hp : pc + 1 = pc') (hl : storeLocals L k.val (.long v) = some L')
    (q : own_Fin p e below G (T.setTop (mkF m pc' L' (st)))) : own_Fin p e below G (T.setTop (mkF m pc L ((.long v) :: st))) := by
  obtain ⟨locs, X, N, eT, hx, hZ, hown, hby, hml, hnm, hret, hlk⟩ := X
  subst hp
  exact own_go (fun t k => XT.lstoreN X.here hx rfl (hb hby d) rfl hl k) q
theorem own_astore (X : own_Cx Z p l e R s m args below meth c n0 own bytes maxL nm ret T h cells slots) {k : Nat} {v : Value} {L' : Array Slot} (d : decode bytes pc = .ok (.astore k, 2)) (hp : pc + 2 = pc') (hv : v.isRef = true) (hl : storeLocals L k v = some L')
    (q : own_Fin p e below G (T.setTop (mkF m pc' L' (st)))) : own_Fin p e below G (T.setTop (mkF m pc L (v :: st))) := by
  obtain ⟨locs, X, N, eT, hx, hZ, hown, hby, hml, hnm, hret, hlk⟩ := X
  subst hp
  exact own_go (fun t k => XS.astore X.here hx rfl (hb hby d) rfl hv hl k) q
theorem own_astoreN (X : own_Cx Z p l e R s m args below meth c n0 own bytes maxL nm ret T h cells slots) {k : Fin 4} {v : Value} {L' : Array Slot} (d : decode bytes pc = .ok (.astore_n k, 1)) (hp : pc + 1 = pc') (hv : v.isRef = true) (hl : storeLocals L k.val v = some L')
    (q : own_Fin p e below G (T.setTop (mkF m pc' L' (st)))) : own_Fin p e below G (T.setTop (mkF m pc L (v :: st))) := by
  obtain ⟨locs, X, N, eT, hx, hZ, hown, hby, hml, hnm, hret, hlk⟩ := X
  subst hp
  exact own_go (fun t k => XS.astoreN X.here hx rfl (hb hby d) rfl hv hl k) q
theorem own_iinc (X : own_Cx Z p l e R s m args below meth c n0 own bytes maxL nm ret T h cells slots) {k : Nat} {x : Int32} {i : Int} {L' : Array Slot} (v : Int32) (d : decode bytes pc = .ok (.iinc k i, 3)) (hp : pc + 3 = pc') (hv : Int32.ofInt i = v) (hl : L[k]? = some (.val (.int x))) (hl' : storeLocals L k (.int (x + v)) = some L')
    (q : own_Fin p e below G (T.setTop (mkF m pc' L' (st)))) : own_Fin p e below G (T.setTop (mkF m pc L (st))) := by
  obtain ⟨locs, X, N, eT, hx, hZ, hown, hby, hml, hnm, hret, hlk⟩ := X
  subst hp
  exact own_go (fun t k => XT.iincV X.here hx rfl v (hb hby d) hv hl hl' k) q
theorem own_iconst (X : own_Cx Z p l e R s m args below meth c n0 own bytes maxL nm ret T h cells slots) {i : Int} (v : Int32) (d : decode bytes pc = .ok (.iconst i, 1)) (hp : pc + 1 = pc') (hv : Int32.ofInt i = v)
    (q : own_Fin p e below G (T.setTop (mkF m pc' L ((.int v) :: st)))) : own_Fin p e below G (T.setTop (mkF m pc L (st))) := by
  obtain ⟨locs, X, N, eT, hx, hZ, hown, hby, hml, hnm, hret, hlk⟩ := X
  subst hp
  exact own_go (fun t k => XT.iconstV X.here hx rfl v (hb hby d) hv k) q
theorem own_bipush (X : own_Cx Z p l e R s m args below meth c n0 own bytes maxL nm ret T h cells slots) {i : Int} (v : Int32) (d : decode bytes pc = .ok (.bipush i, 2)) (hp : pc + 2 = pc') (hv : (Int8.ofInt i).toInt32 = v)
    (q : own_Fin p e below G (T.setTop (mkF m pc' L ((.int v) :: st)))) : own_Fin p e below G (T.setTop (mkF m pc L (st))) := by
  obtain ⟨locs, X, N, eT, hx, hZ, hown, hby, hml, hnm, hret, hlk⟩ := X
  subst hp
  exact own_go (fun t k => XT.bipushV X.here hx rfl v (hb hby d) hv k) q
theorem own_sipush (X : own_Cx Z p l e R s m args below meth c n0 own bytes maxL nm ret T h cells slots) {i : Int} (v : Int32) (d : decode bytes pc = .ok (.sipush i, 3)) (hp : pc + 3 = pc') (hv : (Int16.ofInt i).toInt32 = v)
    (q : own_Fin p e below G (T.setTop (mkF m pc' L ((.int v) :: st)))) : own_Fin p e below G (T.setTop (mkF m pc L (st))) := by
  obtain ⟨locs, X, N, eT, hx, hZ, hown, hby, hml, hnm, hret, hlk⟩ := X
  subst hp
  exact own_go (fun t k => XT.sipushV X.here hx rfl v (hb hby d) hv k) q
theorem own_lconst (X : own_Cx Z p l e R s m args below meth c n0 own bytes maxL nm ret T h cells slots) {i : Fin 2} (v : Int64) (d : decode bytes pc = .ok (.lconst i, 1)) (hp : pc + 1 = pc') (hv : Int64.ofNat i = v)
    (q : own_Fin p e below G (T.setTop (mkF m pc' L ((.long v) :: st)))) : own_Fin p e below G (T.setTop (mkF m pc L (st))) := by
  obtain ⟨locs, X, N, eT, hx, hZ, hown, hby, hml, hnm, hret, hlk⟩ := X
  subst hp
  exact own_go (fun t k => XT.lconstV X.here hx rfl v (hb hby d) hv k) q
theorem own_aconst_null (X : own_Cx Z p l e R s m args below meth c n0 own bytes maxL nm ret T h cells slots)  (d : decode bytes pc = .ok (.aconst_null, 1)) (hp : pc + 1 = pc') 
    (q : own_Fin p e below G (T.setTop (mkF m pc' L (.null :: st)))) : own_Fin p e below G (T.setTop (mkF m pc L (st))) := by
  obtain ⟨locs, X, N, eT, hx, hZ, hown, hby, hml, hnm, hret, hlk⟩ := X
  subst hp
  exact own_go (fun t k => XS.aconstNull X.here hx rfl (hb hby d) k) q
theorem own_iadd (X : own_Cx Z p l e R s m args below meth c n0 own bytes maxL nm ret T h cells slots) {x y : Int32} (d : decode bytes pc = .ok (.iadd, 1)) (hp : pc + 1 = pc') 
    (q : own_Fin p e below G (T.setTop (mkF m pc' L ((.int (x + y)) :: st)))) : own_Fin p e below G (T.setTop (mkF m pc L ((.int y) :: (.int x) :: st))) := by
  obtain ⟨locs, X, N, eT, hx, hZ, hown, hby, hml, hnm, hret, hlk⟩ := X
  subst hp
  exact own_go (fun t k => XS.iadd X.here hx rfl (hb hby d) rfl k) q
theorem own_isub (X : own_Cx Z p l e R s m args below meth c n0 own bytes maxL nm ret T h cells slots) {x y : Int32} (d : decode bytes pc = .ok (.isub, 1)) (hp : pc + 1 = pc') 
    (q : own_Fin p e below G (T.setTop (mkF m pc' L ((.int (x - y)) :: st)))) : own_Fin p e below G (T.setTop (mkF m pc L ((.int y) :: (.int x) :: st))) := by
  obtain ⟨locs, X, N, eT, hx, hZ, hown, hby, hml, hnm, hret, hlk⟩ := X
  subst hp
  exact own_go (fun t k => XS.isub X.here hx rfl (hb hby d) rfl k) q
theorem own_iand (X : own_Cx Z p l e R s m args below meth c n0 own bytes maxL nm ret T h cells slots) {x y : Int32} (d : decode bytes pc = .ok (.iand, 1)) (hp : pc + 1 = pc') 
    (q : own_Fin p e below G (T.setTop (mkF m pc' L ((.int (x &&& y)) :: st)))) : own_Fin p e below G (T.setTop (mkF m pc L ((.int y) :: (.int x) :: st))) := by
  obtain ⟨locs, X, N, eT, hx, hZ, hown, hby, hml, hnm, hret, hlk⟩ := X
  subst hp
  exact own_go (fun t k => XS.iand X.here hx rfl (hb hby d) rfl k) q
theorem own_imul (X : own_Cx Z p l e R s m args below meth c n0 own bytes maxL nm ret T h cells slots) {x y : Int32} (d : decode bytes pc = .ok (.imul, 1)) (hp : pc + 1 = pc') 
    (q : own_Fin p e below G (T.setTop (mkF m pc' L ((.int (x * y)) :: st)))) : own_Fin p e below G (T.setTop (mkF m pc L ((.int y) :: (.int x) :: st))) := by
  obtain ⟨locs, X, N, eT, hx, hZ, hown, hby, hml, hnm, hret, hlk⟩ := X
  subst hp
  exact own_go (fun t k => XS.imul X.here hx rfl (hb hby d) rfl k) q
theorem own_irem (X : own_Cx Z p l e R s m args below meth c n0 own bytes maxL nm ret T h cells slots) {x y : Int32} (d : decode bytes pc = .ok (.irem, 1)) (hp : pc + 1 = pc') (hy : y ≠ 0)
    (q : own_Fin p e below G (T.setTop (mkF m pc' L ((.int (x % y)) :: st)))) : own_Fin p e below G (T.setTop (mkF m pc L ((.int y) :: (.int x) :: st))) := by
  obtain ⟨locs, X, N, eT, hx, hZ, hown, hby, hml, hnm, hret, hlk⟩ := X
  subst hp
  exact own_go (fun t k => iremM X hx rfl (hb hby d) rfl hy k) q
theorem own_ixor (X : own_Cx Z p l e R s m args below meth c n0 own bytes maxL nm ret T h cells slots) {x y : Int32} (d : decode bytes pc = .ok (.ixor, 1)) (hp : pc + 1 = pc') 
    (q : own_Fin p e below G (T.setTop (mkF m pc' L ((.int (x ^^^ y)) :: st)))) : own_Fin p e below G (T.setTop (mkF m pc L ((.int y) :: (.int x) :: st))) := by
  obtain ⟨locs, X, N, eT, hx, hZ, hown, hby, hml, hnm, hret, hlk⟩ := X
  subst hp
  exact own_go (fun t k => XT.ixor X.here hx rfl (hb hby d) rfl k) q
theorem own_ior (X : own_Cx Z p l e R s m args below meth c n0 own bytes maxL nm ret T h cells slots) {x y : Int32} (d : decode bytes pc = .ok (.ior, 1)) (hp : pc + 1 = pc') 
    (q : own_Fin p e below G (T.setTop (mkF m pc' L ((.int (x ||| y)) :: st)))) : own_Fin p e below G (T.setTop (mkF m pc L ((.int y) :: (.int x) :: st))) := by
  obtain ⟨locs, X, N, eT, hx, hZ, hown, hby, hml, hnm, hret, hlk⟩ := X
  subst hp
  exact own_go (fun t k => XT.ior X.here hx rfl (hb hby d) rfl k) q
theorem own_ishl (X : own_Cx Z p l e R s m args below meth c n0 own bytes maxL nm ret T h cells slots) {x y : Int32} (d : decode bytes pc = .ok (.ishl, 1)) (hp : pc + 1 = pc') 
    (q : own_Fin p e below G (T.setTop (mkF m pc' L ((.int (x <<< (y &&& 31))) :: st)))) : own_Fin p e below G (T.setTop (mkF m pc L ((.int y) :: (.int x) :: st))) := by
  obtain ⟨locs, X, N, eT, hx, hZ, hown, hby, hml, hnm, hret, hlk⟩ := X
  subst hp
  exact own_go (fun t k => XT.ishl X.here hx rfl (hb hby d) rfl k) q
theorem own_ishr (X : own_Cx Z p l e R s m args below meth c n0 own bytes maxL nm ret T h cells slots) {x y : Int32} (d : decode bytes pc = .ok (.ishr, 1)) (hp : pc + 1 = pc') 
    (q : own_Fin p e below G (T.setTop (mkF m pc' L ((.int (x >>> (y &&& 31))) :: st)))) : own_Fin p e below G (T.setTop (mkF m pc L ((.int y) :: (.int x) :: st))) := by
  obtain ⟨locs, X, N, eT, hx, hZ, hown, hby, hml, hnm, hret, hlk⟩ := X
  subst hp
  exact own_go (fun t k => XT.ishr X.here hx rfl (hb hby d) rfl k) q
theorem own_iushr (X : own_Cx Z p l e R s m args below meth c n0 own bytes maxL nm ret T h cells slots) {x y : Int32} (d : decode bytes pc = .ok (.iushr, 1)) (hp : pc + 1 = pc') 
    (q : own_Fin p e below G (T.setTop (mkF m pc' L ((.int (XT.ushr x y)) :: st)))) : own_Fin p e below G (T.setTop (mkF m pc L ((.int y) :: (.int x) :: st))) := by
  obtain ⟨locs, X, N, eT, hx, hZ, hown, hby, hml, hnm, hret, hlk⟩ := X
  subst hp
  exact own_go (fun t k => XT.iushr X.here hx rfl (hb hby d) rfl k) q
theorem own_ladd (X : own_Cx Z p l e R s m args below meth c n0 own bytes maxL nm ret T h cells slots) {x y : Int64} (d : decode bytes pc = .ok (.ladd, 1)) (hp : pc + 1 = pc') 
    (q : own_Fin p e below G (T.setTop (mkF m pc' L ((.long (x + y)) :: st)))) : own_Fin p e below G (T.setTop (mkF m pc L ((.long y) :: (.long x) :: st))) := by
  obtain ⟨locs, X, N, eT, hx, hZ, hown, hby, hml, hnm, hret, hlk⟩ := X
  subst hp
  exact own_go (fun t k => XT.ladd X.here hx rfl (hb hby d) rfl k) q
theorem own_lsub (X : own_Cx Z p l e R s m args below meth c n0 own bytes maxL nm ret T h cells slots) {x y : Int64} (d : decode bytes pc = .ok (.lsub, 1)) (hp : pc + 1 = pc') 
    (q : own_Fin p e below G (T.setTop (mkF m pc' L ((.long (x - y)) :: st)))) : own_Fin p e below G (T.setTop (mkF m pc L ((.long y) :: (.long x) :: st))) := by
  obtain ⟨locs, X, N, eT, hx, hZ, hown, hby, hml, hnm, hret, hlk⟩ := X
  subst hp
  exact own_go (fun t k => XT.lsub X.here hx rfl (hb hby d) rfl k) q
theorem own_lmul (X : own_Cx Z p l e R s m args below meth c n0 own bytes maxL nm ret T h cells slots) {x y : Int64} (d : decode bytes pc = .ok (.lmul, 1)) (hp : pc + 1 = pc') 
    (q : own_Fin p e below G (T.setTop (mkF m pc' L ((.long (x * y)) :: st)))) : own_Fin p e below G (T.setTop (mkF m pc L ((.long y) :: (.long x) :: st))) := by
  obtain ⟨locs, X, N, eT, hx, hZ, hown, hby, hml, hnm, hret, hlk⟩ := X
  subst hp
  exact own_go (fun t k => XT.lmul X.here hx rfl (hb hby d) rfl k) q
theorem own_land (X : own_Cx Z p l e R s m args below meth c n0 own bytes maxL nm ret T h cells slots) {x y : Int64} (d : decode bytes pc = .ok (.land, 1)) (hp : pc + 1 = pc') 
    (q : own_Fin p e below G (T.setTop (mkF m pc' L ((.long (x &&& y)) :: st)))) : own_Fin p e below G (T.setTop (mkF m pc L ((.long y) :: (.long x) :: st))) := by
  obtain ⟨locs, X, N, eT, hx, hZ, hown, hby, hml, hnm, hret, hlk⟩ := X
  subst hp
  exact own_go (fun t k => XT.land X.here hx rfl (hb hby d) rfl k) q
theorem own_lor (X : own_Cx Z p l e R s m args below meth c n0 own bytes maxL nm ret T h cells slots) {x y : Int64} (d : decode bytes pc = .ok (.lor, 1)) (hp : pc + 1 = pc') 
    (q : own_Fin p e below G (T.setTop (mkF m pc' L ((.long (x ||| y)) :: st)))) : own_Fin p e below G (T.setTop (mkF m pc L ((.long y) :: (.long x) :: st))) := by
  obtain ⟨locs, X, N, eT, hx, hZ, hown, hby, hml, hnm, hret, hlk⟩ := X
  subst hp
  exact own_go (fun t k => XT.lor X.here hx rfl (hb hby d) rfl k) q
theorem own_lxor (X : own_Cx Z p l e R s m args below meth c n0 own bytes maxL nm ret T h cells slots) {x y : Int64} (d : decode bytes pc = .ok (.lxor, 1)) (hp : pc + 1 = pc') 
    (q : own_Fin p e below G (T.setTop (mkF m pc' L ((.long (x ^^^ y)) :: st)))) : own_Fin p e below G (T.setTop (mkF m pc L ((.long y) :: (.long x) :: st))) := by
  obtain ⟨locs, X, N, eT, hx, hZ, hown, hby, hml, hnm, hret, hlk⟩ := X
  subst hp
  exact own_go (fun t k => XT.lxor X.here hx rfl (hb hby d) rfl k) q
theorem own_lshl (X : own_Cx Z p l e R s m args below meth c n0 own bytes maxL nm ret T h cells slots) {x : Int64} {y : Int32} (d : decode bytes pc = .ok (.lshl, 1)) (hp : pc + 1 = pc') 
    (q : own_Fin p e below G (T.setTop (mkF m pc' L ((.long (x <<< (y.toInt64 &&& 63))) :: st)))) : own_Fin p e below G (T.setTop (mkF m pc L ((.int y) :: (.long x) :: st))) := by
  obtain ⟨locs, X, N, eT, hx, hZ, hown, hby, hml, hnm, hret, hlk⟩ := X
  subst hp
  exact own_go (fun t k => XT.lshl X.here hx rfl (hb hby d) rfl k) q
theorem own_lshr (X : own_Cx Z p l e R s m args below meth c n0 own bytes maxL nm ret T h cells slots) {x : Int64} {y : Int32} (d : decode bytes pc = .ok (.lshr, 1)) (hp : pc + 1 = pc') 
    (q : own_Fin p e below G (T.setTop (mkF m pc' L ((.long (x >>> (y.toInt64 &&& 63))) :: st)))) : own_Fin p e below G (T.setTop (mkF m pc L ((.int y) :: (.long x) :: st))) := by
  obtain ⟨locs, X, N, eT, hx, hZ, hown, hby, hml, hnm, hret, hlk⟩ := X
  subst hp
  exact own_go (fun t k => XT.lshr X.here hx rfl (hb hby d) rfl k) q
theorem own_lushr (X : own_Cx Z p l e R s m args below meth c n0 own bytes maxL nm ret T h cells slots) {x : Int64} {y : Int32} (d : decode bytes pc = .ok (.lushr, 1)) (hp : pc + 1 = pc') 
    (q : own_Fin p e below G (T.setTop (mkF m pc' L ((.long (XT.ushrL x y)) :: st)))) : own_Fin p e below G (T.setTop (mkF m pc L ((.int y) :: (.long x) :: st))) := by
  obtain ⟨locs, X, N, eT, hx, hZ, hown, hby, hml, hnm, hret, hlk⟩ := X
  subst hp
  exact own_go (fun t k => XT.lushr X.here hx rfl (hb hby d) rfl k) q
theorem own_lneg (X : own_Cx Z p l e R s m args below meth c n0 own bytes maxL nm ret T h cells slots) {x : Int64} (d : decode bytes pc = .ok (.lneg, 1)) (hp : pc + 1 = pc') 
    (q : own_Fin p e below G (T.setTop (mkF m pc' L ((.long (-x)) :: st)))) : own_Fin p e below G (T.setTop (mkF m pc L ((.long x) :: st))) := by
  obtain ⟨locs, X, N, eT, hx, hZ, hown, hby, hml, hnm, hret, hlk⟩ := X
  subst hp
  exact own_go (fun t k => XT.lneg X.here hx rfl (hb hby d) rfl k) q
theorem own_i2l (X : own_Cx Z p l e R s m args below meth c n0 own bytes maxL nm ret T h cells slots) {x : Int32} (d : decode bytes pc = .ok (.i2l, 1)) (hp : pc + 1 = pc') 
    (q : own_Fin p e below G (T.setTop (mkF m pc' L ((.long x.toInt64) :: st)))) : own_Fin p e below G (T.setTop (mkF m pc L ((.int x) :: st))) := by
  obtain ⟨locs, X, N, eT, hx, hZ, hown, hby, hml, hnm, hret, hlk⟩ := X
  subst hp
  exact own_go (fun t k => XT.i2l X.here hx rfl (hb hby d) rfl k) q
theorem own_l2i (X : own_Cx Z p l e R s m args below meth c n0 own bytes maxL nm ret T h cells slots) {x : Int64} (d : decode bytes pc = .ok (.l2i, 1)) (hp : pc + 1 = pc') 
    (q : own_Fin p e below G (T.setTop (mkF m pc' L ((.int x.toInt32) :: st)))) : own_Fin p e below G (T.setTop (mkF m pc L ((.long x) :: st))) := by
  obtain ⟨locs, X, N, eT, hx, hZ, hown, hby, hml, hnm, hret, hlk⟩ := X
  subst hp
  exact own_go (fun t k => XT.l2i X.here hx rfl (hb hby d) rfl k) q
theorem own_i2c (X : own_Cx Z p l e R s m args below meth c n0 own bytes maxL nm ret T h cells slots) {x : Int32} (d : decode bytes pc = .ok (.i2c, 1)) (hp : pc + 1 = pc') 
    (q : own_Fin p e below G (T.setTop (mkF m pc' L ((.int x.toUInt32.toUInt16.toUInt32.toInt32) :: st)))) : own_Fin p e below G (T.setTop (mkF m pc L ((.int x) :: st))) := by
  obtain ⟨locs, X, N, eT, hx, hZ, hown, hby, hml, hnm, hret, hlk⟩ := X
  subst hp
  exact own_go (fun t k => XT.i2c X.here hx rfl (hb hby d) rfl k) q
theorem own_dup (X : own_Cx Z p l e R s m args below meth c n0 own bytes maxL nm ret T h cells slots) {v : Value} (d : decode bytes pc = .ok (.dup, 1)) (hp : pc + 1 = pc') (hc : v.category = 1)
    (q : own_Fin p e below G (T.setTop (mkF m pc' L (v :: v :: st)))) : own_Fin p e below G (T.setTop (mkF m pc L (v :: st))) := by
  obtain ⟨locs, X, N, eT, hx, hZ, hown, hby, hml, hnm, hret, hlk⟩ := X
  subst hp
  exact own_go (fun t k => XS.dup X.here hx rfl (hb hby d) rfl hc k) q
theorem own_pop (X : own_Cx Z p l e R s m args below meth c n0 own bytes maxL nm ret T h cells slots) {v : Value} (d : decode bytes pc = .ok (.pop, 1)) (hp : pc + 1 = pc') (hc : v.category = 1)
    (q : own_Fin p e below G (T.setTop (mkF m pc' L (st)))) : own_Fin p e below G (T.setTop (mkF m pc L (v :: st))) := by
  obtain ⟨locs, X, N, eT, hx, hZ, hown, hby, hml, hnm, hret, hlk⟩ := X
  subst hp
  exact own_go (fun t k => XT.pop X.here hx rfl (hb hby d) rfl hc k) q
theorem own_ldcI (X : own_Cx Z p l e R s m args below meth c n0 own bytes maxL nm ret T h cells slots) {i : Nat} {v : Int32} (d : decode bytes pc = .ok (.ldc i, 2)) (hp : pc + 2 = pc') (w : (Jvm.Cond.constant own i v).before a0 Z = true)
    (q : own_Fin p e below G (T.setTop (mkF m pc' L ((.int v) :: st)))) : own_Fin p e below G (T.setTop (mkF m pc L (st))) := by
  obtain ⟨locs, X, N, eT, hx, hZ, hown, hby, hml, hnm, hret, hlk⟩ := X
  subst hp
  exact own_go (fun t k => X.ldcInt hx hown (mvT hZ w) (g := mkF m pc L st) rfl (hb hby d) t k) q
theorem own_ldc2J (X : own_Cx Z p l e R s m args below meth c n0 own bytes maxL nm ret T h cells slots) {i : Nat} {v : Int64} (d : decode bytes pc = .ok (.ldc2_w i, 3)) (hp : pc + 3 = pc') (w : (Jvm.Cond.constantLong own i v).before a0 Z = true)
    (q : own_Fin p e below G (T.setTop (mkF m pc' L ((.long v) :: st)))) : own_Fin p e below G (T.setTop (mkF m pc L (st))) := by
  obtain ⟨locs, X, N, eT, hx, hZ, hown, hby, hml, hnm, hret, hlk⟩ := X
  subst hp
  exact own_go (fun t k => X.ldc2Long hx hown (mvT hZ w) (g := mkF m pc L st) rfl (hb hby d) t k) q
theorem own_ldcF (X : own_Cx Z p l e R s m args below meth c n0 own bytes maxL nm ret T h cells slots) {i : Nat} {v : UInt32} (d : decode bytes pc = .ok (.ldc i, 2)) (hp : pc + 2 = pc') (w : (Jvm.Cond.constantFloat own i v).before a0 Z = true)
    (q : own_Fin p e below G (T.setTop (mkF m pc' L ((.float v) :: st)))) : own_Fin p e below G (T.setTop (mkF m pc L (st))) := by
  obtain ⟨locs, X, N, eT, hx, hZ, hown, hby, hml, hnm, hret, hlk⟩ := X
  subst hp
  exact own_go (fun t k => X.ldcFloatC hx hown (mvT hZ w) (g := mkF m pc L st) rfl (hb hby d) t k) q
theorem own_goto (X : own_Cx Z p l e R s m args below meth c n0 own bytes maxL nm ret T h cells slots) {o : Int} (d : decode bytes pc = .ok (.goto o, 3)) (ho : 0 ≤ (pc : Int) + o) (hp : ((pc : Int) + o).toNat = pc')
    (q : own_Fin p e below G (T.setTop (mkF m pc' L (st)))) : own_Fin p e below G (T.setTop (mkF m pc L (st))) := by
  obtain ⟨locs, X, N, eT, hx, hZ, hown, hby, hml, hnm, hret, hlk⟩ := X
  exact own_go (fun t k => XS.goto X.here hx rfl rfl (hb hby d) ho hp k) q
theorem own_icmp_eq (X : own_Cx Z p l e R s m args below meth c n0 own bytes maxL nm ret T h cells slots) {x y : Int32} {o : Int} {pcT pcF : Nat} (d : decode bytes pc = .ok (.if_icmp .eq o, 3)) (ho : 0 ≤ (pc : Int) + o) (hT : ((pc : Int) + o).toNat = pcT) (hF : pc + 3 = pcF)
    (qT : (x = y) → own_Fin p e below G (T.setTop (mkF m pcT L (st)))) (qF : (¬ (x = y)) → own_Fin p e below G (T.setTop (mkF m pcF L (st)))) : own_Fin p e below G (T.setTop (mkF m pc L ((.int y) :: (.int x) :: st))) := by
  obtain ⟨locs, X, N, eT, hx, hZ, hown, hby, hml, hnm, hret, hlk⟩ := X
  subst hF
  by_cases hc : x = y
  · exact own_go (fun t k => XS.icmpYes X.here hx rfl rfl (hb hby d) rfl (XT.ii_eq_t hc) ho hT k) (qT hc)
  · exact own_go (fun t k => XS.icmpNo X.here hx rfl (hb hby d) rfl (XT.ii_eq_f hc) k) (qF hc)
theorem own_if_eq (X : own_Cx Z p l e R s m args below meth c n0 own bytes maxL nm ret T h cells slots) {x : Int32} {o : Int} {pcT pcF : Nat} (d : decode bytes pc = .ok (.ifCond .eq o, 3)) (ho : 0 ≤ (pc : Int) + o) (hT : ((pc : Int) + o).toNat = pcT) (hF : pc + 3 = pcF)
    (qT : (x = 0) → own_Fin p e below G (T.setTop (mkF m pcT L (st)))) (qF : (¬ (x = 0)) → own_Fin p e below G (T.setTop (mkF m pcF L (st)))) : own_Fin p e below G (T.setTop (mkF m pc L ((.int x) :: st))) := by
  obtain ⟨locs, X, N, eT, hx, hZ, hown, hby, hml, hnm, hret, hlk⟩ := X
  subst hF
  by_cases hc : x = 0
  · exact own_go (fun t k => XS.ifYes X.here hx rfl rfl (hb hby d) rfl (XT.i0_eq_t hc) ho hT k) (qT hc)
  · exact own_go (fun t k => XS.ifNo X.here hx rfl (hb hby d) rfl (XT.i0_eq_f hc) k) (qF hc)
theorem own_lcmp_eq (X : own_Cx Z p l e R s m args below meth c n0 own bytes maxL nm ret T h cells slots) {x y : Int64} {pc1 : Nat} {o : Int} {pcT pcF : Nat} (d0 : decode bytes pc = .ok (.lcmp, 1)) (h1 : pc + 1 = pc1) (d : decode bytes pc1 = .ok (.ifCond .eq o, 3)) (ho : 0 ≤ (pc1 : Int) + o) (hT : ((pc1 : Int) + o).toNat = pcT) (hF : pc1 + 3 = pcF)
    (qT : (x = y) → own_Fin p e below G (T.setTop (mkF m pcT L (st)))) (qF : (¬ (x = y)) → own_Fin p e below G (T.setTop (mkF m pcF L (st)))) : own_Fin p e below G (T.setTop (mkF m pc L ((.long y) :: (.long x) :: st))) := by
  obtain ⟨locs, X, N, eT, hx, hZ, hown, hby, hml, hnm, hret, hlk⟩ := X
  subst h1
  subst hF
  by_cases hc : x = y
  · exact own_go (fun t k => XT.lcmp X.here hx rfl (hb hby d0) rfl (XS.ifYes X.here hx rfl rfl (hb hby d) rfl (XT.ll_eq_t hc) ho hT k)) (qT hc)
  · exact own_go (fun t k => XT.lcmp X.here hx rfl (hb hby d0) rfl (XS.ifNo X.here hx rfl (hb hby d) rfl (XT.ll_eq_f hc) k)) (qF hc)
theorem own_icmp_ne (X : own_Cx Z p l e R s m args below meth c n0 own bytes maxL nm ret T h cells slots) {x y : Int32} {o : Int} {pcT pcF : Nat} (d : decode bytes pc = .ok (.if_icmp .ne o, 3)) (ho : 0 ≤ (pc : Int) + o) (hT : ((pc : Int) + o).toNat = pcT) (hF : pc + 3 = pcF)
    (qT : (¬ (x = y)) → own_Fin p e below G (T.setTop (mkF m pcT L (st)))) (qF : (x = y) → own_Fin p e below G (T.setTop (mkF m pcF L (st)))) : own_Fin p e below G (T.setTop (mkF m pc L ((.int y) :: (.int x) :: st))) := by
  obtain ⟨locs, X, N, eT, hx, hZ, hown, hby, hml, hnm, hret, hlk⟩ := X
  subst hF
  by_cases hc : x = y
  · exact own_go (fun t k => XS.icmpNo X.here hx rfl (hb hby d) rfl (XT.ii_ne_f hc) k) (qF hc)
  · exact own_go (fun t k => XS.icmpYes X.here hx rfl rfl (hb hby d) rfl (XT.ii_ne_t hc) ho hT k) (qT hc)
theorem own_if_ne (X : own_Cx Z p l e R s m args below meth c n0 own bytes maxL nm ret T h cells slots) {x : Int32} {o : Int} {pcT pcF : Nat} (d : decode bytes pc = .ok (.ifCond .ne o, 3)) (ho : 0 ≤ (pc : Int) + o) (hT : ((pc : Int) + o).toNat = pcT) (hF : pc + 3 = pcF)
    (qT : (¬ (x = 0)) → own_Fin p e below G (T.setTop (mkF m pcT L (st)))) (qF : (x = 0) → own_Fin p e below G (T.setTop (mkF m pcF L (st)))) : own_Fin p e below G (T.setTop (mkF m pc L ((.int x) :: st))) := by
  obtain ⟨locs, X, N, eT, hx, hZ, hown, hby, hml, hnm, hret, hlk⟩ := X
  subst hF
  by_cases hc : x = 0
  · exact own_go (fun t k => XS.ifNo X.here hx rfl (hb hby d) rfl (XT.i0_ne_f hc) k) (qF hc)
  · exact own_go (fun t k => XS.ifYes X.here hx rfl rfl (hb hby d) rfl (XT.i0_ne_t hc) ho hT k) (qT hc)
theorem own_lcmp_ne (X : own_Cx Z p l e R s m args below meth c n0 own bytes maxL nm ret T h cells slots) {x y : Int64} {pc1 : Nat} {o : Int} {pcT pcF : Nat} (d0 : decode bytes pc = .ok (.lcmp, 1)) (h1 : pc + 1 = pc1) (d : decode bytes pc1 = .ok (.ifCond .ne o, 3)) (ho : 0 ≤ (pc1 : Int) + o) (hT : ((pc1 : Int) + o).toNat = pcT) (hF : pc1 + 3 = pcF)
    (qT : (¬ (x = y)) → own_Fin p e below G (T.setTop (mkF m pcT L (st)))) (qF : (x = y) → own_Fin p e below G (T.setTop (mkF m pcF L (st)))) : own_Fin p e below G (T.setTop (mkF m pc L ((.long y) :: (.long x) :: st))) := by
  obtain ⟨locs, X, N, eT, hx, hZ, hown, hby, hml, hnm, hret, hlk⟩ := X
  subst h1
  subst hF
  by_cases hc : x = y
  · exact own_go (fun t k => XT.lcmp X.here hx rfl (hb hby d0) rfl (XS.ifNo X.here hx rfl (hb hby d) rfl (XT.ll_ne_f hc) k)) (qF hc)
  · exact own_go (fun t k => XT.lcmp X.here hx rfl (hb hby d0) rfl (XS.ifYes X.here hx rfl rfl (hb hby d) rfl (XT.ll_ne_t hc) ho hT k)) (qT hc)
theorem own_icmp_lt (X : own_Cx Z p l e R s m args below meth c n0 own bytes maxL nm ret T h cells slots) {x y : Int32} {o : Int} {pcT pcF : Nat} (d : decode bytes pc = .ok (.if_icmp .lt o, 3)) (ho : 0 ≤ (pc : Int) + o) (hT : ((pc : Int) + o).toNat = pcT) (hF : pc + 3 = pcF)
    (qT : (x < y) → own_Fin p e below G (T.setTop (mkF m pcT L (st)))) (qF : (¬ (x < y)) → own_Fin p e below G (T.setTop (mkF m pcF L (st)))) : own_Fin p e below G (T.setTop (mkF m pc L ((.int y) :: (.int x) :: st))) := by
  obtain ⟨locs, X, N, eT, hx, hZ, hown, hby, hml, hnm, hret, hlk⟩ := X
  subst hF
  by_cases hc : x < y
  · exact own_go (fun t k => XS.icmpYes X.here hx rfl rfl (hb hby d) rfl (XT.ii_lt_t hc) ho hT k) (qT hc)
  · exact own_go (fun t k => XS.icmpNo X.here hx rfl (hb hby d) rfl (XT.ii_lt_f hc) k) (qF hc)
theorem own_if_lt (X : own_Cx Z p l e R s m args below meth c n0 own bytes maxL nm ret T h cells slots) {x : Int32} {o : Int} {pcT pcF : Nat} (d : decode bytes pc = .ok (.ifCond .lt o, 3)) (ho : 0 ≤ (pc : Int) + o) (hT : ((pc : Int) + o).toNat = pcT) (hF : pc + 3 = pcF)
    (qT : (x < 0) → own_Fin p e below G (T.setTop (mkF m pcT L (st)))) (qF : (¬ (x < 0)) → own_Fin p e below G (T.setTop (mkF m pcF L (st)))) : own_Fin p e below G (T.setTop (mkF m pc L ((.int x) :: st))) := by
  obtain ⟨locs, X, N, eT, hx, hZ, hown, hby, hml, hnm, hret, hlk⟩ := X
  subst hF
  by_cases hc : x < 0
  · exact own_go (fun t k => XS.ifYes X.here hx rfl rfl (hb hby d) rfl (XT.i0_lt_t hc) ho hT k) (qT hc)
  · exact own_go (fun t k => XS.ifNo X.here hx rfl (hb hby d) rfl (XT.i0_lt_f hc) k) (qF hc)
theorem own_lcmp_lt (X : own_Cx Z p l e R s m args below meth c n0 own bytes maxL nm ret T h cells slots) {x y : Int64} {pc1 : Nat} {o : Int} {pcT pcF : Nat} (d0 : decode bytes pc = .ok (.lcmp, 1)) (h1 : pc + 1 = pc1) (d : decode bytes pc1 = .ok (.ifCond .lt o, 3)) (ho : 0 ≤ (pc1 : Int) + o) (hT : ((pc1 : Int) + o).toNat = pcT) (hF : pc1 + 3 = pcF)
    (qT : (x < y) → own_Fin p e below G (T.setTop (mkF m pcT L (st)))) (qF : (¬ (x < y)) → own_Fin p e below G (T.setTop (mkF m pcF L (st)))) : own_Fin p e below G (T.setTop (mkF m pc L ((.long y) :: (.long x) :: st))) := by
  obtain ⟨locs, X, N, eT, hx, hZ, hown, hby, hml, hnm, hret, hlk⟩ := X
  subst h1
  subst hF
  by_cases hc : x < y
  · exact own_go (fun t k => XT.lcmp X.here hx rfl (hb hby d0) rfl (XS.ifYes X.here hx rfl rfl (hb hby d) rfl (XT.ll_lt_t hc) ho hT k)) (qT hc)
  · exact own_go (fun t k => XT.lcmp X.here hx rfl (hb hby d0) rfl (XS.ifNo X.here hx rfl (hb hby d) rfl (XT.ll_lt_f hc) k)) (qF hc)
theorem own_icmp_ge (X : own_Cx Z p l e R s m args below meth c n0 own bytes maxL nm ret T h cells slots) {x y : Int32} {o : Int} {pcT pcF : Nat} (d : decode bytes pc = .ok (.if_icmp .ge o, 3)) (ho : 0 ≤ (pc : Int) + o) (hT : ((pc : Int) + o).toNat = pcT) (hF : pc + 3 = pcF)
    (qT : (¬ (x < y)) → own_Fin p e below G (T.setTop (mkF m pcT L (st)))) (qF : (x < y) → own_Fin p e below G (T.setTop (mkF m pcF L (st)))) : own_Fin p e below G (T.setTop (mkF m pc L ((.int y) :: (.int x) :: st))) := by
  obtain ⟨locs, X, N, eT, hx, hZ, hown, hby, hml, hnm, hret, hlk⟩ := X
  subst hF
  by_cases hc : x < y
  · exact own_go (fun t k => XS.icmpNo X.here hx rfl (hb hby d) rfl (XT.ii_ge_f hc) k) (qF hc)
  · exact own_go (fun t k => XS.icmpYes X.here hx rfl rfl (hb hby d) rfl (XT.ii_ge_t hc) ho hT k) (qT hc)
theorem own_if_ge (X : own_Cx Z p l e R s m args below meth c n0 own bytes maxL nm ret T h cells slots) {x : Int32} {o : Int} {pcT pcF : Nat} (d : decode bytes pc = .ok (.ifCond .ge o, 3)) (ho : 0 ≤ (pc : Int) + o) (hT : ((pc : Int) + o).toNat = pcT) (hF : pc + 3 = pcF)
    (qT : (¬ (x < 0)) → own_Fin p e below G (T.setTop (mkF m pcT L (st)))) (qF : (x < 0) → own_Fin p e below G (T.setTop (mkF m pcF L (st)))) : own_Fin p e below G (T.setTop (mkF m pc L ((.int x) :: st))) := by
  obtain ⟨locs, X, N, eT, hx, hZ, hown, hby, hml, hnm, hret, hlk⟩ := X
  subst hF
  by_cases hc : x < 0
  · exact own_go (fun t k => XS.ifNo X.here hx rfl (hb hby d) rfl (XT.i0_ge_f hc) k) (qF hc)
  · exact own_go (fun t k => XS.ifYes X.here hx rfl rfl (hb hby d) rfl (XT.i0_ge_t hc) ho hT k) (qT hc)
theorem own_lcmp_ge (X : own_Cx Z p l e R s m args below meth c n0 own bytes maxL nm ret T h cells slots) {x y : Int64} {pc1 : Nat} {o : Int} {pcT pcF : Nat} (d0 : decode bytes pc = .ok (.lcmp, 1)) (h1 : pc + 1 = pc1) (d : decode bytes pc1 = .ok (.ifCond .ge o, 3)) (ho : 0 ≤ (pc1 : Int) + o) (hT : ((pc1 : Int) + o).toNat = pcT) (hF : pc1 + 3 = pcF)
    (qT : (¬ (x < y)) → own_Fin p e below G (T.setTop (mkF m pcT L (st)))) (qF : (x < y) → own_Fin p e below G (T.setTop (mkF m pcF L (st)))) : own_Fin p e below G (T.setTop (mkF m pc L ((.long y) :: (.long x) :: st))) := by
  obtain ⟨locs, X, N, eT, hx, hZ, hown, hby, hml, hnm, hret, hlk⟩ := X
  subst h1
  subst hF
  by_cases hc : x < y
  · exact own_go (fun t k => XT.lcmp X.here hx rfl (hb hby d0) rfl (XS.ifNo X.here hx rfl (hb hby d) rfl (XT.ll_ge_f hc) k)) (qF hc)
  · exact own_go (fun t k => XT.lcmp X.here hx rfl (hb hby d0) rfl (XS.ifYes X.here hx rfl rfl (hb hby d) rfl (XT.ll_ge_t hc) ho hT k)) (qT hc)
theorem own_icmp_gt (X : own_Cx Z p l e R s m args below meth c n0 own bytes maxL nm ret T h cells slots) {x y : Int32} {o : Int} {pcT pcF : Nat} (d : decode bytes pc = .ok (.if_icmp .gt o, 3)) (ho : 0 ≤ (pc : Int) + o) (hT : ((pc : Int) + o).toNat = pcT) (hF : pc + 3 = pcF)
    (qT : (y < x) → own_Fin p e below G (T.setTop (mkF m pcT L (st)))) (qF : (¬ (y < x)) → own_Fin p e below G (T.setTop (mkF m pcF L (st)))) : own_Fin p e below G (T.setTop (mkF m pc L ((.int y) :: (.int x) :: st))) := by
  obtain ⟨locs, X, N, eT, hx, hZ, hown, hby, hml, hnm, hret, hlk⟩ := X
  subst hF
  by_cases hc : y < x
  · exact own_go (fun t k => XS.icmpYes X.here hx rfl rfl (hb hby d) rfl (XT.ii_gt_t hc) ho hT k) (qT hc)
  · exact own_go (fun t k => XS.icmpNo X.here hx rfl (hb hby d) rfl (XT.ii_gt_f hc) k) (qF hc)
theorem own_if_gt (X : own_Cx Z p l e R s m args below meth c n0 own bytes maxL nm ret T h cells slots) {x : Int32} {o : Int} {pcT pcF : Nat} (d : decode bytes pc = .ok (.ifCond .gt o, 3)) (ho : 0 ≤ (pc : Int) + o) (hT : ((pc : Int) + o).toNat = pcT) (hF : pc + 3 = pcF)
    (qT : (0 < x) → own_Fin p e below G (T.setTop (mkF m pcT L (st)))) (qF : (¬ (0 < x)) → own_Fin p e below G (T.setTop (mkF m pcF L (st)))) : own_Fin p e below G (T.setTop (mkF m pc L ((.int x) :: st))) := by
  obtain ⟨locs, X, N, eT, hx, hZ, hown, hby, hml, hnm, hret, hlk⟩ := X
  subst hF
  by_cases hc : 0 < x
  · exact own_go (fun t k => XS.ifYes X.here hx rfl rfl (hb hby d) rfl (XT.i0_gt_t hc) ho hT k) (qT hc)
  · exact own_go (fun t k => XS.ifNo X.here hx rfl (hb hby d) rfl (XT.i0_gt_f hc) k) (qF hc)
theorem own_lcmp_gt (X : own_Cx Z p l e R s m args below meth c n0 own bytes maxL nm ret T h cells slots) {x y : Int64} {pc1 : Nat} {o : Int} {pcT pcF : Nat} (d0 : decode bytes pc = .ok (.lcmp, 1)) (h1 : pc + 1 = pc1) (d : decode bytes pc1 = .ok (.ifCond .gt o, 3)) (ho : 0 ≤ (pc1 : Int) + o) (hT : ((pc1 : Int) + o).toNat = pcT) (hF : pc1 + 3 = pcF)
    (qT : (y < x) → own_Fin p e below G (T.setTop (mkF m pcT L (st)))) (qF : (¬ (y < x)) → own_Fin p e below G (T.setTop (mkF m pcF L (st)))) : own_Fin p e below G (T.setTop (mkF m pc L ((.long y) :: (.long x) :: st))) := by
  obtain ⟨locs, X, N, eT, hx, hZ, hown, hby, hml, hnm, hret, hlk⟩ := X
  subst h1
  subst hF
  by_cases hc : y < x
  · exact own_go (fun t k => XT.lcmp X.here hx rfl (hb hby d0) rfl (XS.ifYes X.here hx rfl rfl (hb hby d) rfl (XT.ll_gt_t hc) ho hT k)) (qT hc)
  · exact own_go (fun t k => XT.lcmp X.here hx rfl (hb hby d0) rfl (XS.ifNo X.here hx rfl (hb hby d) rfl (XT.ll_gt_f hc) k)) (qF hc)
theorem own_icmp_le (X : own_Cx Z p l e R s m args below meth c n0 own bytes maxL nm ret T h cells slots) {x y : Int32} {o : Int} {pcT pcF : Nat} (d : decode bytes pc = .ok (.if_icmp .le o, 3)) (ho : 0 ≤ (pc : Int) + o) (hT : ((pc : Int) + o).toNat = pcT) (hF : pc + 3 = pcF)
    (qT : (¬ (y < x)) → own_Fin p e below G (T.setTop (mkF m pcT L (st)))) (qF : (y < x) → own_Fin p e below G (T.setTop (mkF m pcF L (st)))) : own_Fin p e below G (T.setTop (mkF m pc L ((.int y) :: (.int x) :: st))) := by
  obtain ⟨locs, X, N, eT, hx, hZ, hown, hby, hml, hnm, hret, hlk⟩ := X
  subst hF
  by_cases hc : y < x
  · exact own_go (fun t k => XS.icmpNo X.here hx rfl (hb hby d) rfl (XT.ii_le_f hc) k) (qF hc)
  · exact own_go (fun t k => XS.icmpYes X.here hx rfl rfl (hb hby d) rfl (XT.ii_le_t hc) ho hT k) (qT hc)
theorem own_if_le (X : own_Cx Z p l e R s m args below meth c n0 own bytes maxL nm ret T h cells slots) {x : Int32} {o : Int} {pcT pcF : Nat} (d : decode bytes pc = .ok (.ifCond .le o, 3)) (ho : 0 ≤ (pc : Int) + o) (hT : ((pc : Int) + o).toNat = pcT) (hF : pc + 3 = pcF)
    (qT : (¬ (0 < x)) → own_Fin p e below G (T.setTop (mkF m pcT L (st)))) (qF : (0 < x) → own_Fin p e below G (T.setTop (mkF m pcF L (st)))) : own_Fin p e below G (T.setTop (mkF m pc L ((.int x) :: st))) := by
  obtain ⟨locs, X, N, eT, hx, hZ, hown, hby, hml, hnm, hret, hlk⟩ := X
  subst hF
  by_cases hc : 0 < x
  · exact own_go (fun t k => XS.ifNo X.here hx rfl (hb hby d) rfl (XT.i0_le_f hc) k) (qF hc)
  · exact own_go (fun t k => XS.ifYes X.here hx rfl rfl (hb hby d) rfl (XT.i0_le_t hc) ho hT k) (qT hc)
theorem own_lcmp_le (X : own_Cx Z p l e R s m args below meth c n0 own bytes maxL nm ret T h cells slots) {x y : Int64} {pc1 : Nat} {o : Int} {pcT pcF : Nat} (d0 : decode bytes pc = .ok (.lcmp, 1)) (h1 : pc + 1 = pc1) (d : decode bytes pc1 = .ok (.ifCond .le o, 3)) (ho : 0 ≤ (pc1 : Int) + o) (hT : ((pc1 : Int) + o).toNat = pcT) (hF : pc1 + 3 = pcF)
    (qT : (¬ (y < x)) → own_Fin p e below G (T.setTop (mkF m pcT L (st)))) (qF : (y < x) → own_Fin p e below G (T.setTop (mkF m pcF L (st)))) : own_Fin p e below G (T.setTop (mkF m pc L ((.long y) :: (.long x) :: st))) := by
  obtain ⟨locs, X, N, eT, hx, hZ, hown, hby, hml, hnm, hret, hlk⟩ := X
  subst h1
  subst hF
  by_cases hc : y < x
  · exact own_go (fun t k => XT.lcmp X.here hx rfl (hb hby d0) rfl (XS.ifNo X.here hx rfl (hb hby d) rfl (XT.ll_le_f hc) k)) (qF hc)
  · exact own_go (fun t k => XT.lcmp X.here hx rfl (hb hby d0) rfl (XS.ifYes X.here hx rfl rfl (hb hby d) rfl (XT.ll_le_t hc) ho hT k)) (qT hc)
theorem own_acmp_eq (X : own_Cx Z p l e R s m args below meth c n0 own bytes maxL nm ret T h cells slots) {x y : Value} {o : Int} {pcT pcF : Nat} (d : decode bytes pc = .ok (.if_acmp .eq o, 3)) (hx1 : x.isRef = true) (hy1 : y.isRef = true) (ho : 0 ≤ (pc : Int) + o) (hT : ((pc : Int) + o).toNat = pcT) (hF : pc + 3 = pcF)
    (qT : (x = y) → own_Fin p e below G (T.setTop (mkF m pcT L (st)))) (qF : (¬ (x = y)) → own_Fin p e below G (T.setTop (mkF m pcF L (st)))) : own_Fin p e below G (T.setTop (mkF m pc L (y :: x :: st))) := by
  obtain ⟨locs, X, N, eT, hx, hZ, hown, hby, hml, hnm, hret, hlk⟩ := X
  subst hF
  by_cases hc : x = y
  · exact own_go (fun t k => XT.acmpYes X.here hx rfl rfl (hb hby d) rfl hx1 hy1 (XT.aa_eq_t hc) ho hT k) (qT hc)
  · exact own_go (fun t k => XT.acmpNo X.here hx rfl (hb hby d) rfl hx1 hy1 (XT.aa_eq_f hc) k) (qF hc)
theorem own_acmp_ne (X : own_Cx Z p l e R s m args below meth c n0 own bytes maxL nm ret T h cells slots) {x y : Value} {o : Int} {pcT pcF : Nat} (d : decode bytes pc = .ok (.if_acmp .ne o, 3)) (hx1 : x.isRef = true) (hy1 : y.isRef = true) (ho : 0 ≤ (pc : Int) + o) (hT : ((pc : Int) + o).toNat = pcT) (hF : pc + 3 = pcF)
    (qT : (¬ (x = y)) → own_Fin p e below G (T.setTop (mkF m pcT L (st)))) (qF : (x = y) → own_Fin p e below G (T.setTop (mkF m pcF L (st)))) : own_Fin p e below G (T.setTop (mkF m pc L (y :: x :: st))) := by
  obtain ⟨locs, X, N, eT, hx, hZ, hown, hby, hml, hnm, hret, hlk⟩ := X
  subst hF
  by_cases hc : x = y
  · exact own_go (fun t k => XT.acmpNo X.here hx rfl (hb hby d) rfl hx1 hy1 (XT.aa_ne_f hc) k) (qF hc)
  · exact own_go (fun t k => XT.acmpYes X.here hx rfl rfl (hb hby d) rfl hx1 hy1 (XT.aa_ne_t hc) ho hT k) (qT hc)
theorem own_nonnullN (X : own_Cx Z p l e R s m args below meth c n0 own bytes maxL nm ret T h cells slots) {o : Int} (d : decode bytes pc = .ok (.ifnonnull o, 3)) (hp : pc + 3 = pc') 
    (q : own_Fin p e below G (T.setTop (mkF m pc' L (st)))) : own_Fin p e below G (T.setTop (mkF m pc L (.null :: st))) := by
  obtain ⟨locs, X, N, eT, hx, hZ, hown, hby, hml, hnm, hret, hlk⟩ := X
  subst hp
  exact own_go (fun t k => XT.nonnullNo X.here hx rfl (hb hby d) rfl rfl k) q
theorem own_more (X : own_Cx Z p l e R s m args below meth c n0 own bytes maxL nm ret T h cells slots) {cells' slots' : Nat} (h1 : cells ≤ cells') (h2 : slots ≤ slots') : own_Cx Z p l e R s m args below meth c n0 own bytes maxL nm ret T h cells' slots' := by
  obtain ⟨locs, X, N, eT, hx, hZ, hown, hby, hml, hnm, hret, hlk⟩ := X
  exact ⟨locs, X.more h1 h2, N, eT, hx, hZ, hown, hby, hml, hnm, hret, hlk⟩
theorem own_nar {ty : FieldType} {z : Value} (h : ty.isReference = true) : narrow ty z = z := by cases ty <;> first | rfl | (cases h; done)
theorem own_retI (X : own_Cx Z p l e R s m args below meth c n0 own bytes maxL nm ret T h cells slots) {z : Int32} {q : Option Value → Heap → Prop} {k n : Nat} (hr0 : ret = some .int) (d : decode bytes pc = .ok (.ireturn, 1)) (hq : q (some (.int z)) h) (hc : cells ≤ k) (hs : slots ≤ n) :
    own_Fin p e below (own_End s n0 q k n) (T.setTop (mkF m pc L ((.int z) :: st))) := by
  obtain ⟨locs, X, N, eT, hx, hZ, hown, hby, hml, hnm, hret, hlk⟩ := X
  obtain ⟨fs, hr, hrun, hended, hW, hsame⟩ := X.leave (v := some (.int z)) (fun h => by first | rfl | (rw [hret, hr0] at h; cases h)) hlk
  refine ⟨_, _, retOut X hx (hret.trans hr0) rfl (Or.inl ⟨rfl, Or.inl rfl, _, rfl⟩) (hb hby d) hr, hrun, hended, _, _, rfl, ⟨?_, N⟩, ⟨_, rfl⟩, hW, hsame.mono hc hs⟩
  show q _ T.heap
  rw [eT]
  exact hq
theorem own_retJ (X : own_Cx Z p l e R s m args below meth c n0 own bytes maxL nm ret T h cells slots) {z : Int64} {q : Option Value → Heap → Prop} {k n : Nat} (hr0 : ret = some .long) (d : decode bytes pc = .ok (.lreturn, 1)) (hq : q (some (.long z)) h) (hc : cells ≤ k) (hs : slots ≤ n) :
    own_Fin p e below (own_End s n0 q k n) (T.setTop (mkF m pc L ((.long z) :: st))) := by
  obtain ⟨locs, X, N, eT, hx, hZ, hown, hby, hml, hnm, hret, hlk⟩ := X
  obtain ⟨fs, hr, hrun, hended, hW, hsame⟩ := X.leave (v := some (.long z)) (fun h => by first | rfl | (rw [hret, hr0] at h; cases h)) hlk
  refine ⟨_, _, retOut X hx (hret.trans hr0) rfl (Or.inr (Or.inl ⟨rfl, rfl, _, rfl⟩)) (hb hby d) hr, hrun, hended, _, _, rfl, ⟨?_, N⟩, ⟨_, rfl⟩, hW, hsame.mono hc hs⟩
  show q _ T.heap
  rw [eT]
  exact hq
theorem own_retZ (X : own_Cx Z p l e R s m args below meth c n0 own bytes maxL nm ret T h cells slots) {z : Int32} {q : Option Value → Heap → Prop} {k n : Nat} (hr0 : ret = some .boolean) (d : decode bytes pc = .ok (.ireturn, 1)) (hz : narrow .boolean (.int z) = .int z) (hq : q (some (.int z)) h) (hc : cells ≤ k) (hs : slots ≤ n) :
    own_Fin p e below (own_End s n0 q k n) (T.setTop (mkF m pc L ((.int z) :: st))) := by
  obtain ⟨locs, X, N, eT, hx, hZ, hown, hby, hml, hnm, hret, hlk⟩ := X
  obtain ⟨fs, hr, hrun, hended, hW, hsame⟩ := X.leave (v := some (.int z)) (fun h => by first | rfl | (rw [hret, hr0] at h; cases h)) hlk
  refine ⟨_, _, retOut X hx (hret.trans hr0) hz (Or.inl ⟨rfl, Or.inr (Or.inl rfl), _, rfl⟩) (hb hby d) hr, hrun, hended, _, _, rfl, ⟨?_, N⟩, ⟨_, rfl⟩, hW, hsame.mono hc hs⟩
  show q _ T.heap
  rw [eT]
  exact hq
theorem own_retC (X : own_Cx Z p l e R s m args below meth c n0 own bytes maxL nm ret T h cells slots) {z : Int32} {q : Option Value → Heap → Prop} {k n : Nat} (hr0 : ret = some .char) (d : decode bytes pc = .ok (.ireturn, 1)) (hz : narrow .char (.int z) = .int z) (hq : q (some (.int z)) h) (hc : cells ≤ k) (hs : slots ≤ n) :
    own_Fin p e below (own_End s n0 q k n) (T.setTop (mkF m pc L ((.int z) :: st))) := by
  obtain ⟨locs, X, N, eT, hx, hZ, hown, hby, hml, hnm, hret, hlk⟩ := X
  obtain ⟨fs, hr, hrun, hended, hW, hsame⟩ := X.leave (v := some (.int z)) (fun h => by first | rfl | (rw [hret, hr0] at h; cases h)) hlk
  refine ⟨_, _, retOut X hx (hret.trans hr0) hz (Or.inl ⟨rfl, Or.inr (Or.inr (Or.inr (Or.inl rfl))), _, rfl⟩) (hb hby d) hr, hrun, hended, _, _, rfl, ⟨?_, N⟩, ⟨_, rfl⟩, hW, hsame.mono hc hs⟩
  show q _ T.heap
  rw [eT]
  exact hq
theorem own_retA (X : own_Cx Z p l e R s m args below meth c n0 own bytes maxL nm ret T h cells slots) {z : Value} {ty : FieldType} {q : Option Value → Heap → Prop} {k n : Nat} (hr0 : ret = some ty) (hty : ty.isReference = true) (hz : z.isRef = true) (d : decode bytes pc = .ok (.areturn, 1)) (hq : q (some z) h) (hc : cells ≤ k) (hs : slots ≤ n) :
    own_Fin p e below (own_End s n0 q k n) (T.setTop (mkF m pc L (z :: st))) := by
  obtain ⟨locs, X, N, eT, hx, hZ, hown, hby, hml, hnm, hret, hlk⟩ := X
  obtain ⟨fs, hr, hrun, hended, hW, hsame⟩ := X.leave (v := some z) (fun h => by first | rfl | (rw [hret, hr0] at h; cases h)) hlk
  refine ⟨_, _, retOut X hx (hret.trans hr0) (own_nar hty) (Or.inr (Or.inr (Or.inr (Or.inr ⟨rfl, hty, hz⟩)))) (hb hby d) hr, hrun, hended, _, _, rfl, ⟨?_, N⟩, ⟨_, rfl⟩, hW, hsame.mono hc hs⟩
  show q _ T.heap
  rw [eT]
  exact hq
theorem own_retV (X : own_Cx Z p l e R s m args below meth c n0 own bytes maxL nm ret T h cells slots)  {q : Option Value → Heap → Prop} {k n : Nat} (hr0 : ret = none) (d : decode bytes pc = .ok (.return_, 1)) (hq : q (none) h) (hc : cells ≤ k) (hs : slots ≤ n) :
    own_Fin p e below (own_End s n0 q k n) (T.setTop (mkF m pc L ([]))) := by
  obtain ⟨locs, X, N, eT, hx, hZ, hown, hby, hml, hnm, hret, hlk⟩ := X
  obtain ⟨fs, hr, hrun, hended, hW, hsame⟩ := X.leave (v := none) (fun h => by first | rfl | (rw [hret, hr0] at h; cases h)) hlk
  refine ⟨_, _, X.returnOut hx (hret.trans hr0) (hb hby d) hr, hrun, hended, _, _, rfl, ⟨?_, N⟩, ⟨_, rfl⟩, hW, hsame.mono hc hs⟩
  show q _ T.heap
  rw [eT]
  exact hq
theorem own_eqF {a : Addr} {C n d : String} {v w : Value} (F : Fld Z h a C n d v) (e : v = w) : Fld Z h a C n d w := e ▸ F
theorem own_getf (X : own_Cx Z p l e R s m args below meth c n0 own bytes maxL nm ret T h cells slots) {R0 n d0 : String} {i : Nat} {a : Addr} {v : Value} (w : (Jvm.Cond.fieldLink own i R0 n d0).before a0 Z = true) (F : Fld Z h a R0 n d0 v) (d : decode bytes pc = .ok (.getfield i, 3)) (hp : pc + 3 = pc')
    (q : ∀ T', own_Cx Z p l e R s m args below meth c n0 own bytes maxL nm ret T' h cells slots → own_Fin p e below G (T'.setTop (mkF m pc' L (v :: st)))) : own_Fin p e below G (T.setTop (mkF m pc L ((.ref a) :: st))) := by
  obtain ⟨locs, X, N, eT, hx, hZ, hown, hby, hml, hnm, hret, hlk⟩ := X
  subst hp
  obtain ⟨T1, X1, e1, st1⟩ := getF X hx hZ hown (host := "") (Or.inl w) Via.refl eT F (g := mkF m pc L ((.ref a) :: st)) rfl rfl (hb hby d)
  exact own_go st1 (q T1 ⟨locs, X1, N, e1, hx, hZ, hown, hby, hml, hnm, hret, hlk⟩)
theorem own_gets (X : own_Cx Z p l e R s m args below meth c n0 own bytes maxL nm ret T h cells slots) {R0 n d0 : String} {i : Nat} {v : Value} (w : (Jvm.Cond.fieldLink own i R0 n d0).before a0 Z = true) (F : Sta Z h R0 n d0 v) (d : decode bytes pc = .ok (.getstatic i, 3)) (hp : pc + 3 = pc')
    (q : ∀ T', own_Cx Z p l e R s m args below meth c n0 own bytes maxL nm ret T' h cells slots → own_Fin p e below G (T'.setTop (mkF m pc' L (v :: st)))) : own_Fin p e below G (T.setTop (mkF m pc L (st))) := by
  obtain ⟨locs, X, N, eT, hx, hZ, hown, hby, hml, hnm, hret, hlk⟩ := X
  subst hp
  obtain ⟨T1, X1, e1, st1⟩ := getS X hx hZ hown (host := "") w Via.refl eT F (g := mkF m pc L st) rfl (hb hby d)
  exact own_go st1 (q T1 ⟨locs, X1, N, e1, hx, hZ, hown, hby, hml, hnm, hret, hlk⟩)
theorem own_putf (X : own_Cx Z p l e R s m args below meth c n0 own bytes maxL nm ret T h cells slots) {R0 n d0 C : String} {i kk : Nat} {a : Addr} {v old : Value} {ty : FieldType} (w : (Jvm.Cond.fieldLink own i R0 n d0).before a0 Z = true) (F : Fld Z h a R0 n d0 old) (E : Exa Z h a C) (Ly : (Jvm.Cond.lays C R0 n d0).before a0 Z = true ∨ ((Jvm.Cond.laysFinal C R0 n d0).before a0 Z = true ∧ own = R0 ∧ nm = "<init>")) (wi : (Jvm.Cond.instantiable C kk).before a0 Z = true) (hty : parseFieldDescriptor d0 = some ty) (hn : narrow ty v = v) (hf : fits ty v = true) (hge : n0 ≤ a) (d : decode bytes pc = .ok (.putfield i, 3)) (hp : pc + 3 = pc')
    (q : ∀ T' h', own_Cx Z p l e R s m args below meth c n0 own bytes maxL nm ret T' h' cells slots → Wr h h' a (Jvm.RoadKit.slotOf Z R0 n d0) v → own_Fin p e below G (T'.setTop (mkF m pc' L (st)))) : own_Fin p e below G (T.setTop (mkF m pc L (v :: (.ref a) :: st))) := by
  obtain ⟨locs, X, N, eT, hx, hZ, hown, hby, hml, hnm, hret, hlk⟩ := X
  subst hp
  have Ly' : (Jvm.Cond.lays C R0 n d0).before a0 Z = true ∨ ((Jvm.Cond.laysFinal C R0 n d0).before a0 Z = true ∧ own = R0 ∧ meth.name = "<init>") := by
    rcases Ly with q | ⟨q1, q2, q3⟩
    · exact Or.inl q
    · exact Or.inr ⟨q1, q2, hnm.trans q3⟩
  obtain ⟨T1, h1, X1, e1, W1, st1⟩ := putF X hx hZ hown (host := "") (Or.inl w) Via.refl eT F E Ly' wi hty hn hf (g := mkF m pc L (v :: (.ref a) :: st)) rfl rfl (hb hby d)
  exact own_go st1 (q T1 h1 ⟨_, X1, Fr.snoc X1 N hge, e1, hx, hZ, hown, hby, hml, hnm, hret, hlk⟩ W1)
theorem own_new (X : own_Cx Z p l e R s m args below meth c n0 own bytes maxL nm ret T h cells slots) {C : String} {i n : Nat} (w : (Jvm.Cond.classLink own i C).before a0 Z = true) (wi : (Jvm.Cond.instantiable C n).before a0 Z = true) (wz : (Jvm.Cond.initialized C).before a0 Z = true) (d : decode bytes pc = .ok (.new i, 3)) (hp : pc + 3 = pc') {cells' slots' : Nat} (ec : cells + 1 = cells') (es : slots + n = slots') (hc : cells' ≤ R.cells) (hl : slots' ≤ R.slots)
    (q : ∀ T' h' a, a = h.size → own_Cx Z p l e R s m args below meth c n0 own bytes maxL nm ret T' h' cells' slots' → Ext h h' → Exa Z h' a C → (∀ {O nm d : String} {ty : FieldType}, Laid Z a0 C O nm d → parseFieldDescriptor d = some ty → Fld Z h' a O nm d (defaultValue ty)) → own_Fin p e below G (T'.setTop (mkF m pc' L ((.ref a) :: st)))) : own_Fin p e below G (T.setTop (mkF m pc L (st))) := by
  obtain ⟨locs, X, N, eT, hx, hZ, hown, hby, hml, hnm, hret, hlk⟩ := X
  subst hp ec es
  obtain ⟨T1, h1, X1, e1, E1, A1, D1, -, st1⟩ := newO X hx hZ hown w wi wz eT (g := mkF m pc L st) rfl (hb hby d) hc hl
  exact own_go st1 (q T1 h1 _ rfl ⟨_, X1, N, e1, hx, hZ, hown, hby, hml, hnm, hret, hlk⟩ E1 A1 D1)
theorem own_newarray (X : own_Cx Z p l e R s m args below meth c n0 own bytes maxL nm ret T h cells slots) {aty : ArrayType} (w : (Jvm.Cond.arrayClass (newarray.typeOf aty)).before a0 Z = true) {n : Int32} (cap : Nat) (hn : ¬ n < 0) (hcap : n.toNatClampNeg ≤ cap) (hb8 : cap * 8 ≤ 536870912) (d : decode bytes pc = .ok (.newarray aty, 2)) (hp : pc + 2 = pc') {cells' slots' : Nat} (ec : cells + 1 = cells') (es : slots + cap = slots') (hc : cells' ≤ R.cells) (hl : slots' ≤ R.slots)
    (q : ∀ T' h' cA a, a = h.size → own_Cx Z p l e R s m args below meth c n0 own bytes maxL nm ret T' h' cells' slots' → Ext h h' → Arr Z h' a (newA cA (newarray.typeOf aty) n) (newarray.typeOf aty) → own_Fin p e below G (T'.setTop (mkF m pc' L ((.ref a) :: st)))) : own_Fin p e below G (T.setTop (mkF m pc L ((.int n) :: st))) := by
  obtain ⟨locs, X, N, eT, hx, hZ, hown, hby, hml, hnm, hret, hlk⟩ := X
  subst hp ec es
  obtain ⟨T1, h1, cA, X1, e1, E1, A1, st1⟩ := newP X hx hZ w eT (g := mkF m pc L ((.int n) :: st)) rfl (hb hby d) rfl hn hcap hb8 hc hl
  exact own_go st1 (q T1 h1 cA _ rfl ⟨_, X1, N, e1, hx, hZ, hown, hby, hml, hnm, hret, hlk⟩ E1 A1)
theorem own_anewarray (X : own_Cx Z p l e R s m args below meth c n0 own bytes maxL nm ret T h cells slots) {C : String} {i : Nat} (w : (Jvm.Cond.classLink own i C).before a0 Z = true) (w2 : (Jvm.Cond.arrayOver (.object C)).before a0 Z = true) {n : Int32} (cap : Nat) (hn : ¬ n < 0) (hcap : n.toNatClampNeg ≤ cap) (hb8 : cap * 8 ≤ 536870912) (d : decode bytes pc = .ok (.anewarray i, 3)) (hp : pc + 3 = pc') {cells' slots' : Nat} (ec : cells + 1 = cells') (es : slots + cap = slots') (hc : cells' ≤ R.cells) (hl : slots' ≤ R.slots)
    (q : ∀ T' h' cA a, a = h.size → own_Cx Z p l e R s m args below meth c n0 own bytes maxL nm ret T' h' cells' slots' → Ext h h' → Arr Z h' a (newA cA (.object C) n) (.object C) → own_Fin p e below G (T'.setTop (mkF m pc' L ((.ref a) :: st)))) : own_Fin p e below G (T.setTop (mkF m pc L ((.int n) :: st))) := by
  obtain ⟨locs, X, N, eT, hx, hZ, hown, hby, hml, hnm, hret, hlk⟩ := X
  subst hp ec es
  obtain ⟨T1, h1, cA, X1, e1, E1, A1, -, st1⟩ := newR X hx hZ hown w w2 eT (g := mkF m pc L ((.int n) :: st)) rfl (hb hby d) rfl hn hcap hb8 hc hl
  exact own_go st1 (q T1 h1 cA _ rfl ⟨_, X1, N, e1, hx, hZ, hown, hby, hml, hnm, hret, hlk⟩ E1 A1)
theorem own_iaload (X : own_Cx Z p l e R s m args below meth c n0 own bytes maxL nm ret T h cells slots) {a : Addr} {cl : Cell} {j : Int32} {v : Value} (A : Arr Z h a cl .int) (hj : ¬ (j < 0 ∨ cl.slots.size ≤ j.toNatClampNeg)) (hv : cl.slots[j.toNatClampNeg]? = some v) (d : decode bytes pc = .ok (.iaload, 1)) (hp : pc + 1 = pc')
    (q : own_Fin p e below G (T.setTop (mkF m pc' L (v :: st)))) : own_Fin p e below G (T.setTop (mkF m pc L ((.int j) :: (.ref a) :: st))) := by
  obtain ⟨locs, X, N, eT, hx, hZ, hown, hby, hml, hnm, hret, hlk⟩ := X
  subst hp
  exact own_go (fun t k => X.iaload hx (by rw [eT]; exact A.1) (State.isArrayOf_alike hZ.alike A.2.1) A.2.2 hj hv (g := mkF m pc L ((.int j) :: (.ref a) :: st)) rfl rfl (hb hby d) t k) q
theorem own_laload (X : own_Cx Z p l e R s m args below meth c n0 own bytes maxL nm ret T h cells slots) {a : Addr} {cl : Cell} {j : Int32} {v : Value} (A : Arr Z h a cl .long) (hj : ¬ (j < 0 ∨ cl.slots.size ≤ j.toNatClampNeg)) (hv : cl.slots[j.toNatClampNeg]? = some v) (d : decode bytes pc = .ok (.laload, 1)) (hp : pc + 1 = pc')
    (q : own_Fin p e below G (T.setTop (mkF m pc' L (v :: st)))) : own_Fin p e below G (T.setTop (mkF m pc L ((.int j) :: (.ref a) :: st))) := by
  obtain ⟨locs, X, N, eT, hx, hZ, hown, hby, hml, hnm, hret, hlk⟩ := X
  subst hp
  exact own_go (fun t k => X.laload hx (by rw [eT]; exact A.1) (State.isArrayOf_alike hZ.alike A.2.1) A.2.2 hj hv (g := mkF m pc L ((.int j) :: (.ref a) :: st)) rfl rfl (hb hby d) t k) q
theorem own_baload (X : own_Cx Z p l e R s m args below meth c n0 own bytes maxL nm ret T h cells slots) {a : Addr} {cl : Cell} {j : Int32} {v : Value} (A : Arr Z h a cl .byte) (hj : ¬ (j < 0 ∨ cl.slots.size ≤ j.toNatClampNeg)) (hv : cl.slots[j.toNatClampNeg]? = some v) (d : decode bytes pc = .ok (.baload, 1)) (hp : pc + 1 = pc')
    (q : own_Fin p e below G (T.setTop (mkF m pc' L (v :: st)))) : own_Fin p e below G (T.setTop (mkF m pc L ((.int j) :: (.ref a) :: st))) := by
  obtain ⟨locs, X, N, eT, hx, hZ, hown, hby, hml, hnm, hret, hlk⟩ := X
  subst hp
  exact own_go (fun t k => X.baloadBytes hx (by rw [eT]; exact A.1) (State.isArrayOf_alike hZ.alike A.2.1) A.2.2 hj hv (g := mkF m pc L ((.int j) :: (.ref a) :: st)) rfl rfl (hb hby d) t k) q
theorem own_arraylength (X : own_Cx Z p l e R s m args below meth c n0 own bytes maxL nm ret T h cells slots) {a : Addr} {cl : Cell} {ty : FieldType} {z : Int32} (A : Arr Z h a cl ty) (hz : cl.slots.size.toInt32 = z) (d : decode bytes pc = .ok (.arraylength, 1)) (hp : pc + 1 = pc')
    (q : own_Fin p e below G (T.setTop (mkF m pc' L ((.int z) :: st)))) : own_Fin p e below G (T.setTop (mkF m pc L ((.ref a) :: st))) := by
  obtain ⟨locs, X, N, eT, hx, hZ, hown, hby, hml, hnm, hret, hlk⟩ := X
  subst hp hz
  exact own_go (fun t k => X.arraylength hx (by rw [eT]; exact A.1) (State.isArrayOf_alike hZ.alike A.2.1) (g := mkF m pc L ((.ref a) :: st)) rfl rfl (hb hby d) t k) q
theorem own_iastore (X : own_Cx Z p l e R s m args below meth c n0 own bytes maxL nm ret T h cells slots) {a : Addr} {cl : Cell} {j : Int32} {x : Int32} (A : Arr Z h a cl .int) (hj : ¬ (j < 0 ∨ cl.slots.size ≤ j.toNatClampNeg)) (hge : n0 ≤ a) (d : decode bytes pc = .ok (.iastore, 1)) (hp : pc + 1 = pc')
    (q : ∀ T' h', own_Cx Z p l e R s m args below meth c n0 own bytes maxL nm ret T' h' cells slots → Wr h h' a j.toNatClampNeg (.int x) → own_Fin p e below G (T'.setTop (mkF m pc' L (st)))) : own_Fin p e below G (T.setTop (mkF m pc L ((.int x) :: (.int j) :: (.ref a) :: st))) := by
  obtain ⟨locs, X, N, eT, hx, hZ, hown, hby, hml, hnm, hret, hlk⟩ := X
  subst hp
  obtain ⟨T1, h1, X1, e1, W1, st1⟩ := stI X hx hZ eT A hj (g := mkF m pc L ((.int x) :: (.int j) :: (.ref a) :: st)) rfl rfl (hb hby d)
  exact own_go st1 (q T1 h1 ⟨_, X1, Fr.snoc X1 N hge, e1, hx, hZ, hown, hby, hml, hnm, hret, hlk⟩ W1)
theorem own_lastore (X : own_Cx Z p l e R s m args below meth c n0 own bytes maxL nm ret T h cells slots) {a : Addr} {cl : Cell} {j : Int32} {x : Int64} (A : Arr Z h a cl .long) (hj : ¬ (j < 0 ∨ cl.slots.size ≤ j.toNatClampNeg)) (hge : n0 ≤ a) (d : decode bytes pc = .ok (.lastore, 1)) (hp : pc + 1 = pc')
    (q : ∀ T' h', own_Cx Z p l e R s m args below meth c n0 own bytes maxL nm ret T' h' cells slots → Wr h h' a j.toNatClampNeg (.long x) → own_Fin p e below G (T'.setTop (mkF m pc' L (st)))) : own_Fin p e below G (T.setTop (mkF m pc L ((.long x) :: (.int j) :: (.ref a) :: st))) := by
  obtain ⟨locs, X, N, eT, hx, hZ, hown, hby, hml, hnm, hret, hlk⟩ := X
  subst hp
  obtain ⟨T1, h1, X1, e1, W1, st1⟩ := stJ X hx hZ eT A hj (g := mkF m pc L ((.long x) :: (.int j) :: (.ref a) :: st)) rfl rfl (hb hby d)
  exact own_go st1 (q T1 h1 ⟨_, X1, Fr.snoc X1 N hge, e1, hx, hZ, hown, hby, hml, hnm, hret, hlk⟩ W1)
theorem own_initO (X : own_Cx Z p l e R s m args below meth c n0 own bytes maxL nm ret T h cells slots) {i : Nat} {a : Addr} (w1 : (Jvm.Cond.methodLink own i Lib.objectInit).before a0 Z = true) (w2 : (Jvm.Cond.instanceMethod Lib.objectInit).before a0 Z = true) (w3 : (Jvm.Cond.code Lib.objectInit ⟨#[0xb1]⟩ 1 none).before a0 Z = true) (d : decode bytes pc = .ok (.invokespecial i, 3)) (hp : pc + 3 = pc') (hsz : L.size = maxL) (hf : 1 ≤ R.frames) {W : Nat} (hW : (st.map fun v => v.category).sum = W) (hl : W + 12 ≤ R.locals)
    (q : ∀ T', own_Cx Z p l e R s m args below meth c n0 own bytes maxL nm ret T' h cells slots → own_Fin p e below G (T'.setTop (mkF m pc' L (st)))) : own_Fin p e below G (T.setTop (mkF m pc L ((.ref a) :: st))) := by
  obtain ⟨locs, X, N, eT, hx, hZ, hown, hby, hml, hnm, hret, hlk⟩ := X
  subst hp
  obtain ⟨T1, X1, e1, st1⟩ := initO X hx hZ hown w1 w2 w3 eT (g := mkF m pc L ((.ref a) :: st)) rfl (hsz.trans hml.symm) rfl (hb hby d) hf (W := W) (by show 2 * 0 + _ ≤ _; omega) hl
  exact own_go st1 (q T1 ⟨locs, X1, N, e1, hx, hZ, hown, hby, hml, hnm, hret, hlk⟩)
theorem own_callS (X : own_Cx Z p l e R s m args below meth c n0 own bytes maxL nm ret T h cells slots) {y : MethodName} {yb : ByteArray} {ymax : Nat} {yr : Option FieldType} {i : Nat} (w1 : (Jvm.Cond.methodLink own i y).before a0 Z = true) (w2 : (Jvm.Cond.static y).before a0 Z = true) (w3 : (Jvm.Cond.initialized y.cls).before a0 Z = true) (w4 : (Jvm.Cond.code y yb ymax yr).before a0 Z = true) (hy : y.cls ≠ "java/lang/invoke/MethodHandle" ∧ y.cls ≠ "java/lang/invoke/VarHandle")
    {rm : Room} {argsL rest : List Value} {q : Option Value → Heap → Prop} (hM : own_Met l Z y yb ymax yr [] rm argsL.toArray h n0 q) {ps : List FieldType} {r : Option FieldType} (pd : parseMethodDescriptor y.desc = some ⟨ps, r⟩) (hlen : argsL.length = ps.length) (d : decode bytes pc = .ok (.invokestatic i, 3)) (hp : pc + 3 = pc') (hsz : L.size = maxL) (hst : st = argsL.reverse ++ rest) {W : Nat} (hW : (rest.map fun v => v.category).sum = W) (hfr : rm.frames + 1 ≤ R.frames) (hlo : W + (ymax + 11) + rm.locals ≤ R.locals) {cells' slots' : Nat} (ec : cells + rm.cells = cells') (es : slots + rm.slots = slots') (hc : cells' ≤ R.cells) (hs : slots' ≤ R.slots)
    (k : ∀ v T' h', own_Cx Z p l e R s m args below meth c n0 own bytes maxL nm ret T' h' cells' slots' → q v h' → own_Fin p e below G (T'.setTop (mkF m pc' L (v.toList ++ rest)))) : own_Fin p e below G (T.setTop (mkF m pc L st)) := by
  obtain ⟨locs, X, N, eT, hx, hZ, hown, hby, hml, hnm, hret, hlk⟩ := X
  subst hp ec es
  obtain ⟨v, _, ⟨T1, L1, k1, n1⟩, -, X1, ⟨Lc, hQ, l1, y1, z1⟩, st1⟩ := Jvm.LawKit.callS X hx (y := y) hown (mvT hZ w1) (mvT hZ w2) (mvT hZ w3) (mvT hZ w4) hy (backOf (W := W) (Q := fun v h L => q v h ∧ Fr n0 L) hM hZ w4 w3 hfr hlo) (g := mkF m pc L st) rfl (hsz.trans hml.symm) (argsL := argsL) (rest := rest) (lenOf pd hlen) hst (by show 2 * 0 + _ ≤ _; omega) (hb hby d) (fun _ _ => ⟨rfl, eT, hc, hs⟩)
  dsimp only [Pt.U, Pt.locs, Pt.cells, Pt.slots] at X1 l1 y1 z1 st1 hQ
  subst l1 y1 z1
  exact own_go st1 (k v T1 _ ⟨_, X1, Fr.app N hQ.2, rfl, hx, hZ, hown, hby, hml, hnm, hret, hlk⟩ hQ.1)
theorem own_callI (X : own_Cx Z p l e R s m args below meth c n0 own bytes maxL nm ret T h cells slots) {y : MethodName} {yb : ByteArray} {ymax : Nat} {i : Nat} (hi : y.name = "<init>") (w1 : (Jvm.Cond.methodLink own i y).before a0 Z = true) (w2 : (Jvm.Cond.instanceMethod y).before a0 Z = true) (w3 : (Jvm.Cond.initialized y.cls).before a0 Z = true) (w4 : (Jvm.Cond.code y yb ymax none).before a0 Z = true) (hy : y.cls ≠ "java/lang/invoke/MethodHandle" ∧ y.cls ≠ "java/lang/invoke/VarHandle")
    {rm : Room} {a : Addr} {argsL rest : List Value} {q : Option Value → Heap → Prop} (hM : own_Met l Z y yb ymax none [] rm (Value.ref a :: argsL).toArray h n0 q) {ps : List FieldType} {r : Option FieldType} (pd : parseMethodDescriptor y.desc = some ⟨ps, r⟩) (hlen : argsL.length = ps.length) (d : decode bytes pc = .ok (.invokespecial i, 3)) (hp : pc + 3 = pc') (hsz : L.size = maxL) (hst : st = argsL.reverse ++ .ref a :: rest) {W : Nat} (hW : (rest.map fun v => v.category).sum = W) (hfr : rm.frames + 1 ≤ R.frames) (hlo : W + (ymax + 11) + rm.locals ≤ R.locals) {cells' slots' : Nat} (ec : cells + rm.cells = cells') (es : slots + rm.slots = slots') (hc : cells' ≤ R.cells) (hs : slots' ≤ R.slots)
    (k : ∀ v T' h', own_Cx Z p l e R s m args below meth c n0 own bytes maxL nm ret T' h' cells' slots' → q v h' → own_Fin p e below G (T'.setTop (mkF m pc' L (v.toList ++ rest)))) : own_Fin p e below G (T.setTop (mkF m pc L st)) := by
  obtain ⟨locs, X, N, eT, hx, hZ, hown, hby, hml, hnm, hret, hlk⟩ := X
  subst hp ec es
  obtain ⟨v, _, ⟨T1, L1, k1, n1⟩, -, X1, ⟨Lc, hQ, l1, y1, z1⟩, st1⟩ := X.specialBack hx (y := y) hi hown (mvT hZ w1) (mvT hZ w2) (mvT hZ w4) hy (backOf (W := W) (Q := fun v h L => q v h ∧ Fr n0 L) hM hZ w4 w3 hfr hlo) (g := mkF m pc L st) rfl (hsz.trans hml.symm) (Steps.refl _) (a := a) (argsL := argsL) (rest := rest) (lenOf pd hlen) hst (by show 2 * 0 + _ ≤ _; omega) (hb hby d) (fun _ _ => ⟨rfl, eT, hc, hs⟩)
  dsimp only [Pt.U, Pt.locs, Pt.cells, Pt.slots] at X1 l1 y1 z1 st1 hQ
  subst l1 y1 z1
  exact own_go (fun t k => st1.trans k) (k v T1 _ ⟨_, X1, Fr.app N hQ.2, rfl, hx, hZ, hown, hby, hml, hnm, hret, hlk⟩ hQ.1)
theorem own_callV (X : own_Cx Z p l e R s m args below meth c n0 own bytes maxL nm ret T h cells slots) {y : MethodName} {yb : ByteArray} {ymax : Nat} {yr : Option FieldType} {i : Nat} {C : String} (w1 : (Jvm.Cond.methodLink own i y).before a0 Z = true) (w2 : (Jvm.Cond.declares y).before a0 Z = true) (w5 : (Jvm.Cond.selects C y y).before a0 Z = true) (w6 : (Jvm.Cond.instanceMethod y).before a0 Z = true) (w3 : (Jvm.Cond.initialized y.cls).before a0 Z = true) (w4 : (Jvm.Cond.code y yb ymax yr).before a0 Z = true) (hy : y.cls ≠ "java/lang/invoke/MethodHandle" ∧ y.cls ≠ "java/lang/invoke/VarHandle")
    {rm : Room} {a : Addr} {argsL rest : List Value} {q : Option Value → Heap → Prop} (hM : own_Met l Z y yb ymax yr [] rm (Value.ref a :: argsL).toArray h n0 q) (E : Exa Z h a C) {ps : List FieldType} {r : Option FieldType} (pd : parseMethodDescriptor y.desc = some ⟨ps, r⟩) (hlen : argsL.length = ps.length) (d : decode bytes pc = .ok (.invokevirtual i, 3)) (hp : pc + 3 = pc') (hsz : L.size = maxL) (hst : st = argsL.reverse ++ .ref a :: rest) {W : Nat} (hW : (rest.map fun v => v.category).sum = W) (hfr : rm.frames + 1 ≤ R.frames) (hlo : W + (ymax + 11) + rm.locals ≤ R.locals) {cells' slots' : Nat} (ec : cells + rm.cells = cells') (es : slots + rm.slots = slots') (hc : cells' ≤ R.cells) (hs : slots' ≤ R.slots)
    (k : ∀ v T' h', own_Cx Z p l e R s m args below meth c n0 own bytes maxL nm ret T' h' cells' slots' → q v h' → own_Fin p e below G (T'.setTop (mkF m pc' L (v.toList ++ rest)))) : own_Fin p e below G (T.setTop (mkF m pc L st)) := by
  obtain ⟨locs, X, N, eT, hx, hZ, hown, hby, hml, hnm, hret, hlk⟩ := X
  subst hp ec es
  obtain ⟨cq, kq, qa, qb, qc⟩ := isOf (T := T) hZ eT E
  obtain ⟨v, _, ⟨T1, L1, k1, n1⟩, -, X1, ⟨Lc, hQ, l1, y1, z1⟩, st1⟩ := X.virtualBack hx (y := y) (z := y) hown (mvT hZ w1) (mvT hZ w2) (notFace_of_selects (args := #[]) (mvT hZ w5)) (mvT hZ w5) (mvT hZ w6) hy (backOf (W := W) (Q := fun v h L => q v h ∧ Fr n0 L) hM hZ w4 w3 hfr hlo) qa qc (g := mkF m pc L st) rfl (hsz.trans hml.symm) (Steps.refl _) (argsL := argsL) (rest := rest) (lenOf pd hlen) hst (by show 2 * 0 + _ ≤ _; omega) (hb hby d) (fun _ _ => ⟨rfl, eT, hc, hs⟩)
  dsimp only [Pt.U, Pt.locs, Pt.cells, Pt.slots] at X1 l1 y1 z1 st1 hQ
  subst l1 y1 z1
  exact own_go (fun t k => st1.trans k) (k v T1 _ ⟨_, X1, Fr.app N hQ.2, rfl, hx, hZ, hown, hby, hml, hnm, hret, hlk⟩ hQ.1)
end OwnKit
theorem pd_1 : parseMethodDescriptor "()Ljava/lang/String;" = some ⟨[], some (.object "java/lang/String")⟩ := by decide +kernel
theorem pd_2 : parseMethodDescriptor "(I)C" = some ⟨[.int], some .char⟩ := by decide +kernel
theorem pd_3 : parseMethodDescriptor "()Z" = some ⟨[], some .boolean⟩ := by decide +kernel
theorem pd_4 : parseMethodDescriptor "([BI)C" = some ⟨[(.array .byte), .int], some .char⟩ := by decide +kernel
theorem pd_5 : parseMethodDescriptor "(II)V" = some ⟨[.int, .int], none⟩ := by decide +kernel
theorem pd_6 : parseMethodDescriptor "(IILjava/util/function/BiFunction;)I" = some ⟨[.int, .int, (.object "java/util/function/BiFunction")], some .int⟩ := by decide +kernel
theorem pd_7 : parseMethodDescriptor "()Z" = some ⟨[], some .boolean⟩ := by decide +kernel

def own_ord (a e n : Addr) : Int32 := if (.ref a : Value) = .ref e then (0 : Int32) else (if (.ref a : Value) = .ref n then (0 : Int32) else (1 : Int32))
theorem own_ord0 (e n : Addr) : own_ord e e n = 0 := by rw [own_ord, if_pos rfl]
theorem own_ord1 {e n : Addr} (h : n ≠ e) : own_ord n e n = 0 := by rw [own_ord, if_neg (fun z => h (by cases z; rfl)), if_pos rfl]
theorem own_ord2 {a e n : Addr} (h : a ≠ e) (h2 : a ≠ n) : own_ord a e n = 1 := by rw [own_ord, if_neg (fun z => h (by cases z; rfl)), if_neg (fun z => h2 (by cases z; rfl))]
def own_Rel (Z : State) (h : Heap) (r : Addr) (o n x : Int32) : Prop := Exa Z h r "com/example/iterate/iterate/workflow/Filter$Relation" ∧ Fld Z h r "java/lang/Enum" "ordinal" "I" (.int o) ∧ ∃ (sy b : Addr) (cl : Cell), Fld Z h r "com/example/iterate/iterate/workflow/Filter$Relation" "symbol" "Ljava/lang/String;" (.ref sy) ∧ Exa Z h sy "java/lang/String" ∧ Fld Z h sy "java/lang/String" "coder" "B" (.int 0) ∧ Fld Z h sy "java/lang/String" "value" "[B" (.ref b) ∧ Arr Z h b cl .byte ∧ cl.slots.size.toInt32 = n ∧ ¬ ((0 : Int32) < 0 ∨ cl.slots.size ≤ (0 : Int32).toNatClampNeg) ∧ cl.slots[(0 : Int32).toNatClampNeg]? = some (.int x)
section OwnRel
variable {args : Array Value} {s : State} {t : Term} {n x o : Int32}
theorem own_eqv {a : Term} {k : Int32} (h : (Jvm.Cond.eq a (.int k)).value args s none s [] = some true) : a.eval args s none [] s = some (.int k) := by
  obtain ⟨u, w, h1, h2, h3, -⟩ := cmp_v (Or.inl h)
  have e2 : w = .int k := Option.some.inj (h2.symm.trans (Term.int_eval k))
  subst e2
  cases u <;> simp [Kin, Value.isRef] at h3
  rename_i z
  rw [h1]
  simp only [Jvm.Cond.value, h1, h2] at h
  simpa using h
theorem own_rel_start (e1 : (Jvm.Cond.exactly t "com/example/iterate/iterate/workflow/Filter$Relation").value args s none s [] = some true) (e2 : (Jvm.Cond.exactly (Term.field t "com/example/iterate/iterate/workflow/Filter$Relation" "symbol" "Ljava/lang/String;") "java/lang/String").value args s none s [] = some true)
    (e3 : (Jvm.Cond.eq (Term.field (Term.field t "com/example/iterate/iterate/workflow/Filter$Relation" "symbol" "Ljava/lang/String;") "java/lang/String" "coder" "B") (Term.int 0)).value args s none s [] = some true)
    (e4 : (Jvm.Cond.arrayOf (Term.field (Term.field t "com/example/iterate/iterate/workflow/Filter$Relation" "symbol" "Ljava/lang/String;") "java/lang/String" "value" "[B") FieldType.byte).value args s none s [] = some true)
    (e5 : (Jvm.Cond.eq (Term.length (Term.field (Term.field t "com/example/iterate/iterate/workflow/Filter$Relation" "symbol" "Ljava/lang/String;") "java/lang/String" "value" "[B")) (Term.int n)).value args s none s [] = some true)
    (e6 : (Jvm.Cond.eq (Term.elem (Term.field (Term.field t "com/example/iterate/iterate/workflow/Filter$Relation" "symbol" "Ljava/lang/String;") "java/lang/String" "value" "[B") (Term.int 0)) (Term.int x)).value args s none s [] = some true)
    (e7 : (Jvm.Cond.eq (Term.field t "java/lang/Enum" "ordinal" "I") (Term.int o)).value args s none s [] = some true) :
    ∃ r, t.eval args s none [] s = some (.ref r) ∧ own_Rel s s.heap r o n x := by
  obtain ⟨r, hr⟩ := exa_v e1
  obtain ⟨sy, hsy⟩ := exa_v e2
  obtain ⟨b, hb⟩ := arr_v e4
  have f1 : s.fieldOf? r "com/example/iterate/iterate/workflow/Filter$Relation" "symbol" "Ljava/lang/String;" = some (.ref sy) := (fld_at hr).symm.trans hsy
  have f2 : s.fieldOf? sy "java/lang/String" "value" "[B" = some (.ref b) := (fld_at hsy).symm.trans hb
  have f3 : s.fieldOf? sy "java/lang/String" "coder" "B" = some (.int 0) := (fld_at hsy).symm.trans (own_eqv e3)
  have f4 : s.fieldOf? r "java/lang/Enum" "ordinal" "I" = some (.int o) := (fld_at hr).symm.trans (own_eqv e7)
  obtain ⟨cl, A⟩ := Arr.start hb e4
  obtain ⟨k1, k2⟩ := elem_in (own_eqv e6) hb (Term.int_eval 0) A.1
  obtain ⟨b', cl', q1, q2, q3⟩ := Term.length_spec (own_eqv e5)
  cases hb.symm.trans q1
  cases (A.fin (Vm.Alike.refl _)).symm.trans q2
  exact ⟨r, hr, Exa.start hr e1, Fld.start f4, sy, b, cl, Fld.start f1, Exa.start hsy e2, Fld.start f3, Fld.start f2, A, (Value.int.inj q3).symm, k1, k2⟩
end OwnRel
theorem d1_0 : decode prog_65_method_5_code 0 = .ok (.aload_n 0, 1) := by decide +kernel
theorem d1_1 : decode prog_65_method_5_code 1 = .ok (.getfield 41, 3) := by decide +kernel
theorem d1_4 : decode prog_65_method_5_code 4 = .ok (.areturn, 1) := by decide +kernel
theorem own_pn1 : plainFor (⟨"com/example/iterate/iterate/workflow/Filter$Relation", "symbol", "()Ljava/lang/String;"⟩ : MethodName) = true := by first | exact plainFor_of_name (by first | (simp [plainName, overriddenIn, x]; done) | decide +kernel) | decide +kernel
theorem own_ef1 (a0_ : Addr) (m : MethodId) : entryFrame m #[(.ref a0_)] 1 = mkF m 0 #[.val (.ref a0_)] [] := by
  first | (simp [entryFrame, mkF, argsToLocals, Value.category]; done) | rfl
def own_q1 (a0_ : Addr) (sy : Addr) (Z : State) (h0 : Heap) (v : Option Value) (h : Heap) : Prop := v = some (.ref sy) ∧ h0 = h
set_option maxRecDepth 65536 in
set_option maxHeartbeats 40000000 in
theorem own_m1 (l : Launch) (Z : State) (a0 : Array Value) (hw : ∀ d ∈ tables_1, d.before a0 Z = true) (ws : List Jvm.Cond) (a0_ : Addr) (sy : Addr) (h0 : Heap) (n0 : Nat) (Z0 : n0 ≤ h0.size) (F1 : Fld Z h0 a0_ "com/example/iterate/iterate/workflow/Filter$Relation" "symbol" "Ljava/lang/String;" (.ref sy)) :
    own_Met l Z (⟨"com/example/iterate/iterate/workflow/Filter$Relation", "symbol", "()Ljava/lang/String;"⟩ : MethodName) prog_65_method_5_code 1 (some (.object "java/lang/String")) ws ({ frames := 0, cells := 0, slots := 0, locals := 0 } : Room) #[(.ref a0_)] h0 n0 (own_q1 a0_ sy Z h0) := by
  refine own_enter (own := "com/example/iterate/iterate/workflow/Filter$Relation") (nm := "symbol") rfl rfl own_pn1 (own_ef1 a0_) ?_
  intro p e s m below meth c T0 X0
  refine own_aloadN X0 d1_0 rfl rfl rfl ?_
  refine own_getf X0 (hw _ (List.mem_of_getElem? (i := 9) rfl)) F1 d1_1 rfl (fun T2 X3 => ?_)
  exact own_retA X3 rfl rfl rfl d1_4 ⟨rfl, rfl⟩ (by decide) (by decide)
theorem d3_0 : decode jdk_42_method_154_code 0 = .ok (.getstatic 38, 3) := by decide +kernel
theorem d3_3 : decode jdk_42_method_154_code 3 = .ok (.ifCond .eq 14, 3) := by decide +kernel
theorem d3_6 : decode jdk_42_method_154_code 6 = .ok (.aload_n 0, 1) := by decide +kernel
theorem d3_7 : decode jdk_42_method_154_code 7 = .ok (.getfield 15, 3) := by decide +kernel
theorem d3_10 : decode jdk_42_method_154_code 10 = .ok (.ifCond .ne 7, 3) := by decide +kernel
theorem d3_13 : decode jdk_42_method_154_code 13 = .ok (.iconst 1, 1) := by decide +kernel
theorem d3_14 : decode jdk_42_method_154_code 14 = .ok (.goto 4, 3) := by decide +kernel
theorem d3_18 : decode jdk_42_method_154_code 18 = .ok (.ireturn, 1) := by decide +kernel
theorem own_pn2 : plainFor (⟨"java/lang/String", "isLatin1", "()Z"⟩ : MethodName) = true := by first | exact plainFor_of_name (by first | (simp [plainName, overriddenIn, x]; done) | decide +kernel) | decide +kernel
theorem own_ef2 (a0_ : Addr) (m : MethodId) : entryFrame m #[(.ref a0_)] 1 = mkF m 0 #[.val (.ref a0_)] [] := by
  first | (simp [entryFrame, mkF, argsToLocals, Value.category]; done) | rfl
def own_q2 (a0_ : Addr) (cst : Int32) (Z : State) (h0 : Heap) (v : Option Value) (h : Heap) : Prop := v = some (.int (1 : Int32)) ∧ h0 = h
set_option maxRecDepth 65536 in
set_option maxHeartbeats 40000000 in
theorem own_m2 (l : Launch) (Z : State) (a0 : Array Value) (hw : ∀ d ∈ tables_1, d.before a0 Z = true) (ws : List Jvm.Cond) (a0_ : Addr) (cst : Int32) (h0 : Heap) (n0 : Nat) (Z0 : n0 ≤ h0.size) (F1 : Sta Z h0 "java/lang/String" "COMPACT_STRINGS" "Z" (.int cst)) (F2 : Fld Z h0 a0_ "java/lang/String" "coder" "B" (.int (0 : Int32))) (hcs : ¬ cst = (0 : Int32)) :
    own_Met l Z (⟨"java/lang/String", "isLatin1", "()Z"⟩ : MethodName) jdk_42_method_154_code 1 (some .boolean) ws ({ frames := 0, cells := 0, slots := 0, locals := 0 } : Room) #[(.ref a0_)] h0 n0 (own_q2 a0_ cst Z h0) := by
  refine own_enter (own := "java/lang/String") (nm := "isLatin1") rfl rfl own_pn2 (own_ef2 a0_) ?_
  intro p e s m below meth c T0 X0
  refine own_gets X0 (hw _ (List.mem_of_getElem? (i := 22) rfl)) F1 d3_0 rfl (fun T3 X4 => ?_)
  refine own_if_eq X4 d3_3 (by decide) (pcT := 17) (by decide) rfl (fun hc => absurd hc hcs) (fun hc => ?_)
  refine own_aloadN X4 d3_6 rfl rfl rfl ?_
  refine own_getf X4 (hw _ (List.mem_of_getElem? (i := 23) rfl)) F2 d3_7 rfl (fun T5 X6 => ?_)
  refine own_if_ne X6 d3_10 (by decide) (pcT := 17) (by decide) rfl (fun hc => absurd hc (by decide)) (fun hc => ?_)
  refine own_iconst X6 (1 : Int32) d3_13 rfl (by decide) ?_
  refine own_goto X6 d3_14 (by decide) (pc' := 18) (by decide) ?_
  exact own_retZ X6 rfl d3_18 rfl ⟨rfl, rfl⟩ (by decide) (by decide)
theorem d6_0 : decode jdk_41_method_11_code 0 = .ok (.iload_n 0, 1) := by decide +kernel
theorem d6_1 : decode jdk_41_method_11_code 1 = .ok (.ifCond .lt 8, 3) := by decide +kernel
theorem d6_4 : decode jdk_41_method_11_code 4 = .ok (.iload_n 0, 1) := by decide +kernel
theorem d6_5 : decode jdk_41_method_11_code 5 = .ok (.iload_n 1, 1) := by decide +kernel
theorem d6_6 : decode jdk_41_method_11_code 6 = .ok (.if_icmp .lt 10, 3) := by decide +kernel
theorem d6_16 : decode jdk_41_method_11_code 16 = .ok (.iload_n 0, 1) := by decide +kernel
theorem d6_17 : decode jdk_41_method_11_code 17 = .ok (.ireturn, 1) := by decide +kernel
theorem own_pn3 : plainFor (⟨"jdk/internal/util/Preconditions", "checkIndex", "(IILjava/util/function/BiFunction;)I"⟩ : MethodName) = true := by first | exact plainFor_of_name (by first | (simp [plainName, overriddenIn, x]; done) | decide +kernel) | decide +kernel
theorem own_ef3 (i_ : Int32) (n_ : Int32) (fv : Value) (hfv : fv.isRef = true) (m : MethodId) : entryFrame m #[(.int i_), (.int n_), (fv)] 3 = mkF m 0 #[.val (.int i_), .val (.int n_), .val (fv)] [] := by
  rcases ref_cases hfv with rfl | ⟨r, rfl⟩ <;> first | (simp [entryFrame, mkF, argsToLocals, Value.category]; done) | rfl
def own_q3 (i_ : Int32) (n_ : Int32) (fv : Value) (Z : State) (h0 : Heap) (v : Option Value) (h : Heap) : Prop := v = some (.int i_) ∧ h0 = h
set_option maxRecDepth 65536 in
set_option maxHeartbeats 40000000 in
theorem own_m3 (l : Launch) (Z : State) (a0 : Array Value) (hw : ∀ d ∈ tables_1, d.before a0 Z = true) (ws : List Jvm.Cond) (i_ : Int32) (n_ : Int32) (fv : Value) (h0 : Heap) (n0 : Nat) (Z0 : n0 ≤ h0.size) (hfv : fv.isRef = true) (hi1 : ¬ i_ < (0 : Int32)) (hi2 : i_ < n_) :
    own_Met l Z (⟨"jdk/internal/util/Preconditions", "checkIndex", "(IILjava/util/function/BiFunction;)I"⟩ : MethodName) jdk_41_method_11_code 3 (some .int) ws ({ frames := 0, cells := 0, slots := 0, locals := 0 } : Room) #[(.int i_), (.int n_), (fv)] h0 n0 (own_q3 i_ n_ fv Z h0) := by
  refine own_enter (own := "jdk/internal/util/Preconditions") (nm := "checkIndex") rfl rfl own_pn3 (own_ef3 i_ n_ fv hfv) ?_
  intro p e s m below meth c T0 X0
  refine own_iloadN X0 d6_0 rfl rfl ?_
  refine own_if_lt X0 d6_1 (by decide) (pcT := 9) (by decide) rfl (fun hc => absurd hc hi1) (fun hc => ?_)
  refine own_iloadN X0 d6_4 rfl rfl ?_
  refine own_iloadN X0 d6_5 rfl rfl ?_
  refine own_icmp_lt X0 d6_6 (by decide) (pcT := 16) (by decide) rfl (fun hc => ?_) (fun hc => absurd hi2 hc)
  refine own_iloadN X0 d6_16 rfl rfl ?_
  exact own_retI X0 rfl d6_17 ⟨rfl, rfl⟩ (by decide) (by decide)
theorem d5_0 : decode jdk_42_method_155_code 0 = .ok (.iload_n 0, 1) := by decide +kernel
theorem d5_1 : decode jdk_42_method_155_code 1 = .ok (.iload_n 1, 1) := by decide +kernel
theorem d5_2 : decode jdk_42_method_155_code 2 = .ok (.getstatic 1053, 3) := by decide +kernel
theorem d5_5 : decode jdk_42_method_155_code 5 = .ok (.invokestatic 1059, 3) := by decide +kernel
theorem d5_8 : decode jdk_42_method_155_code 8 = .ok (.pop, 1) := by decide +kernel
theorem d5_9 : decode jdk_42_method_155_code 9 = .ok (.return_, 1) := by decide +kernel
theorem own_pn4 : plainFor (⟨"java/lang/String", "checkIndex", "(II)V"⟩ : MethodName) = true := by first | exact plainFor_of_name (by first | (simp [plainName, overriddenIn, x]; done) | decide +kernel) | decide +kernel
theorem own_ef4 (i_ : Int32) (n_ : Int32) (m : MethodId) : entryFrame m #[(.int i_), (.int n_)] 2 = mkF m 0 #[.val (.int i_), .val (.int n_)] [] := by
  first | (simp [entryFrame, mkF, argsToLocals, Value.category]; done) | rfl
def own_q4 (i_ : Int32) (n_ : Int32) (fv : Value) (Z : State) (h0 : Heap) (v : Option Value) (h : Heap) : Prop := v = none ∧ h0 = h
set_option maxRecDepth 65536 in
set_option maxHeartbeats 40000000 in
theorem own_m4 (l : Launch) (Z : State) (a0 : Array Value) (hw : ∀ d ∈ tables_1, d.before a0 Z = true) (ws : List Jvm.Cond) (i_ : Int32) (n_ : Int32) (fv : Value) (h0 : Heap) (n0 : Nat) (Z0 : n0 ≤ h0.size) (F1 : Sta Z h0 "jdk/internal/util/Preconditions" "SIOOBE_FORMATTER" "Ljava/util/function/BiFunction;" (fv)) (hfv : fv.isRef = true) (hi1 : ¬ i_ < (0 : Int32)) (hi2 : i_ < n_) :
    own_Met l Z (⟨"java/lang/String", "checkIndex", "(II)V"⟩ : MethodName) jdk_42_method_155_code 2 none ws ({ frames := 1, cells := 0, slots := 0, locals := 14 } : Room) #[(.int i_), (.int n_)] h0 n0 (own_q4 i_ n_ fv Z h0) := by
  refine own_enter (own := "java/lang/String") (nm := "checkIndex") rfl rfl own_pn4 (own_ef4 i_ n_) ?_
  intro p e s m below meth c T0 X0
  refine own_iloadN X0 d5_0 rfl rfl ?_
  refine own_iloadN X0 d5_1 rfl rfl ?_
  refine own_gets X0 (hw _ (List.mem_of_getElem? (i := 34) rfl)) F1 d5_2 rfl (fun T2 X3 => ?_)
  refine own_callS X3 (hw _ (List.mem_of_getElem? (i := 36) rfl)) (hw _ (List.mem_of_getElem? (i := 37) rfl)) (hw _ (List.mem_of_getElem? (i := 35) rfl)) (hw _ (List.mem_of_getElem? (i := 38) rfl)) (by decide) (argsL := [(.int i_), (.int n_), (fv)]) (rest := []) (own_m3 l Z a0 hw [] i_ n_ fv _ _ Z0 hfv hi1 hi2) (pd_6) rfl d5_5 rfl rfl rfl (W := 0) rfl (by decide) (by decide) (cells' := 0) (slots' := 0) rfl rfl (by decide) (by decide) (fun v T5 h7 X6 q8 => ?_)
  obtain ⟨rfl, rfl⟩ := q8
  show own_Fin p e below (own_End s n0 (own_q4 i_ n_ fv Z h0) ({ frames := 1, cells := 0, slots := 0, locals := 14 } : Room).cells ({ frames := 1, cells := 0, slots := 0, locals := 14 } : Room).slots) (T5.setTop (mkF m 8 #[.val (.int i_), .val (.int n_)] [(.int i_)]))
  refine own_pop X6 d5_8 rfl rfl ?_
  exact own_retV X6 rfl d5_9 ⟨rfl, rfl⟩ (by decide) (by decide)
theorem d4_0 : decode jdk_43_method_2_code 0 = .ok (.iload_n 1, 1) := by decide +kernel
theorem d4_1 : decode jdk_43_method_2_code 1 = .ok (.aload_n 0, 1) := by decide +kernel
theorem d4_2 : decode jdk_43_method_2_code 2 = .ok (.arraylength, 1) := by decide +kernel
theorem d4_3 : decode jdk_43_method_2_code 3 = .ok (.invokestatic 9, 3) := by decide +kernel
theorem d4_6 : decode jdk_43_method_2_code 6 = .ok (.aload_n 0, 1) := by decide +kernel
theorem d4_7 : decode jdk_43_method_2_code 7 = .ok (.iload_n 1, 1) := by decide +kernel
theorem d4_8 : decode jdk_43_method_2_code 8 = .ok (.baload, 1) := by decide +kernel
theorem d4_9 : decode jdk_43_method_2_code 9 = .ok (.sipush 255, 3) := by decide +kernel
theorem d4_12 : decode jdk_43_method_2_code 12 = .ok (.iand, 1) := by decide +kernel
theorem d4_13 : decode jdk_43_method_2_code 13 = .ok (.i2c, 1) := by decide +kernel
theorem d4_14 : decode jdk_43_method_2_code 14 = .ok (.ireturn, 1) := by decide +kernel
theorem own_pn5 : plainFor (⟨"java/lang/StringLatin1", "charAt", "([BI)C"⟩ : MethodName) = true := by first | exact plainFor_of_name (by first | (simp [plainName, overriddenIn, x]; done) | decide +kernel) | decide +kernel
theorem own_ef5 (b_ : Addr) (i_ : Int32) (m : MethodId) : entryFrame m #[(.ref b_), (.int i_)] 2 = mkF m 0 #[.val (.ref b_), .val (.int i_)] [] := by
  first | (simp [entryFrame, mkF, argsToLocals, Value.category]; done) | rfl
def own_q5 (b_ : Addr) (i_ : Int32) (fv : Value) (cl : Cell) (n_ : Int32) (x_ : Int32) (Z : State) (h0 : Heap) (v : Option Value) (h : Heap) : Prop := v = some (.int x_) ∧ h0 = h
set_option maxRecDepth 65536 in
set_option maxHeartbeats 40000000 in
theorem own_m5 (l : Launch) (Z : State) (a0 : Array Value) (hw : ∀ d ∈ tables_1, d.before a0 Z = true) (ws : List Jvm.Cond) (b_ : Addr) (i_ : Int32) (fv : Value) (cl : Cell) (n_ : Int32) (x_ : Int32) (h0 : Heap) (n0 : Nat) (Z0 : n0 ≤ h0.size) (F1 : Arr Z h0 b_ cl .byte) (F2 : Sta Z h0 "jdk/internal/util/Preconditions" "SIOOBE_FORMATTER" "Ljava/util/function/BiFunction;" (fv)) (hfv : fv.isRef = true) (hi1 : ¬ i_ < (0 : Int32)) (hi2 : i_ < n_) (hsz : cl.slots.size.toInt32 = n_) (hj : ¬ (i_ < 0 ∨ cl.slots.size ≤ i_.toNatClampNeg)) (hv : cl.slots[i_.toNatClampNeg]? = some (.int x_)) (hxc : ((x_ &&& (255 : Int32)).toUInt32.toUInt16.toUInt32.toInt32) = x_) (hnar : narrow .char (.int x_) = .int x_) :
    own_Met l Z (⟨"java/lang/StringLatin1", "charAt", "([BI)C"⟩ : MethodName) jdk_43_method_2_code 2 (some .char) ws ({ frames := 2, cells := 0, slots := 0, locals := 27 } : Room) #[(.ref b_), (.int i_)] h0 n0 (own_q5 b_ i_ fv cl n_ x_ Z h0) := by
  refine own_enter (own := "java/lang/StringLatin1") (nm := "charAt") rfl rfl own_pn5 (own_ef5 b_ i_) ?_
  intro p e s m below meth c T0 X0
  refine own_iloadN X0 d4_0 rfl rfl ?_
  refine own_aloadN X0 d4_1 rfl rfl rfl ?_
  refine own_arraylength X0 F1 hsz d4_2 rfl ?_
  refine own_callS X0 (hw _ (List.mem_of_getElem? (i := 31) rfl)) (hw _ (List.mem_of_getElem? (i := 32) rfl)) (hw _ (List.mem_of_getElem? (i := 15) rfl)) (hw _ (List.mem_of_getElem? (i := 33) rfl)) (by decide) (argsL := [(.int i_), (.int n_)]) (rest := []) (own_m4 l Z a0 hw [] i_ n_ fv _ _ Z0 F2 hfv hi1 hi2) (pd_5) rfl d4_3 rfl rfl rfl (W := 0) rfl (by decide) (by decide) (cells' := 0) (slots' := 0) rfl rfl (by decide) (by decide) (fun v T4 h6 X5 q7 => ?_)
  obtain ⟨rfl, rfl⟩ := q7
  show own_Fin p e below (own_End s n0 (own_q5 b_ i_ fv cl n_ x_ Z h0) ({ frames := 2, cells := 0, slots := 0, locals := 27 } : Room).cells ({ frames := 2, cells := 0, slots := 0, locals := 27 } : Room).slots) (T4.setTop (mkF m 6 #[.val (.ref b_), .val (.int i_)] []))
  refine own_aloadN X5 d4_6 rfl rfl rfl ?_
  refine own_iloadN X5 d4_7 rfl rfl ?_
  refine own_baload X5 F1 hj hv d4_8 rfl ?_
  refine own_sipush X5 (255 : Int32) d4_9 rfl (by decide) ?_
  refine own_iand X5 d4_12 rfl ?_
  refine own_i2c X5 d4_13 rfl ?_
  rw [hxc]
  exact own_retC X5 rfl d4_14 hnar ⟨rfl, rfl⟩ (by decide) (by decide)
theorem d2_0 : decode jdk_42_method_56_code 0 = .ok (.aload_n 0, 1) := by decide +kernel
theorem d2_1 : decode jdk_42_method_56_code 1 = .ok (.invokevirtual 492, 3) := by decide +kernel
theorem d2_4 : decode jdk_42_method_56_code 4 = .ok (.ifCond .eq 12, 3) := by decide +kernel
theorem d2_7 : decode jdk_42_method_56_code 7 = .ok (.aload_n 0, 1) := by decide +kernel
theorem d2_8 : decode jdk_42_method_56_code 8 = .ok (.getfield 9, 3) := by decide +kernel
theorem d2_11 : decode jdk_42_method_56_code 11 = .ok (.iload_n 1, 1) := by decide +kernel
theorem d2_12 : decode jdk_42_method_56_code 12 = .ok (.invokestatic 495, 3) := by decide +kernel
theorem d2_15 : decode jdk_42_method_56_code 15 = .ok (.ireturn, 1) := by decide +kernel
theorem own_pn6 : plainFor (⟨"java/lang/String", "charAt", "(I)C"⟩ : MethodName) = true := by first | exact plainFor_of_name (by first | (simp [plainName, overriddenIn, x]; done) | decide +kernel) | decide +kernel
theorem own_ef6 (a0_ : Addr) (i_ : Int32) (m : MethodId) : entryFrame m #[(.ref a0_), (.int i_)] 2 = mkF m 0 #[.val (.ref a0_), .val (.int i_)] [] := by
  first | (simp [entryFrame, mkF, argsToLocals, Value.category]; done) | rfl
def own_q6 (a0_ : Addr) (i_ : Int32) (b_ : Addr) (cst : Int32) (fv : Value) (cl : Cell) (n_ : Int32) (x_ : Int32) (Z : State) (h0 : Heap) (v : Option Value) (h : Heap) : Prop := v = some (.int x_) ∧ h0 = h
set_option maxRecDepth 65536 in
set_option maxHeartbeats 40000000 in
theorem own_m6 (l : Launch) (Z : State) (a0 : Array Value) (hw : ∀ d ∈ tables_1, d.before a0 Z = true) (ws : List Jvm.Cond) (a0_ : Addr) (i_ : Int32) (b_ : Addr) (cst : Int32) (fv : Value) (cl : Cell) (n_ : Int32) (x_ : Int32) (h0 : Heap) (n0 : Nat) (Z0 : n0 ≤ h0.size) (F1 : Exa Z h0 a0_ "java/lang/String") (F2 : Fld Z h0 a0_ "java/lang/String" "coder" "B" (.int (0 : Int32))) (F3 : Fld Z h0 a0_ "java/lang/String" "value" "[B" (.ref b_)) (F4 : Arr Z h0 b_ cl .byte) (F5 : Sta Z h0 "java/lang/String" "COMPACT_STRINGS" "Z" (.int cst)) (F6 : Sta Z h0 "jdk/internal/util/Preconditions" "SIOOBE_FORMATTER" "Ljava/util/function/BiFunction;" (fv)) (hcs : ¬ cst = (0 : Int32)) (hfv : fv.isRef = true) (hi1 : ¬ i_ < (0 : Int32)) (hi2 : i_ < n_) (hsz : cl.slots.size.toInt32 = n_) (hj : ¬ (i_ < 0 ∨ cl.slots.size ≤ i_.toNatClampNeg)) (hv : cl.slots[i_.toNatClampNeg]? = some (.int x_)) (hxc : ((x_ &&& (255 : Int32)).toUInt32.toUInt16.toUInt32.toInt32) = x_) (hnar : narrow .char (.int x_) = .int x_) :
    own_Met l Z (⟨"java/lang/String", "charAt", "(I)C"⟩ : MethodName) jdk_42_method_56_code 2 (some .char) ws ({ frames := 3, cells := 0, slots := 0, locals := 40 } : Room) #[(.ref a0_), (.int i_)] h0 n0 (own_q6 a0_ i_ b_ cst fv cl n_ x_ Z h0) := by
  refine own_enter (own := "java/lang/String") (nm := "charAt") rfl rfl own_pn6 (own_ef6 a0_ i_) ?_
  intro p e s m below meth c T0 X0
  refine own_aloadN X0 d2_0 rfl rfl rfl ?_
  refine own_callV X0 (hw _ (List.mem_of_getElem? (i := 17) rfl)) (hw _ (List.mem_of_getElem? (i := 18) rfl)) (hw _ (List.mem_of_getElem? (i := 20) rfl)) (hw _ (List.mem_of_getElem? (i := 19) rfl)) (hw _ (List.mem_of_getElem? (i := 15) rfl)) (hw _ (List.mem_of_getElem? (i := 21) rfl)) (by decide) (a := a0_) (argsL := []) (rest := []) (own_m2 l Z a0 hw [] a0_ cst _ _ Z0 F5 F2 hcs) F1 (pd_3) rfl d2_1 rfl rfl rfl (W := 0) rfl (by decide) (by decide) (cells' := 0) (slots' := 0) rfl rfl (by decide) (by decide) (fun v T8 h10 X9 q11 => ?_)
  obtain ⟨rfl, rfl⟩ := q11
  show own_Fin p e below (own_End s n0 (own_q6 a0_ i_ b_ cst fv cl n_ x_ Z h0) ({ frames := 3, cells := 0, slots := 0, locals := 40 } : Room).cells ({ frames := 3, cells := 0, slots := 0, locals := 40 } : Room).slots) (T8.setTop (mkF m 4 #[.val (.ref a0_), .val (.int i_)] [(.int (1 : Int32))]))
  refine own_if_eq X9 d2_4 (by decide) (pcT := 16) (by decide) rfl (fun hc => absurd hc (by decide)) (fun hc => ?_)
  refine own_aloadN X9 d2_7 rfl rfl rfl ?_
  refine own_getf X9 (hw _ (List.mem_of_getElem? (i := 25) rfl)) F3 d2_8 rfl (fun T12 X13 => ?_)
  refine own_iloadN X13 d2_11 rfl rfl ?_
  refine own_callS X13 (hw _ (List.mem_of_getElem? (i := 27) rfl)) (hw _ (List.mem_of_getElem? (i := 28) rfl)) (hw _ (List.mem_of_getElem? (i := 29) rfl)) (hw _ (List.mem_of_getElem? (i := 30) rfl)) (by decide) (argsL := [(.ref b_), (.int i_)]) (rest := []) (own_m5 l Z a0 hw [] b_ i_ fv cl n_ x_ _ _ Z0 F4 F6 hfv hi1 hi2 hsz hj hv hxc hnar) (pd_4) rfl d2_12 rfl rfl rfl (W := 0) rfl (by decide) (by decide) (cells' := 0) (slots' := 0) rfl rfl (by decide) (by decide) (fun v T15 h17 X16 q18 => ?_)
  obtain ⟨rfl, rfl⟩ := q18
  show own_Fin p e below (own_End s n0 (own_q6 a0_ i_ b_ cst fv cl n_ x_ Z h0) ({ frames := 3, cells := 0, slots := 0, locals := 40 } : Room).cells ({ frames := 3, cells := 0, slots := 0, locals := 40 } : Room).slots) (T15.setTop (mkF m 15 #[.val (.ref a0_), .val (.int i_)] [(.int x_)]))
  exact own_retC X16 rfl d2_15 hnar ⟨rfl, rfl⟩ (by decide) (by decide)
theorem d7_0 : decode prog_65_method_6_code 0 = .ok (.aload_n 0, 1) := by decide +kernel
theorem d7_1 : decode prog_65_method_6_code 1 = .ok (.getstatic 3, 3) := by decide +kernel
theorem d7_4 : decode prog_65_method_6_code 4 = .ok (.if_acmp .eq 14, 3) := by decide +kernel
theorem d7_7 : decode prog_65_method_6_code 7 = .ok (.aload_n 0, 1) := by decide +kernel
theorem d7_8 : decode prog_65_method_6_code 8 = .ok (.getstatic 7, 3) := by decide +kernel
theorem d7_11 : decode prog_65_method_6_code 11 = .ok (.if_acmp .eq 7, 3) := by decide +kernel
theorem d7_14 : decode prog_65_method_6_code 14 = .ok (.iconst 1, 1) := by decide +kernel
theorem d7_15 : decode prog_65_method_6_code 15 = .ok (.goto 4, 3) := by decide +kernel
theorem d7_18 : decode prog_65_method_6_code 18 = .ok (.iconst 0, 1) := by decide +kernel
theorem d7_19 : decode prog_65_method_6_code 19 = .ok (.ireturn, 1) := by decide +kernel
theorem own_pn7 : plainFor (⟨"com/example/iterate/iterate/workflow/Filter$Relation", "orders", "()Z"⟩ : MethodName) = true := by first | exact plainFor_of_name (by first | (simp [plainName, overriddenIn, x]; done) | decide +kernel) | decide +kernel
theorem own_ef7 (a0_ : Addr) (m : MethodId) : entryFrame m #[(.ref a0_)] 1 = mkF m 0 #[.val (.ref a0_)] [] := by
  first | (simp [entryFrame, mkF, argsToLocals, Value.category]; done) | rfl
def own_q7 (a0_ : Addr) (e_ : Addr) (ne_ : Addr) (rv : Int32) (Z : State) (h0 : Heap) (v : Option Value) (h : Heap) : Prop := v = some (.int rv) ∧ h0 = h
set_option maxRecDepth 65536 in
set_option maxHeartbeats 40000000 in
theorem own_m7 (l : Launch) (Z : State) (a0 : Array Value) (hw : ∀ d ∈ tables_1, d.before a0 Z = true) (ws : List Jvm.Cond) (a0_ : Addr) (e_ : Addr) (ne_ : Addr) (rv : Int32) (h0 : Heap) (n0 : Nat) (Z0 : n0 ≤ h0.size) (F1 : Sta Z h0 "com/example/iterate/iterate/workflow/Filter$Relation" "EQUAL" "Lcom/example/iterate/iterate/workflow/Filter$Relation;" (.ref e_)) (F2 : Sta Z h0 "com/example/iterate/iterate/workflow/Filter$Relation" "NOT_EQUAL" "Lcom/example/iterate/iterate/workflow/Filter$Relation;" (.ref ne_)) (hrv : own_ord a0_ e_ ne_ = rv) :
    own_Met l Z (⟨"com/example/iterate/iterate/workflow/Filter$Relation", "orders", "()Z"⟩ : MethodName) prog_65_method_6_code 1 (some .boolean) ws ({ frames := 0, cells := 0, slots := 0, locals := 0 } : Room) #[(.ref a0_)] h0 n0 (own_q7 a0_ e_ ne_ rv Z h0) := by
  refine own_enter (own := "com/example/iterate/iterate/workflow/Filter$Relation") (nm := "orders") rfl rfl own_pn7 (own_ef7 a0_) ?_
  intro p e s m below meth c T0 X0
  refine own_aloadN X0 d7_0 rfl rfl rfl ?_
  refine own_gets X0 (hw _ (List.mem_of_getElem? (i := 44) rfl)) F1 d7_1 rfl (fun T3 X4 => ?_)
  refine own_acmp_eq X4 d7_4 rfl rfl (by decide) (pcT := 18) (by decide) rfl (fun hc5 => ?_) (fun hc5 => ?_)
  · skip
    refine own_iconst X4 (0 : Int32) d7_18 rfl (by decide) ?_
    exact own_retZ X4 rfl d7_19 rfl ⟨by rw [← hrv, own_ord, if_pos hc5], rfl⟩ (by decide) (by decide)
  · skip
    refine own_aloadN X4 d7_7 rfl rfl rfl ?_
    refine own_gets X4 (hw _ (List.mem_of_getElem? (i := 47) rfl)) F2 d7_8 rfl (fun T6 X7 => ?_)
    refine own_acmp_eq X7 d7_11 rfl rfl (by decide) (pcT := 18) (by decide) rfl (fun hc8 => ?_) (fun hc8 => ?_)
    · skip
      refine own_iconst X7 (0 : Int32) d7_18 rfl (by decide) ?_
      exact own_retZ X7 rfl d7_19 rfl ⟨by rw [← hrv, own_ord, if_neg hc5, if_pos hc8], rfl⟩ (by decide) (by decide)
    · skip
      refine own_iconst X7 (1 : Int32) d7_14 rfl (by decide) ?_
      refine own_goto X7 d7_15 (by decide) (pc' := 19) (by decide) ?_
      exact own_retZ X7 rfl d7_19 rfl ⟨by rw [← hrv, own_ord, if_neg hc5, if_neg hc8], rfl⟩ (by decide) (by decide)
theorem own_pnlaw : plainFor x = true := by first | exact plainFor_of_name (by first | (simp [plainName, overriddenIn, x]; done) | decide +kernel) | decide +kernel
theorem own_eflaw (p1 : Int32) (m : MethodId) : entryFrame m #[(.int p1)] maxLocals = mkF m 0 #[.val (.int p1), .unset, .unset, .unset, .unset, .unset, .unset, .unset] [] := by
  first | (simp [entryFrame, mkF, argsToLocals, Value.category, maxLocals]; done) | rfl
set_option maxRecDepth 65536 in
set_option maxHeartbeats 40000000 in
theorem own_law (l : Launch) (Z : State) (a0 : Array Value) (hw : ∀ d ∈ tables_1, d.before a0 Z = true) (ws : List Jvm.Cond) (p1 : Int32) (h0 : Heap) (n0 : Nat) (Z0 : n0 ≤ h0.size) (r0 : Addr) (r1 : Addr) (r2 : Addr) (r3 : Addr) (r4 : Addr) (r5 : Addr) (cst : Int32) (fv : Value) (S0 : Sta Z h0 "com/example/iterate/iterate/workflow/Filter$Relation" "EQUAL" "Lcom/example/iterate/iterate/workflow/Filter$Relation;" (.ref r0)) (R0 : own_Rel Z h0 r0 0 1 61) (S1 : Sta Z h0 "com/example/iterate/iterate/workflow/Filter$Relation" "NOT_EQUAL" "Lcom/example/iterate/iterate/workflow/Filter$Relation;" (.ref r1)) (R1 : own_Rel Z h0 r1 1 2 33) (S2 : Sta Z h0 "com/example/iterate/iterate/workflow/Filter$Relation" "LESS" "Lcom/example/iterate/iterate/workflow/Filter$Relation;" (.ref r2)) (R2 : own_Rel Z h0 r2 2 1 60) (S3 : Sta Z h0 "com/example/iterate/iterate/workflow/Filter$Relation" "AT_MOST" "Lcom/example/iterate/iterate/workflow/Filter$Relation;" (.ref r3)) (R3 : own_Rel Z h0 r3 3 2 60) (S4 : Sta Z h0 "com/example/iterate/iterate/workflow/Filter$Relation" "GREATER" "Lcom/example/iterate/iterate/workflow/Filter$Relation;" (.ref r4)) (R4 : own_Rel Z h0 r4 4 1 62) (S5 : Sta Z h0 "com/example/iterate/iterate/workflow/Filter$Relation" "AT_LEAST" "Lcom/example/iterate/iterate/workflow/Filter$Relation;" (.ref r5)) (R5 : own_Rel Z h0 r5 5 2 62) (SC : Sta Z h0 "java/lang/String" "COMPACT_STRINGS" "Z" (.int cst)) (SF : Sta Z h0 "jdk/internal/util/Preconditions" "SIOOBE_FORMATTER" "Ljava/util/function/BiFunction;" fv) (hcs : ¬ cst = (0 : Int32)) (hfv : fv.isRef = true) :
    own_Met l Z x code maxLocals ret ws room_1 #[(.int p1)] h0 n0 (fun v _ => v = some (.int 1)) := by
  refine own_enter (own := "com/example/iterate/iterate/workflow/RelationOrdersPinLaw") (nm := "law") rfl rfl own_pnlaw (own_eflaw p1) ?_
  intro p e s m below meth c T0 X0
  obtain ⟨E0, O0, sy0, b0, cl0, Y0, G0, CO0, VA0, A0, N0, J0, H0⟩ := R0
  obtain ⟨E1, O1, sy1, b1, cl1, Y1, G1, CO1, VA1, A1, N1, J1, H1⟩ := R1
  obtain ⟨E2, O2, sy2, b2, cl2, Y2, G2, CO2, VA2, A2, N2, J2, H2⟩ := R2
  obtain ⟨E3, O3, sy3, b3, cl3, Y3, G3, CO3, VA3, A3, N3, J3, H3⟩ := R3
  obtain ⟨E4, O4, sy4, b4, cl4, Y4, G4, CO4, VA4, A4, N4, J4, H4⟩ := R4
  obtain ⟨E5, O5, sy5, b5, cl5, Y5, G5, CO5, VA5, A5, N5, J5, H5⟩ := R5
  refine own_iloadN X0 at_0 rfl rfl ?_
  refine own_ldcI X0 (v := (2147483647 : Int32)) at_1 rfl (hw _ (List.mem_of_getElem? (i := 0) rfl)) ?_
  refine own_iand X0 at_3 rfl ?_
  refine own_bipush X0 (6 : Int32) at_4 rfl (by decide) ?_
  refine own_irem X0 at_6 rfl (by decide) ?_
  refine own_istoreN X0 (L' := #[.val (.int p1), .val (.int ((p1 &&& (2147483647 : Int32)) % (6 : Int32))), .unset, .unset, .unset, .unset, .unset, .unset]) at_7 rfl rfl ?_
  refine own_iloadN X0 at_8 rfl rfl ?_
  refine own_if_ne X0 at_9 (by decide) (pcT := 21) (by decide) rfl (fun hc1 => ?_) (fun hc1 => ?_)
  · skip
    refine own_iloadN X0 at_21 rfl rfl ?_
    refine own_iconst X0 (1 : Int32) at_22 rfl (by decide) ?_
    refine own_icmp_ne X0 at_23 (by decide) (pcT := 35) (by decide) rfl (fun hc2 => ?_) (fun hc2 => ?_)
    · skip
      refine own_iloadN X0 at_35 rfl rfl ?_
      refine own_iconst X0 (2 : Int32) at_36 rfl (by decide) ?_
      refine own_icmp_ne X0 at_37 (by decide) (pcT := 49) (by decide) rfl (fun hc3 => ?_) (fun hc3 => ?_)
      · skip
        refine own_iloadN X0 at_49 rfl rfl ?_
        refine own_iconst X0 (3 : Int32) at_50 rfl (by decide) ?_
        refine own_icmp_ne X0 at_51 (by decide) (pcT := 63) (by decide) rfl (fun hc4 => ?_) (fun hc4 => ?_)
        · skip
          refine own_iloadN X0 at_63 rfl rfl ?_
          refine own_iconst X0 (4 : Int32) at_64 rfl (by decide) ?_
          refine own_icmp_ne X0 at_65 (by decide) (pcT := 77) (by decide) rfl (fun hc5 => ?_) (fun hc5 => ?_)
          · skip
            refine own_gets X0 (hw _ (List.mem_of_getElem? (i := 52) rfl)) S5 at_77 rfl (fun T6 X7 => ?_)
            refine own_astoreN X7 (L' := #[.val (.int p1), .val (.int ((p1 &&& (2147483647 : Int32)) % (6 : Int32))), .val (.ref r5), .unset, .unset, .unset, .unset, .unset]) at_80 rfl rfl rfl ?_
            refine own_iconst X7 (1 : Int32) at_81 rfl (by decide) ?_
            refine own_istoreN X7 (L' := #[.val (.int p1), .val (.int ((p1 &&& (2147483647 : Int32)) % (6 : Int32))), .val (.ref r5), .val (.int (1 : Int32)), .unset, .unset, .unset, .unset]) at_82 rfl rfl ?_
            refine own_aloadN X7 at_83 rfl rfl rfl ?_
            refine own_callV X7 (hw _ (List.mem_of_getElem? (i := 4) rfl)) (hw _ (List.mem_of_getElem? (i := 5) rfl)) (hw _ (List.mem_of_getElem? (i := 7) rfl)) (hw _ (List.mem_of_getElem? (i := 6) rfl)) (hw _ (List.mem_of_getElem? (i := 2) rfl)) (hw _ (List.mem_of_getElem? (i := 8) rfl)) (by decide) (a := r5) (argsL := []) (rest := []) (own_m1 l Z a0 hw [] r5 sy5 _ _ Z0 Y5) E5 (pd_1) rfl at_84 rfl rfl rfl (W := 0) rfl (by decide) (by decide) (cells' := 0) (slots' := 0) rfl rfl (by decide) (by decide) (fun v T9 h11 X10 q12 => ?_)
            obtain ⟨rfl, rfl⟩ := q12
            show own_Fin p e below (own_End s n0 (fun v _ => v = some (.int 1)) room_1.cells room_1.slots) (T9.setTop (mkF m 87 #[.val (.int p1), .val (.int ((p1 &&& (2147483647 : Int32)) % (6 : Int32))), .val (.ref r5), .val (.int (1 : Int32)), .unset, .unset, .unset, .unset] [(.ref sy5)]))
            refine own_astore X10 (L' := #[.val (.int p1), .val (.int ((p1 &&& (2147483647 : Int32)) % (6 : Int32))), .val (.ref r5), .val (.int (1 : Int32)), .val (.ref sy5), .unset, .unset, .unset]) at_87 rfl rfl rfl ?_
            refine own_aload X10 at_89 rfl rfl rfl ?_
            refine own_iconst X10 (0 : Int32) at_91 rfl (by decide) ?_
            refine own_callV X10 (hw _ (List.mem_of_getElem? (i := 11) rfl)) (hw _ (List.mem_of_getElem? (i := 12) rfl)) (hw _ (List.mem_of_getElem? (i := 14) rfl)) (hw _ (List.mem_of_getElem? (i := 13) rfl)) (hw _ (List.mem_of_getElem? (i := 15) rfl)) (hw _ (List.mem_of_getElem? (i := 16) rfl)) (by decide) (a := sy5) (argsL := [(.int (0 : Int32))]) (rest := []) (own_m6 l Z a0 hw [] sy5 (0 : Int32) b5 cst fv cl5 (2 : Int32) (62 : Int32) _ _ Z0 G5 CO5 VA5 A5 SC SF hcs hfv (by decide) (by decide) N5 J5 H5 (by decide) rfl) G5 (pd_2) rfl at_92 rfl rfl rfl (W := 0) rfl (by decide) (by decide) (cells' := 0) (slots' := 0) rfl rfl (by decide) (by decide) (fun v T14 h16 X15 q17 => ?_)
            obtain ⟨rfl, rfl⟩ := q17
            show own_Fin p e below (own_End s n0 (fun v _ => v = some (.int 1)) room_1.cells room_1.slots) (T14.setTop (mkF m 95 #[.val (.int p1), .val (.int ((p1 &&& (2147483647 : Int32)) % (6 : Int32))), .val (.ref r5), .val (.int (1 : Int32)), .val (.ref sy5), .unset, .unset, .unset] [(.int (62 : Int32))]))
            refine own_istore X15 (L' := #[.val (.int p1), .val (.int ((p1 &&& (2147483647 : Int32)) % (6 : Int32))), .val (.ref r5), .val (.int (1 : Int32)), .val (.ref sy5), .val (.int (62 : Int32)), .unset, .unset]) at_95 rfl rfl ?_
            refine own_iload X15 at_97 rfl rfl ?_
            refine own_bipush X15 (60 : Int32) at_99 rfl (by decide) ?_
            refine own_icmp_eq X15 at_101 (by decide) (pcT := 111) (by decide) rfl (fun hc => absurd hc (by decide)) (fun hc => ?_)
            refine own_iload X15 at_104 rfl rfl ?_
            refine own_bipush X15 (62 : Int32) at_106 rfl (by decide) ?_
            refine own_icmp_ne X15 at_108 (by decide) (pcT := 115) (by decide) rfl (fun hc => absurd hc (by decide)) (fun hc => ?_)
            refine own_iconst X15 (1 : Int32) at_111 rfl (by decide) ?_
            refine own_goto X15 at_112 (by decide) (pc' := 116) (by decide) ?_
            refine own_istore X15 (L' := #[.val (.int p1), .val (.int ((p1 &&& (2147483647 : Int32)) % (6 : Int32))), .val (.ref r5), .val (.int (1 : Int32)), .val (.ref sy5), .val (.int (62 : Int32)), .val (.int (1 : Int32)), .unset]) at_116 rfl rfl ?_
            refine own_aloadN X15 at_118 rfl rfl rfl ?_
            refine own_callV X15 (hw _ (List.mem_of_getElem? (i := 39) rfl)) (hw _ (List.mem_of_getElem? (i := 40) rfl)) (hw _ (List.mem_of_getElem? (i := 42) rfl)) (hw _ (List.mem_of_getElem? (i := 41) rfl)) (hw _ (List.mem_of_getElem? (i := 2) rfl)) (hw _ (List.mem_of_getElem? (i := 43) rfl)) (by decide) (a := r5) (argsL := []) (rest := []) (own_m7 l Z a0 hw [] r5 r0 r1 (1 : Int32) _ _ Z0 S0 S1 (own_ord2 (Fld.ne O5 O0 (by decide)) (Fld.ne O5 O1 (by decide)))) E5 (pd_7) rfl at_119 rfl rfl rfl (W := 0) rfl (by decide) (by decide) (cells' := 0) (slots' := 0) rfl rfl (by decide) (by decide) (fun v T19 h21 X20 q22 => ?_)
            obtain ⟨rfl, rfl⟩ := q22
            show own_Fin p e below (own_End s n0 (fun v _ => v = some (.int 1)) room_1.cells room_1.slots) (T19.setTop (mkF m 122 #[.val (.int p1), .val (.int ((p1 &&& (2147483647 : Int32)) % (6 : Int32))), .val (.ref r5), .val (.int (1 : Int32)), .val (.ref sy5), .val (.int (62 : Int32)), .val (.int (1 : Int32)), .unset] [(.int (1 : Int32))]))
            refine own_istore X20 (L' := #[.val (.int p1), .val (.int ((p1 &&& (2147483647 : Int32)) % (6 : Int32))), .val (.ref r5), .val (.int (1 : Int32)), .val (.ref sy5), .val (.int (62 : Int32)), .val (.int (1 : Int32)), .val (.int (1 : Int32))]) at_122 rfl rfl ?_
            refine own_iload X20 at_124 rfl rfl ?_
            refine own_iloadN X20 at_126 rfl rfl ?_
            refine own_icmp_ne X20 at_127 (by decide) (pcT := 141) (by decide) rfl (fun hc => absurd hc (by decide)) (fun hc => ?_)
            refine own_iload X20 at_130 rfl rfl ?_
            refine own_iload X20 at_132 rfl rfl ?_
            refine own_icmp_ne X20 at_134 (by decide) (pcT := 141) (by decide) rfl (fun hc => absurd hc (by decide)) (fun hc => ?_)
            refine own_iconst X20 (1 : Int32) at_137 rfl (by decide) ?_
            refine own_goto X20 at_138 (by decide) (pc' := 142) (by decide) ?_
            exact own_retZ X20 rfl at_142 rfl rfl (by decide) (by decide)
          · skip
            refine own_gets X0 (hw _ (List.mem_of_getElem? (i := 54) rfl)) S4 at_68 rfl (fun T23 X24 => ?_)
            refine own_astoreN X24 (L' := #[.val (.int p1), .val (.int ((p1 &&& (2147483647 : Int32)) % (6 : Int32))), .val (.ref r4), .unset, .unset, .unset, .unset, .unset]) at_71 rfl rfl rfl ?_
            refine own_iconst X24 (1 : Int32) at_72 rfl (by decide) ?_
            refine own_istoreN X24 (L' := #[.val (.int p1), .val (.int ((p1 &&& (2147483647 : Int32)) % (6 : Int32))), .val (.ref r4), .val (.int (1 : Int32)), .unset, .unset, .unset, .unset]) at_73 rfl rfl ?_
            refine own_goto X24 at_74 (by decide) (pc' := 83) (by decide) ?_
            refine own_aloadN X24 at_83 rfl rfl rfl ?_
            refine own_callV X24 (hw _ (List.mem_of_getElem? (i := 4) rfl)) (hw _ (List.mem_of_getElem? (i := 5) rfl)) (hw _ (List.mem_of_getElem? (i := 7) rfl)) (hw _ (List.mem_of_getElem? (i := 6) rfl)) (hw _ (List.mem_of_getElem? (i := 2) rfl)) (hw _ (List.mem_of_getElem? (i := 8) rfl)) (by decide) (a := r4) (argsL := []) (rest := []) (own_m1 l Z a0 hw [] r4 sy4 _ _ Z0 Y4) E4 (pd_1) rfl at_84 rfl rfl rfl (W := 0) rfl (by decide) (by decide) (cells' := 0) (slots' := 0) rfl rfl (by decide) (by decide) (fun v T26 h28 X27 q29 => ?_)
            obtain ⟨rfl, rfl⟩ := q29
            show own_Fin p e below (own_End s n0 (fun v _ => v = some (.int 1)) room_1.cells room_1.slots) (T26.setTop (mkF m 87 #[.val (.int p1), .val (.int ((p1 &&& (2147483647 : Int32)) % (6 : Int32))), .val (.ref r4), .val (.int (1 : Int32)), .unset, .unset, .unset, .unset] [(.ref sy4)]))
            refine own_astore X27 (L' := #[.val (.int p1), .val (.int ((p1 &&& (2147483647 : Int32)) % (6 : Int32))), .val (.ref r4), .val (.int (1 : Int32)), .val (.ref sy4), .unset, .unset, .unset]) at_87 rfl rfl rfl ?_
            refine own_aload X27 at_89 rfl rfl rfl ?_
            refine own_iconst X27 (0 : Int32) at_91 rfl (by decide) ?_
            refine own_callV X27 (hw _ (List.mem_of_getElem? (i := 11) rfl)) (hw _ (List.mem_of_getElem? (i := 12) rfl)) (hw _ (List.mem_of_getElem? (i := 14) rfl)) (hw _ (List.mem_of_getElem? (i := 13) rfl)) (hw _ (List.mem_of_getElem? (i := 15) rfl)) (hw _ (List.mem_of_getElem? (i := 16) rfl)) (by decide) (a := sy4) (argsL := [(.int (0 : Int32))]) (rest := []) (own_m6 l Z a0 hw [] sy4 (0 : Int32) b4 cst fv cl4 (1 : Int32) (62 : Int32) _ _ Z0 G4 CO4 VA4 A4 SC SF hcs hfv (by decide) (by decide) N4 J4 H4 (by decide) rfl) G4 (pd_2) rfl at_92 rfl rfl rfl (W := 0) rfl (by decide) (by decide) (cells' := 0) (slots' := 0) rfl rfl (by decide) (by decide) (fun v T31 h33 X32 q34 => ?_)
            obtain ⟨rfl, rfl⟩ := q34
            show own_Fin p e below (own_End s n0 (fun v _ => v = some (.int 1)) room_1.cells room_1.slots) (T31.setTop (mkF m 95 #[.val (.int p1), .val (.int ((p1 &&& (2147483647 : Int32)) % (6 : Int32))), .val (.ref r4), .val (.int (1 : Int32)), .val (.ref sy4), .unset, .unset, .unset] [(.int (62 : Int32))]))
            refine own_istore X32 (L' := #[.val (.int p1), .val (.int ((p1 &&& (2147483647 : Int32)) % (6 : Int32))), .val (.ref r4), .val (.int (1 : Int32)), .val (.ref sy4), .val (.int (62 : Int32)), .unset, .unset]) at_95 rfl rfl ?_
            refine own_iload X32 at_97 rfl rfl ?_
            refine own_bipush X32 (60 : Int32) at_99 rfl (by decide) ?_
            refine own_icmp_eq X32 at_101 (by decide) (pcT := 111) (by decide) rfl (fun hc => absurd hc (by decide)) (fun hc => ?_)
            refine own_iload X32 at_104 rfl rfl ?_
            refine own_bipush X32 (62 : Int32) at_106 rfl (by decide) ?_
            refine own_icmp_ne X32 at_108 (by decide) (pcT := 115) (by decide) rfl (fun hc => absurd hc (by decide)) (fun hc => ?_)
            refine own_iconst X32 (1 : Int32) at_111 rfl (by decide) ?_
            refine own_goto X32 at_112 (by decide) (pc' := 116) (by decide) ?_
            refine own_istore X32 (L' := #[.val (.int p1), .val (.int ((p1 &&& (2147483647 : Int32)) % (6 : Int32))), .val (.ref r4), .val (.int (1 : Int32)), .val (.ref sy4), .val (.int (62 : Int32)), .val (.int (1 : Int32)), .unset]) at_116 rfl rfl ?_
            refine own_aloadN X32 at_118 rfl rfl rfl ?_
            refine own_callV X32 (hw _ (List.mem_of_getElem? (i := 39) rfl)) (hw _ (List.mem_of_getElem? (i := 40) rfl)) (hw _ (List.mem_of_getElem? (i := 42) rfl)) (hw _ (List.mem_of_getElem? (i := 41) rfl)) (hw _ (List.mem_of_getElem? (i := 2) rfl)) (hw _ (List.mem_of_getElem? (i := 43) rfl)) (by decide) (a := r4) (argsL := []) (rest := []) (own_m7 l Z a0 hw [] r4 r0 r1 (1 : Int32) _ _ Z0 S0 S1 (own_ord2 (Fld.ne O4 O0 (by decide)) (Fld.ne O4 O1 (by decide)))) E4 (pd_7) rfl at_119 rfl rfl rfl (W := 0) rfl (by decide) (by decide) (cells' := 0) (slots' := 0) rfl rfl (by decide) (by decide) (fun v T36 h38 X37 q39 => ?_)
            obtain ⟨rfl, rfl⟩ := q39
            show own_Fin p e below (own_End s n0 (fun v _ => v = some (.int 1)) room_1.cells room_1.slots) (T36.setTop (mkF m 122 #[.val (.int p1), .val (.int ((p1 &&& (2147483647 : Int32)) % (6 : Int32))), .val (.ref r4), .val (.int (1 : Int32)), .val (.ref sy4), .val (.int (62 : Int32)), .val (.int (1 : Int32)), .unset] [(.int (1 : Int32))]))
            refine own_istore X37 (L' := #[.val (.int p1), .val (.int ((p1 &&& (2147483647 : Int32)) % (6 : Int32))), .val (.ref r4), .val (.int (1 : Int32)), .val (.ref sy4), .val (.int (62 : Int32)), .val (.int (1 : Int32)), .val (.int (1 : Int32))]) at_122 rfl rfl ?_
            refine own_iload X37 at_124 rfl rfl ?_
            refine own_iloadN X37 at_126 rfl rfl ?_
            refine own_icmp_ne X37 at_127 (by decide) (pcT := 141) (by decide) rfl (fun hc => absurd hc (by decide)) (fun hc => ?_)
            refine own_iload X37 at_130 rfl rfl ?_
            refine own_iload X37 at_132 rfl rfl ?_
            refine own_icmp_ne X37 at_134 (by decide) (pcT := 141) (by decide) rfl (fun hc => absurd hc (by decide)) (fun hc => ?_)
            refine own_iconst X37 (1 : Int32) at_137 rfl (by decide) ?_
            refine own_goto X37 at_138 (by decide) (pc' := 142) (by decide) ?_
            exact own_retZ X37 rfl at_142 rfl rfl (by decide) (by decide)
        · skip
          refine own_gets X0 (hw _ (List.mem_of_getElem? (i := 45) rfl)) S3 at_54 rfl (fun T40 X41 => ?_)
          refine own_astoreN X41 (L' := #[.val (.int p1), .val (.int ((p1 &&& (2147483647 : Int32)) % (6 : Int32))), .val (.ref r3), .unset, .unset, .unset, .unset, .unset]) at_57 rfl rfl rfl ?_
          refine own_iconst X41 (1 : Int32) at_58 rfl (by decide) ?_
          refine own_istoreN X41 (L' := #[.val (.int p1), .val (.int ((p1 &&& (2147483647 : Int32)) % (6 : Int32))), .val (.ref r3), .val (.int (1 : Int32)), .unset, .unset, .unset, .unset]) at_59 rfl rfl ?_
          refine own_goto X41 at_60 (by decide) (pc' := 83) (by decide) ?_
          refine own_aloadN X41 at_83 rfl rfl rfl ?_
          refine own_callV X41 (hw _ (List.mem_of_getElem? (i := 4) rfl)) (hw _ (List.mem_of_getElem? (i := 5) rfl)) (hw _ (List.mem_of_getElem? (i := 7) rfl)) (hw _ (List.mem_of_getElem? (i := 6) rfl)) (hw _ (List.mem_of_getElem? (i := 2) rfl)) (hw _ (List.mem_of_getElem? (i := 8) rfl)) (by decide) (a := r3) (argsL := []) (rest := []) (own_m1 l Z a0 hw [] r3 sy3 _ _ Z0 Y3) E3 (pd_1) rfl at_84 rfl rfl rfl (W := 0) rfl (by decide) (by decide) (cells' := 0) (slots' := 0) rfl rfl (by decide) (by decide) (fun v T43 h45 X44 q46 => ?_)
          obtain ⟨rfl, rfl⟩ := q46
          show own_Fin p e below (own_End s n0 (fun v _ => v = some (.int 1)) room_1.cells room_1.slots) (T43.setTop (mkF m 87 #[.val (.int p1), .val (.int ((p1 &&& (2147483647 : Int32)) % (6 : Int32))), .val (.ref r3), .val (.int (1 : Int32)), .unset, .unset, .unset, .unset] [(.ref sy3)]))
          refine own_astore X44 (L' := #[.val (.int p1), .val (.int ((p1 &&& (2147483647 : Int32)) % (6 : Int32))), .val (.ref r3), .val (.int (1 : Int32)), .val (.ref sy3), .unset, .unset, .unset]) at_87 rfl rfl rfl ?_
          refine own_aload X44 at_89 rfl rfl rfl ?_
          refine own_iconst X44 (0 : Int32) at_91 rfl (by decide) ?_
          refine own_callV X44 (hw _ (List.mem_of_getElem? (i := 11) rfl)) (hw _ (List.mem_of_getElem? (i := 12) rfl)) (hw _ (List.mem_of_getElem? (i := 14) rfl)) (hw _ (List.mem_of_getElem? (i := 13) rfl)) (hw _ (List.mem_of_getElem? (i := 15) rfl)) (hw _ (List.mem_of_getElem? (i := 16) rfl)) (by decide) (a := sy3) (argsL := [(.int (0 : Int32))]) (rest := []) (own_m6 l Z a0 hw [] sy3 (0 : Int32) b3 cst fv cl3 (2 : Int32) (60 : Int32) _ _ Z0 G3 CO3 VA3 A3 SC SF hcs hfv (by decide) (by decide) N3 J3 H3 (by decide) rfl) G3 (pd_2) rfl at_92 rfl rfl rfl (W := 0) rfl (by decide) (by decide) (cells' := 0) (slots' := 0) rfl rfl (by decide) (by decide) (fun v T48 h50 X49 q51 => ?_)
          obtain ⟨rfl, rfl⟩ := q51
          show own_Fin p e below (own_End s n0 (fun v _ => v = some (.int 1)) room_1.cells room_1.slots) (T48.setTop (mkF m 95 #[.val (.int p1), .val (.int ((p1 &&& (2147483647 : Int32)) % (6 : Int32))), .val (.ref r3), .val (.int (1 : Int32)), .val (.ref sy3), .unset, .unset, .unset] [(.int (60 : Int32))]))
          refine own_istore X49 (L' := #[.val (.int p1), .val (.int ((p1 &&& (2147483647 : Int32)) % (6 : Int32))), .val (.ref r3), .val (.int (1 : Int32)), .val (.ref sy3), .val (.int (60 : Int32)), .unset, .unset]) at_95 rfl rfl ?_
          refine own_iload X49 at_97 rfl rfl ?_
          refine own_bipush X49 (60 : Int32) at_99 rfl (by decide) ?_
          refine own_icmp_eq X49 at_101 (by decide) (pcT := 111) (by decide) rfl (fun hc => ?_) (fun hc => absurd hc (by decide))
          refine own_iconst X49 (1 : Int32) at_111 rfl (by decide) ?_
          refine own_goto X49 at_112 (by decide) (pc' := 116) (by decide) ?_
          refine own_istore X49 (L' := #[.val (.int p1), .val (.int ((p1 &&& (2147483647 : Int32)) % (6 : Int32))), .val (.ref r3), .val (.int (1 : Int32)), .val (.ref sy3), .val (.int (60 : Int32)), .val (.int (1 : Int32)), .unset]) at_116 rfl rfl ?_
          refine own_aloadN X49 at_118 rfl rfl rfl ?_
          refine own_callV X49 (hw _ (List.mem_of_getElem? (i := 39) rfl)) (hw _ (List.mem_of_getElem? (i := 40) rfl)) (hw _ (List.mem_of_getElem? (i := 42) rfl)) (hw _ (List.mem_of_getElem? (i := 41) rfl)) (hw _ (List.mem_of_getElem? (i := 2) rfl)) (hw _ (List.mem_of_getElem? (i := 43) rfl)) (by decide) (a := r3) (argsL := []) (rest := []) (own_m7 l Z a0 hw [] r3 r0 r1 (1 : Int32) _ _ Z0 S0 S1 (own_ord2 (Fld.ne O3 O0 (by decide)) (Fld.ne O3 O1 (by decide)))) E3 (pd_7) rfl at_119 rfl rfl rfl (W := 0) rfl (by decide) (by decide) (cells' := 0) (slots' := 0) rfl rfl (by decide) (by decide) (fun v T53 h55 X54 q56 => ?_)
          obtain ⟨rfl, rfl⟩ := q56
          show own_Fin p e below (own_End s n0 (fun v _ => v = some (.int 1)) room_1.cells room_1.slots) (T53.setTop (mkF m 122 #[.val (.int p1), .val (.int ((p1 &&& (2147483647 : Int32)) % (6 : Int32))), .val (.ref r3), .val (.int (1 : Int32)), .val (.ref sy3), .val (.int (60 : Int32)), .val (.int (1 : Int32)), .unset] [(.int (1 : Int32))]))
          refine own_istore X54 (L' := #[.val (.int p1), .val (.int ((p1 &&& (2147483647 : Int32)) % (6 : Int32))), .val (.ref r3), .val (.int (1 : Int32)), .val (.ref sy3), .val (.int (60 : Int32)), .val (.int (1 : Int32)), .val (.int (1 : Int32))]) at_122 rfl rfl ?_
          refine own_iload X54 at_124 rfl rfl ?_
          refine own_iloadN X54 at_126 rfl rfl ?_
          refine own_icmp_ne X54 at_127 (by decide) (pcT := 141) (by decide) rfl (fun hc => absurd hc (by decide)) (fun hc => ?_)
          refine own_iload X54 at_130 rfl rfl ?_
          refine own_iload X54 at_132 rfl rfl ?_
          refine own_icmp_ne X54 at_134 (by decide) (pcT := 141) (by decide) rfl (fun hc => absurd hc (by decide)) (fun hc => ?_)
          refine own_iconst X54 (1 : Int32) at_137 rfl (by decide) ?_
          refine own_goto X54 at_138 (by decide) (pc' := 142) (by decide) ?_
          exact own_retZ X54 rfl at_142 rfl rfl (by decide) (by decide)
      · skip
        refine own_gets X0 (hw _ (List.mem_of_getElem? (i := 49) rfl)) S2 at_40 rfl (fun T57 X58 => ?_)
        refine own_astoreN X58 (L' := #[.val (.int p1), .val (.int ((p1 &&& (2147483647 : Int32)) % (6 : Int32))), .val (.ref r2), .unset, .unset, .unset, .unset, .unset]) at_43 rfl rfl rfl ?_
        refine own_iconst X58 (1 : Int32) at_44 rfl (by decide) ?_
        refine own_istoreN X58 (L' := #[.val (.int p1), .val (.int ((p1 &&& (2147483647 : Int32)) % (6 : Int32))), .val (.ref r2), .val (.int (1 : Int32)), .unset, .unset, .unset, .unset]) at_45 rfl rfl ?_
        refine own_goto X58 at_46 (by decide) (pc' := 83) (by decide) ?_
        refine own_aloadN X58 at_83 rfl rfl rfl ?_
        refine own_callV X58 (hw _ (List.mem_of_getElem? (i := 4) rfl)) (hw _ (List.mem_of_getElem? (i := 5) rfl)) (hw _ (List.mem_of_getElem? (i := 7) rfl)) (hw _ (List.mem_of_getElem? (i := 6) rfl)) (hw _ (List.mem_of_getElem? (i := 2) rfl)) (hw _ (List.mem_of_getElem? (i := 8) rfl)) (by decide) (a := r2) (argsL := []) (rest := []) (own_m1 l Z a0 hw [] r2 sy2 _ _ Z0 Y2) E2 (pd_1) rfl at_84 rfl rfl rfl (W := 0) rfl (by decide) (by decide) (cells' := 0) (slots' := 0) rfl rfl (by decide) (by decide) (fun v T60 h62 X61 q63 => ?_)
        obtain ⟨rfl, rfl⟩ := q63
        show own_Fin p e below (own_End s n0 (fun v _ => v = some (.int 1)) room_1.cells room_1.slots) (T60.setTop (mkF m 87 #[.val (.int p1), .val (.int ((p1 &&& (2147483647 : Int32)) % (6 : Int32))), .val (.ref r2), .val (.int (1 : Int32)), .unset, .unset, .unset, .unset] [(.ref sy2)]))
        refine own_astore X61 (L' := #[.val (.int p1), .val (.int ((p1 &&& (2147483647 : Int32)) % (6 : Int32))), .val (.ref r2), .val (.int (1 : Int32)), .val (.ref sy2), .unset, .unset, .unset]) at_87 rfl rfl rfl ?_
        refine own_aload X61 at_89 rfl rfl rfl ?_
        refine own_iconst X61 (0 : Int32) at_91 rfl (by decide) ?_
        refine own_callV X61 (hw _ (List.mem_of_getElem? (i := 11) rfl)) (hw _ (List.mem_of_getElem? (i := 12) rfl)) (hw _ (List.mem_of_getElem? (i := 14) rfl)) (hw _ (List.mem_of_getElem? (i := 13) rfl)) (hw _ (List.mem_of_getElem? (i := 15) rfl)) (hw _ (List.mem_of_getElem? (i := 16) rfl)) (by decide) (a := sy2) (argsL := [(.int (0 : Int32))]) (rest := []) (own_m6 l Z a0 hw [] sy2 (0 : Int32) b2 cst fv cl2 (1 : Int32) (60 : Int32) _ _ Z0 G2 CO2 VA2 A2 SC SF hcs hfv (by decide) (by decide) N2 J2 H2 (by decide) rfl) G2 (pd_2) rfl at_92 rfl rfl rfl (W := 0) rfl (by decide) (by decide) (cells' := 0) (slots' := 0) rfl rfl (by decide) (by decide) (fun v T65 h67 X66 q68 => ?_)
        obtain ⟨rfl, rfl⟩ := q68
        show own_Fin p e below (own_End s n0 (fun v _ => v = some (.int 1)) room_1.cells room_1.slots) (T65.setTop (mkF m 95 #[.val (.int p1), .val (.int ((p1 &&& (2147483647 : Int32)) % (6 : Int32))), .val (.ref r2), .val (.int (1 : Int32)), .val (.ref sy2), .unset, .unset, .unset] [(.int (60 : Int32))]))
        refine own_istore X66 (L' := #[.val (.int p1), .val (.int ((p1 &&& (2147483647 : Int32)) % (6 : Int32))), .val (.ref r2), .val (.int (1 : Int32)), .val (.ref sy2), .val (.int (60 : Int32)), .unset, .unset]) at_95 rfl rfl ?_
        refine own_iload X66 at_97 rfl rfl ?_
        refine own_bipush X66 (60 : Int32) at_99 rfl (by decide) ?_
        refine own_icmp_eq X66 at_101 (by decide) (pcT := 111) (by decide) rfl (fun hc => ?_) (fun hc => absurd hc (by decide))
        refine own_iconst X66 (1 : Int32) at_111 rfl (by decide) ?_
        refine own_goto X66 at_112 (by decide) (pc' := 116) (by decide) ?_
        refine own_istore X66 (L' := #[.val (.int p1), .val (.int ((p1 &&& (2147483647 : Int32)) % (6 : Int32))), .val (.ref r2), .val (.int (1 : Int32)), .val (.ref sy2), .val (.int (60 : Int32)), .val (.int (1 : Int32)), .unset]) at_116 rfl rfl ?_
        refine own_aloadN X66 at_118 rfl rfl rfl ?_
        refine own_callV X66 (hw _ (List.mem_of_getElem? (i := 39) rfl)) (hw _ (List.mem_of_getElem? (i := 40) rfl)) (hw _ (List.mem_of_getElem? (i := 42) rfl)) (hw _ (List.mem_of_getElem? (i := 41) rfl)) (hw _ (List.mem_of_getElem? (i := 2) rfl)) (hw _ (List.mem_of_getElem? (i := 43) rfl)) (by decide) (a := r2) (argsL := []) (rest := []) (own_m7 l Z a0 hw [] r2 r0 r1 (1 : Int32) _ _ Z0 S0 S1 (own_ord2 (Fld.ne O2 O0 (by decide)) (Fld.ne O2 O1 (by decide)))) E2 (pd_7) rfl at_119 rfl rfl rfl (W := 0) rfl (by decide) (by decide) (cells' := 0) (slots' := 0) rfl rfl (by decide) (by decide) (fun v T70 h72 X71 q73 => ?_)
        obtain ⟨rfl, rfl⟩ := q73
        show own_Fin p e below (own_End s n0 (fun v _ => v = some (.int 1)) room_1.cells room_1.slots) (T70.setTop (mkF m 122 #[.val (.int p1), .val (.int ((p1 &&& (2147483647 : Int32)) % (6 : Int32))), .val (.ref r2), .val (.int (1 : Int32)), .val (.ref sy2), .val (.int (60 : Int32)), .val (.int (1 : Int32)), .unset] [(.int (1 : Int32))]))
        refine own_istore X71 (L' := #[.val (.int p1), .val (.int ((p1 &&& (2147483647 : Int32)) % (6 : Int32))), .val (.ref r2), .val (.int (1 : Int32)), .val (.ref sy2), .val (.int (60 : Int32)), .val (.int (1 : Int32)), .val (.int (1 : Int32))]) at_122 rfl rfl ?_
        refine own_iload X71 at_124 rfl rfl ?_
        refine own_iloadN X71 at_126 rfl rfl ?_
        refine own_icmp_ne X71 at_127 (by decide) (pcT := 141) (by decide) rfl (fun hc => absurd hc (by decide)) (fun hc => ?_)
        refine own_iload X71 at_130 rfl rfl ?_
        refine own_iload X71 at_132 rfl rfl ?_
        refine own_icmp_ne X71 at_134 (by decide) (pcT := 141) (by decide) rfl (fun hc => absurd hc (by decide)) (fun hc => ?_)
        refine own_iconst X71 (1 : Int32) at_137 rfl (by decide) ?_
        refine own_goto X71 at_138 (by decide) (pc' := 142) (by decide) ?_
        exact own_retZ X71 rfl at_142 rfl rfl (by decide) (by decide)
    · skip
      refine own_gets X0 (hw _ (List.mem_of_getElem? (i := 51) rfl)) S1 at_26 rfl (fun T74 X75 => ?_)
      refine own_astoreN X75 (L' := #[.val (.int p1), .val (.int ((p1 &&& (2147483647 : Int32)) % (6 : Int32))), .val (.ref r1), .unset, .unset, .unset, .unset, .unset]) at_29 rfl rfl rfl ?_
      refine own_iconst X75 (0 : Int32) at_30 rfl (by decide) ?_
      refine own_istoreN X75 (L' := #[.val (.int p1), .val (.int ((p1 &&& (2147483647 : Int32)) % (6 : Int32))), .val (.ref r1), .val (.int (0 : Int32)), .unset, .unset, .unset, .unset]) at_31 rfl rfl ?_
      refine own_goto X75 at_32 (by decide) (pc' := 83) (by decide) ?_
      refine own_aloadN X75 at_83 rfl rfl rfl ?_
      refine own_callV X75 (hw _ (List.mem_of_getElem? (i := 4) rfl)) (hw _ (List.mem_of_getElem? (i := 5) rfl)) (hw _ (List.mem_of_getElem? (i := 7) rfl)) (hw _ (List.mem_of_getElem? (i := 6) rfl)) (hw _ (List.mem_of_getElem? (i := 2) rfl)) (hw _ (List.mem_of_getElem? (i := 8) rfl)) (by decide) (a := r1) (argsL := []) (rest := []) (own_m1 l Z a0 hw [] r1 sy1 _ _ Z0 Y1) E1 (pd_1) rfl at_84 rfl rfl rfl (W := 0) rfl (by decide) (by decide) (cells' := 0) (slots' := 0) rfl rfl (by decide) (by decide) (fun v T77 h79 X78 q80 => ?_)
      obtain ⟨rfl, rfl⟩ := q80
      show own_Fin p e below (own_End s n0 (fun v _ => v = some (.int 1)) room_1.cells room_1.slots) (T77.setTop (mkF m 87 #[.val (.int p1), .val (.int ((p1 &&& (2147483647 : Int32)) % (6 : Int32))), .val (.ref r1), .val (.int (0 : Int32)), .unset, .unset, .unset, .unset] [(.ref sy1)]))
      refine own_astore X78 (L' := #[.val (.int p1), .val (.int ((p1 &&& (2147483647 : Int32)) % (6 : Int32))), .val (.ref r1), .val (.int (0 : Int32)), .val (.ref sy1), .unset, .unset, .unset]) at_87 rfl rfl rfl ?_
      refine own_aload X78 at_89 rfl rfl rfl ?_
      refine own_iconst X78 (0 : Int32) at_91 rfl (by decide) ?_
      refine own_callV X78 (hw _ (List.mem_of_getElem? (i := 11) rfl)) (hw _ (List.mem_of_getElem? (i := 12) rfl)) (hw _ (List.mem_of_getElem? (i := 14) rfl)) (hw _ (List.mem_of_getElem? (i := 13) rfl)) (hw _ (List.mem_of_getElem? (i := 15) rfl)) (hw _ (List.mem_of_getElem? (i := 16) rfl)) (by decide) (a := sy1) (argsL := [(.int (0 : Int32))]) (rest := []) (own_m6 l Z a0 hw [] sy1 (0 : Int32) b1 cst fv cl1 (2 : Int32) (33 : Int32) _ _ Z0 G1 CO1 VA1 A1 SC SF hcs hfv (by decide) (by decide) N1 J1 H1 (by decide) rfl) G1 (pd_2) rfl at_92 rfl rfl rfl (W := 0) rfl (by decide) (by decide) (cells' := 0) (slots' := 0) rfl rfl (by decide) (by decide) (fun v T82 h84 X83 q85 => ?_)
      obtain ⟨rfl, rfl⟩ := q85
      show own_Fin p e below (own_End s n0 (fun v _ => v = some (.int 1)) room_1.cells room_1.slots) (T82.setTop (mkF m 95 #[.val (.int p1), .val (.int ((p1 &&& (2147483647 : Int32)) % (6 : Int32))), .val (.ref r1), .val (.int (0 : Int32)), .val (.ref sy1), .unset, .unset, .unset] [(.int (33 : Int32))]))
      refine own_istore X83 (L' := #[.val (.int p1), .val (.int ((p1 &&& (2147483647 : Int32)) % (6 : Int32))), .val (.ref r1), .val (.int (0 : Int32)), .val (.ref sy1), .val (.int (33 : Int32)), .unset, .unset]) at_95 rfl rfl ?_
      refine own_iload X83 at_97 rfl rfl ?_
      refine own_bipush X83 (60 : Int32) at_99 rfl (by decide) ?_
      refine own_icmp_eq X83 at_101 (by decide) (pcT := 111) (by decide) rfl (fun hc => absurd hc (by decide)) (fun hc => ?_)
      refine own_iload X83 at_104 rfl rfl ?_
      refine own_bipush X83 (62 : Int32) at_106 rfl (by decide) ?_
      refine own_icmp_ne X83 at_108 (by decide) (pcT := 115) (by decide) rfl (fun hc => ?_) (fun hc => absurd hc (by decide))
      refine own_iconst X83 (0 : Int32) at_115 rfl (by decide) ?_
      refine own_istore X83 (L' := #[.val (.int p1), .val (.int ((p1 &&& (2147483647 : Int32)) % (6 : Int32))), .val (.ref r1), .val (.int (0 : Int32)), .val (.ref sy1), .val (.int (33 : Int32)), .val (.int (0 : Int32)), .unset]) at_116 rfl rfl ?_
      refine own_aloadN X83 at_118 rfl rfl rfl ?_
      refine own_callV X83 (hw _ (List.mem_of_getElem? (i := 39) rfl)) (hw _ (List.mem_of_getElem? (i := 40) rfl)) (hw _ (List.mem_of_getElem? (i := 42) rfl)) (hw _ (List.mem_of_getElem? (i := 41) rfl)) (hw _ (List.mem_of_getElem? (i := 2) rfl)) (hw _ (List.mem_of_getElem? (i := 43) rfl)) (by decide) (a := r1) (argsL := []) (rest := []) (own_m7 l Z a0 hw [] r1 r0 r1 (0 : Int32) _ _ Z0 S0 S1 (own_ord1 (Fld.ne O1 O0 (by decide)))) E1 (pd_7) rfl at_119 rfl rfl rfl (W := 0) rfl (by decide) (by decide) (cells' := 0) (slots' := 0) rfl rfl (by decide) (by decide) (fun v T87 h89 X88 q90 => ?_)
      obtain ⟨rfl, rfl⟩ := q90
      show own_Fin p e below (own_End s n0 (fun v _ => v = some (.int 1)) room_1.cells room_1.slots) (T87.setTop (mkF m 122 #[.val (.int p1), .val (.int ((p1 &&& (2147483647 : Int32)) % (6 : Int32))), .val (.ref r1), .val (.int (0 : Int32)), .val (.ref sy1), .val (.int (33 : Int32)), .val (.int (0 : Int32)), .unset] [(.int (0 : Int32))]))
      refine own_istore X88 (L' := #[.val (.int p1), .val (.int ((p1 &&& (2147483647 : Int32)) % (6 : Int32))), .val (.ref r1), .val (.int (0 : Int32)), .val (.ref sy1), .val (.int (33 : Int32)), .val (.int (0 : Int32)), .val (.int (0 : Int32))]) at_122 rfl rfl ?_
      refine own_iload X88 at_124 rfl rfl ?_
      refine own_iloadN X88 at_126 rfl rfl ?_
      refine own_icmp_ne X88 at_127 (by decide) (pcT := 141) (by decide) rfl (fun hc => absurd hc (by decide)) (fun hc => ?_)
      refine own_iload X88 at_130 rfl rfl ?_
      refine own_iload X88 at_132 rfl rfl ?_
      refine own_icmp_ne X88 at_134 (by decide) (pcT := 141) (by decide) rfl (fun hc => absurd hc (by decide)) (fun hc => ?_)
      refine own_iconst X88 (1 : Int32) at_137 rfl (by decide) ?_
      refine own_goto X88 at_138 (by decide) (pc' := 142) (by decide) ?_
      exact own_retZ X88 rfl at_142 rfl rfl (by decide) (by decide)
  · skip
    refine own_gets X0 (hw _ (List.mem_of_getElem? (i := 1) rfl)) S0 at_12 rfl (fun T91 X92 => ?_)
    refine own_astoreN X92 (L' := #[.val (.int p1), .val (.int ((p1 &&& (2147483647 : Int32)) % (6 : Int32))), .val (.ref r0), .unset, .unset, .unset, .unset, .unset]) at_15 rfl rfl rfl ?_
    refine own_iconst X92 (0 : Int32) at_16 rfl (by decide) ?_
    refine own_istoreN X92 (L' := #[.val (.int p1), .val (.int ((p1 &&& (2147483647 : Int32)) % (6 : Int32))), .val (.ref r0), .val (.int (0 : Int32)), .unset, .unset, .unset, .unset]) at_17 rfl rfl ?_
    refine own_goto X92 at_18 (by decide) (pc' := 83) (by decide) ?_
    refine own_aloadN X92 at_83 rfl rfl rfl ?_
    refine own_callV X92 (hw _ (List.mem_of_getElem? (i := 4) rfl)) (hw _ (List.mem_of_getElem? (i := 5) rfl)) (hw _ (List.mem_of_getElem? (i := 7) rfl)) (hw _ (List.mem_of_getElem? (i := 6) rfl)) (hw _ (List.mem_of_getElem? (i := 2) rfl)) (hw _ (List.mem_of_getElem? (i := 8) rfl)) (by decide) (a := r0) (argsL := []) (rest := []) (own_m1 l Z a0 hw [] r0 sy0 _ _ Z0 Y0) E0 (pd_1) rfl at_84 rfl rfl rfl (W := 0) rfl (by decide) (by decide) (cells' := 0) (slots' := 0) rfl rfl (by decide) (by decide) (fun v T94 h96 X95 q97 => ?_)
    obtain ⟨rfl, rfl⟩ := q97
    show own_Fin p e below (own_End s n0 (fun v _ => v = some (.int 1)) room_1.cells room_1.slots) (T94.setTop (mkF m 87 #[.val (.int p1), .val (.int ((p1 &&& (2147483647 : Int32)) % (6 : Int32))), .val (.ref r0), .val (.int (0 : Int32)), .unset, .unset, .unset, .unset] [(.ref sy0)]))
    refine own_astore X95 (L' := #[.val (.int p1), .val (.int ((p1 &&& (2147483647 : Int32)) % (6 : Int32))), .val (.ref r0), .val (.int (0 : Int32)), .val (.ref sy0), .unset, .unset, .unset]) at_87 rfl rfl rfl ?_
    refine own_aload X95 at_89 rfl rfl rfl ?_
    refine own_iconst X95 (0 : Int32) at_91 rfl (by decide) ?_
    refine own_callV X95 (hw _ (List.mem_of_getElem? (i := 11) rfl)) (hw _ (List.mem_of_getElem? (i := 12) rfl)) (hw _ (List.mem_of_getElem? (i := 14) rfl)) (hw _ (List.mem_of_getElem? (i := 13) rfl)) (hw _ (List.mem_of_getElem? (i := 15) rfl)) (hw _ (List.mem_of_getElem? (i := 16) rfl)) (by decide) (a := sy0) (argsL := [(.int (0 : Int32))]) (rest := []) (own_m6 l Z a0 hw [] sy0 (0 : Int32) b0 cst fv cl0 (1 : Int32) (61 : Int32) _ _ Z0 G0 CO0 VA0 A0 SC SF hcs hfv (by decide) (by decide) N0 J0 H0 (by decide) rfl) G0 (pd_2) rfl at_92 rfl rfl rfl (W := 0) rfl (by decide) (by decide) (cells' := 0) (slots' := 0) rfl rfl (by decide) (by decide) (fun v T99 h101 X100 q102 => ?_)
    obtain ⟨rfl, rfl⟩ := q102
    show own_Fin p e below (own_End s n0 (fun v _ => v = some (.int 1)) room_1.cells room_1.slots) (T99.setTop (mkF m 95 #[.val (.int p1), .val (.int ((p1 &&& (2147483647 : Int32)) % (6 : Int32))), .val (.ref r0), .val (.int (0 : Int32)), .val (.ref sy0), .unset, .unset, .unset] [(.int (61 : Int32))]))
    refine own_istore X100 (L' := #[.val (.int p1), .val (.int ((p1 &&& (2147483647 : Int32)) % (6 : Int32))), .val (.ref r0), .val (.int (0 : Int32)), .val (.ref sy0), .val (.int (61 : Int32)), .unset, .unset]) at_95 rfl rfl ?_
    refine own_iload X100 at_97 rfl rfl ?_
    refine own_bipush X100 (60 : Int32) at_99 rfl (by decide) ?_
    refine own_icmp_eq X100 at_101 (by decide) (pcT := 111) (by decide) rfl (fun hc => absurd hc (by decide)) (fun hc => ?_)
    refine own_iload X100 at_104 rfl rfl ?_
    refine own_bipush X100 (62 : Int32) at_106 rfl (by decide) ?_
    refine own_icmp_ne X100 at_108 (by decide) (pcT := 115) (by decide) rfl (fun hc => ?_) (fun hc => absurd hc (by decide))
    refine own_iconst X100 (0 : Int32) at_115 rfl (by decide) ?_
    refine own_istore X100 (L' := #[.val (.int p1), .val (.int ((p1 &&& (2147483647 : Int32)) % (6 : Int32))), .val (.ref r0), .val (.int (0 : Int32)), .val (.ref sy0), .val (.int (61 : Int32)), .val (.int (0 : Int32)), .unset]) at_116 rfl rfl ?_
    refine own_aloadN X100 at_118 rfl rfl rfl ?_
    refine own_callV X100 (hw _ (List.mem_of_getElem? (i := 39) rfl)) (hw _ (List.mem_of_getElem? (i := 40) rfl)) (hw _ (List.mem_of_getElem? (i := 42) rfl)) (hw _ (List.mem_of_getElem? (i := 41) rfl)) (hw _ (List.mem_of_getElem? (i := 2) rfl)) (hw _ (List.mem_of_getElem? (i := 43) rfl)) (by decide) (a := r0) (argsL := []) (rest := []) (own_m7 l Z a0 hw [] r0 r0 r1 (0 : Int32) _ _ Z0 S0 S1 (own_ord0 _ _)) E0 (pd_7) rfl at_119 rfl rfl rfl (W := 0) rfl (by decide) (by decide) (cells' := 0) (slots' := 0) rfl rfl (by decide) (by decide) (fun v T104 h106 X105 q107 => ?_)
    obtain ⟨rfl, rfl⟩ := q107
    show own_Fin p e below (own_End s n0 (fun v _ => v = some (.int 1)) room_1.cells room_1.slots) (T104.setTop (mkF m 122 #[.val (.int p1), .val (.int ((p1 &&& (2147483647 : Int32)) % (6 : Int32))), .val (.ref r0), .val (.int (0 : Int32)), .val (.ref sy0), .val (.int (61 : Int32)), .val (.int (0 : Int32)), .unset] [(.int (0 : Int32))]))
    refine own_istore X105 (L' := #[.val (.int p1), .val (.int ((p1 &&& (2147483647 : Int32)) % (6 : Int32))), .val (.ref r0), .val (.int (0 : Int32)), .val (.ref sy0), .val (.int (61 : Int32)), .val (.int (0 : Int32)), .val (.int (0 : Int32))]) at_122 rfl rfl ?_
    refine own_iload X105 at_124 rfl rfl ?_
    refine own_iloadN X105 at_126 rfl rfl ?_
    refine own_icmp_ne X105 at_127 (by decide) (pcT := 141) (by decide) rfl (fun hc => absurd hc (by decide)) (fun hc => ?_)
    refine own_iload X105 at_130 rfl rfl ?_
    refine own_iload X105 at_132 rfl rfl ?_
    refine own_icmp_ne X105 at_134 (by decide) (pcT := 141) (by decide) rfl (fun hc => absurd hc (by decide)) (fun hc => ?_)
    refine own_iconst X105 (1 : Int32) at_137 rfl (by decide) ?_
    refine own_goto X105 at_138 (by decide) (pc' := 142) (by decide) ?_
    exact own_retZ X105 rfl at_142 rfl rfl (by decide) (by decide)
set_option maxRecDepth 65536 in
set_option maxHeartbeats 40000000 in
theorem comes_1 {Post : Tables → Env → Array Value → State → Outcome → State → Prop} (hpost : ∀ tb e args s v u, (limb_1_1.after args s (.returned v) u = true ∧ limb_1_2.after args s (.returned v) u = true ∧ True) → FrameEnd s (.returned v) u (Jvm.fieldLocs frame_1_writes args s ++ Jvm.arrayLocs frame_1_arrays args s ++ Jvm.staticLocs frame_1_statics s) 0 0 → Post tb e args s (.returned v) u) :
    ArmFor flags0 classFile x code maxLocals ret World_1 tables_1 room_1 Calls_1 rest_1 Pre_1 Post := by
  intro l hfl _ _ p e ha hc hk s m args below hf hA hF happ hP
  obtain ⟨hcalls, hrest, hpre⟩ := hP
  obtain ⟨-, -, -, hnamed, -, -, -, hat⟩ := (Spec.applies_iff hf).mp happ
  obtain ⟨hg, hn⟩ := and_e (Cond.before_iff.mp (show (Jvm.Cond.and given_1 narrow_1).before args s = true from hpre))
  obtain ⟨h1, g0⟩ := and_e hg
  obtain ⟨w0, rfl⟩ : ∃ w0 : Value, args = #[w0] := by
    have hs : args.size = 1 := by simpa [Cond.value, given_1] using h1
    obtain ⟨L⟩ := args
    match L, hs with
    | [w0], _ => exact ⟨w0, rfl⟩
  have hw := fun d (hd : d ∈ tables_1) => atoms_spec (ws := Jvm.Cond.code x code maxLocals ret :: tables_1) hat d (List.mem_cons_of_mem _ hd)
  obtain ⟨i0, e0⟩ := is_v g0
  obtain rfl : w0 = (.int i0) := Option.some.inj e0
  obtain ⟨hsets, hown0⟩ := atoms_of _ (rest_1_c_eq ▸ (show rest_1_c.before _ s = true from hrest))
  obtain ⟨c0, n0⟩ := and_e hn
  obtain ⟨c1, n1⟩ := and_e n0
  obtain ⟨c2, n2⟩ := and_e n1
  obtain ⟨c3, n3⟩ := and_e n2
  obtain ⟨c4, n4⟩ := and_e n3
  obtain ⟨c5, n5⟩ := and_e n4
  obtain ⟨c6, n6⟩ := and_e n5
  obtain ⟨c7, n7⟩ := and_e n6
  obtain ⟨c8, n8⟩ := and_e n7
  obtain ⟨c9, n9⟩ := and_e n8
  obtain ⟨c10, n10⟩ := and_e n9
  obtain ⟨c11, n11⟩ := and_e n10
  obtain ⟨c12, n12⟩ := and_e n11
  obtain ⟨c13, n13⟩ := and_e n12
  obtain ⟨c14, n14⟩ := and_e n13
  obtain ⟨c15, n15⟩ := and_e n14
  obtain ⟨c16, n16⟩ := and_e n15
  obtain ⟨c17, n17⟩ := and_e n16
  obtain ⟨c18, n18⟩ := and_e n17
  obtain ⟨c19, n19⟩ := and_e n18
  obtain ⟨c20, n20⟩ := and_e n19
  obtain ⟨c21, n21⟩ := and_e n20
  obtain ⟨c22, n22⟩ := and_e n21
  obtain ⟨c23, n23⟩ := and_e n22
  obtain ⟨c24, n24⟩ := and_e n23
  obtain ⟨c25, n25⟩ := and_e n24
  obtain ⟨c26, n26⟩ := and_e n25
  obtain ⟨c27, n27⟩ := and_e n26
  obtain ⟨c28, n28⟩ := and_e n27
  obtain ⟨c29, n29⟩ := and_e n28
  obtain ⟨c30, n30⟩ := and_e n29
  obtain ⟨c31, n31⟩ := and_e n30
  obtain ⟨c32, n32⟩ := and_e n31
  obtain ⟨c33, n33⟩ := and_e n32
  obtain ⟨c34, n34⟩ := and_e n33
  obtain ⟨c35, n35⟩ := and_e n34
  obtain ⟨c36, n36⟩ := and_e n35
  obtain ⟨c37, n37⟩ := and_e n36
  obtain ⟨c38, n38⟩ := and_e n37
  obtain ⟨c39, n39⟩ := and_e n38
  obtain ⟨c40, n40⟩ := and_e n39
  obtain ⟨c41, n41⟩ := and_e n40
  obtain ⟨c42, n42⟩ := and_e n41
  obtain ⟨c43, n43⟩ := and_e n42
  have c44 := n43
  obtain ⟨r0, ev0, R0⟩ := own_rel_start c0 c1 c2 c3 c4 c5 c13
  have S0 : Sta s s.heap "com/example/iterate/iterate/workflow/Filter$Relation" "EQUAL" "Lcom/example/iterate/iterate/workflow/Filter$Relation;" (.ref r0) := Sta.start ev0 (Or.inr ⟨(hw _ (List.mem_of_getElem? (i := 2) rfl)), (hw _ (List.mem_of_getElem? (i := 3) rfl))⟩)
  obtain ⟨r1, ev1, R1⟩ := own_rel_start c14 c23 c24 c25 c26 c27 c15
  have S1 : Sta s s.heap "com/example/iterate/iterate/workflow/Filter$Relation" "NOT_EQUAL" "Lcom/example/iterate/iterate/workflow/Filter$Relation;" (.ref r1) := Sta.start ev1 (Or.inr ⟨(hw _ (List.mem_of_getElem? (i := 2) rfl)), (hw _ (List.mem_of_getElem? (i := 48) rfl))⟩)
  obtain ⟨r2, ev2, R2⟩ := own_rel_start c16 c17 c18 c19 c20 c21 c22
  have S2 : Sta s s.heap "com/example/iterate/iterate/workflow/Filter$Relation" "LESS" "Lcom/example/iterate/iterate/workflow/Filter$Relation;" (.ref r2) := Sta.start ev2 (Or.inr ⟨(hw _ (List.mem_of_getElem? (i := 2) rfl)), (hw _ (List.mem_of_getElem? (i := 50) rfl))⟩)
  obtain ⟨r3, ev3, R3⟩ := own_rel_start c6 c7 c8 c9 c10 c11 c12
  have S3 : Sta s s.heap "com/example/iterate/iterate/workflow/Filter$Relation" "AT_MOST" "Lcom/example/iterate/iterate/workflow/Filter$Relation;" (.ref r3) := Sta.start ev3 (Or.inr ⟨(hw _ (List.mem_of_getElem? (i := 2) rfl)), (hw _ (List.mem_of_getElem? (i := 46) rfl))⟩)
  obtain ⟨r4, ev4, R4⟩ := own_rel_start c35 c36 c37 c38 c39 c40 c41
  have S4 : Sta s s.heap "com/example/iterate/iterate/workflow/Filter$Relation" "GREATER" "Lcom/example/iterate/iterate/workflow/Filter$Relation;" (.ref r4) := Sta.start ev4 (Or.inr ⟨(hw _ (List.mem_of_getElem? (i := 2) rfl)), (hw _ (List.mem_of_getElem? (i := 55) rfl))⟩)
  obtain ⟨r5, ev5, R5⟩ := own_rel_start c28 c29 c30 c31 c32 c33 c34
  have S5 : Sta s s.heap "com/example/iterate/iterate/workflow/Filter$Relation" "AT_LEAST" "Lcom/example/iterate/iterate/workflow/Filter$Relation;" (.ref r5) := Sta.start ev5 (Or.inr ⟨(hw _ (List.mem_of_getElem? (i := 2) rfl)), (hw _ (List.mem_of_getElem? (i := 53) rfl))⟩)
  have nz := not_v (Cond.before_iff.mp (hsets _ (List.mem_of_getElem? (i := 2) rfl)))
  obtain ⟨cst, ec⟩ := is_v (Cond.before_iff.mp (hsets _ (List.mem_of_getElem? (i := 1) rfl)))
  have SC : Sta s s.heap "java/lang/String" "COMPACT_STRINGS" "Z" (.int cst) := Sta.start ec (Or.inl (hsets _ (List.mem_of_getElem? (i := 0) rfl)))
  obtain ⟨fv, ef, hfv⟩ := isR_v (Cond.before_iff.mp (hsets _ (List.mem_of_getElem? (i := 8) rfl)))
  have SF : Sta s s.heap "jdk/internal/util/Preconditions" "SIOOBE_FORMATTER" "Ljava/util/function/BiFunction;" fv := Sta.start ef (Or.inl (hsets _ (List.mem_of_getElem? (i := 7) rfl)))
  have hcs : ¬ cst = (0 : Int32) := fun z => by
    subst z
    simp only [Jvm.Cond.value, ec, Term.int_eval] at nz
    simp at nz
  obtain ⟨n, o, h1, h2, h3, _, L, rfl, ⟨rfl, N⟩, hq⟩ := own_law l s _ hw tables_1 i0 s.heap s.heap.size (Nat.le_refl _) r0 r1 r2 r3 r4 r5 cst fv S0 R0 S1 R1 S2 R2 S3 R3 S4 R4 S5 R5 SC SF hcs hfv p e ha hc hk s m _ below hf ((Spec.applies_iff_loose hf).mp happ).1 ⟨rfl, State.Warmed39.refl s, rfl⟩ trivial
  refine ⟨n, _, h1, h2, h3, hpost _ _ _ _ _ _ ⟨Cond.after_iff.mpr rfl, Cond.after_iff.mpr (eq_i res_at (Term.int_eval (1)) rfl), trivial⟩ ⟨hq.1, hq.2.1, (hq.2.2.sift fun y hy => Or.inr (N y hy)).mono (by decide) (by decide)⟩⟩
theorem main_1_1 : Claimed_1_1 := comes_1 fun _ _ _ _ _ _ h hF => ⟨h.1, hF⟩
theorem main_1_2 : Claimed_1_2 := comes_1 fun _ _ _ _ _ _ h hF => ⟨h.2.1, hF⟩
end Jvm.Pilot.@@N@@
namespace Jvm.Pilot.@@N@@
open Jvm Jvm.ClassFile Sem Op Lib Jvm.Free Jvm.Stand Jvm.Pilot.@@N@@.Jvm.D
/-! MADE BY PROGRAM (witnessworld.py) out of the Statement's table words and the real class files: 18 classes; the members and pool entries that the words name. The judged class is class 1, her method 1. -/
namespace start1
open Jvm.ClassFile
def u (s : String) : CpInfo := .utf8 (stringToUtf16 s)
/-- a pool by its gaps: so many unusable entries, then the entry; so many at the end -/
def gap : Nat → List CpInfo → List CpInfo
  | 0, r => r
  | n + 1, r => .unusable :: gap n r
def poolList (es : List (Nat × CpInfo)) (last : Nat) : List CpInfo := es.foldr (fun e r => gap e.1 (e.2 :: r)) (gap last [])
def pool (es : List (Nat × CpInfo)) (last : Nat) : Array CpInfo := ⟨poolList es last⟩
def fileOf (pool : Array CpInfo) (this : Nat) (attrs : Array Attribute := #[]) (ms : Array MethodInfo := #[]) (fl : Nat := 33) (sup : Nat := 0) (ifs : Array Nat := #[]) (fds : Array FieldInfo := #[]) : ClassFile where
  minorVersion := 0
  majorVersion := 65
  constantPool := pool
  accessFlags := fl
  thisClass := this
  superClass := sup
  interfaces := ifs
  fields := fds
  methods := ms
  attributes := attrs
def plain (name : String) (sup : Option ClassId) : Class where
  name := name
  kind := .ordinary
  loader := none
  accessFlags := 33
  super := sup
  interfaces := #[]
  cf := none
  fields := #[]
  methods := #[]
  instanceTypes := #[]
  staticTypes := #[]
  resolved := #[]
  callSites := []
  init := .initialized
  statics := none
  mirror := none

def pool0 : Array CpInfo := pool [(5, u "<init>"), (0, u "()V"), (1, .class_ 10), (1, u "java/lang/Object")] 113

def k0m0 : Method := { name := "<init>", desc := "()V", sig := { parameters := [], returnType := none }, accessFlags := 1, code := none }
/-- java/lang/Object -/
def k0 : Class := { plain "java/lang/Object" none with
  accessFlags := 33
  interfaces := #[]
  cf := some (fileOf pool0 8 #[] #[{ accessFlags := 1, nameIndex := 5, descriptorIndex := 6, attributes := #[] }] 33 0 #[] #[])
  fields := #[]
  methods := #[k0m0]
  instanceTypes := #[]
  staticTypes := #[]
  resolved := Array.replicate 124 none
  statics := none }

def pool1 : Array CpInfo := pool [(2, .class_ 4), (1, u "java/lang/Object"), (0, u "<init>"), (0, u "()V"), (0, .integer 2147483647), (0, .fieldref 9 10), (0, .class_ 11), (0, .nameAndType 12 13), (0, u "com/example/iterate/iterate/workflow/Filter$Relation"), (0, u "EQUAL"), (0, u "Lcom/example/iterate/iterate/workflow/Filter$Relation;"), (0, .fieldref 9 15), (0, .nameAndType 16 13), (0, u "NOT_EQUAL"), (0, .fieldref 9 18), (0, .nameAndType 19 13), (0, u "LESS"), (0, .fieldref 9 21), (0, .nameAndType 22 13), (0, u "AT_MOST"), (0, .fieldref 9 24), (0, .nameAndType 25 13), (0, u "GREATER"), (0, .fieldref 9 27), (0, .nameAndType 28 13), (0, u "AT_LEAST"), (0, .methodref 9 30), (0, .nameAndType 31 32), (0, u "symbol"), (0, u "()Ljava/lang/String;"), (0, .methodref 34 35), (0, .class_ 36), (0, .nameAndType 37 38), (0, u "java/lang/String"), (0, u "charAt"), (0, u "(I)C"), (0, .methodref 9 40), (0, .nameAndType 41 42), (0, u "orders"), (0, u "()Z"), (0, .class_ 44), (0, u "com/example/iterate/iterate/workflow/RelationOrdersPinLaw"), (2, u "law"), (0, u "(I)Z")] 7

def k1m0 : Method := { name := "<init>", desc := "()V", sig := { parameters := [], returnType := none }, accessFlags := 2, code := none }
def k1c1 : Code := { maxStack := 2, maxLocals := 8, code := code, exceptionTable := #[], attributes := #[] }
def k1m1 : Method := { name := "law", desc := "(I)Z", sig := { parameters := [.int], returnType := some .boolean }, accessFlags := 9, code := some k1c1 }
/-- com/example/iterate/iterate/workflow/RelationOrdersPinLaw -/
def k1 : Class := { plain "com/example/iterate/iterate/workflow/RelationOrdersPinLaw" (some 0) with
  accessFlags := 49
  interfaces := #[]
  cf := some (fileOf pool1 43 #[] #[{ accessFlags := 2, nameIndex := 5, descriptorIndex := 6, attributes := #[] }, { accessFlags := 9, nameIndex := 47, descriptorIndex := 48, attributes := #[] }] 49 2 #[] #[])
  fields := #[]
  methods := #[k1m0, k1m1]
  instanceTypes := #[]
  staticTypes := #[]
  resolved := Array.replicate 56 none
  statics := none }

def pool2 : Array CpInfo := pool [(1, .class_ 2), (0, u "java/lang/constant/Constable"), (0, .class_ 4), (0, u "java/lang/Object")] 6

/-- java/lang/constant/Constable -/
def k2 : Class := { plain "java/lang/constant/Constable" (some 0) with
  accessFlags := 1537
  interfaces := #[]
  cf := some (fileOf pool2 1 #[] #[] 1537 3 #[] #[])
  fields := #[]
  methods := #[]
  instanceTypes := #[]
  staticTypes := #[]
  resolved := Array.replicate 11 none
  statics := none }

def pool3 : Array CpInfo := pool [(1, .class_ 2), (0, u "java/lang/Comparable"), (0, .class_ 4), (0, u "java/lang/Object")] 7

/-- java/lang/Comparable -/
def k3 : Class := { plain "java/lang/Comparable" (some 0) with
  accessFlags := 1537
  interfaces := #[]
  cf := some (fileOf pool3 1 #[] #[] 1537 3 #[] #[])
  fields := #[]
  methods := #[]
  instanceTypes := #[]
  staticTypes := #[]
  resolved := Array.replicate 12 none
  statics := none }

def pool4 : Array CpInfo := pool [(1, .class_ 2), (0, u "java/io/Serializable"), (0, .class_ 4), (0, u "java/lang/Object")] 2

/-- java/io/Serializable -/
def k4 : Class := { plain "java/io/Serializable" (some 0) with
  accessFlags := 1537
  interfaces := #[]
  cf := some (fileOf pool4 1 #[] #[] 1537 3 #[] #[])
  fields := #[]
  methods := #[]
  instanceTypes := #[]
  staticTypes := #[]
  resolved := Array.replicate 7 none
  statics := none }

def pool5 : Array CpInfo := pool [(2, .class_ 4), (1, u "java/lang/Enum"), (0, u "name"), (0, u "Ljava/lang/String;"), (2, u "ordinal"), (0, u "I"), (1, .class_ 14), (1, u "java/lang/Object"), (4, u "hash"), (86, .class_ 108), (1, u "java/lang/Enum$EnumDesc"), (2, .class_ 112), (0, u "java/lang/constant/Constable"), (0, .class_ 114), (0, u "java/lang/Comparable"), (0, .class_ 116), (0, u "java/io/Serializable")] 87

/-- java/lang/Enum -/
def k5 : Class := { plain "java/lang/Enum" (some 0) with
  accessFlags := 1057
  interfaces := #[2, 3, 4]
  cf := some (fileOf pool5 2 #[.nestMembers #[106]] #[] 1057 12 #[111, 113, 115] #[{ accessFlags := 18, nameIndex := 5, descriptorIndex := 6, attributes := #[] }, { accessFlags := 18, nameIndex := 9, descriptorIndex := 10, attributes := #[] }, { accessFlags := 2, nameIndex := 19, descriptorIndex := 10, attributes := #[] }])
  fields := #[{ name := "name", type := (.object "java/lang/String"), accessFlags := 18, slot := 0, constantValue := 0 }, { name := "ordinal", type := .int, accessFlags := 18, slot := 1, constantValue := 0 }, { name := "hash", type := .int, accessFlags := 2, slot := 2, constantValue := 0 }]
  methods := #[]
  instanceTypes := #[(.object "java/lang/String"), .int, .int]
  staticTypes := #[]
  resolved := Array.replicate 204 none
  statics := none }

def pool6 : Array CpInfo := pool [(1, .class_ 2), (0, u "com/example/iterate/iterate/workflow/Filter$Relation"), (0, .fieldref 1 4), (0, .nameAndType 5 6), (0, u "EQUAL"), (0, u "Lcom/example/iterate/iterate/workflow/Filter$Relation;"), (0, .fieldref 1 8), (0, .nameAndType 9 6), (0, u "NOT_EQUAL"), (2, u "LESS"), (2, u "AT_MOST"), (2, u "GREATER"), (2, u "AT_LEAST"), (2, u "$VALUES"), (0, u "[Lcom/example/iterate/iterate/workflow/Filter$Relation;"), (6, .class_ 34), (1, u "java/lang/Enum"), (6, .fieldref 1 42), (0, .nameAndType 43 44), (0, u "symbol"), (0, u "Ljava/lang/String;"), (9, .class_ 56), (1, u "com/example/iterate/iterate/workflow/Filter"), (54, u "()Ljava/lang/String;"), (0, u "orders"), (0, u "()Z")] 32

def k6c0 : Code := { maxStack := 1, maxLocals := 1, code := prog_65_method_5_code, exceptionTable := #[], attributes := #[] }
def k6m0 : Method := { name := "symbol", desc := "()Ljava/lang/String;", sig := { parameters := [], returnType := some (.object "java/lang/String") }, accessFlags := 0, code := some k6c0 }
def k6c1 : Code := { maxStack := 2, maxLocals := 1, code := prog_65_method_6_code, exceptionTable := #[], attributes := #[] }
def k6m1 : Method := { name := "orders", desc := "()Z", sig := { parameters := [], returnType := some .boolean }, accessFlags := 0, code := some k6c1 }
/-- com/example/iterate/iterate/workflow/Filter$Relation -/
def k6 : Class := { plain "com/example/iterate/iterate/workflow/Filter$Relation" (some 5) with
  accessFlags := 16432
  interfaces := #[]
  cf := some (fileOf pool6 1 #[.nestHost 54] #[{ accessFlags := 0, nameIndex := 43, descriptorIndex := 111, attributes := #[] }, { accessFlags := 0, nameIndex := 112, descriptorIndex := 113, attributes := #[] }] 16432 32 #[] #[{ accessFlags := 16409, nameIndex := 5, descriptorIndex := 6, attributes := #[] }, { accessFlags := 16409, nameIndex := 9, descriptorIndex := 6, attributes := #[] }, { accessFlags := 16409, nameIndex := 12, descriptorIndex := 6, attributes := #[] }, { accessFlags := 16409, nameIndex := 15, descriptorIndex := 6, attributes := #[] }, { accessFlags := 16409, nameIndex := 18, descriptorIndex := 6, attributes := #[] }, { accessFlags := 16409, nameIndex := 21, descriptorIndex := 6, attributes := #[] }, { accessFlags := 18, nameIndex := 43, descriptorIndex := 44, attributes := #[] }, { accessFlags := 4122, nameIndex := 24, descriptorIndex := 25, attributes := #[] }])
  fields := #[{ name := "EQUAL", type := (.object "com/example/iterate/iterate/workflow/Filter$Relation"), accessFlags := 16409, slot := 0, constantValue := 0 }, { name := "NOT_EQUAL", type := (.object "com/example/iterate/iterate/workflow/Filter$Relation"), accessFlags := 16409, slot := 1, constantValue := 0 }, { name := "LESS", type := (.object "com/example/iterate/iterate/workflow/Filter$Relation"), accessFlags := 16409, slot := 2, constantValue := 0 }, { name := "AT_MOST", type := (.object "com/example/iterate/iterate/workflow/Filter$Relation"), accessFlags := 16409, slot := 3, constantValue := 0 }, { name := "GREATER", type := (.object "com/example/iterate/iterate/workflow/Filter$Relation"), accessFlags := 16409, slot := 4, constantValue := 0 }, { name := "AT_LEAST", type := (.object "com/example/iterate/iterate/workflow/Filter$Relation"), accessFlags := 16409, slot := 5, constantValue := 0 }, { name := "symbol", type := (.object "java/lang/String"), accessFlags := 18, slot := 3, constantValue := 0 }, { name := "$VALUES", type := (.array (.object "com/example/iterate/iterate/workflow/Filter$Relation")), accessFlags := 4122, slot := 6, constantValue := 0 }]
  methods := #[k6m0, k6m1]
  instanceTypes := #[(.object "java/lang/String"), .int, .int, (.object "java/lang/String")]
  staticTypes := #[(.object "com/example/iterate/iterate/workflow/Filter$Relation"), (.object "com/example/iterate/iterate/workflow/Filter$Relation"), (.object "com/example/iterate/iterate/workflow/Filter$Relation"), (.object "com/example/iterate/iterate/workflow/Filter$Relation"), (.object "com/example/iterate/iterate/workflow/Filter$Relation"), (.object "com/example/iterate/iterate/workflow/Filter$Relation"), (.array (.object "com/example/iterate/iterate/workflow/Filter$Relation"))]
  resolved := Array.replicate 146 none
  statics := some 0 }

def pool7 : Array CpInfo := pool [(2, .class_ 4), (1, u "java/lang/CharSequence"), (42, .class_ 48), (0, u "java/lang/CharSequence$1CodePointIterator"), (10, .class_ 60), (0, u "java/lang/CharSequence$1CharIterator"), (5, .class_ 67), (0, u "java/lang/Object")] 63

/-- java/lang/CharSequence -/
def k7 : Class := { plain "java/lang/CharSequence" (some 0) with
  accessFlags := 1537
  interfaces := #[]
  cf := some (fileOf pool7 2 #[.nestMembers #[47, 59]] #[] 1537 66 #[] #[])
  fields := #[]
  methods := #[]
  instanceTypes := #[]
  staticTypes := #[]
  resolved := Array.replicate 131 none
  statics := none }

def pool8 : Array CpInfo := pool [(1, .class_ 2), (0, u "java/lang/constant/ConstantDesc"), (0, .class_ 4), (0, u "java/lang/Object")] 32

/-- java/lang/constant/ConstantDesc -/
def k8 : Class := { plain "java/lang/constant/ConstantDesc" (some 0) with
  accessFlags := 1537
  interfaces := #[]
  cf := some (fileOf pool8 1 #[] #[] 1537 3 #[] #[])
  fields := #[]
  methods := #[]
  instanceTypes := #[]
  staticTypes := #[]
  resolved := Array.replicate 37 none
  statics := none }

def pool9 : Array CpInfo := pool [(2, .class_ 4), (1, u "java/lang/Object"), (0, u "<init>"), (0, u "()V"), (2, .fieldref 10 11), (0, .class_ 12), (0, .nameAndType 13 14), (0, u "java/lang/String"), (0, u "value"), (0, u "[B"), (0, .fieldref 10 16), (0, .nameAndType 17 18), (0, u "coder"), (0, u "B"), (2, u "hash"), (0, u "I"), (2, u "hashIsZero"), (0, u "Z"), (11, .fieldref 10 39), (0, .nameAndType 40 26), (0, u "COMPACT_STRINGS"), (66, .class_ 109), (1, u "java/lang/StringLatin1"), (32, u "()Z"), (220, u "([BI)C"), (27, u "(II)V"), (35, u "(I)C"), (64, .methodref 10 493), (0, .nameAndType 494 142), (0, u "isLatin1"), (0, .methodref 107 496), (0, .nameAndType 497 363), (0, u "charAt"), (3, u "checkIndex"), (73, .class_ 576), (0, u "java/lang/CharSequence"), (22, u "CASE_INSENSITIVE_ORDER"), (0, u "Ljava/util/Comparator;"), (452, .fieldref 1054 1055), (0, .class_ 1056), (0, .nameAndType 1057 1058), (0, u "jdk/internal/util/Preconditions"), (0, u "SIOOBE_FORMATTER"), (0, u "Ljava/util/function/BiFunction;"), (0, .methodref 1054 1060), (0, .nameAndType 501 1061), (0, u "(IILjava/util/function/BiFunction;)I"), (39, u "serialPersistentFields"), (0, u "[Ljava/io/ObjectStreamField;"), (0, .class_ 1104), (0, u "java/lang/String$CaseInsensitiveComparator"), (1, .class_ 1107), (0, u "java/io/Serializable"), (0, .class_ 1109), (0, u "java/lang/Comparable"), (0, .class_ 1111), (0, u "java/lang/constant/Constable"), (0, .class_ 1113), (0, u "java/lang/constant/ConstantDesc"), (2, u "serialVersionUID"), (0, u "J"), (3, u "REPL"), (0, u "C"), (2, u "LATIN1"), (1, u "UTF16")] 323

def k9m0 : Method := { name := "<init>", desc := "()V", sig := { parameters := [], returnType := none }, accessFlags := 1, code := none }
def k9c1 : Code := { maxStack := 2, maxLocals := 2, code := jdk_42_method_56_code, exceptionTable := #[], attributes := #[] }
def k9m1 : Method := { name := "charAt", desc := "(I)C", sig := { parameters := [.int], returnType := some .char }, accessFlags := 1, code := some k9c1 }
def k9c2 : Code := { maxStack := 1, maxLocals := 1, code := jdk_42_method_154_code, exceptionTable := #[], attributes := #[] }
def k9m2 : Method := { name := "isLatin1", desc := "()Z", sig := { parameters := [], returnType := some .boolean }, accessFlags := 0, code := some k9c2 }
def k9c3 : Code := { maxStack := 3, maxLocals := 2, code := jdk_42_method_155_code, exceptionTable := #[], attributes := #[] }
def k9m3 : Method := { name := "checkIndex", desc := "(II)V", sig := { parameters := [.int, .int], returnType := none }, accessFlags := 8, code := some k9c3 }
/-- java/lang/String -/
def k9 : Class := { plain "java/lang/String" (some 0) with
  accessFlags := 49
  interfaces := #[4, 3, 7, 2, 8]
  cf := some (fileOf pool9 10 #[.nestMembers #[1103]] #[{ accessFlags := 1, nameIndex := 5, descriptorIndex := 6, attributes := #[] }, { accessFlags := 1, nameIndex := 497, descriptorIndex := 427, attributes := #[] }, { accessFlags := 0, nameIndex := 494, descriptorIndex := 142, attributes := #[] }, { accessFlags := 8, nameIndex := 501, descriptorIndex := 391, attributes := #[] }] 49 2 #[1106, 1108, 575, 1110, 1112] #[{ accessFlags := 18, nameIndex := 13, descriptorIndex := 14, attributes := #[] }, { accessFlags := 18, nameIndex := 17, descriptorIndex := 18, attributes := #[] }, { accessFlags := 2, nameIndex := 21, descriptorIndex := 22, attributes := #[] }, { accessFlags := 2, nameIndex := 25, descriptorIndex := 26, attributes := #[] }, { accessFlags := 26, nameIndex := 1116, descriptorIndex := 1117, attributes := #[] }, { accessFlags := 24, nameIndex := 40, descriptorIndex := 26, attributes := #[] }, { accessFlags := 26, nameIndex := 1101, descriptorIndex := 1102, attributes := #[] }, { accessFlags := 26, nameIndex := 1121, descriptorIndex := 1122, attributes := #[] }, { accessFlags := 25, nameIndex := 599, descriptorIndex := 600, attributes := #[] }, { accessFlags := 24, nameIndex := 1125, descriptorIndex := 18, attributes := #[] }, { accessFlags := 24, nameIndex := 1127, descriptorIndex := 18, attributes := #[] }])
  fields := #[{ name := "value", type := (.array .byte), accessFlags := 18, slot := 0, constantValue := 0 }, { name := "coder", type := .byte, accessFlags := 18, slot := 1, constantValue := 0 }, { name := "hash", type := .int, accessFlags := 2, slot := 2, constantValue := 0 }, { name := "hashIsZero", type := .boolean, accessFlags := 2, slot := 3, constantValue := 0 }, { name := "serialVersionUID", type := .long, accessFlags := 26, slot := 0, constantValue := 0 }, { name := "COMPACT_STRINGS", type := .boolean, accessFlags := 24, slot := 1, constantValue := 0 }, { name := "serialPersistentFields", type := (.array (.object "java/io/ObjectStreamField")), accessFlags := 26, slot := 2, constantValue := 0 }, { name := "REPL", type := .char, accessFlags := 26, slot := 3, constantValue := 0 }, { name := "CASE_INSENSITIVE_ORDER", type := (.object "java/util/Comparator"), accessFlags := 25, slot := 4, constantValue := 0 }, { name := "LATIN1", type := .byte, accessFlags := 24, slot := 5, constantValue := 0 }, { name := "UTF16", type := .byte, accessFlags := 24, slot := 6, constantValue := 0 }]
  methods := #[k9m0, k9m1, k9m2, k9m3]
  instanceTypes := #[(.array .byte), .byte, .int, .boolean]
  staticTypes := #[.long, .boolean, (.array (.object "java/io/ObjectStreamField")), .char, (.object "java/util/Comparator"), .byte, .byte]
  resolved := Array.replicate 1451 none
  statics := some 1 }

def pool10 : Array CpInfo := pool [(1, .class_ 2), (0, u "java/lang/String"), (1, .class_ 6), (1, u "java/lang/Object"), (0, u "<init>"), (0, u "()V"), (0, .methodref 1 10), (0, .nameAndType 11 12), (0, u "checkIndex"), (0, u "(II)V"), (1, .class_ 16), (1, u "java/lang/StringLatin1"), (36, u "([BI)C"), (67, u "$assertionsDisabled"), (0, u "Z"), (98, .class_ 223), (1, u "java/lang/StringLatin1$LinesSpliterator"), (28, u "charAt"), (137, .class_ 391), (0, u "java/lang/StringLatin1$CharsSpliterator")] 3

def k10m0 : Method := { name := "<init>", desc := "()V", sig := { parameters := [], returnType := none }, accessFlags := 0, code := none }
def k10c1 : Code := { maxStack := 2, maxLocals := 2, code := jdk_43_method_2_code, exceptionTable := #[], attributes := #[] }
def k10m1 : Method := { name := "charAt", desc := "([BI)C", sig := { parameters := [(.array .byte), .int], returnType := some .char }, accessFlags := 9, code := some k10c1 }
/-- java/lang/StringLatin1 -/
def k10 : Class := { plain "java/lang/StringLatin1" (some 0) with
  accessFlags := 48
  interfaces := #[]
  cf := some (fileOf pool10 14 #[.nestMembers #[390, 221]] #[{ accessFlags := 0, nameIndex := 7, descriptorIndex := 8, attributes := #[] }, { accessFlags := 9, nameIndex := 252, descriptorIndex := 53, attributes := #[] }] 48 4 #[] #[{ accessFlags := 4120, nameIndex := 121, descriptorIndex := 122, attributes := #[] }])
  fields := #[{ name := "$assertionsDisabled", type := .boolean, accessFlags := 4120, slot := 0, constantValue := 0 }]
  methods := #[k10m0, k10m1]
  instanceTypes := #[]
  staticTypes := #[.boolean]
  resolved := Array.replicate 395 none
  statics := none }

def pool11 : Array CpInfo := pool [(2, .class_ 4), (1, u "java/lang/Object"), (0, u "<init>"), (0, u "()V"), (17, .class_ 26), (1, u "jdk/internal/util/Preconditions"), (6, u "checkIndex"), (21, .class_ 56), (0, u "jdk/internal/util/Preconditions$4"), (57, .class_ 115), (0, u "jdk/internal/util/Preconditions$1"), (7, u "SIOOBE_FORMATTER"), (0, u "Ljava/util/function/BiFunction;"), (0, .class_ 126), (0, u "jdk/internal/util/Preconditions$2"), (3, u "AIOOBE_FORMATTER"), (0, .class_ 132), (0, u "jdk/internal/util/Preconditions$3"), (3, u "IOOBE_FORMATTER"), (41, u "(IILjava/util/function/BiFunction;)I")] 15

def k11m0 : Method := { name := "<init>", desc := "()V", sig := { parameters := [], returnType := none }, accessFlags := 1, code := none }
def k11c1 : Code := { maxStack := 3, maxLocals := 3, code := jdk_41_method_11_code, exceptionTable := #[], attributes := #[] }
def k11m1 : Method := { name := "checkIndex", desc := "(IILjava/util/function/BiFunction;)I", sig := { parameters := [.int, .int, (.object "java/util/function/BiFunction")], returnType := some .int }, accessFlags := 9, code := some k11c1 }
/-- jdk/internal/util/Preconditions -/
def k11 : Class := { plain "jdk/internal/util/Preconditions" (some 0) with
  accessFlags := 33
  interfaces := #[]
  cf := some (fileOf pool11 24 #[.nestMembers #[55, 131, 125, 114]] #[{ accessFlags := 1, nameIndex := 5, descriptorIndex := 6, attributes := #[] }, { accessFlags := 9, nameIndex := 33, descriptorIndex := 178, attributes := #[] }] 33 2 #[] #[{ accessFlags := 25, nameIndex := 123, descriptorIndex := 124, attributes := #[] }, { accessFlags := 25, nameIndex := 130, descriptorIndex := 124, attributes := #[] }, { accessFlags := 25, nameIndex := 136, descriptorIndex := 124, attributes := #[] }])
  fields := #[{ name := "SIOOBE_FORMATTER", type := (.object "java/util/function/BiFunction"), accessFlags := 25, slot := 0, constantValue := 0 }, { name := "AIOOBE_FORMATTER", type := (.object "java/util/function/BiFunction"), accessFlags := 25, slot := 1, constantValue := 0 }, { name := "IOOBE_FORMATTER", type := (.object "java/util/function/BiFunction"), accessFlags := 25, slot := 2, constantValue := 0 }]
  methods := #[k11m0, k11m1]
  instanceTypes := #[]
  staticTypes := #[(.object "java/util/function/BiFunction"), (.object "java/util/function/BiFunction"), (.object "java/util/function/BiFunction")]
  resolved := Array.replicate 194 none
  statics := some 2 }

def pool12 : Array CpInfo := pool [(9, u "<init>"), (6, .class_ 18), (1, u "java/lang/Object"), (0, u "()V"), (1, .class_ 23), (1, u "jdk/internal/util/ArraysSupport"), (0, u "LOG2_ARRAY_LONG_INDEX_SCALE"), (0, u "I"), (2, u "U"), (0, u "Ljdk/internal/misc/Unsafe;"), (8, u "BIG_ENDIAN"), (0, u "Z"), (8, u "LOG2_BYTE_BIT_SIZE"), (4, u "LOG2_ARRAY_INT_INDEX_SCALE"), (54, u "JLA"), (0, u "Ljdk/internal/access/JavaLangAccess;"), (11, u "LOG2_ARRAY_BOOLEAN_INDEX_SCALE"), (9, u "LOG2_ARRAY_BYTE_INDEX_SCALE"), (5, u "LOG2_ARRAY_CHAR_INDEX_SCALE"), (5, u "LOG2_ARRAY_SHORT_INDEX_SCALE"), (18, u "LOG2_ARRAY_FLOAT_INDEX_SCALE"), (24, u "LOG2_ARRAY_DOUBLE_INDEX_SCALE"), (89, u "T_BOOLEAN"), (2, u "T_CHAR"), (1, u "T_FLOAT"), (1, u "T_DOUBLE"), (1, u "T_BYTE"), (1, u "T_SHORT"), (1, u "T_INT"), (1, u "T_LONG"), (1, u "SOFT_MAX_ARRAY_LENGTH")] 83

def k12m0 : Method := { name := "<init>", desc := "()V", sig := { parameters := [], returnType := none }, accessFlags := 2, code := none }
/-- jdk/internal/util/ArraysSupport -/
def k12 : Class := { plain "jdk/internal/util/ArraysSupport" (some 0) with
  accessFlags := 33
  interfaces := #[]
  cf := some (fileOf pool12 21 #[] #[{ accessFlags := 2, nameIndex := 9, descriptorIndex := 19, attributes := #[] }] 33 16 #[] #[{ accessFlags := 24, nameIndex := 28, descriptorIndex := 29, attributes := #[] }, { accessFlags := 26, nameIndex := 38, descriptorIndex := 39, attributes := #[] }, { accessFlags := 25, nameIndex := 121, descriptorIndex := 25, attributes := #[] }, { accessFlags := 25, nameIndex := 131, descriptorIndex := 25, attributes := #[] }, { accessFlags := 25, nameIndex := 137, descriptorIndex := 25, attributes := #[] }, { accessFlags := 25, nameIndex := 143, descriptorIndex := 25, attributes := #[] }, { accessFlags := 25, nameIndex := 53, descriptorIndex := 25, attributes := #[] }, { accessFlags := 25, nameIndex := 24, descriptorIndex := 25, attributes := #[] }, { accessFlags := 25, nameIndex := 162, descriptorIndex := 25, attributes := #[] }, { accessFlags := 25, nameIndex := 187, descriptorIndex := 25, attributes := #[] }, { accessFlags := 26, nameIndex := 48, descriptorIndex := 25, attributes := #[] }, { accessFlags := 25, nameIndex := 277, descriptorIndex := 25, attributes := #[] }, { accessFlags := 25, nameIndex := 280, descriptorIndex := 25, attributes := #[] }, { accessFlags := 25, nameIndex := 282, descriptorIndex := 25, attributes := #[] }, { accessFlags := 25, nameIndex := 284, descriptorIndex := 25, attributes := #[] }, { accessFlags := 25, nameIndex := 286, descriptorIndex := 25, attributes := #[] }, { accessFlags := 25, nameIndex := 288, descriptorIndex := 25, attributes := #[] }, { accessFlags := 25, nameIndex := 290, descriptorIndex := 25, attributes := #[] }, { accessFlags := 25, nameIndex := 292, descriptorIndex := 25, attributes := #[] }, { accessFlags := 26, nameIndex := 108, descriptorIndex := 109, attributes := #[] }, { accessFlags := 25, nameIndex := 294, descriptorIndex := 25, attributes := #[] }])
  fields := #[{ name := "U", type := (.object "jdk/internal/misc/Unsafe"), accessFlags := 24, slot := 0, constantValue := 0 }, { name := "BIG_ENDIAN", type := .boolean, accessFlags := 26, slot := 1, constantValue := 0 }, { name := "LOG2_ARRAY_BOOLEAN_INDEX_SCALE", type := .int, accessFlags := 25, slot := 2, constantValue := 0 }, { name := "LOG2_ARRAY_BYTE_INDEX_SCALE", type := .int, accessFlags := 25, slot := 3, constantValue := 0 }, { name := "LOG2_ARRAY_CHAR_INDEX_SCALE", type := .int, accessFlags := 25, slot := 4, constantValue := 0 }, { name := "LOG2_ARRAY_SHORT_INDEX_SCALE", type := .int, accessFlags := 25, slot := 5, constantValue := 0 }, { name := "LOG2_ARRAY_INT_INDEX_SCALE", type := .int, accessFlags := 25, slot := 6, constantValue := 0 }, { name := "LOG2_ARRAY_LONG_INDEX_SCALE", type := .int, accessFlags := 25, slot := 7, constantValue := 0 }, { name := "LOG2_ARRAY_FLOAT_INDEX_SCALE", type := .int, accessFlags := 25, slot := 8, constantValue := 0 }, { name := "LOG2_ARRAY_DOUBLE_INDEX_SCALE", type := .int, accessFlags := 25, slot := 9, constantValue := 0 }, { name := "LOG2_BYTE_BIT_SIZE", type := .int, accessFlags := 26, slot := 10, constantValue := 0 }, { name := "T_BOOLEAN", type := .int, accessFlags := 25, slot := 11, constantValue := 0 }, { name := "T_CHAR", type := .int, accessFlags := 25, slot := 12, constantValue := 0 }, { name := "T_FLOAT", type := .int, accessFlags := 25, slot := 13, constantValue := 0 }, { name := "T_DOUBLE", type := .int, accessFlags := 25, slot := 14, constantValue := 0 }, { name := "T_BYTE", type := .int, accessFlags := 25, slot := 15, constantValue := 0 }, { name := "T_SHORT", type := .int, accessFlags := 25, slot := 16, constantValue := 0 }, { name := "T_INT", type := .int, accessFlags := 25, slot := 17, constantValue := 0 }, { name := "T_LONG", type := .int, accessFlags := 25, slot := 18, constantValue := 0 }, { name := "JLA", type := (.object "jdk/internal/access/JavaLangAccess"), accessFlags := 26, slot := 19, constantValue := 0 }, { name := "SOFT_MAX_ARRAY_LENGTH", type := .int, accessFlags := 25, slot := 20, constantValue := 0 }]
  methods := #[k12m0]
  instanceTypes := #[]
  staticTypes := #[(.object "jdk/internal/misc/Unsafe"), .boolean, .int, .int, .int, .int, .int, .int, .int, .int, .int, .int, .int, .int, .int, .int, .int, .int, .int, (.object "jdk/internal/access/JavaLangAccess"), .int]
  resolved := Array.replicate 378 none
  statics := none }

def pool13 : Array CpInfo := pool [(1, u "java/lang/Cloneable"), (0, .class_ 1), (0, u "java/lang/Object"), (0, .class_ 3)] 3

/-- java/lang/Cloneable -/
def k13 : Class := { plain "java/lang/Cloneable" (some 0) with
  accessFlags := 1537
  interfaces := #[]
  cf := some (fileOf pool13 2 #[] #[] 1537 4 #[] #[])
  fields := #[]
  methods := #[]
  instanceTypes := #[]
  staticTypes := #[]
  resolved := Array.replicate 8 none
  statics := none }

/-- the primitive byte -/
def k14 : Class := { plain "byte" none with kind := .primitive 'B', accessFlags := 0x411 }
/-- [B -/
def k15 : Class := { plain "[B" (some 0) with kind := .array 14 .byte, interfaces := #[13, 4], accessFlags := 1041 }

/-- the primitive int -/
def k16 : Class := { plain "int" none with kind := .primitive 'I', accessFlags := 0x411 }
/-- [I -/
def k17 : Class := { plain "[I" (some 0) with kind := .array 16 .int, interfaces := #[13, 4], accessFlags := 1041 }

def heap : Heap := #[{ cls := 6, slots := #[.ref 5, .ref 8, .ref 11, .ref 14, .ref 17, .ref 20, .null], vm := .statics 6 },
  { cls := 9, slots := #[.long 0, .int 1, .null, .int 0, .null, .int 0, .int 0], vm := .statics 9 },
  { cls := 11, slots := #[.null, .null, .null], vm := .statics 11 },
  { cls := 15, slots := #[.int 61], vm := .none },
  { cls := 9, slots := #[.ref 3, .int 0, .int 0, .int 0], vm := .none },
  { cls := 6, slots := #[.null, .int 0, .int 0, .ref 4], vm := .none },
  { cls := 15, slots := #[.int 33, .int 61], vm := .none },
  { cls := 9, slots := #[.ref 6, .int 0, .int 0, .int 0], vm := .none },
  { cls := 6, slots := #[.null, .int 1, .int 0, .ref 7], vm := .none },
  { cls := 15, slots := #[.int 60], vm := .none },
  { cls := 9, slots := #[.ref 9, .int 0, .int 0, .int 0], vm := .none },
  { cls := 6, slots := #[.null, .int 2, .int 0, .ref 10], vm := .none },
  { cls := 15, slots := #[.int 60, .int 61], vm := .none },
  { cls := 9, slots := #[.ref 12, .int 0, .int 0, .int 0], vm := .none },
  { cls := 6, slots := #[.null, .int 3, .int 0, .ref 13], vm := .none },
  { cls := 15, slots := #[.int 62], vm := .none },
  { cls := 9, slots := #[.ref 15, .int 0, .int 0, .int 0], vm := .none },
  { cls := 6, slots := #[.null, .int 4, .int 0, .ref 16], vm := .none },
  { cls := 15, slots := #[.int 62, .int 61], vm := .none },
  { cls := 9, slots := #[.ref 18, .int 0, .int 0, .int 0], vm := .none },
  { cls := 6, slots := #[.null, .int 5, .int 0, .ref 19], vm := .none }]
def classes : Array Class := #[k0, k1, k2, k3, k4, k5, k6, k7, k8, k9, k10, k11, k12, k13, k14, k15, k16, k17]
def interned : List (Array UInt16 × Addr) := []
def slotsUsed : Nat := 74
def theMethod : MethodId := ⟨1, 1⟩
def args0 : Array Value := #[.int 5]
def aboutOver (below : List Frame) : State where
  vm := { classes := classes, interned := interned.toArray }
  heap := heap
  slotsUsed := slotsUsed
  threads := #[{ frames := .invoking theMethod args0 :: below }]
def below0 : List Frame := [.native { method := ⟨0, 0⟩, args := #[] }]
def about1 : State := aboutOver below0
def p0 : Program := .bare "" "" ""
def e0 : Env := launch0.env 0 0 0
theorem w_frames : about1.frames = Frame.invoking theMethod args0 :: below0 := rfl
set_option maxRecDepth 65536 in
theorem w_args : argsFit about1.vm theMethod args0 = true := by decide +kernel
set_option maxRecDepth 65536 in
theorem w_heap : heapFits about1 = true := by decide +kernel
set_option maxRecDepth 65536 in
theorem w_runnable : about1.curStatus? = some .runnable := by decide +kernel
set_option maxRecDepth 65536 in
theorem w_alone : about1.alone = true := by decide +kernel
set_option maxRecDepth 65536 in
theorem w_named : about1.methodNamed? x = some theMethod := by decide +kernel
set_option maxRecDepth 65536 in
theorem w_hears : about1.hears theMethod below0 = true := by decide +kernel
set_option maxRecDepth 65536 in
theorem w_ripe : about1.ripe theMethod args0 below0 = true := by decide +kernel
theorem w_running : about1.status = .running := rfl
set_option maxRecDepth 65536 in
theorem w_room : about1.hasRoom e0.platform room_1 = true :=
  launch0.hasRoom_least _ room_1 (by decide +kernel) (by decide +kernel) (by decide +kernel) (by decide +kernel) (by decide +kernel) (by decide +kernel)
theorem allAtoms_all (ts : List Jvm.Cond) (a : Array Jvm.Value) (st : Jvm.State) : (allAtoms ts).before a st = ts.all (fun c => c.before a st) := by
  induction ts with
  | nil => rfl
  | cons c t ih =>
    show (Jvm.Cond.and c (allAtoms t)).before a st = _
    rw [Jvm.Cond.before_and, ih, List.all_cons]
def words1 : List Jvm.Cond := Jvm.Cond.code x code maxLocals ret :: tables_1
/-- a 'code' word, met by the world's own term for the bytes: nothing is compared byte by byte -/
theorem code_word {y : MethodName} {bytes : ByteArray} {mx : Nat} {rt : Option FieldType} {a : Array Value} {s : State} {m : MethodId} {meth : Method} {c : Code} (h1 : s.methodNamed? y = some m) (h2 : s.vm.method? m = some meth) (h3 : meth.code = some c) (h4 : c.code = bytes)
    (h5 : (c.maxLocals == mx && c.exceptionTable.isEmpty && decide (c.maxStack ≤ mostOperands) && decide (meth.sig.returnType = rt) && !meth.locks && decide (parseMethodDescriptor y.desc = some meth.sig)) = true) : (Jvm.Cond.code y bytes mx rt).before a s = true := by
  simp only [Bool.and_eq_true, beq_iff_eq, Bool.not_eq_true', decide_eq_true_eq] at h5
  obtain ⟨⟨⟨⟨⟨g1, g2⟩, g3⟩, g4⟩, g5⟩, g6⟩ := h5
  simp [Cond.before, Cond.holds, Cond.value, h1, h2, h3, h4, g1, g2, g3, g4, g5, g6]
def isCode : Jvm.Cond → Bool
  | .code _ _ _ _ => true
  | _ => false
theorem all_split {L : List Jvm.Cond} {P : Jvm.Cond → Bool} (h1 : L.all (fun c => isCode c || P c) = true) (h2 : ∀ c ∈ L.filter isCode, P c = true) : L.all P = true := by
  refine List.all_eq_true.mpr fun c hc => ?_
  have h := List.all_eq_true.mp h1 c hc
  rcases Bool.eq_false_or_eq_true (isCode c) with hi | hi
  · exact h2 c (List.mem_filter.mpr ⟨hc, hi⟩)
  · simpa [hi] using h
set_option maxRecDepth 65536 in
theorem w_c0 : (Jvm.Cond.code x code maxLocals ret).before args0 about1 = true := code_word (m := ⟨1, 1⟩) (meth := k1m1) (c := k1c1) (by decide +kernel) rfl rfl rfl (by decide +kernel)
set_option maxRecDepth 65536 in
theorem w_c1 : (Jvm.Cond.code ({ cls := "com/example/iterate/iterate/workflow/Filter$Relation", name := "symbol", desc := "()Ljava/lang/String;" } : Jvm.MethodName) prog_65_method_5_code (1 : Nat) (Option.some (Jvm.ClassFile.FieldType.object "java/lang/String"))).before args0 about1 = true := code_word (m := ⟨6, 0⟩) (meth := k6m0) (c := k6c0) (by decide +kernel) rfl rfl rfl (by decide +kernel)
set_option maxRecDepth 65536 in
theorem w_c2 : (Jvm.Cond.code ({ cls := "java/lang/String", name := "charAt", desc := "(I)C" } : Jvm.MethodName) jdk_42_method_56_code (2 : Nat) (Option.some Jvm.ClassFile.FieldType.char)).before args0 about1 = true := code_word (m := ⟨9, 1⟩) (meth := k9m1) (c := k9c1) (by decide +kernel) rfl rfl rfl (by decide +kernel)
set_option maxRecDepth 65536 in
theorem w_c3 : (Jvm.Cond.code ({ cls := "java/lang/String", name := "isLatin1", desc := "()Z" } : Jvm.MethodName) jdk_42_method_154_code (1 : Nat) (Option.some Jvm.ClassFile.FieldType.boolean)).before args0 about1 = true := code_word (m := ⟨9, 2⟩) (meth := k9m2) (c := k9c2) (by decide +kernel) rfl rfl rfl (by decide +kernel)
set_option maxRecDepth 65536 in
theorem w_c4 : (Jvm.Cond.code ({ cls := "java/lang/StringLatin1", name := "charAt", desc := "([BI)C" } : Jvm.MethodName) jdk_43_method_2_code (2 : Nat) (Option.some Jvm.ClassFile.FieldType.char)).before args0 about1 = true := code_word (m := ⟨10, 1⟩) (meth := k10m1) (c := k10c1) (by decide +kernel) rfl rfl rfl (by decide +kernel)
set_option maxRecDepth 65536 in
theorem w_c5 : (Jvm.Cond.code ({ cls := "java/lang/String", name := "checkIndex", desc := "(II)V" } : Jvm.MethodName) jdk_42_method_155_code (2 : Nat) (Option.none : Option Jvm.ClassFile.FieldType)).before args0 about1 = true := code_word (m := ⟨9, 3⟩) (meth := k9m3) (c := k9c3) (by decide +kernel) rfl rfl rfl (by decide +kernel)
set_option maxRecDepth 65536 in
theorem w_c6 : (Jvm.Cond.code ({ cls := "jdk/internal/util/Preconditions", name := "checkIndex", desc := "(IILjava/util/function/BiFunction;)I" } : Jvm.MethodName) jdk_41_method_11_code (3 : Nat) (Option.some Jvm.ClassFile.FieldType.int)).before args0 about1 = true := code_word (m := ⟨11, 1⟩) (meth := k11m1) (c := k11c1) (by decide +kernel) rfl rfl rfl (by decide +kernel)
set_option maxRecDepth 65536 in
theorem w_c7 : (Jvm.Cond.code ({ cls := "com/example/iterate/iterate/workflow/Filter$Relation", name := "orders", desc := "()Z" } : Jvm.MethodName) prog_65_method_6_code (1 : Nat) (Option.some Jvm.ClassFile.FieldType.boolean)).before args0 about1 = true := code_word (m := ⟨6, 1⟩) (meth := k6m1) (c := k6c1) (by decide +kernel) rfl rfl rfl (by decide +kernel)
def codes1 : List Jvm.Cond := [Jvm.Cond.code x code maxLocals ret, Jvm.Cond.code ({ cls := "com/example/iterate/iterate/workflow/Filter$Relation", name := "symbol", desc := "()Ljava/lang/String;" } : Jvm.MethodName) prog_65_method_5_code (1 : Nat) (Option.some (Jvm.ClassFile.FieldType.object "java/lang/String")), Jvm.Cond.code ({ cls := "java/lang/String", name := "charAt", desc := "(I)C" } : Jvm.MethodName) jdk_42_method_56_code (2 : Nat) (Option.some Jvm.ClassFile.FieldType.char), Jvm.Cond.code ({ cls := "java/lang/String", name := "isLatin1", desc := "()Z" } : Jvm.MethodName) jdk_42_method_154_code (1 : Nat) (Option.some Jvm.ClassFile.FieldType.boolean), Jvm.Cond.code ({ cls := "java/lang/StringLatin1", name := "charAt", desc := "([BI)C" } : Jvm.MethodName) jdk_43_method_2_code (2 : Nat) (Option.some Jvm.ClassFile.FieldType.char), Jvm.Cond.code ({ cls := "java/lang/String", name := "checkIndex", desc := "(II)V" } : Jvm.MethodName) jdk_42_method_155_code (2 : Nat) (Option.none : Option Jvm.ClassFile.FieldType), Jvm.Cond.code ({ cls := "jdk/internal/util/Preconditions", name := "checkIndex", desc := "(IILjava/util/function/BiFunction;)I" } : Jvm.MethodName) jdk_41_method_11_code (3 : Nat) (Option.some Jvm.ClassFile.FieldType.int), Jvm.Cond.code ({ cls := "com/example/iterate/iterate/workflow/Filter$Relation", name := "orders", desc := "()Z" } : Jvm.MethodName) prog_65_method_6_code (1 : Nat) (Option.some Jvm.ClassFile.FieldType.boolean)]
set_option maxRecDepth 65536 in
theorem codes_eq : words1.filter isCode = codes1 := rfl
theorem w_codes : ∀ c ∈ words1.filter isCode, c.before args0 about1 = true := by
  rw [codes_eq]
  intro c hc
  simp only [codes1, List.mem_cons, List.not_mem_nil, or_false] at hc
  rcases hc with rfl | rfl | rfl | rfl | rfl | rfl | rfl | rfl
  · exact w_c0
  · exact w_c1
  · exact w_c2
  · exact w_c3
  · exact w_c4
  · exact w_c5
  · exact w_c6
  · exact w_c7
set_option maxRecDepth 65536 in
theorem w_t1 : (words1.take 24).all (fun c => isCode c || c.before args0 about1) = true := by decide +kernel
set_option maxRecDepth 65536 in
theorem w_t2 : ((words1.drop 24).take 24).all (fun c => isCode c || c.before args0 about1) = true := by decide +kernel
set_option maxRecDepth 65536 in
theorem w_t3 : ((words1.drop 24).drop 24).all (fun c => isCode c || c.before args0 about1) = true := by decide +kernel
theorem w_tables : (allAtoms (Jvm.Cond.code x code maxLocals ret :: tables_1)).before args0 about1 = true := by
  rw [allAtoms_all]
  show words1.all (fun c => c.before args0 about1) = true
  refine all_split ?_ w_codes
  rw [← List.take_append_drop 24 words1, List.all_append, w_t1, ← List.take_append_drop 24 (words1.drop 24), List.all_append, w_t2, w_t3]
  rfl
set_option maxRecDepth 65536 in
theorem w_rest : rest_1_c.before args0 about1 = true := by decide +kernel
set_option maxRecDepth 65536 in
theorem w_case : (Jvm.Cond.and given_1 narrow_1).before args0 about1 = true := by decide +kernel
theorem w_applies : (headSpec (Jvm.Cond.code x code maxLocals ret :: tables_1) room_1).applies x e0.platform about1 = true :=
  (Spec.applies_iff w_frames).mpr ⟨w_running, w_runnable, w_alone, w_named, w_hears, w_ripe, w_room, w_tables⟩
theorem atStart : AtStart classFile x code maxLocals ret World_1 tables_1 room_1 Calls_1 rest_1 Pre_1 launch0 p0 e0 about1 theMethod args0 below0 :=
  ⟨lists_1, trivial, launch0.admits_env _ _ _, launch0.least_env, fairChoices_fair.cas, fairChoices_fair.clock, w_frames, w_args, w_heap, w_applies, trivial, w_rest, w_case⟩
end start1
theorem witness_1 : WitnessClaimed_1 := ⟨start1.p0, start1.e0, start1.about1, start1.theMethod, start1.args0, start1.below0, start1.atStart⟩
end Jvm.Pilot.@@N@@
