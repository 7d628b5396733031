import JvmDerived
import JvmDerived.Pilot.@@N@@Statement
import JvmDerived.Pilot.@@N@@Code
set_option linter.unusedVariables false
set_option linter.unusedSimpArgs false
namespace Jvm.Pilot.@@N@@
open Jvm Jvm.ClassFile Sem Op Lib Jvm.Free Jvm.Stand Jvm.LawKit Jvm.RoadKit Bundle Jvm.Pilot.@@N@@.Jvm.D
section OwnKit
variable {Z : State} {p : Program} {l : Launch} {e : Env} {R : Room} {s : State} {m : MethodId} {args : Array Value} {below : List Frame} {meth : Method} {c : Code} {n0 : Nat} {own : String} {bytes : ByteArray} {maxL : Nat} {nm : String} {ret : Option FieldType} {T : State} {h : Heap} {cells slots : Nat} {G : Outcome → State → Prop} {L : Array Slot} {st : List Value} {pc pc' : Nat} {a0 : Array Value}
def own_Fin (p : Program) (e : Env) (below : List Frame) (G : Outcome → State → Prop) (t : State) : Prop :=
  ∃ s₂ o, Steps p.tables e below t s₂ ∧ s₂.status = .running ∧ Ended s₂ below o ∧ G o s₂
theorem own_go {a a' : State} (k : ∀ t, Steps p.tables e below a' t → Steps p.tables e below a t) (q : own_Fin p e below G a') : own_Fin p e below G a := by
  obtain ⟨s2, o, h1, h2⟩ := q
  exact ⟨s2, o, k _ h1, h2⟩
def own_Cx (Z : State) (p : Program) (l : Launch) (e : Env) (R : Room) (s : State) (m : MethodId) (args : Array Value) (below : List Frame) (meth : Method) (c : Code) (n0 : Nat) (own : String) (bytes : ByteArray) (maxL : Nat) (nm : String) (ret : Option FieldType) (T : State) (h : Heap) (cells slots : Nat) : Prop :=
  ∃ locs, Stand p l e R s m args below meth c T locs cells slots ∧ Fr n0 locs ∧ T.heap = h ∧ p.tables.exec = Jvm.exec ∧ Z.Warmed39 s.vm ∧ s.vm.findClass own = some m.cls ∧ c.code = bytes ∧ c.maxLocals = maxL ∧ meth.name = nm ∧ meth.sig.returnType = ret ∧ meth.locks = false
def own_End (s : State) (n0 : Nat) (q : Option Value → Heap → Prop) (k n : Nat) (o : Outcome) (U' : State) : Prop :=
  ∃ v L, o = .returned v ∧ (q v U'.heap ∧ Fr n0 L) ∧ FrameEnd s o U' L k n
def own_Met (l : Launch) (Z : State) (y : MethodName) (bytes : ByteArray) (maxL : Nat) (ret : Option FieldType) (ws : List Jvm.Cond) (rm : Room) (as' : Array Value) (h0 : Heap) (n0 : Nat) (q : Option Value → Heap → Prop) : Prop :=
  MetFree l y (head1 (Jvm.Cond.code y bytes maxL ret :: ws) rm) (fun a U => a = as' ∧ Z.Warmed39 U.vm ∧ U.heap = h0) (fun _ _ _ _ _ => True) (fun _ U o U' => own_End U n0 q rm.cells rm.slots o U')
theorem own_enter {y : MethodName} {ws : List Jvm.Cond} {rm : Room} {as' : Array Value} {h0 : Heap} {q : Option Value → Heap → Prop} {L0 : Array Slot} {own nm : String} (ho : y.cls = own) (hnm0 : y.name = nm) (pn : plainFor y = true) (ef : ∀ m, entryFrame m as' maxL = mkF m 0 L0 [])
    (body : ∀ p e s m below meth c T, own_Cx Z p l e rm s m as' below meth c n0 own bytes maxL nm ret T h0 0 0 → own_Fin p e below (own_End s n0 q rm.cells rm.slots) (T.setTop (mkF m 0 L0 []))) :
    own_Met l Z y bytes maxL ret ws rm as' h0 n0 q := by
  subst ho hnm0
  refine MetFree.of_bodySF pn hisR ?_
  intro p e s m args below meth c s₁ Bd hml0 hP hK
  obtain ⟨rfl, hZ, hh⟩ := hP
  have hnm := (name_of_methodNamed Bd.named Bd.method).1
  have e0 : s₁.heap = h0 := by rw [← hh, Bd.state]; rfl
  obtain ⟨s2, o, k1, k2, k3, k4⟩ := body p e s m below meth c s₁ ⟨[], Stand.of_body Bd, Fr.nil _, e0, Bd.exec, hZ, findClass_of_methodNamed Bd.named, Bd.bytes, hml0, hnm, Bd.returns, Bd.notSynchronized⟩
  exact ⟨s2, o, castTop (ef m) k1, k2, k3, k4⟩
theorem own_iload (X : own_Cx Z p l e R s m args below meth c n0 own bytes maxL nm ret T h cells slots) {k : Nat} {v : Int32} (d : decode bytes pc = .ok (.iload k, 2)) (hp : pc + 2 = pc') (hl : L[k]? = some (.val (.int v)))
    (q : own_Fin p e below G (T.setTop (mkF m pc' L ((.int v) :: st)))) : own_Fin p e below G (T.setTop (mkF m pc L (st))) := by
  obtain ⟨locs, X, N, eT, hx, hZ, hown, hby, hml, hnm, hret, hlk⟩ := X
  subst hp
  exact own_go (fun t k => XS.iload X.here hx rfl (hb hby d) hl k) q
theorem own_lload (X : own_Cx Z p l e R s m args below meth c n0 own bytes maxL nm ret T h cells slots) {k : Nat} {v : Int64} (d : decode bytes pc = .ok (.lload k, 2)) (hp : pc + 2 = pc') (hl : L[k]? = some (.val (.long v)))
    (q : own_Fin p e below G (T.setTop (mkF m pc' L ((.long v) :: st)))) : own_Fin p e below G (T.setTop (mkF m pc L (st))) := by
  obtain ⟨locs, X, N, eT, hx, hZ, hown, hby, hml, hnm, hret, hlk⟩ := X
  subst hp
  exact own_go (fun t k => XT.lload X.here hx rfl (hb hby d) hl k) q
theorem own_iloadN (X : own_Cx Z p l e R s m args below meth c n0 own bytes maxL nm ret T h cells slots) {k : Fin 4} {v : Int32} (d : decode bytes pc = .ok (.iload_n k, 1)) (hp : pc + 1 = pc') (hl : L[k.val]? = some (.val (.int v)))
    (q : own_Fin p e below G (T.setTop (mkF m pc' L ((.int v) :: st)))) : own_Fin p e below G (T.setTop (mkF m pc L (st))) := by
  obtain ⟨locs, X, N, eT, hx, hZ, hown, hby, hml, hnm, hret, hlk⟩ := X
  subst hp
  exact own_go (fun t k => XS.iloadN X.here hx rfl (hb hby d) hl k) q
theorem own_lloadN (X : own_Cx Z p l e R s m args below meth c n0 own bytes maxL nm ret T h cells slots) {k : Fin 4} {v : Int64} (d : decode bytes pc = .ok (.lload_n k, 1)) (hp : pc + 1 = pc') (hl : L[k.val]? = some (.val (.long v)))
    (q : own_Fin p e below G (T.setTop (mkF m pc' L ((.long v) :: st)))) : own_Fin p e below G (T.setTop (mkF m pc L (st))) := by
  obtain ⟨locs, X, N, eT, hx, hZ, hown, hby, hml, hnm, hret, hlk⟩ := X
  subst hp
  exact own_go (fun t k => XT.lloadN X.here hx rfl (hb hby d) hl k) q
theorem own_aload (X : own_Cx Z p l e R s m args below meth c n0 own bytes maxL nm ret T h cells slots) {k : Nat} {v : Value} (d : decode bytes pc = .ok (.aload k, 2)) (hp : pc + 2 = pc') (hl : L[k]? = some (.val v)) (hv : v.isRef = true)
    (q : own_Fin p e below G (T.setTop (mkF m pc' L (v :: st)))) : own_Fin p e below G (T.setTop (mkF m pc L (st))) := by
  obtain ⟨locs, X, N, eT, hx, hZ, hown, hby, hml, hnm, hret, hlk⟩ := X
  subst hp
  exact own_go (fun t k => XS.aload X.here hx rfl (hb hby d) hl hv k) q
theorem own_aloadN (X : own_Cx Z p l e R s m args below meth c n0 own bytes maxL nm ret T h cells slots) {k : Fin 4} {v : Value} (d : decode bytes pc = .ok (.aload_n k, 1)) (hp : pc + 1 = pc') (hl : L[k.val]? = some (.val v)) (hv : v.isRef = true)
    (q : own_Fin p e below G (T.setTop (mkF m pc' L (v :: st)))) : own_Fin p e below G (T.setTop (mkF m pc L (st))) := by
  obtain ⟨locs, X, N, eT, hx, hZ, hown, hby, hml, hnm, hret, hlk⟩ := X
  subst hp
  exact own_go (fun t k => XS.aloadN X.here hx rfl (hb hby d) hl hv k) q
theorem own_istore (X : own_Cx Z p l e R s m args below meth c n0 own bytes maxL nm ret T h cells slots) {k : Nat} {v : Int32} {L' : Array Slot} (d : decode bytes pc = .ok (.istore k, 2)) (hp : pc + 2 = pc') (hl : storeLocals L k (.int v) = some L')
    (q : own_Fin p e below G (T.setTop (mkF m pc' L' (st)))) : own_Fin p e below G (T.setTop (mkF m pc L ((.int v) :: st))) := by
  obtain ⟨locs, X, N, eT, hx, hZ, hown, hby, hml, hnm, hret, hlk⟩ := X
  subst hp
  exact own_go (fun t k => XS.istore X.here hx rfl (hb hby d) rfl hl k) q
theorem own_lstore (X : own_Cx Z p l e R s m args below meth c n0 own bytes maxL nm ret T h cells slots) {k : Nat} {v : Int64} {L' : Array Slot} (d : decode bytes pc = .ok (.lstore k, 2)) (hp : pc + 2 = pc') (hl : storeLocals L k (.long v) = some L')
    (q : own_Fin p e below G (T.setTop (mkF m pc' L' (st)))) : own_Fin p e below G (T.setTop (mkF m pc L ((.long v) :: st))) := by
  obtain ⟨locs, X, N, eT, hx, hZ, hown, hby, hml, hnm, hret, hlk⟩ := X
  subst hp
  exact own_go (fun t k => XT.lstore X.here hx rfl (hb hby d) rfl hl k) q
theorem own_istoreN (X : own_Cx Z p l e R s m args below meth c n0 own bytes maxL nm ret T h cells slots) {k : Fin 4} {v : Int32} {L' : Array Slot} (d : decode bytes pc = .ok (.istore_n k, 1)) (hp : pc + 1 = pc') (hl : storeLocals L k.val (.int v) = some L')
    (q : own_Fin p e below G (T.setTop (mkF m pc' L' (st)))) : own_Fin p e below G (T.setTop (mkF m pc L ((.int v) :: st))) := by
  obtain ⟨locs, X, N, eT, hx, hZ, hown, hby, hml, hnm, hret, hlk⟩ := X
  subst hp
  exact own_go (fun t k => XS.istoreN X.here hx rfl (hb hby d) rfl hl k) q
theorem own_lstoreN (X : own_Cx Z p l e R s m args below meth c n0 own bytes maxL nm ret T h cells slots) {k : Fin 4} {v : Int64} {L' : Array Slot} (d : decode bytes pc = .ok (.lstore_n k, 1)) (hp : pc + 1 = pc') (hl : storeLocals L k.val (.long v) = some L')
    (q : own_Fin p e below G (T.setTop (mkF m pc' L' (st)))) : own_Fin p e below G (T.setTop (mkF m pc L ((.long v) :: st))) := by
  obtain ⟨locs, X, N, eT, hx, hZ, hown, hby, hml, hnm, hret, hlk⟩ := X
  subst hp
  exact own_go (fun t k => XT.lstoreN X.here hx rfl (hb hby d) rfl hl k) q
theorem own_astore (X : own_Cx Z p l e R s m args below meth c n0 own bytes maxL nm ret T h cells slots) {k : Nat} {v : Value} {L' : Array Slot} (d : decode bytes pc = .ok (.astore k, 2)) (hp : pc + 2 = pc') (hv : v.isRef = true) (hl : storeLocals L k v = some L')
    (q : own_Fin p e below G (T.setTop (mkF m pc' L' (st)))) : own_Fin p e below G (T.setTop (mkF m pc L (v :: st))) := by
  obtain ⟨locs, X, N, eT, hx, hZ, hown, hby, hml, hnm, hret, hlk⟩ := X
  subst hp
  exact own_go (fun t k => XS.astore X.here hx rfl (hb hby d) rfl hv hl k) q
theorem own_astoreN (X : own_Cx Z p l e R s m args below meth c n0 own bytes maxL nm ret T h cells slots) {k : Fin 4} {v : Value} {L' : Array Slot} (d : decode bytes pc = .ok (.astore_n k, 1)) (hp : pc + 1 = pc') (hv : v.isRef = true) (hl : storeLocals L k.val v = some L')
    (q : own_Fin p e below G (T.setTop (mkF m pc' L' (st)))) : own_Fin p e below G (T.setTop (mkF m pc L (v :: st))) := by
  obtain ⟨locs, X, N, eT, hx, hZ, hown, hby, hml, hnm, hret, hlk⟩ := X
  subst hp
  exact own_go (fun t k => XS.astoreN X.here hx rfl (hb hby d) rfl hv hl k) q
theorem own_iinc (X : own_Cx Z p l e R s m args below meth c n0 own bytes maxL nm ret T h cells slots) {k : Nat} {x : Int32} {i : Int} {L' : Array Slot} (v : Int32) (d : decode bytes pc = .ok (.iinc k i, 3)) (hp : pc + 3 = pc') (hv : Int32.ofInt i = v) (hl : L[k]? = some (.val (.int x))) (hl' : storeLocals L k (.int (x + v)) = some L')
    (q : own_Fin p e below G (T.setTop (mkF m pc' L' (st)))) : own_Fin p e below G (T.setTop (mkF m pc L (st))) := by
  obtain ⟨locs, X, N, eT, hx, hZ, hown, hby, hml, hnm, hret, hlk⟩ := X
  subst hp
  exact own_go (fun t k => XT.iincV X.here hx rfl v (hb hby d) hv hl hl' k) q
theorem own_iconst (X : own_Cx Z p l e R s m args below meth c n0 own bytes maxL nm ret T h cells slots) {i : Int} (v : Int32) (d : decode bytes pc = .ok (.iconst i, 1)) (hp : pc + 1 = pc') (hv : Int32.ofInt i = v)
    (q : own_Fin p e below G (T.setTop (mkF m pc' L ((.int v) :: st)))) : own_Fin p e below G (T.setTop (mkF m pc L (st))) := by
  obtain ⟨locs, X, N, eT, hx, hZ, hown, hby, hml, hnm, hret, hlk⟩ := X
  subst hp
  exact own_go (fun t k => XT.iconstV X.here hx rfl v (hb hby d) hv k) q
theorem own_bipush (X : own_Cx Z p l e R s m args below meth c n0 own bytes maxL nm ret T h cells slots) {i : Int} (v : Int32) (d : decode bytes pc = .ok (.bipush i, 2)) (hp : pc + 2 = pc') (hv : (Int8.ofInt i).toInt32 = v)
    (q : own_Fin p e below G (T.setTop (mkF m pc' L ((.int v) :: st)))) : own_Fin p e below G (T.setTop (mkF m pc L (st))) := by
  obtain ⟨locs, X, N, eT, hx, hZ, hown, hby, hml, hnm, hret, hlk⟩ := X
  subst hp
  exact own_go (fun t k => XT.bipushV X.here hx rfl v (hb hby d) hv k) q
theorem own_sipush (X : own_Cx Z p l e R s m args below meth c n0 own bytes maxL nm ret T h cells slots) {i : Int} (v : Int32) (d : decode bytes pc = .ok (.sipush i, 3)) (hp : pc + 3 = pc') (hv : (Int16.ofInt i).toInt32 = v)
    (q : own_Fin p e below G (T.setTop (mkF m pc' L ((.int v) :: st)))) : own_Fin p e below G (T.setTop (mkF m pc L (st))) := by
  obtain ⟨locs, X, N, eT, hx, hZ, hown, hby, hml, hnm, hret, hlk⟩ := X
  subst hp
  exact own_go (fun t k => XT.sipushV X.here hx rfl v (hb hby d) hv k) q
theorem own_lconst (X : own_Cx Z p l e R s m args below meth c n0 own bytes maxL nm ret T h cells slots) {i : Fin 2} (v : Int64) (d : decode bytes pc = .ok (.lconst i, 1)) (hp : pc + 1 = pc') (hv : Int64.ofNat i = v)
    (q : own_Fin p e below G (T.setTop (mkF m pc' L ((.long v) :: st)))) : own_Fin p e below G (T.setTop (mkF m pc L (st))) := by
  obtain ⟨locs, X, N, eT, hx, hZ, hown, hby, hml, hnm, hret, hlk⟩ := X
  subst hp
  exact own_go (fun t k => XT.lconstV X.here hx rfl v (hb hby d) hv k) q
theorem own_aconst_null (X : own_Cx Z p l e R s m args below meth c n0 own bytes maxL nm ret T h cells slots)  (d : decode bytes pc = .ok (.aconst_null, 1)) (hp : pc + 1 = pc') 
    (q : own_Fin p e below G (T.setTop (mkF m pc' L (.null :: st)))) : own_Fin p e below G (T.setTop (mkF m pc L (st))) := by
  obtain ⟨locs, X, N, eT, hx, hZ, hown, hby, hml, hnm, hret, hlk⟩ := X
  subst hp
  exact own_go (fun t k => XS.aconstNull X.here hx rfl (hb hby d) k) q
theorem own_iadd (X : own_Cx Z p l e R s m args below meth c n0 own bytes maxL nm ret T h cells slots) {x y : Int32} (d : decode bytes pc = .ok (.iadd, 1)) (hp : pc + 1 = pc') 
    (q : own_Fin p e below G (T.setTop (mkF m pc' L ((.int (x + y)) :: st)))) : own_Fin p e below G (T.setTop (mkF m pc L ((.int y) :: (.int x) :: st))) := by
  obtain ⟨locs, X, N, eT, hx, hZ, hown, hby, hml, hnm, hret, hlk⟩ := X
  subst hp
  exact own_go (fun t k => XS.iadd X.here hx rfl (hb hby d) rfl k) q
theorem own_isub (X : own_Cx Z p l e R s m args below meth c n0 own bytes maxL nm ret T h cells slots) {x y : Int32} (d : decode bytes pc = .ok (.isub, 1)) (hp : pc + 1 = pc') 
    (q : own_Fin p e below G (T.setTop (mkF m pc' L ((.int (x - y)) :: st)))) : own_Fin p e below G (T.setTop (mkF m pc L ((.int y) :: (.int x) :: st))) := by
  obtain ⟨locs, X, N, eT, hx, hZ, hown, hby, hml, hnm, hret, hlk⟩ := X
  subst hp
  exact own_go (fun t k => XS.isub X.here hx rfl (hb hby d) rfl k) q
theorem own_iand (X : own_Cx Z p l e R s m args below meth c n0 own bytes maxL nm ret T h cells slots) {x y : Int32} (d : decode bytes pc = .ok (.iand, 1)) (hp : pc + 1 = pc') 
    (q : own_Fin p e below G (T.setTop (mkF m pc' L ((.int (x &&& y)) :: st)))) : own_Fin p e below G (T.setTop (mkF m pc L ((.int y) :: (.int x) :: st))) := by
  obtain ⟨locs, X, N, eT, hx, hZ, hown, hby, hml, hnm, hret, hlk⟩ := X
  subst hp
  exact own_go (fun t k => XS.iand X.here hx rfl (hb hby d) rfl k) q
theorem own_imul (X : own_Cx Z p l e R s m args below meth c n0 own bytes maxL nm ret T h cells slots) {x y : Int32} (d : decode bytes pc = .ok (.imul, 1)) (hp : pc + 1 = pc') 
    (q : own_Fin p e below G (T.setTop (mkF m pc' L ((.int (x * y)) :: st)))) : own_Fin p e below G (T.setTop (mkF m pc L ((.int y) :: (.int x) :: st))) := by
  obtain ⟨locs, X, N, eT, hx, hZ, hown, hby, hml, hnm, hret, hlk⟩ := X
  subst hp
  exact own_go (fun t k => XS.imul X.here hx rfl (hb hby d) rfl k) q
theorem own_irem (X : own_Cx Z p l e R s m args below meth c n0 own bytes maxL nm ret T h cells slots) {x y : Int32} (d : decode bytes pc = .ok (.irem, 1)) (hp : pc + 1 = pc') (hy : y ≠ 0)
    (q : own_Fin p e below G (T.setTop (mkF m pc' L ((.int (x % y)) :: st)))) : own_Fin p e below G (T.setTop (mkF m pc L ((.int y) :: (.int x) :: st))) := by
  obtain ⟨locs, X, N, eT, hx, hZ, hown, hby, hml, hnm, hret, hlk⟩ := X
  subst hp
  exact own_go (fun t k => iremM X hx rfl (hb hby d) rfl hy k) q
theorem own_ixor (X : own_Cx Z p l e R s m args below meth c n0 own bytes maxL nm ret T h cells slots) {x y : Int32} (d : decode bytes pc = .ok (.ixor, 1)) (hp : pc + 1 = pc') 
    (q : own_Fin p e below G (T.setTop (mkF m pc' L ((.int (x ^^^ y)) :: st)))) : own_Fin p e below G (T.setTop (mkF m pc L ((.int y) :: (.int x) :: st))) := by
  obtain ⟨locs, X, N, eT, hx, hZ, hown, hby, hml, hnm, hret, hlk⟩ := X
  subst hp
  exact own_go (fun t k => XT.ixor X.here hx rfl (hb hby d) rfl k) q
theorem own_ior (X : own_Cx Z p l e R s m args below meth c n0 own bytes maxL nm ret T h cells slots) {x y : Int32} (d : decode bytes pc = .ok (.ior, 1)) (hp : pc + 1 = pc') 
    (q : own_Fin p e below G (T.setTop (mkF m pc' L ((.int (x ||| y)) :: st)))) : own_Fin p e below G (T.setTop (mkF m pc L ((.int y) :: (.int x) :: st))) := by
  obtain ⟨locs, X, N, eT, hx, hZ, hown, hby, hml, hnm, hret, hlk⟩ := X
  subst hp
  exact own_go (fun t k => XT.ior X.here hx rfl (hb hby d) rfl k) q
theorem own_ishl (X : own_Cx Z p l e R s m args below meth c n0 own bytes maxL nm ret T h cells slots) {x y : Int32} (d : decode bytes pc = .ok (.ishl, 1)) (hp : pc + 1 = pc') 
    (q : own_Fin p e below G (T.setTop (mkF m pc' L ((.int (x <<< (y &&& 31))) :: st)))) : own_Fin p e below G (T.setTop (mkF m pc L ((.int y) :: (.int x) :: st))) := by
  obtain ⟨locs, X, N, eT, hx, hZ, hown, hby, hml, hnm, hret, hlk⟩ := X
  subst hp
  exact own_go (fun t k => XT.ishl X.here hx rfl (hb hby d) rfl k) q
theorem own_ishr (X : own_Cx Z p l e R s m args below meth c n0 own bytes maxL nm ret T h cells slots) {x y : Int32} (d : decode bytes pc = .ok (.ishr, 1)) (hp : pc + 1 = pc') 
    (q : own_Fin p e below G (T.setTop (mkF m pc' L ((.int (x >>> (y &&& 31))) :: st)))) : own_Fin p e below G (T.setTop (mkF m pc L ((.int y) :: (.int x) :: st))) := by
  obtain ⟨locs, X, N, eT, hx, hZ, hown, hby, hml, hnm, hret, hlk⟩ := X
  subst hp
  exact own_go (fun t k => XT.ishr X.here hx rfl (hb hby d) rfl k) q
theorem own_iushr (X : own_Cx Z p l e R s m args below meth c n0 own bytes maxL nm ret T h cells slots) {x y : Int32} (d : decode bytes pc = .ok (.iushr, 1)) (hp : pc + 1 = pc') 
    (q : own_Fin p e below G (T.setTop (mkF m pc' L ((.int (XT.ushr x y)) :: st)))) : own_Fin p e below G (T.setTop (mkF m pc L ((.int y) :: (.int x) :: st))) := by
  obtain ⟨locs, X, N, eT, hx, hZ, hown, hby, hml, hnm, hret, hlk⟩ := X
  subst hp
  exact own_go (fun t k => XT.iushr X.here hx rfl (hb hby d) rfl k) q
theorem own_ladd (X : own_Cx Z p l e R s m args below meth c n0 own bytes maxL nm ret T h cells slots) {x y : Int64} (d : decode bytes pc = .ok (.ladd, 1)) (hp : pc + 1 = pc') 
    (q : own_Fin p e below G (T.setTop (mkF m pc' L ((.long (x + y)) :: st)))) : own_Fin p e below G (T.setTop (mkF m pc L ((.long y) :: (.long x) :: st))) := by
  obtain ⟨locs, X, N, eT, hx, hZ, hown, hby, hml, hnm, hret, hlk⟩ := X
  subst hp
  exact own_go (fun t k => XT.ladd X.here hx rfl (hb hby d) rfl k) q
theorem own_lsub (X : own_Cx Z p l e R s m args below meth c n0 own bytes maxL nm ret T h cells slots) {x y : Int64} (d : decode bytes pc = .ok (.lsub, 1)) (hp : pc + 1 = pc') 
    (q : own_Fin p e below G (T.setTop (mkF m pc' L ((.long (x - y)) :: st)))) : own_Fin p e below G (T.setTop (mkF m pc L ((.long y) :: (.long x) :: st))) := by
  obtain ⟨locs, X, N, eT, hx, hZ, hown, hby, hml, hnm, hret, hlk⟩ := X
  subst hp
  exact own_go (fun t k => XT.lsub X.here hx rfl (hb hby d) rfl k) q
theorem own_lmul (X : own_Cx Z p l e R s m args below meth c n0 own bytes maxL nm ret T h cells slots) {x y : Int64} (d : decode bytes pc = .ok (.lmul, 1)) (hp : pc + 1 = pc') 
    (q : own_Fin p e below G (T.setTop (mkF m pc' L ((.long (x * y)) :: st)))) : own_Fin p e below G (T.setTop (mkF m pc L ((.long y) :: (.long x) :: st))) := by
  obtain ⟨locs, X, N, eT, hx, hZ, hown, hby, hml, hnm, hret, hlk⟩ := X
  subst hp
  exact own_go (fun t k => XT.lmul X.here hx rfl (hb hby d) rfl k) q
theorem own_land (X : own_Cx Z p l e R s m args below meth c n0 own bytes maxL nm ret T h cells slots) {x y : Int64} (d : decode bytes pc = .ok (.land, 1)) (hp : pc + 1 = pc') 
    (q : own_Fin p e below G (T.setTop (mkF m pc' L ((.long (x &&& y)) :: st)))) : own_Fin p e below G (T.setTop (mkF m pc L ((.long y) :: (.long x) :: st))) := by
  obtain ⟨locs, X, N, eT, hx, hZ, hown, hby, hml, hnm, hret, hlk⟩ := X
  subst hp
  exact own_go (fun t k => XT.land X.here hx rfl (hb hby d) rfl k) q
theorem own_lor (X : own_Cx Z p l e R s m args below meth c n0 own bytes maxL nm ret T h cells slots) {x y : Int64} (d : decode bytes pc = .ok (.lor, 1)) (hp : pc + 1 = pc') 
    (q : own_Fin p e below G (T.setTop (mkF m pc' L ((.long (x ||| y)) :: st)))) : own_Fin p e below G (T.setTop (mkF m pc L ((.long y) :: (.long x) :: st))) := by
  obtain ⟨locs, X, N, eT, hx, hZ, hown, hby, hml, hnm, hret, hlk⟩ := X
  subst hp
  exact own_go (fun t k => XT.lor X.here hx rfl (hb hby d) rfl k) q
theorem own_lxor (X : own_Cx Z p l e R s m args below meth c n0 own bytes maxL nm ret T h cells slots) {x y : Int64} (d : decode bytes pc = .ok (.lxor, 1)) (hp : pc + 1 = pc') 
    (q : own_Fin p e below G (T.setTop (mkF m pc' L ((.long (x ^^^ y)) :: st)))) : own_Fin p e below G (T.setTop (mkF m pc L ((.long y) :: (.long x) :: st))) := by
  obtain ⟨locs, X, N, eT, hx, hZ, hown, hby, hml, hnm, hret, hlk⟩ := X
  subst hp
  exact own_go (fun t k => XT.lxor X.here hx rfl (hb hby d) rfl k) q
theorem own_lshl (X : own_Cx Z p l e R s m args below meth c n0 own bytes maxL nm ret T h cells slots) {x : Int64} {y : Int32} (d : decode bytes pc = .ok (.lshl, 1)) (hp : pc + 1 = pc') 
    (q : own_Fin p e below G (T.setTop (mkF m pc' L ((.long (x <<< (y.toInt64 &&& 63))) :: st)))) : own_Fin p e below G (T.setTop (mkF m pc L ((.int y) :: (.long x) :: st))) := by
  obtain ⟨locs, X, N, eT, hx, hZ, hown, hby, hml, hnm, hret, hlk⟩ := X
  subst hp
  exact own_go (fun t k => XT.lshl X.here hx rfl (hb hby d) rfl k) q
theorem own_lshr (X : own_Cx Z p l e R s m args below meth c n0 own bytes maxL nm ret T h cells slots) {x : Int64} {y : Int32} (d : decode bytes pc = .ok (.lshr, 1)) (hp : pc + 1 = pc') 
    (q : own_Fin p e below G (T.setTop (mkF m pc' L ((.long (x >>> (y.toInt64 &&& 63))) :: st)))) : own_Fin p e below G (T.setTop (mkF m pc L ((.int y) :: (.long x) :: st))) := by
  obtain ⟨locs, X, N, eT, hx, hZ, hown, hby, hml, hnm, hret, hlk⟩ := X
  subst hp
  exact own_go (fun t k => XT.lshr X.here hx rfl (hb hby d) rfl k) q
theorem own_lushr (X : own_Cx Z p l e R s m args below meth c n0 own bytes maxL nm ret T h cells slots) {x : Int64} {y : Int32} (d : decode bytes pc = .ok (.lushr, 1)) (hp : pc + 1 = pc') 
    (q : own_Fin p e below G (T.setTop (mkF m pc' L ((.long (XT.ushrL x y)) :: st)))) : own_Fin p e below G (T.setTop (mkF m pc L ((.int y) :: (.long x) :: st))) := by
  obtain ⟨locs, X, N, eT, hx, hZ, hown, hby, hml, hnm, hret, hlk⟩ := X
  subst hp
  exact own_go (fun t k => XT.lushr X.here hx rfl (hb hby d) rfl k) q
theorem own_lneg (X : own_Cx Z p l e R s m args below meth c n0 own bytes maxL nm ret T h cells slots) {x : Int64} (d : decode bytes pc = .ok (.lneg, 1)) (hp : pc + 1 = pc') 
    (q : own_Fin p e below G (T.setTop (mkF m pc' L ((.long (-x)) :: st)))) : own_Fin p e below G (T.setTop (mkF m pc L ((.long x) :: st))) := by
  obtain ⟨locs, X, N, eT, hx, hZ, hown, hby, hml, hnm, hret, hlk⟩ := X
  subst hp
  exact own_go (fun t k => XT.lneg X.here hx rfl (hb hby d) rfl k) q
theorem own_i2l (X : own_Cx Z p l e R s m args below meth c n0 own bytes maxL nm ret T h cells slots) {x : Int32} (d : decode bytes pc = .ok (.i2l, 1)) (hp : pc + 1 = pc') 
    (q : own_Fin p e below G (T.setTop (mkF m pc' L ((.long x.toInt64) :: st)))) : own_Fin p e below G (T.setTop (mkF m pc L ((.int x) :: st))) := by
  obtain ⟨locs, X, N, eT, hx, hZ, hown, hby, hml, hnm, hret, hlk⟩ := X
  subst hp
  exact own_go (fun t k => XT.i2l X.here hx rfl (hb hby d) rfl k) q
theorem own_l2i (X : own_Cx Z p l e R s m args below meth c n0 own bytes maxL nm ret T h cells slots) {x : Int64} (d : decode bytes pc = .ok (.l2i, 1)) (hp : pc + 1 = pc') 
    (q : own_Fin p e below G (T.setTop (mkF m pc' L ((.int x.toInt32) :: st)))) : own_Fin p e below G (T.setTop (mkF m pc L ((.long x) :: st))) := by
  obtain ⟨locs, X, N, eT, hx, hZ, hown, hby, hml, hnm, hret, hlk⟩ := X
  subst hp
  exact own_go (fun t k => XT.l2i X.here hx rfl (hb hby d) rfl k) q
theorem own_i2c (X : own_Cx Z p l e R s m args below meth c n0 own bytes maxL nm ret T h cells slots) {x : Int32} (d : decode bytes pc = .ok (.i2c, 1)) (hp : pc + 1 = pc') 
    (q : own_Fin p e below G (T.setTop (mkF m pc' L ((.int x.toUInt32.toUInt16.toUInt32.toInt32) :: st)))) : own_Fin p e below G (T.setTop (mkF m pc L ((.int x) :: st))) := by
  obtain ⟨locs, X, N, eT, hx, hZ, hown, hby, hml, hnm, hret, hlk⟩ := X
  subst hp
  exact own_go (fun t k => XT.i2c X.here hx rfl (hb hby d) rfl k) q
theorem own_dup (X : own_Cx Z p l e R s m args below meth c n0 own bytes maxL nm ret T h cells slots) {v : Value} (d : decode bytes pc = .ok (.dup, 1)) (hp : pc + 1 = pc') (hc : v.category = 1)
    (q : own_Fin p e below G (T.setTop (mkF m pc' L (v :: v :: st)))) : own_Fin p e below G (T.setTop (mkF m pc L (v :: st))) := by
  obtain ⟨locs, X, N, eT, hx, hZ, hown, hby, hml, hnm, hret, hlk⟩ := X
  subst hp
  exact own_go (fun t k => XS.dup X.here hx rfl (hb hby d) rfl hc k) q
theorem own_pop (X : own_Cx Z p l e R s m args below meth c n0 own bytes maxL nm ret T h cells slots) {v : Value} (d : decode bytes pc = .ok (.pop, 1)) (hp : pc + 1 = pc') (hc : v.category = 1)
    (q : own_Fin p e below G (T.setTop (mkF m pc' L (st)))) : own_Fin p e below G (T.setTop (mkF m pc L (v :: st))) := by
  obtain ⟨locs, X, N, eT, hx, hZ, hown, hby, hml, hnm, hret, hlk⟩ := X
  subst hp
  exact own_go (fun t k => XT.pop X.here hx rfl (hb hby d) rfl hc k) q
theorem own_ldcI (X : own_Cx Z p l e R s m args below meth c n0 own bytes maxL nm ret T h cells slots) {i : Nat} {v : Int32} (d : decode bytes pc = .ok (.ldc i, 2)) (hp : pc + 2 = pc') (w : (Jvm.Cond.constant own i v).before a0 Z = true)
    (q : own_Fin p e below G (T.setTop (mkF m pc' L ((.int v) :: st)))) : own_Fin p e below G (T.setTop (mkF m pc L (st))) := by
  obtain ⟨locs, X, N, eT, hx, hZ, hown, hby, hml, hnm, hret, hlk⟩ := X
  subst hp
  exact own_go (fun t k => X.ldcInt hx hown (mvT hZ w) (g := mkF m pc L st) rfl (hb hby d) t k) q
theorem own_ldc2J (X : own_Cx Z p l e R s m args below meth c n0 own bytes maxL nm ret T h cells slots) {i : Nat} {v : Int64} (d : decode bytes pc = .ok (.ldc2_w i, 3)) (hp : pc + 3 = pc') (w : (Jvm.Cond.constantLong own i v).before a0 Z = true)
    (q : own_Fin p e below G (T.setTop (mkF m pc' L ((.long v) :: st)))) : own_Fin p e below G (T.setTop (mkF m pc L (st))) := by
  obtain ⟨locs, X, N, eT, hx, hZ, hown, hby, hml, hnm, hret, hlk⟩ := X
  subst hp
  exact own_go (fun t k => X.ldc2Long hx hown (mvT hZ w) (g := mkF m pc L st) rfl (hb hby d) t k) q
theorem own_ldcF (X : own_Cx Z p l e R s m args below meth c n0 own bytes maxL nm ret T h cells slots) {i : Nat} {v : UInt32} (d : decode bytes pc = .ok (.ldc i, 2)) (hp : pc + 2 = pc') (w : (Jvm.Cond.constantFloat own i v).before a0 Z = true)
    (q : own_Fin p e below G (T.setTop (mkF m pc' L ((.float v) :: st)))) : own_Fin p e below G (T.setTop (mkF m pc L (st))) := by
  obtain ⟨locs, X, N, eT, hx, hZ, hown, hby, hml, hnm, hret, hlk⟩ := X
  subst hp
  exact own_go (fun t k => X.ldcFloatC hx hown (mvT hZ w) (g := mkF m pc L st) rfl (hb hby d) t k) q
theorem own_goto (X : own_Cx Z p l e R s m args below meth c n0 own bytes maxL nm ret T h cells slots) {o : Int} (d : decode bytes pc = .ok (.goto o, 3)) (ho : 0 ≤ (pc : Int) + o) (hp : ((pc : Int) + o).toNat = pc')
    (q : own_Fin p e below G (T.setTop (mkF m pc' L (st)))) : own_Fin p e below G (T.setTop (mkF m pc L (st))) := by
  obtain ⟨locs, X, N, eT, hx, hZ, hown, hby, hml, hnm, hret, hlk⟩ := X
  exact own_go (fun t k => XS.goto X.here hx rfl rfl (hb hby d) ho hp k) q
theorem own_icmp_eq (X : own_Cx Z p l e R s m args below meth c n0 own bytes maxL nm ret T h cells slots) {x y : Int32} {o : Int} {pcT pcF : Nat} (d : decode bytes pc = .ok (.if_icmp .eq o, 3)) (ho : 0 ≤ (pc : Int) + o) (hT : ((pc : Int) + o).toNat = pcT) (hF : pc + 3 = pcF)
    (qT : (x = y) → own_Fin p e below G (T.setTop (mkF m pcT L (st)))) (qF : (¬ (x = y)) → own_Fin p e below G (T.setTop (mkF m pcF L (st)))) : own_Fin p e below G (T.setTop (mkF m pc L ((.int y) :: (.int x) :: st))) := by
  obtain ⟨locs, X, N, eT, hx, hZ, hown, hby, hml, hnm, hret, hlk⟩ := X
  subst hF
  by_cases hc : x = y
  · exact own_go (fun t k => XS.icmpYes X.here hx rfl rfl (hb hby d) rfl (XT.ii_eq_t hc) ho hT k) (qT hc)
  · exact own_go (fun t k => XS.icmpNo X.here hx rfl (hb hby d) rfl (XT.ii_eq_f hc) k) (qF hc)
theorem own_if_eq (X : own_Cx Z p l e R s m args below meth c n0 own bytes maxL nm ret T h cells slots) {x : Int32} {o : Int} {pcT pcF : Nat} (d : decode bytes pc = .ok (.ifCond .eq o, 3)) (ho : 0 ≤ (pc : Int) + o) (hT : ((pc : Int) + o).toNat = pcT) (hF : pc + 3 = pcF)
    (qT : (x = 0) → own_Fin p e below G (T.setTop (mkF m pcT L (st)))) (qF : (¬ (x = 0)) → own_Fin p e below G (T.setTop (mkF m pcF L (st)))) : own_Fin p e below G (T.setTop (mkF m pc L ((.int x) :: st))) := by
  obtain ⟨locs, X, N, eT, hx, hZ, hown, hby, hml, hnm, hret, hlk⟩ := X
  subst hF
  by_cases hc : x = 0
  · exact own_go (fun t k => XS.ifYes X.here hx rfl rfl (hb hby d) rfl (XT.i0_eq_t hc) ho hT k) (qT hc)
  · exact own_go (fun t k => XS.ifNo X.here hx rfl (hb hby d) rfl (XT.i0_eq_f hc) k) (qF hc)
theorem own_lcmp_eq (X : own_Cx Z p l e R s m args below meth c n0 own bytes maxL nm ret T h cells slots) {x y : Int64} {pc1 : Nat} {o : Int} {pcT pcF : Nat} (d0 : decode bytes pc = .ok (.lcmp, 1)) (h1 : pc + 1 = pc1) (d : decode bytes pc1 = .ok (.ifCond .eq o, 3)) (ho : 0 ≤ (pc1 : Int) + o) (hT : ((pc1 : Int) + o).toNat = pcT) (hF : pc1 + 3 = pcF)
    (qT : (x = y) → own_Fin p e below G (T.setTop (mkF m pcT L (st)))) (qF : (¬ (x = y)) → own_Fin p e below G (T.setTop (mkF m pcF L (st)))) : own_Fin p e below G (T.setTop (mkF m pc L ((.long y) :: (.long x) :: st))) := by
  obtain ⟨locs, X, N, eT, hx, hZ, hown, hby, hml, hnm, hret, hlk⟩ := X
  subst h1
  subst hF
  by_cases hc : x = y
  · exact own_go (fun t k => XT.lcmp X.here hx rfl (hb hby d0) rfl (XS.ifYes X.here hx rfl rfl (hb hby d) rfl (XT.ll_eq_t hc) ho hT k)) (qT hc)
  · exact own_go (fun t k => XT.lcmp X.here hx rfl (hb hby d0) rfl (XS.ifNo X.here hx rfl (hb hby d) rfl (XT.ll_eq_f hc) k)) (qF hc)
theorem own_icmp_ne (X : own_Cx Z p l e R s m args below meth c n0 own bytes maxL nm ret T h cells slots) {x y : Int32} {o : Int} {pcT pcF : Nat} (d : decode bytes pc = .ok (.if_icmp .ne o, 3)) (ho : 0 ≤ (pc : Int) + o) (hT : ((pc : Int) + o).toNat = pcT) (hF : pc + 3 = pcF)
    (qT : (¬ (x = y)) → own_Fin p e below G (T.setTop (mkF m pcT L (st)))) (qF : (x = y) → own_Fin p e below G (T.setTop (mkF m pcF L (st)))) : own_Fin p e below G (T.setTop (mkF m pc L ((.int y) :: (.int x) :: st))) := by
  obtain ⟨locs, X, N, eT, hx, hZ, hown, hby, hml, hnm, hret, hlk⟩ := X
  subst hF
  by_cases hc : x = y
  · exact own_go (fun t k => XS.icmpNo X.here hx rfl (hb hby d) rfl (XT.ii_ne_f hc) k) (qF hc)
  · exact own_go (fun t k => XS.icmpYes X.here hx rfl rfl (hb hby d) rfl (XT.ii_ne_t hc) ho hT k) (qT hc)
theorem own_if_ne (X : own_Cx Z p l e R s m args below meth c n0 own bytes maxL nm ret T h cells slots) {x : Int32} {o : Int} {pcT pcF : Nat} (d : decode bytes pc = .ok (.ifCond .ne o, 3)) (ho : 0 ≤ (pc : Int) + o) (hT : ((pc : Int) + o).toNat = pcT) (hF : pc + 3 = pcF)
    (qT : (¬ (x = 0)) → own_Fin p e below G (T.setTop (mkF m pcT L (st)))) (qF : (x = 0) → own_Fin p e below G (T.setTop (mkF m pcF L (st)))) : own_Fin p e below G (T.setTop (mkF m pc L ((.int x) :: st))) := by
  obtain ⟨locs, X, N, eT, hx, hZ, hown, hby, hml, hnm, hret, hlk⟩ := X
  subst hF
  by_cases hc : x = 0
  · exact own_go (fun t k => XS.ifNo X.here hx rfl (hb hby d) rfl (XT.i0_ne_f hc) k) (qF hc)
  · exact own_go (fun t k => XS.ifYes X.here hx rfl rfl (hb hby d) rfl (XT.i0_ne_t hc) ho hT k) (qT hc)
theorem own_lcmp_ne (X : own_Cx Z p l e R s m args below meth c n0 own bytes maxL nm ret T h cells slots) {x y : Int64} {pc1 : Nat} {o : Int} {pcT pcF : Nat} (d0 : decode bytes pc = .ok (.lcmp, 1)) (h1 : pc + 1 = pc1) (d : decode bytes pc1 = .ok (.ifCond .ne o, 3)) (ho : 0 ≤ (pc1 : Int) + o) (hT : ((pc1 : Int) + o).toNat = pcT) (hF : pc1 + 3 = pcF)
    (qT : (¬ (x = y)) → own_Fin p e below G (T.setTop (mkF m pcT L (st)))) (qF : (x = y) → own_Fin p e below G (T.setTop (mkF m pcF L (st)))) : own_Fin p e below G (T.setTop (mkF m pc L ((.long y) :: (.long x) :: st))) := by
  obtain ⟨locs, X, N, eT, hx, hZ, hown, hby, hml, hnm, hret, hlk⟩ := X
  subst h1
  subst hF
  by_cases hc : x = y
  · exact own_go (fun t k => XT.lcmp X.here hx rfl (hb hby d0) rfl (XS.ifNo X.here hx rfl (hb hby d) rfl (XT.ll_ne_f hc) k)) (qF hc)
  · exact own_go (fun t k => XT.lcmp X.here hx rfl (hb hby d0) rfl (XS.ifYes X.here hx rfl rfl (hb hby d) rfl (XT.ll_ne_t hc) ho hT k)) (qT hc)
theorem own_icmp_lt (X : own_Cx Z p l e R s m args below meth c n0 own bytes maxL nm ret T h cells slots) {x y : Int32} {o : Int} {pcT pcF : Nat} (d : decode bytes pc = .ok (.if_icmp .lt o, 3)) (ho : 0 ≤ (pc : Int) + o) (hT : ((pc : Int) + o).toNat = pcT) (hF : pc + 3 = pcF)
    (qT : (x < y) → own_Fin p e below G (T.setTop (mkF m pcT L (st)))) (qF : (¬ (x < y)) → own_Fin p e below G (T.setTop (mkF m pcF L (st)))) : own_Fin p e below G (T.setTop (mkF m pc L ((.int y) :: (.int x) :: st))) := by
  obtain ⟨locs, X, N, eT, hx, hZ, hown, hby, hml, hnm, hret, hlk⟩ := X
  subst hF
  by_cases hc : x < y
  · exact own_go (fun t k => XS.icmpYes X.here hx rfl rfl (hb hby d) rfl (XT.ii_lt_t hc) ho hT k) (qT hc)
  · exact own_go (fun t k => XS.icmpNo X.here hx rfl (hb hby d) rfl (XT.ii_lt_f hc) k) (qF hc)
theorem own_if_lt (X : own_Cx Z p l e R s m args below meth c n0 own bytes maxL nm ret T h cells slots) {x : Int32} {o : Int} {pcT pcF : Nat} (d : decode bytes pc = .ok (.ifCond .lt o, 3)) (ho : 0 ≤ (pc : Int) + o) (hT : ((pc : Int) + o).toNat = pcT) (hF : pc + 3 = pcF)
    (qT : (x < 0) → own_Fin p e below G (T.setTop (mkF m pcT L (st)))) (qF : (¬ (x < 0)) → own_Fin p e below G (T.setTop (mkF m pcF L (st)))) : own_Fin p e below G (T.setTop (mkF m pc L ((.int x) :: st))) := by
  obtain ⟨locs, X, N, eT, hx, hZ, hown, hby, hml, hnm, hret, hlk⟩ := X
  subst hF
  by_cases hc : x < 0
  · exact own_go (fun t k => XS.ifYes X.here hx rfl rfl (hb hby d) rfl (XT.i0_lt_t hc) ho hT k) (qT hc)
  · exact own_go (fun t k => XS.ifNo X.here hx rfl (hb hby d) rfl (XT.i0_lt_f hc) k) (qF hc)
theorem own_lcmp_lt (X : own_Cx Z p l e R s m args below meth c n0 own bytes maxL nm ret T h cells slots) {x y : Int64} {pc1 : Nat} {o : Int} {pcT pcF : Nat} (d0 : decode bytes pc = .ok (.lcmp, 1)) (h1 : pc + 1 = pc1) (d : decode bytes pc1 = .ok (.ifCond .lt o, 3)) (ho : 0 ≤ (pc1 : Int) + o) (hT : ((pc1 : Int) + o).toNat = pcT) (hF : pc1 + 3 = pcF)
    (qT : (x < y) → own_Fin p e below G (T.setTop (mkF m pcT L (st)))) (qF : (¬ (x < y)) → own_Fin p e below G (T.setTop (mkF m pcF L (st)))) : own_Fin p e below G (T.setTop (mkF m pc L ((.long y) :: (.long x) :: st))) := by
  obtain ⟨locs, X, N, eT, hx, hZ, hown, hby, hml, hnm, hret, hlk⟩ := X
  subst h1
  subst hF
  by_cases hc : x < y
  · exact own_go (fun t k => XT.lcmp X.here hx rfl (hb hby d0) rfl (XS.ifYes X.here hx rfl rfl (hb hby d) rfl (XT.ll_lt_t hc) ho hT k)) (qT hc)
  · exact own_go (fun t k => XT.lcmp X.here hx rfl (hb hby d0) rfl (XS.ifNo X.here hx rfl (hb hby d) rfl (XT.ll_lt_f hc) k)) (qF hc)
theorem own_icmp_ge (X : own_Cx Z p l e R s m args below meth c n0 own bytes maxL nm ret T h cells slots) {x y : Int32} {o : Int} {pcT pcF : Nat} (d : decode bytes pc = .ok (.if_icmp .ge o, 3)) (ho : 0 ≤ (pc : Int) + o) (hT : ((pc : Int) + o).toNat = pcT) (hF : pc + 3 = pcF)
    (qT : (¬ (x < y)) → own_Fin p e below G (T.setTop (mkF m pcT L (st)))) (qF : (x < y) → own_Fin p e below G (T.setTop (mkF m pcF L (st)))) : own_Fin p e below G (T.setTop (mkF m pc L ((.int y) :: (.int x) :: st))) := by
  obtain ⟨locs, X, N, eT, hx, hZ, hown, hby, hml, hnm, hret, hlk⟩ := X
  subst hF
  by_cases hc : x < y
  · exact own_go (fun t k => XS.icmpNo X.here hx rfl (hb hby d) rfl (XT.ii_ge_f hc) k) (qF hc)
  · exact own_go (fun t k => XS.icmpYes X.here hx rfl rfl (hb hby d) rfl (XT.ii_ge_t hc) ho hT k) (qT hc)
theorem own_if_ge (X : own_Cx Z p l e R s m args below meth c n0 own bytes maxL nm ret T h cells slots) {x : Int32} {o : Int} {pcT pcF : Nat} (d : decode bytes pc = .ok (.ifCond .ge o, 3)) (ho : 0 ≤ (pc : Int) + o) (hT : ((pc : Int) + o).toNat = pcT) (hF : pc + 3 = pcF)
    (qT : (¬ (x < 0)) → own_Fin p e below G (T.setTop (mkF m pcT L (st)))) (qF : (x < 0) → own_Fin p e below G (T.setTop (mkF m pcF L (st)))) : own_Fin p e below G (T.setTop (mkF m pc L ((.int x) :: st))) := by
  obtain ⟨locs, X, N, eT, hx, hZ, hown, hby, hml, hnm, hret, hlk⟩ := X
  subst hF
  by_cases hc : x < 0
  · exact own_go (fun t k => XS.ifNo X.here hx rfl (hb hby d) rfl (XT.i0_ge_f hc) k) (qF hc)
  · exact own_go (fun t k => XS.ifYes X.here hx rfl rfl (hb hby d) rfl (XT.i0_ge_t hc) ho hT k) (qT hc)
theorem own_lcmp_ge (X : own_Cx Z p l e R s m args below meth c n0 own bytes maxL nm ret T h cells slots) {x y : Int64} {pc1 : Nat} {o : Int} {pcT pcF : Nat} (d0 : decode bytes pc = .ok (.lcmp, 1)) (h1 : pc + 1 = pc1) (d : decode bytes pc1 = .ok (.ifCond .ge o, 3)) (ho : 0 ≤ (pc1 : Int) + o) (hT : ((pc1 : Int) + o).toNat = pcT) (hF : pc1 + 3 = pcF)
    (qT : (¬ (x < y)) → own_Fin p e below G (T.setTop (mkF m pcT L (st)))) (qF : (x < y) → own_Fin p e below G (T.setTop (mkF m pcF L (st)))) : own_Fin p e below G (T.setTop (mkF m pc L ((.long y) :: (.long x) :: st))) := by
  obtain ⟨locs, X, N, eT, hx, hZ, hown, hby, hml, hnm, hret, hlk⟩ := X
  subst h1
  subst hF
  by_cases hc : x < y
  · exact own_go (fun t k => XT.lcmp X.here hx rfl (hb hby d0) rfl (XS.ifNo X.here hx rfl (hb hby d) rfl (XT.ll_ge_f hc) k)) (qF hc)
  · exact own_go (fun t k => XT.lcmp X.here hx rfl (hb hby d0) rfl (XS.ifYes X.here hx rfl rfl (hb hby d) rfl (XT.ll_ge_t hc) ho hT k)) (qT hc)
theorem own_icmp_gt (X : own_Cx Z p l e R s m args below meth c n0 own bytes maxL nm ret T h cells slots) {x y : Int32} {o : Int} {pcT pcF : Nat} (d : decode bytes pc = .ok (.if_icmp .gt o, 3)) (ho : 0 ≤ (pc : Int) + o) (hT : ((pc : Int) + o).toNat = pcT) (hF : pc + 3 = pcF)
    (qT : (y < x) → own_Fin p e below G (T.setTop (mkF m pcT L (st)))) (qF : (¬ (y < x)) → own_Fin p e below G (T.setTop (mkF m pcF L (st)))) : own_Fin p e below G (T.setTop (mkF m pc L ((.int y) :: (.int x) :: st))) := by
  obtain ⟨locs, X, N, eT, hx, hZ, hown, hby, hml, hnm, hret, hlk⟩ := X
  subst hF
  by_cases hc : y < x
  · exact own_go (fun t k => XS.icmpYes X.here hx rfl rfl (hb hby d) rfl (XT.ii_gt_t hc) ho hT k) (qT hc)
  · exact own_go (fun t k => XS.icmpNo X.here hx rfl (hb hby d) rfl (XT.ii_gt_f hc) k) (qF hc)
theorem own_if_gt (X : own_Cx Z p l e R s m args below meth c n0 own bytes maxL nm ret T h cells slots) {x : Int32} {o : Int} {pcT pcF : Nat} (d : decode bytes pc = .ok (.ifCond .gt o, 3)) (ho : 0 ≤ (pc : Int) + o) (hT : ((pc : Int) + o).toNat = pcT) (hF : pc + 3 = pcF)
    (qT : (0 < x) → own_Fin p e below G (T.setTop (mkF m pcT L (st)))) (qF : (¬ (0 < x)) → own_Fin p e below G (T.setTop (mkF m pcF L (st)))) : own_Fin p e below G (T.setTop (mkF m pc L ((.int x) :: st))) := by
  obtain ⟨locs, X, N, eT, hx, hZ, hown, hby, hml, hnm, hret, hlk⟩ := X
  subst hF
  by_cases hc : 0 < x
  · exact own_go (fun t k => XS.ifYes X.here hx rfl rfl (hb hby d) rfl (XT.i0_gt_t hc) ho hT k) (qT hc)
  · exact own_go (fun t k => XS.ifNo X.here hx rfl (hb hby d) rfl (XT.i0_gt_f hc) k) (qF hc)
theorem own_lcmp_gt (X : own_Cx Z p l e R s m args below meth c n0 own bytes maxL nm ret T h cells slots) {x y : Int64} {pc1 : Nat} {o : Int} {pcT pcF : Nat} (d0 : decode bytes pc = .ok (.lcmp, 1)) (h1 : pc + 1 = pc1) (d : decode bytes pc1 = .ok (.ifCond .gt o, 3)) (ho : 0 ≤ (pc1 : Int) + o) (hT : ((pc1 : Int) + o).toNat = pcT) (hF : pc1 + 3 = pcF)
    (qT : (y < x) → own_Fin p e below G (T.setTop (mkF m pcT L (st)))) (qF : (¬ (y < x)) → own_Fin p e below G (T.setTop (mkF m pcF L (st)))) : own_Fin p e below G (T.setTop (mkF m pc L ((.long y) :: (.long x) :: st))) := by
  obtain ⟨locs, X, N, eT, hx, hZ, hown, hby, hml, hnm, hret, hlk⟩ := X
  subst h1
  subst hF
  by_cases hc : y < x
  · exact own_go (fun t k => XT.lcmp X.here hx rfl (hb hby d0) rfl (XS.ifYes X.here hx rfl rfl (hb hby d) rfl (XT.ll_gt_t hc) ho hT k)) (qT hc)
  · exact own_go (fun t k => XT.lcmp X.here hx rfl (hb hby d0) rfl (XS.ifNo X.here hx rfl (hb hby d) rfl (XT.ll_gt_f hc) k)) (qF hc)
theorem own_icmp_le (X : own_Cx Z p l e R s m args below meth c n0 own bytes maxL nm ret T h cells slots) {x y : Int32} {o : Int} {pcT pcF : Nat} (d : decode bytes pc = .ok (.if_icmp .le o, 3)) (ho : 0 ≤ (pc : Int) + o) (hT : ((pc : Int) + o).toNat = pcT) (hF : pc + 3 = pcF)
    (qT : (¬ (y < x)) → own_Fin p e below G (T.setTop (mkF m pcT L (st)))) (qF : (y < x) → own_Fin p e below G (T.setTop (mkF m pcF L (st)))) : own_Fin p e below G (T.setTop (mkF m pc L ((.int y) :: (.int x) :: st))) := by
  obtain ⟨locs, X, N, eT, hx, hZ, hown, hby, hml, hnm, hret, hlk⟩ := X
  subst hF
  by_cases hc : y < x
  · exact own_go (fun t k => XS.icmpNo X.here hx rfl (hb hby d) rfl (XT.ii_le_f hc) k) (qF hc)
  · exact own_go (fun t k => XS.icmpYes X.here hx rfl rfl (hb hby d) rfl (XT.ii_le_t hc) ho hT k) (qT hc)
theorem own_if_le (X : own_Cx Z p l e R s m args below meth c n0 own bytes maxL nm ret T h cells slots) {x : Int32} {o : Int} {pcT pcF : Nat} (d : decode bytes pc = .ok (.ifCond .le o, 3)) (ho : 0 ≤ (pc : Int) + o) (hT : ((pc : Int) + o).toNat = pcT) (hF : pc + 3 = pcF)
    (qT : (¬ (0 < x)) → own_Fin p e below G (T.setTop (mkF m pcT L (st)))) (qF : (0 < x) → own_Fin p e below G (T.setTop (mkF m pcF L (st)))) : own_Fin p e below G (T.setTop (mkF m pc L ((.int x) :: st))) := by
  obtain ⟨locs, X, N, eT, hx, hZ, hown, hby, hml, hnm, hret, hlk⟩ := X
  subst hF
  by_cases hc : 0 < x
  · exact own_go (fun t k => XS.ifNo X.here hx rfl (hb hby d) rfl (XT.i0_le_f hc) k) (qF hc)
  · exact own_go (fun t k => XS.ifYes X.here hx rfl rfl (hb hby d) rfl (XT.i0_le_t hc) ho hT k) (qT hc)
theorem own_lcmp_le (X : own_Cx Z p l e R s m args below meth c n0 own bytes maxL nm ret T h cells slots) {x y : Int64} {pc1 : Nat} {o : Int} {pcT pcF : Nat} (d0 : decode bytes pc = .ok (.lcmp, 1)) (h1 : pc + 1 = pc1) (d : decode bytes pc1 = .ok (.ifCond .le o, 3)) (ho : 0 ≤ (pc1 : Int) + o) (hT : ((pc1 : Int) + o).toNat = pcT) (hF : pc1 + 3 = pcF)
    (qT : (¬ (y < x)) → own_Fin p e below G (T.setTop (mkF m pcT L (st)))) (qF : (y < x) → own_Fin p e below G (T.setTop (mkF m pcF L (st)))) : own_Fin p e below G (T.setTop (mkF m pc L ((.long y) :: (.long x) :: st))) := by
  obtain ⟨locs, X, N, eT, hx, hZ, hown, hby, hml, hnm, hret, hlk⟩ := X
  subst h1
  subst hF
  by_cases hc : y < x
  · exact own_go (fun t k => XT.lcmp X.here hx rfl (hb hby d0) rfl (XS.ifNo X.here hx rfl (hb hby d) rfl (XT.ll_le_f hc) k)) (qF hc)
  · exact own_go (fun t k => XT.lcmp X.here hx rfl (hb hby d0) rfl (XS.ifYes X.here hx rfl rfl (hb hby d) rfl (XT.ll_le_t hc) ho hT k)) (qT hc)
theorem own_acmp_eq (X : own_Cx Z p l e R s m args below meth c n0 own bytes maxL nm ret T h cells slots) {x y : Value} {o : Int} {pcT pcF : Nat} (d : decode bytes pc = .ok (.if_acmp .eq o, 3)) (hx1 : x.isRef = true) (hy1 : y.isRef = true) (ho : 0 ≤ (pc : Int) + o) (hT : ((pc : Int) + o).toNat = pcT) (hF : pc + 3 = pcF)
    (qT : (x = y) → own_Fin p e below G (T.setTop (mkF m pcT L (st)))) (qF : (¬ (x = y)) → own_Fin p e below G (T.setTop (mkF m pcF L (st)))) : own_Fin p e below G (T.setTop (mkF m pc L (y :: x :: st))) := by
  obtain ⟨locs, X, N, eT, hx, hZ, hown, hby, hml, hnm, hret, hlk⟩ := X
  subst hF
  by_cases hc : x = y
  · exact own_go (fun t k => XT.acmpYes X.here hx rfl rfl (hb hby d) rfl hx1 hy1 (XT.aa_eq_t hc) ho hT k) (qT hc)
  · exact own_go (fun t k => XT.acmpNo X.here hx rfl (hb hby d) rfl hx1 hy1 (XT.aa_eq_f hc) k) (qF hc)
theorem own_acmp_ne (X : own_Cx Z p l e R s m args below meth c n0 own bytes maxL nm ret T h cells slots) {x y : Value} {o : Int} {pcT pcF : Nat} (d : decode bytes pc = .ok (.if_acmp .ne o, 3)) (hx1 : x.isRef = true) (hy1 : y.isRef = true) (ho : 0 ≤ (pc : Int) + o) (hT : ((pc : Int) + o).toNat = pcT) (hF : pc + 3 = pcF)
    (qT : (¬ (x = y)) → own_Fin p e below G (T.setTop (mkF m pcT L (st)))) (qF : (x = y) → own_Fin p e below G (T.setTop (mkF m pcF L (st)))) : own_Fin p e below G (T.setTop (mkF m pc L (y :: x :: st))) := by
  obtain ⟨locs, X, N, eT, hx, hZ, hown, hby, hml, hnm, hret, hlk⟩ := X
  subst hF
  by_cases hc : x = y
  · exact own_go (fun t k => XT.acmpNo X.here hx rfl (hb hby d) rfl hx1 hy1 (XT.aa_ne_f hc) k) (qF hc)
  · exact own_go (fun t k => XT.acmpYes X.here hx rfl rfl (hb hby d) rfl hx1 hy1 (XT.aa_ne_t hc) ho hT k) (qT hc)
theorem own_nonnullN (X : own_Cx Z p l e R s m args below meth c n0 own bytes maxL nm ret T h cells slots) {o : Int} (d : decode bytes pc = .ok (.ifnonnull o, 3)) (hp : pc + 3 = pc') 
    (q : own_Fin p e below G (T.setTop (mkF m pc' L (st)))) : own_Fin p e below G (T.setTop (mkF m pc L (.null :: st))) := by
  obtain ⟨locs, X, N, eT, hx, hZ, hown, hby, hml, hnm, hret, hlk⟩ := X
  subst hp
  exact own_go (fun t k => XT.nonnullNo X.here hx rfl (hb hby d) rfl rfl k) q
theorem own_more (X : own_Cx Z p l e R s m args below meth c n0 own bytes maxL nm ret T h cells slots) {cells' slots' : Nat} (h1 : cells ≤ cells') (h2 : slots ≤ slots') : own_Cx Z p l e R s m args below meth c n0 own bytes maxL nm ret T h cells' slots' := by
  obtain ⟨locs, X, N, eT, hx, hZ, hown, hby, hml, hnm, hret, hlk⟩ := X
  exact ⟨locs, X.more h1 h2, N, eT, hx, hZ, hown, hby, hml, hnm, hret, hlk⟩
theorem own_nar {ty : FieldType} {z : Value} (h : ty.isReference = true) : narrow ty z = z := by cases ty <;> first | rfl | (cases h; done)
theorem own_retI (X : own_Cx Z p l e R s m args below meth c n0 own bytes maxL nm ret T h cells slots) {z : Int32} {q : Option Value → Heap → Prop} {k n : Nat} (hr0 : ret = some .int) (d : decode bytes pc = .ok (.ireturn, 1)) (hq : q (some (.int z)) h) (hc : cells ≤ k) (hs : slots ≤ n) :
    own_Fin p e below (own_End s n0 q k n) (T.setTop (mkF m pc L ((.int z) :: st))) := by
  obtain ⟨locs, X, N, eT, hx, hZ, hown, hby, hml, hnm, hret, hlk⟩ := X
  obtain ⟨fs, hr, hrun, hended, hW, hsame⟩ := X.leave (v := some (.int z)) (fun h => by first | rfl | (rw [hret, hr0] at h; cases h)) hlk
  refine ⟨_, _, retOut X hx (hret.trans hr0) rfl (Or.inl ⟨rfl, Or.inl rfl, _, rfl⟩) (hb hby d) hr, hrun, hended, _, _, rfl, ⟨?_, N⟩, ⟨_, rfl⟩, hW, hsame.mono hc hs⟩
  show q _ T.heap
  rw [eT]
  exact hq
theorem own_retJ (X : own_Cx Z p l e R s m args below meth c n0 own bytes maxL nm ret T h cells slots) {z : Int64} {q : Option Value → Heap → Prop} {k n : Nat} (hr0 : ret = some .long) (d : decode bytes pc = .ok (.lreturn, 1)) (hq : q (some (.long z)) h) (hc : cells ≤ k) (hs : slots ≤ n) :
    own_Fin p e below (own_End s n0 q k n) (T.setTop (mkF m pc L ((.long z) :: st))) := by
  obtain ⟨locs, X, N, eT, hx, hZ, hown, hby, hml, hnm, hret, hlk⟩ := X
  obtain ⟨fs, hr, hrun, hended, hW, hsame⟩ := X.leave (v := some (.long z)) (fun h => by first | rfl | (rw [hret, hr0] at h; cases h)) hlk
  refine ⟨_, _, retOut X hx (hret.trans hr0) rfl (Or.inr (Or.inl ⟨rfl, rfl, _, rfl⟩)) (hb hby d) hr, hrun, hended, _, _, rfl, ⟨?_, N⟩, ⟨_, rfl⟩, hW, hsame.mono hc hs⟩
  show q _ T.heap
  rw [eT]
  exact hq
theorem own_retZ (X : own_Cx Z p l e R s m args below meth c n0 own bytes maxL nm ret T h cells slots) {z : Int32} {q : Option Value → Heap → Prop} {k n : Nat} (hr0 : ret = some .boolean) (d : decode bytes pc = .ok (.ireturn, 1)) (hz : narrow .boolean (.int z) = .int z) (hq : q (some (.int z)) h) (hc : cells ≤ k) (hs : slots ≤ n) :
    own_Fin p e below (own_End s n0 q k n) (T.setTop (mkF m pc L ((.int z) :: st))) := by
  obtain ⟨locs, X, N, eT, hx, hZ, hown, hby, hml, hnm, hret, hlk⟩ := X
  obtain ⟨fs, hr, hrun, hended, hW, hsame⟩ := X.leave (v := some (.int z)) (fun h => by first | rfl | (rw [hret, hr0] at h; cases h)) hlk
  refine ⟨_, _, retOut X hx (hret.trans hr0) hz (Or.inl ⟨rfl, Or.inr (Or.inl rfl), _, rfl⟩) (hb hby d) hr, hrun, hended, _, _, rfl, ⟨?_, N⟩, ⟨_, rfl⟩, hW, hsame.mono hc hs⟩
  show q _ T.heap
  rw [eT]
  exact hq
theorem own_retC (X : own_Cx Z p l e R s m args below meth c n0 own bytes maxL nm ret T h cells slots) {z : Int32} {q : Option Value → Heap → Prop} {k n : Nat} (hr0 : ret = some .char) (d : decode bytes pc = .ok (.ireturn, 1)) (hz : narrow .char (.int z) = .int z) (hq : q (some (.int z)) h) (hc : cells ≤ k) (hs : slots ≤ n) :
    own_Fin p e below (own_End s n0 q k n) (T.setTop (mkF m pc L ((.int z) :: st))) := by
  obtain ⟨locs, X, N, eT, hx, hZ, hown, hby, hml, hnm, hret, hlk⟩ := X
  obtain ⟨fs, hr, hrun, hended, hW, hsame⟩ := X.leave (v := some (.int z)) (fun h => by first | rfl | (rw [hret, hr0] at h; cases h)) hlk
  refine ⟨_, _, retOut X hx (hret.trans hr0) hz (Or.inl ⟨rfl, Or.inr (Or.inr (Or.inr (Or.inl rfl))), _, rfl⟩) (hb hby d) hr, hrun, hended, _, _, rfl, ⟨?_, N⟩, ⟨_, rfl⟩, hW, hsame.mono hc hs⟩
  show q _ T.heap
  rw [eT]
  exact hq
theorem own_retA (X : own_Cx Z p l e R s m args below meth c n0 own bytes maxL nm ret T h cells slots) {z : Value} {ty : FieldType} {q : Option Value → Heap → Prop} {k n : Nat} (hr0 : ret = some ty) (hty : ty.isReference = true) (hz : z.isRef = true) (d : decode bytes pc = .ok (.areturn, 1)) (hq : q (some z) h) (hc : cells ≤ k) (hs : slots ≤ n) :
    own_Fin p e below (own_End s n0 q k n) (T.setTop (mkF m pc L (z :: st))) := by
  obtain ⟨locs, X, N, eT, hx, hZ, hown, hby, hml, hnm, hret, hlk⟩ := X
  obtain ⟨fs, hr, hrun, hended, hW, hsame⟩ := X.leave (v := some z) (fun h => by first | rfl | (rw [hret, hr0] at h; cases h)) hlk
  refine ⟨_, _, retOut X hx (hret.trans hr0) (own_nar hty) (Or.inr (Or.inr (Or.inr (Or.inr ⟨rfl, hty, hz⟩)))) (hb hby d) hr, hrun, hended, _, _, rfl, ⟨?_, N⟩, ⟨_, rfl⟩, hW, hsame.mono hc hs⟩
  show q _ T.heap
  rw [eT]
  exact hq
theorem own_retV (X : own_Cx Z p l e R s m args below meth c n0 own bytes maxL nm ret T h cells slots)  {q : Option Value → Heap → Prop} {k n : Nat} (hr0 : ret = none) (d : decode bytes pc = .ok (.return_, 1)) (hq : q (none) h) (hc : cells ≤ k) (hs : slots ≤ n) :
    own_Fin p e below (own_End s n0 q k n) (T.setTop (mkF m pc L ([]))) := by
  obtain ⟨locs, X, N, eT, hx, hZ, hown, hby, hml, hnm, hret, hlk⟩ := X
  obtain ⟨fs, hr, hrun, hended, hW, hsame⟩ := X.leave (v := none) (fun h => by first | rfl | (rw [hret, hr0] at h; cases h)) hlk
  refine ⟨_, _, X.returnOut hx (hret.trans hr0) (hb hby d) hr, hrun, hended, _, _, rfl, ⟨?_, N⟩, ⟨_, rfl⟩, hW, hsame.mono hc hs⟩
  show q _ T.heap
  rw [eT]
  exact hq
theorem own_getf (X : own_Cx Z p l e R s m args below meth c n0 own bytes maxL nm ret T h cells slots) {R0 n d0 : String} {i : Nat} {a : Addr} {v : Value} (w : (Jvm.Cond.fieldLink own i R0 n d0).before a0 Z = true) (F : Fld Z h a R0 n d0 v) (d : decode bytes pc = .ok (.getfield i, 3)) (hp : pc + 3 = pc')
    (q : ∀ T', own_Cx Z p l e R s m args below meth c n0 own bytes maxL nm ret T' h cells slots → own_Fin p e below G (T'.setTop (mkF m pc' L (v :: st)))) : own_Fin p e below G (T.setTop (mkF m pc L ((.ref a) :: st))) := by
  obtain ⟨locs, X, N, eT, hx, hZ, hown, hby, hml, hnm, hret, hlk⟩ := X
  subst hp
  obtain ⟨T1, X1, e1, st1⟩ := getF X hx hZ hown (host := "") (Or.inl w) Via.refl eT F (g := mkF m pc L ((.ref a) :: st)) rfl rfl (hb hby d)
  exact own_go st1 (q T1 ⟨locs, X1, N, e1, hx, hZ, hown, hby, hml, hnm, hret, hlk⟩)
theorem own_gets (X : own_Cx Z p l e R s m args below meth c n0 own bytes maxL nm ret T h cells slots) {R0 n d0 : String} {i : Nat} {v : Value} (w : (Jvm.Cond.fieldLink own i R0 n d0).before a0 Z = true) (F : Sta Z h R0 n d0 v) (d : decode bytes pc = .ok (.getstatic i, 3)) (hp : pc + 3 = pc')
    (q : ∀ T', own_Cx Z p l e R s m args below meth c n0 own bytes maxL nm ret T' h cells slots → own_Fin p e below G (T'.setTop (mkF m pc' L (v :: st)))) : own_Fin p e below G (T.setTop (mkF m pc L (st))) := by
  obtain ⟨locs, X, N, eT, hx, hZ, hown, hby, hml, hnm, hret, hlk⟩ := X
  subst hp
  obtain ⟨T1, X1, e1, st1⟩ := getS X hx hZ hown (host := "") w Via.refl eT F (g := mkF m pc L st) rfl (hb hby d)
  exact own_go st1 (q T1 ⟨locs, X1, N, e1, hx, hZ, hown, hby, hml, hnm, hret, hlk⟩)
theorem own_putf (X : own_Cx Z p l e R s m args below meth c n0 own bytes maxL nm ret T h cells slots) {R0 n d0 C : String} {i kk : Nat} {a : Addr} {v old : Value} {ty : FieldType} (w : (Jvm.Cond.fieldLink own i R0 n d0).before a0 Z = true) (F : Fld Z h a R0 n d0 old) (E : Exa Z h a C) (Ly : (Jvm.Cond.lays C R0 n d0).before a0 Z = true ∨ ((Jvm.Cond.laysFinal C R0 n d0).before a0 Z = true ∧ own = R0 ∧ nm = "<init>")) (wi : (Jvm.Cond.instantiable C kk).before a0 Z = true) (hty : parseFieldDescriptor d0 = some ty) (hn : narrow ty v = v) (hf : fits ty v = true) (hge : n0 ≤ a) (d : decode bytes pc = .ok (.putfield i, 3)) (hp : pc + 3 = pc')
    (q : ∀ T' h', own_Cx Z p l e R s m args below meth c n0 own bytes maxL nm ret T' h' cells slots → Wr h h' a (Jvm.RoadKit.slotOf Z R0 n d0) v → own_Fin p e below G (T'.setTop (mkF m pc' L (st)))) : own_Fin p e below G (T.setTop (mkF m pc L (v :: (.ref a) :: st))) := by
  obtain ⟨locs, X, N, eT, hx, hZ, hown, hby, hml, hnm, hret, hlk⟩ := X
  subst hp
  have Ly' : (Jvm.Cond.lays C R0 n d0).before a0 Z = true ∨ ((Jvm.Cond.laysFinal C R0 n d0).before a0 Z = true ∧ own = R0 ∧ meth.name = "<init>") := by
    rcases Ly with q | ⟨q1, q2, q3⟩
    · exact Or.inl q
    · exact Or.inr ⟨q1, q2, hnm.trans q3⟩
  obtain ⟨T1, h1, X1, e1, W1, st1⟩ := putF X hx hZ hown (host := "") (Or.inl w) Via.refl eT F E Ly' wi hty hn hf (g := mkF m pc L (v :: (.ref a) :: st)) rfl rfl (hb hby d)
  exact own_go st1 (q T1 h1 ⟨_, X1, Fr.snoc X1 N hge, e1, hx, hZ, hown, hby, hml, hnm, hret, hlk⟩ W1)
theorem own_new (X : own_Cx Z p l e R s m args below meth c n0 own bytes maxL nm ret T h cells slots) {C : String} {i n : Nat} (w : (Jvm.Cond.classLink own i C).before a0 Z = true) (wi : (Jvm.Cond.instantiable C n).before a0 Z = true) (wz : (Jvm.Cond.initialized C).before a0 Z = true) (d : decode bytes pc = .ok (.new i, 3)) (hp : pc + 3 = pc') {cells' slots' : Nat} (ec : cells + 1 = cells') (es : slots + n = slots') (hc : cells' ≤ R.cells) (hl : slots' ≤ R.slots)
    (q : ∀ T' h' a, a = h.size → own_Cx Z p l e R s m args below meth c n0 own bytes maxL nm ret T' h' cells' slots' → Ext h h' → Exa Z h' a C → (∀ {O nm d : String} {ty : FieldType}, Laid Z a0 C O nm d → parseFieldDescriptor d = some ty → Fld Z h' a O nm d (defaultValue ty)) → own_Fin p e below G (T'.setTop (mkF m pc' L ((.ref a) :: st)))) : own_Fin p e below G (T.setTop (mkF m pc L (st))) := by
  obtain ⟨locs, X, N, eT, hx, hZ, hown, hby, hml, hnm, hret, hlk⟩ := X
  subst hp ec es
  obtain ⟨T1, h1, X1, e1, E1, A1, D1, -, st1⟩ := newO X hx hZ hown w wi wz eT (g := mkF m pc L st) rfl (hb hby d) hc hl
  exact own_go st1 (q T1 h1 _ rfl ⟨_, X1, N, e1, hx, hZ, hown, hby, hml, hnm, hret, hlk⟩ E1 A1 D1)
theorem own_newarray (X : own_Cx Z p l e R s m args below meth c n0 own bytes maxL nm ret T h cells slots) {aty : ArrayType} (w : (Jvm.Cond.arrayClass (newarray.typeOf aty)).before a0 Z = true) {n : Int32} (cap : Nat) (hn : ¬ n < 0) (hcap : n.toNatClampNeg ≤ cap) (hb8 : cap * 8 ≤ 536870912) (d : decode bytes pc = .ok (.newarray aty, 2)) (hp : pc + 2 = pc') {cells' slots' : Nat} (ec : cells + 1 = cells') (es : slots + cap = slots') (hc : cells' ≤ R.cells) (hl : slots' ≤ R.slots)
    (q : ∀ T' h' cA a, a = h.size → own_Cx Z p l e R s m args below meth c n0 own bytes maxL nm ret T' h' cells' slots' → Ext h h' → Arr Z h' a (newA cA (newarray.typeOf aty) n) (newarray.typeOf aty) → own_Fin p e below G (T'.setTop (mkF m pc' L ((.ref a) :: st)))) : own_Fin p e below G (T.setTop (mkF m pc L ((.int n) :: st))) := by
  obtain ⟨locs, X, N, eT, hx, hZ, hown, hby, hml, hnm, hret, hlk⟩ := X
  subst hp ec es
  obtain ⟨T1, h1, cA, X1, e1, E1, A1, st1⟩ := newP X hx hZ w eT (g := mkF m pc L ((.int n) :: st)) rfl (hb hby d) rfl hn hcap hb8 hc hl
  exact own_go st1 (q T1 h1 cA _ rfl ⟨_, X1, N, e1, hx, hZ, hown, hby, hml, hnm, hret, hlk⟩ E1 A1)
theorem own_anewarray (X : own_Cx Z p l e R s m args below meth c n0 own bytes maxL nm ret T h cells slots) {C : String} {i : Nat} (w : (Jvm.Cond.classLink own i C).before a0 Z = true) (w2 : (Jvm.Cond.arrayOver (.object C)).before a0 Z = true) {n : Int32} (cap : Nat) (hn : ¬ n < 0) (hcap : n.toNatClampNeg ≤ cap) (hb8 : cap * 8 ≤ 536870912) (d : decode bytes pc = .ok (.anewarray i, 3)) (hp : pc + 3 = pc') {cells' slots' : Nat} (ec : cells + 1 = cells') (es : slots + cap = slots') (hc : cells' ≤ R.cells) (hl : slots' ≤ R.slots)
    (q : ∀ T' h' cA a, a = h.size → own_Cx Z p l e R s m args below meth c n0 own bytes maxL nm ret T' h' cells' slots' → Ext h h' → Arr Z h' a (newA cA (.object C) n) (.object C) → own_Fin p e below G (T'.setTop (mkF m pc' L ((.ref a) :: st)))) : own_Fin p e below G (T.setTop (mkF m pc L ((.int n) :: st))) := by
  obtain ⟨locs, X, N, eT, hx, hZ, hown, hby, hml, hnm, hret, hlk⟩ := X
  subst hp ec es
  obtain ⟨T1, h1, cA, X1, e1, E1, A1, -, st1⟩ := newR X hx hZ hown w w2 eT (g := mkF m pc L ((.int n) :: st)) rfl (hb hby d) rfl hn hcap hb8 hc hl
  exact own_go st1 (q T1 h1 cA _ rfl ⟨_, X1, N, e1, hx, hZ, hown, hby, hml, hnm, hret, hlk⟩ E1 A1)
theorem own_iaload (X : own_Cx Z p l e R s m args below meth c n0 own bytes maxL nm ret T h cells slots) {a : Addr} {cl : Cell} {j : Int32} {v : Value} (A : Arr Z h a cl .int) (hj : ¬ (j < 0 ∨ cl.slots.size ≤ j.toNatClampNeg)) (hv : cl.slots[j.toNatClampNeg]? = some v) (d : decode bytes pc = .ok (.iaload, 1)) (hp : pc + 1 = pc')
    (q : own_Fin p e below G (T.setTop (mkF m pc' L (v :: st)))) : own_Fin p e below G (T.setTop (mkF m pc L ((.int j) :: (.ref a) :: st))) := by
  obtain ⟨locs, X, N, eT, hx, hZ, hown, hby, hml, hnm, hret, hlk⟩ := X
  subst hp
  exact own_go (fun t k => X.iaload hx (by rw [eT]; exact A.1) (State.isArrayOf_alike hZ.alike A.2.1) A.2.2 hj hv (g := mkF m pc L ((.int j) :: (.ref a) :: st)) rfl rfl (hb hby d) t k) q
theorem own_laload (X : own_Cx Z p l e R s m args below meth c n0 own bytes maxL nm ret T h cells slots) {a : Addr} {cl : Cell} {j : Int32} {v : Value} (A : Arr Z h a cl .long) (hj : ¬ (j < 0 ∨ cl.slots.size ≤ j.toNatClampNeg)) (hv : cl.slots[j.toNatClampNeg]? = some v) (d : decode bytes pc = .ok (.laload, 1)) (hp : pc + 1 = pc')
    (q : own_Fin p e below G (T.setTop (mkF m pc' L (v :: st)))) : own_Fin p e below G (T.setTop (mkF m pc L ((.int j) :: (.ref a) :: st))) := by
  obtain ⟨locs, X, N, eT, hx, hZ, hown, hby, hml, hnm, hret, hlk⟩ := X
  subst hp
  exact own_go (fun t k => X.laload hx (by rw [eT]; exact A.1) (State.isArrayOf_alike hZ.alike A.2.1) A.2.2 hj hv (g := mkF m pc L ((.int j) :: (.ref a) :: st)) rfl rfl (hb hby d) t k) q
theorem own_baload (X : own_Cx Z p l e R s m args below meth c n0 own bytes maxL nm ret T h cells slots) {a : Addr} {cl : Cell} {j : Int32} {v : Value} (A : Arr Z h a cl .byte) (hj : ¬ (j < 0 ∨ cl.slots.size ≤ j.toNatClampNeg)) (hv : cl.slots[j.toNatClampNeg]? = some v) (d : decode bytes pc = .ok (.baload, 1)) (hp : pc + 1 = pc')
    (q : own_Fin p e below G (T.setTop (mkF m pc' L (v :: st)))) : own_Fin p e below G (T.setTop (mkF m pc L ((.int j) :: (.ref a) :: st))) := by
  obtain ⟨locs, X, N, eT, hx, hZ, hown, hby, hml, hnm, hret, hlk⟩ := X
  subst hp
  exact own_go (fun t k => X.baloadBytes hx (by rw [eT]; exact A.1) (State.isArrayOf_alike hZ.alike A.2.1) A.2.2 hj hv (g := mkF m pc L ((.int j) :: (.ref a) :: st)) rfl rfl (hb hby d) t k) q
theorem own_arraylength (X : own_Cx Z p l e R s m args below meth c n0 own bytes maxL nm ret T h cells slots) {a : Addr} {cl : Cell} {ty : FieldType} {z : Int32} (A : Arr Z h a cl ty) (hz : cl.slots.size.toInt32 = z) (d : decode bytes pc = .ok (.arraylength, 1)) (hp : pc + 1 = pc')
    (q : own_Fin p e below G (T.setTop (mkF m pc' L ((.int z) :: st)))) : own_Fin p e below G (T.setTop (mkF m pc L ((.ref a) :: st))) := by
  obtain ⟨locs, X, N, eT, hx, hZ, hown, hby, hml, hnm, hret, hlk⟩ := X
  subst hp hz
  exact own_go (fun t k => X.arraylength hx (by rw [eT]; exact A.1) (State.isArrayOf_alike hZ.alike A.2.1) (g := mkF m pc L ((.ref a) :: st)) rfl rfl (hb hby d) t k) q
theorem own_iastore (X : own_Cx Z p l e R s m args below meth c n0 own bytes maxL nm ret T h cells slots) {a : Addr} {cl : Cell} {j : Int32} {x : Int32} (A : Arr Z h a cl .int) (hj : ¬ (j < 0 ∨ cl.slots.size ≤ j.toNatClampNeg)) (hge : n0 ≤ a) (d : decode bytes pc = .ok (.iastore, 1)) (hp : pc + 1 = pc')
    (q : ∀ T' h', own_Cx Z p l e R s m args below meth c n0 own bytes maxL nm ret T' h' cells slots → Wr h h' a j.toNatClampNeg (.int x) → own_Fin p e below G (T'.setTop (mkF m pc' L (st)))) : own_Fin p e below G (T.setTop (mkF m pc L ((.int x) :: (.int j) :: (.ref a) :: st))) := by
  obtain ⟨locs, X, N, eT, hx, hZ, hown, hby, hml, hnm, hret, hlk⟩ := X
  subst hp
  obtain ⟨T1, h1, X1, e1, W1, st1⟩ := stI X hx hZ eT A hj (g := mkF m pc L ((.int x) :: (.int j) :: (.ref a) :: st)) rfl rfl (hb hby d)
  exact own_go st1 (q T1 h1 ⟨_, X1, Fr.snoc X1 N hge, e1, hx, hZ, hown, hby, hml, hnm, hret, hlk⟩ W1)
theorem own_lastore (X : own_Cx Z p l e R s m args below meth c n0 own bytes maxL nm ret T h cells slots) {a : Addr} {cl : Cell} {j : Int32} {x : Int64} (A : Arr Z h a cl .long) (hj : ¬ (j < 0 ∨ cl.slots.size ≤ j.toNatClampNeg)) (hge : n0 ≤ a) (d : decode bytes pc = .ok (.lastore, 1)) (hp : pc + 1 = pc')
    (q : ∀ T' h', own_Cx Z p l e R s m args below meth c n0 own bytes maxL nm ret T' h' cells slots → Wr h h' a j.toNatClampNeg (.long x) → own_Fin p e below G (T'.setTop (mkF m pc' L (st)))) : own_Fin p e below G (T.setTop (mkF m pc L ((.long x) :: (.int j) :: (.ref a) :: st))) := by
  obtain ⟨locs, X, N, eT, hx, hZ, hown, hby, hml, hnm, hret, hlk⟩ := X
  subst hp
  obtain ⟨T1, h1, X1, e1, W1, st1⟩ := stJ X hx hZ eT A hj (g := mkF m pc L ((.long x) :: (.int j) :: (.ref a) :: st)) rfl rfl (hb hby d)
  exact own_go st1 (q T1 h1 ⟨_, X1, Fr.snoc X1 N hge, e1, hx, hZ, hown, hby, hml, hnm, hret, hlk⟩ W1)
theorem own_initO (X : own_Cx Z p l e R s m args below meth c n0 own bytes maxL nm ret T h cells slots) {i : Nat} {a : Addr} (w1 : (Jvm.Cond.methodLink own i Lib.objectInit).before a0 Z = true) (w2 : (Jvm.Cond.instanceMethod Lib.objectInit).before a0 Z = true) (w3 : (Jvm.Cond.code Lib.objectInit ⟨#[0xb1]⟩ 1 none).before a0 Z = true) (d : decode bytes pc = .ok (.invokespecial i, 3)) (hp : pc + 3 = pc') (hsz : L.size = maxL) (hf : 1 ≤ R.frames) {W : Nat} (hW : (st.map fun v => v.category).sum = W) (hl : W + 12 ≤ R.locals)
    (q : ∀ T', own_Cx Z p l e R s m args below meth c n0 own bytes maxL nm ret T' h cells slots → own_Fin p e below G (T'.setTop (mkF m pc' L (st)))) : own_Fin p e below G (T.setTop (mkF m pc L ((.ref a) :: st))) := by
  obtain ⟨locs, X, N, eT, hx, hZ, hown, hby, hml, hnm, hret, hlk⟩ := X
  subst hp
  obtain ⟨T1, X1, e1, st1⟩ := initO X hx hZ hown w1 w2 w3 eT (g := mkF m pc L ((.ref a) :: st)) rfl (hsz.trans hml.symm) rfl (hb hby d) hf (W := W) (by show 2 * 0 + _ ≤ _; omega) hl
  exact own_go st1 (q T1 ⟨locs, X1, N, e1, hx, hZ, hown, hby, hml, hnm, hret, hlk⟩)
theorem own_callS (X : own_Cx Z p l e R s m args below meth c n0 own bytes maxL nm ret T h cells slots) {y : MethodName} {yb : ByteArray} {ymax : Nat} {yr : Option FieldType} {i : Nat} (w1 : (Jvm.Cond.methodLink own i y).before a0 Z = true) (w2 : (Jvm.Cond.static y).before a0 Z = true) (w3 : (Jvm.Cond.initialized y.cls).before a0 Z = true) (w4 : (Jvm.Cond.code y yb ymax yr).before a0 Z = true) (hy : y.cls ≠ "java/lang/invoke/MethodHandle" ∧ y.cls ≠ "java/lang/invoke/VarHandle")
    {rm : Room} {argsL rest : List Value} {q : Option Value → Heap → Prop} (hM : own_Met l Z y yb ymax yr [] rm argsL.toArray h n0 q) {ps : List FieldType} {r : Option FieldType} (pd : parseMethodDescriptor y.desc = some ⟨ps, r⟩) (hlen : argsL.length = ps.length) (d : decode bytes pc = .ok (.invokestatic i, 3)) (hp : pc + 3 = pc') (hsz : L.size = maxL) (hst : st = argsL.reverse ++ rest) {W : Nat} (hW : (rest.map fun v => v.category).sum = W) (hfr : rm.frames + 1 ≤ R.frames) (hlo : W + (ymax + 11) + rm.locals ≤ R.locals) {cells' slots' : Nat} (ec : cells + rm.cells = cells') (es : slots + rm.slots = slots') (hc : cells' ≤ R.cells) (hs : slots' ≤ R.slots)
    (k : ∀ v T' h', own_Cx Z p l e R s m args below meth c n0 own bytes maxL nm ret T' h' cells' slots' → q v h' → own_Fin p e below G (T'.setTop (mkF m pc' L (v.toList ++ rest)))) : own_Fin p e below G (T.setTop (mkF m pc L st)) := by
  obtain ⟨locs, X, N, eT, hx, hZ, hown, hby, hml, hnm, hret, hlk⟩ := X
  subst hp ec es
  obtain ⟨v, _, ⟨T1, L1, k1, n1⟩, -, X1, ⟨Lc, hQ, l1, y1, z1⟩, st1⟩ := Jvm.LawKit.callS X hx (y := y) hown (mvT hZ w1) (mvT hZ w2) (mvT hZ w3) (mvT hZ w4) hy (backOf (W := W) (Q := fun v h L => q v h ∧ Fr n0 L) hM hZ w4 w3 hfr hlo) (g := mkF m pc L st) rfl (hsz.trans hml.symm) (argsL := argsL) (rest := rest) (lenOf pd hlen) hst (by show 2 * 0 + _ ≤ _; omega) (hb hby d) (fun _ _ => ⟨rfl, eT, hc, hs⟩)
  dsimp only [Pt.U, Pt.locs, Pt.cells, Pt.slots] at X1 l1 y1 z1 st1 hQ
  subst l1 y1 z1
  exact own_go st1 (k v T1 _ ⟨_, X1, Fr.app N hQ.2, rfl, hx, hZ, hown, hby, hml, hnm, hret, hlk⟩ hQ.1)
theorem own_callI (X : own_Cx Z p l e R s m args below meth c n0 own bytes maxL nm ret T h cells slots) {y : MethodName} {yb : ByteArray} {ymax : Nat} {i : Nat} (hi : y.name = "<init>") (w1 : (Jvm.Cond.methodLink own i y).before a0 Z = true) (w2 : (Jvm.Cond.instanceMethod y).before a0 Z = true) (w3 : (Jvm.Cond.initialized y.cls).before a0 Z = true) (w4 : (Jvm.Cond.code y yb ymax none).before a0 Z = true) (hy : y.cls ≠ "java/lang/invoke/MethodHandle" ∧ y.cls ≠ "java/lang/invoke/VarHandle")
    {rm : Room} {a : Addr} {argsL rest : List Value} {q : Option Value → Heap → Prop} (hM : own_Met l Z y yb ymax none [] rm (Value.ref a :: argsL).toArray h n0 q) {ps : List FieldType} {r : Option FieldType} (pd : parseMethodDescriptor y.desc = some ⟨ps, r⟩) (hlen : argsL.length = ps.length) (d : decode bytes pc = .ok (.invokespecial i, 3)) (hp : pc + 3 = pc') (hsz : L.size = maxL) (hst : st = argsL.reverse ++ .ref a :: rest) {W : Nat} (hW : (rest.map fun v => v.category).sum = W) (hfr : rm.frames + 1 ≤ R.frames) (hlo : W + (ymax + 11) + rm.locals ≤ R.locals) {cells' slots' : Nat} (ec : cells + rm.cells = cells') (es : slots + rm.slots = slots') (hc : cells' ≤ R.cells) (hs : slots' ≤ R.slots)
    (k : ∀ v T' h', own_Cx Z p l e R s m args below meth c n0 own bytes maxL nm ret T' h' cells' slots' → q v h' → own_Fin p e below G (T'.setTop (mkF m pc' L (v.toList ++ rest)))) : own_Fin p e below G (T.setTop (mkF m pc L st)) := by
  obtain ⟨locs, X, N, eT, hx, hZ, hown, hby, hml, hnm, hret, hlk⟩ := X
  subst hp ec es
  obtain ⟨v, _, ⟨T1, L1, k1, n1⟩, -, X1, ⟨Lc, hQ, l1, y1, z1⟩, st1⟩ := X.specialBack hx (y := y) hi hown (mvT hZ w1) (mvT hZ w2) (mvT hZ w4) hy (backOf (W := W) (Q := fun v h L => q v h ∧ Fr n0 L) hM hZ w4 w3 hfr hlo) (g := mkF m pc L st) rfl (hsz.trans hml.symm) (Steps.refl _) (a := a) (argsL := argsL) (rest := rest) (lenOf pd hlen) hst (by show 2 * 0 + _ ≤ _; omega) (hb hby d) (fun _ _ => ⟨rfl, eT, hc, hs⟩)
  dsimp only [Pt.U, Pt.locs, Pt.cells, Pt.slots] at X1 l1 y1 z1 st1 hQ
  subst l1 y1 z1
  exact own_go (fun t k => st1.trans k) (k v T1 _ ⟨_, X1, Fr.app N hQ.2, rfl, hx, hZ, hown, hby, hml, hnm, hret, hlk⟩ hQ.1)
theorem own_callV (X : own_Cx Z p l e R s m args below meth c n0 own bytes maxL nm ret T h cells slots) {y : MethodName} {yb : ByteArray} {ymax : Nat} {yr : Option FieldType} {i : Nat} {C : String} (w1 : (Jvm.Cond.methodLink own i y).before a0 Z = true) (w2 : (Jvm.Cond.declares y).before a0 Z = true) (w5 : (Jvm.Cond.selects C y y).before a0 Z = true) (w6 : (Jvm.Cond.instanceMethod y).before a0 Z = true) (w3 : (Jvm.Cond.initialized y.cls).before a0 Z = true) (w4 : (Jvm.Cond.code y yb ymax yr).before a0 Z = true) (hy : y.cls ≠ "java/lang/invoke/MethodHandle" ∧ y.cls ≠ "java/lang/invoke/VarHandle")
    {rm : Room} {a : Addr} {argsL rest : List Value} {q : Option Value → Heap → Prop} (hM : own_Met l Z y yb ymax yr [] rm (Value.ref a :: argsL).toArray h n0 q) (E : Exa Z h a C) {ps : List FieldType} {r : Option FieldType} (pd : parseMethodDescriptor y.desc = some ⟨ps, r⟩) (hlen : argsL.length = ps.length) (d : decode bytes pc = .ok (.invokevirtual i, 3)) (hp : pc + 3 = pc') (hsz : L.size = maxL) (hst : st = argsL.reverse ++ .ref a :: rest) {W : Nat} (hW : (rest.map fun v => v.category).sum = W) (hfr : rm.frames + 1 ≤ R.frames) (hlo : W + (ymax + 11) + rm.locals ≤ R.locals) {cells' slots' : Nat} (ec : cells + rm.cells = cells') (es : slots + rm.slots = slots') (hc : cells' ≤ R.cells) (hs : slots' ≤ R.slots)
    (k : ∀ v T' h', own_Cx Z p l e R s m args below meth c n0 own bytes maxL nm ret T' h' cells' slots' → q v h' → own_Fin p e below G (T'.setTop (mkF m pc' L (v.toList ++ rest)))) : own_Fin p e below G (T.setTop (mkF m pc L st)) := by
  obtain ⟨locs, X, N, eT, hx, hZ, hown, hby, hml, hnm, hret, hlk⟩ := X
  subst hp ec es
  obtain ⟨cq, kq, qa, qb, qc⟩ := isOf (T := T) hZ eT E
  obtain ⟨v, _, ⟨T1, L1, k1, n1⟩, -, X1, ⟨Lc, hQ, l1, y1, z1⟩, st1⟩ := X.virtualBack hx (y := y) (z := y) hown (mvT hZ w1) (mvT hZ w2) (notFace_of_selects (args := #[]) (mvT hZ w5)) (mvT hZ w5) (mvT hZ w6) hy (backOf (W := W) (Q := fun v h L => q v h ∧ Fr n0 L) hM hZ w4 w3 hfr hlo) qa qc (g := mkF m pc L st) rfl (hsz.trans hml.symm) (Steps.refl _) (argsL := argsL) (rest := rest) (lenOf pd hlen) hst (by show 2 * 0 + _ ≤ _; omega) (hb hby d) (fun _ _ => ⟨rfl, eT, hc, hs⟩)
  dsimp only [Pt.U, Pt.locs, Pt.cells, Pt.slots] at X1 l1 y1 z1 st1 hQ
  subst l1 y1 z1
  exact own_go (fun t k => st1.trans k) (k v T1 _ ⟨_, X1, Fr.app N hQ.2, rfl, hx, hZ, hown, hby, hml, hnm, hret, hlk⟩ hQ.1)
end OwnKit
theorem pd_1 : parseMethodDescriptor "()V" = some ⟨[], none⟩ := by decide +kernel
theorem pd_3 : parseMethodDescriptor "(JJI)V" = some ⟨[.long, .long, .int], none⟩ := by decide +kernel
theorem pd_4 : parseMethodDescriptor "()J" = some ⟨[], some .long⟩ := by decide +kernel
theorem pd_5 : parseMethodDescriptor "()J" = some ⟨[], some .long⟩ := by decide +kernel
theorem pd_6 : parseMethodDescriptor "()I" = some ⟨[], some .int⟩ := by decide +kernel
theorem d1_0 : decode prog_26_method_1_code 0 = .ok (.aload_n 0, 1) := by decide +kernel
theorem d1_1 : decode prog_26_method_1_code 1 = .ok (.invokespecial 1, 3) := by decide +kernel
theorem d1_4 : decode prog_26_method_1_code 4 = .ok (.aload_n 0, 1) := by decide +kernel
theorem d1_5 : decode prog_26_method_1_code 5 = .ok (.iconst 0, 1) := by decide +kernel
theorem d1_6 : decode prog_26_method_1_code 6 = .ok (.newarray .long, 2) := by decide +kernel
theorem d1_8 : decode prog_26_method_1_code 8 = .ok (.putfield 7, 3) := by decide +kernel
theorem d1_11 : decode prog_26_method_1_code 11 = .ok (.aload_n 0, 1) := by decide +kernel
theorem d1_12 : decode prog_26_method_1_code 12 = .ok (.iconst 0, 1) := by decide +kernel
theorem d1_13 : decode prog_26_method_1_code 13 = .ok (.newarray .int, 2) := by decide +kernel
theorem d1_15 : decode prog_26_method_1_code 15 = .ok (.putfield 13, 3) := by decide +kernel
theorem d1_18 : decode prog_26_method_1_code 18 = .ok (.aload_n 0, 1) := by decide +kernel
theorem d1_19 : decode prog_26_method_1_code 19 = .ok (.iconst 0, 1) := by decide +kernel
theorem d1_20 : decode prog_26_method_1_code 20 = .ok (.newarray .long, 2) := by decide +kernel
theorem d1_22 : decode prog_26_method_1_code 22 = .ok (.putfield 17, 3) := by decide +kernel
theorem d1_25 : decode prog_26_method_1_code 25 = .ok (.aload_n 0, 1) := by decide +kernel
theorem d1_26 : decode prog_26_method_1_code 26 = .ok (.iconst 1, 1) := by decide +kernel
theorem d1_27 : decode prog_26_method_1_code 27 = .ok (.putfield 20, 3) := by decide +kernel
theorem d1_30 : decode prog_26_method_1_code 30 = .ok (.return_, 1) := by decide +kernel
theorem own_pn1 : plainFor (⟨"com/example/iterate/iterate/engine/RecordIndex", "<init>", "()V"⟩ : MethodName) = true := by first | exact plainFor_of_name (by first | (simp [plainName, overriddenIn, x]; done) | decide +kernel) | decide +kernel
theorem own_ef1 (a0_ : Addr) (m : MethodId) : entryFrame m #[(.ref a0_)] 1 = mkF m 0 #[.val (.ref a0_)] [] := by
  first | (simp [entryFrame, mkF, argsToLocals, Value.category]; done) | rfl
def own_q1 (a0_ : Addr) (Z : State) (h0 : Heap) (v : Option Value) (h : Heap) : Prop := v = none ∧ Keep h0 h [a0_] ∧ Fld Z h a0_ "com/example/iterate/iterate/engine/RecordIndex" "count" "J" (.long (0 : Int64)) ∧ Fld Z h a0_ "com/example/iterate/iterate/engine/RecordIndex" "bytes" "J" (.long (0 : Int64)) ∧ Fld Z h a0_ "com/example/iterate/iterate/engine/RecordIndex" "fileCount" "I" (.int (0 : Int32))
set_option maxRecDepth 65536 in
set_option maxHeartbeats 40000000 in
theorem own_m1 (l : Launch) (Z : State) (a0 : Array Value) (hw : ∀ d ∈ tables_1, d.before a0 Z = true) (ws : List Jvm.Cond) (a0_ : Addr) (h0 : Heap) (n0 : Nat) (Z0 : n0 ≤ h0.size) (F1 : Exa Z h0 a0_ "com/example/iterate/iterate/engine/RecordIndex") (F2 : Fld Z h0 a0_ "com/example/iterate/iterate/engine/RecordIndex" "records" "[J" (.null)) (F3 : Fld Z h0 a0_ "com/example/iterate/iterate/engine/RecordIndex" "files" "[I" (.null)) (F4 : Fld Z h0 a0_ "com/example/iterate/iterate/engine/RecordIndex" "offsets" "[J" (.null)) (F5 : Fld Z h0 a0_ "com/example/iterate/iterate/engine/RecordIndex" "stride" "I" (.int (0 : Int32))) (F6 : Fld Z h0 a0_ "com/example/iterate/iterate/engine/RecordIndex" "count" "J" (.long (0 : Int64))) (F7 : Fld Z h0 a0_ "com/example/iterate/iterate/engine/RecordIndex" "bytes" "J" (.long (0 : Int64))) (F8 : Fld Z h0 a0_ "com/example/iterate/iterate/engine/RecordIndex" "fileCount" "I" (.int (0 : Int32))) (ge_a0_ : n0 ≤ a0_) :
    own_Met l Z (⟨"com/example/iterate/iterate/engine/RecordIndex", "<init>", "()V"⟩ : MethodName) prog_26_method_1_code 1 none ws ({ frames := 1, cells := 3, slots := 0, locals := 12 } : Room) #[(.ref a0_)] h0 n0 (own_q1 a0_ Z h0) := by
  refine own_enter (own := "com/example/iterate/iterate/engine/RecordIndex") (nm := "<init>") rfl rfl own_pn1 (own_ef1 a0_) ?_
  intro p e s m below meth c T0 X0
  have K9 := (Keep.refl h0 [a0_])
  refine own_aloadN X0 d1_0 rfl rfl rfl ?_
  refine own_initO X0 (hw _ (List.mem_of_getElem? (i := 6) rfl)) (hw _ (List.mem_of_getElem? (i := 7) rfl)) (hw _ (List.mem_of_getElem? (i := 8) rfl)) d1_1 rfl rfl (by decide) (W := 0) rfl (by decide) (fun T10 X11 => ?_)
  refine own_aloadN X11 d1_4 rfl rfl rfl ?_
  refine own_iconst X11 (0 : Int32) d1_5 rfl (by decide) ?_
  refine own_newarray X11 (hw _ (List.mem_of_getElem? (i := 9) rfl)) (n := (0 : Int32)) 0 (by decide) (by decide) (by decide) d1_6 rfl (cells' := 1) (slots' := 0) rfl rfl (by decide) (by decide) (fun T12 h14 cA19 a17 g18 X13 E15 A16 => ?_)
  have ge_a17 : n0 ≤ a17 := Nat.le_trans Z0 (Nat.le_of_eq g18.symm)
  have ne_a0__a17 : a0_ ≠ a17 := Nat.ne_of_lt (g18 ▸ F1.lt)
  have fr_a17 : h0.size ≤ a17 := Nat.le_trans K9.1 (Nat.le_of_eq g18.symm)
  have F20 := (F1.ext E15)
  have F21 := (F2.ext E15)
  have F22 := (F3.ext E15)
  have F23 := (F4.ext E15)
  have F24 := (F5.ext E15)
  have F25 := (F6.ext E15)
  have F26 := (F7.ext E15)
  have F27 := (F8.ext E15)
  have Z28 : n0 ≤ h14.size := (Nat.le_trans Z0 E15.1)
  have K29 := (K9.ext E15)
  refine own_putf X13 (hw _ (List.mem_of_getElem? (i := 10) rfl)) F21 F20 (Or.inl (hw _ (List.mem_of_getElem? (i := 11) rfl))) (hw _ (List.mem_of_getElem? (i := 1) rfl)) (ty := (.array .long)) (by decide) rfl rfl ge_a0_ d1_8 rfl (fun T30 h32 X31 W33 => ?_)
  have F34 := (F20.wr W33)
  have F35 := (F21.same W33)
  have F36 := (F22.other W33 (Or.inr (slot_ne (Or.inl (hw _ (List.mem_of_getElem? (i := 14) rfl))) (Or.inl (hw _ (List.mem_of_getElem? (i := 11) rfl))) (by decide) (t := (.array .int)) (t' := (.array .long)) (by decide) (by decide))))
  have F37 := (F23.other W33 (Or.inr (slot_ne (Or.inl (hw _ (List.mem_of_getElem? (i := 16) rfl))) (Or.inl (hw _ (List.mem_of_getElem? (i := 11) rfl))) (by decide) (t := (.array .long)) (t' := (.array .long)) (by decide) (by decide))))
  have F38 := (F24.other W33 (Or.inr (slot_ne (Or.inl (hw _ (List.mem_of_getElem? (i := 18) rfl))) (Or.inl (hw _ (List.mem_of_getElem? (i := 11) rfl))) (by decide) (t := .int) (t' := (.array .long)) (by decide) (by decide))))
  have F39 := (F25.other W33 (Or.inr (slot_ne (Or.inl (hw _ (List.mem_of_getElem? (i := 25) rfl))) (Or.inl (hw _ (List.mem_of_getElem? (i := 11) rfl))) (by decide) (t := .long) (t' := (.array .long)) (by decide) (by decide))))
  have F40 := (F26.other W33 (Or.inr (slot_ne (Or.inl (hw _ (List.mem_of_getElem? (i := 27) rfl))) (Or.inl (hw _ (List.mem_of_getElem? (i := 11) rfl))) (by decide) (t := .long) (t' := (.array .long)) (by decide) (by decide))))
  have F41 := (F27.other W33 (Or.inr (slot_ne (Or.inl (hw _ (List.mem_of_getElem? (i := 29) rfl))) (Or.inl (hw _ (List.mem_of_getElem? (i := 11) rfl))) (by decide) (t := .int) (t' := (.array .long)) (by decide) (by decide))))
  have F42 := (Arr.other W33 A16 (Ne.symm ne_a0__a17))
  have Z43 : n0 ≤ h32.size := (Nat.le_trans Z28 (Nat.le_of_eq W33.size.symm))
  have K44 := (K29.wr W33 (Or.inl (List.mem_of_getElem? (i := 0) rfl)))
  refine own_aloadN X31 d1_11 rfl rfl rfl ?_
  refine own_iconst X31 (0 : Int32) d1_12 rfl (by decide) ?_
  refine own_newarray X31 (hw _ (List.mem_of_getElem? (i := 12) rfl)) (n := (0 : Int32)) 0 (by decide) (by decide) (by decide) d1_13 rfl (cells' := 2) (slots' := 0) rfl rfl (by decide) (by decide) (fun T45 h47 cA52 a50 g51 X46 E48 A49 => ?_)
  have ge_a50 : n0 ≤ a50 := Nat.le_trans Z43 (Nat.le_of_eq g51.symm)
  have ne_a0__a50 : a0_ ≠ a50 := Nat.ne_of_lt (g51 ▸ F34.lt)
  have ne_a17_a50 : a17 ≠ a50 := Nat.ne_of_lt (g51 ▸ F42.lt)
  have fr_a50 : h0.size ≤ a50 := Nat.le_trans K44.1 (Nat.le_of_eq g51.symm)
  have F53 := (F34.ext E48)
  have F54 := (F35.ext E48)
  have F55 := (F36.ext E48)
  have F56 := (F37.ext E48)
  have F57 := (F38.ext E48)
  have F58 := (F39.ext E48)
  have F59 := (F40.ext E48)
  have F60 := (F41.ext E48)
  have F61 := (F42.ext E48)
  have Z62 : n0 ≤ h47.size := (Nat.le_trans Z43 E48.1)
  have K63 := (K44.ext E48)
  refine own_putf X46 (hw _ (List.mem_of_getElem? (i := 13) rfl)) F55 F53 (Or.inl (hw _ (List.mem_of_getElem? (i := 14) rfl))) (hw _ (List.mem_of_getElem? (i := 1) rfl)) (ty := (.array .int)) (by decide) rfl rfl ge_a0_ d1_15 rfl (fun T64 h66 X65 W67 => ?_)
  have F68 := (F53.wr W67)
  have F69 := (F54.other W67 (Or.inr (slot_ne (Or.inl (hw _ (List.mem_of_getElem? (i := 11) rfl))) (Or.inl (hw _ (List.mem_of_getElem? (i := 14) rfl))) (by decide) (t := (.array .long)) (t' := (.array .int)) (by decide) (by decide))))
  have F70 := (F55.same W67)
  have F71 := (F56.other W67 (Or.inr (slot_ne (Or.inl (hw _ (List.mem_of_getElem? (i := 16) rfl))) (Or.inl (hw _ (List.mem_of_getElem? (i := 14) rfl))) (by decide) (t := (.array .long)) (t' := (.array .int)) (by decide) (by decide))))
  have F72 := (F57.other W67 (Or.inr (slot_ne (Or.inl (hw _ (List.mem_of_getElem? (i := 18) rfl))) (Or.inl (hw _ (List.mem_of_getElem? (i := 14) rfl))) (by decide) (t := .int) (t' := (.array .int)) (by decide) (by decide))))
  have F73 := (F58.other W67 (Or.inr (slot_ne (Or.inl (hw _ (List.mem_of_getElem? (i := 25) rfl))) (Or.inl (hw _ (List.mem_of_getElem? (i := 14) rfl))) (by decide) (t := .long) (t' := (.array .int)) (by decide) (by decide))))
  have F74 := (F59.other W67 (Or.inr (slot_ne (Or.inl (hw _ (List.mem_of_getElem? (i := 27) rfl))) (Or.inl (hw _ (List.mem_of_getElem? (i := 14) rfl))) (by decide) (t := .long) (t' := (.array .int)) (by decide) (by decide))))
  have F75 := (F60.other W67 (Or.inr (slot_ne (Or.inl (hw _ (List.mem_of_getElem? (i := 29) rfl))) (Or.inl (hw _ (List.mem_of_getElem? (i := 14) rfl))) (by decide) (t := .int) (t' := (.array .int)) (by decide) (by decide))))
  have F76 := (Arr.other W67 F61 (Ne.symm ne_a0__a17))
  have F77 := (Arr.other W67 A49 (Ne.symm ne_a0__a50))
  have Z78 : n0 ≤ h66.size := (Nat.le_trans Z62 (Nat.le_of_eq W67.size.symm))
  have K79 := (K63.wr W67 (Or.inl (List.mem_of_getElem? (i := 0) rfl)))
  refine own_aloadN X65 d1_18 rfl rfl rfl ?_
  refine own_iconst X65 (0 : Int32) d1_19 rfl (by decide) ?_
  refine own_newarray X65 (hw _ (List.mem_of_getElem? (i := 9) rfl)) (n := (0 : Int32)) 0 (by decide) (by decide) (by decide) d1_20 rfl (cells' := 3) (slots' := 0) rfl rfl (by decide) (by decide) (fun T80 h82 cA87 a85 g86 X81 E83 A84 => ?_)
  have ge_a85 : n0 ≤ a85 := Nat.le_trans Z78 (Nat.le_of_eq g86.symm)
  have ne_a0__a85 : a0_ ≠ a85 := Nat.ne_of_lt (g86 ▸ F68.lt)
  have ne_a17_a85 : a17 ≠ a85 := Nat.ne_of_lt (g86 ▸ F76.lt)
  have ne_a50_a85 : a50 ≠ a85 := Nat.ne_of_lt (g86 ▸ F77.lt)
  have fr_a85 : h0.size ≤ a85 := Nat.le_trans K79.1 (Nat.le_of_eq g86.symm)
  have F88 := (F68.ext E83)
  have F89 := (F69.ext E83)
  have F90 := (F70.ext E83)
  have F91 := (F71.ext E83)
  have F92 := (F72.ext E83)
  have F93 := (F73.ext E83)
  have F94 := (F74.ext E83)
  have F95 := (F75.ext E83)
  have F96 := (F76.ext E83)
  have F97 := (F77.ext E83)
  have Z98 : n0 ≤ h82.size := (Nat.le_trans Z78 E83.1)
  have K99 := (K79.ext E83)
  refine own_putf X81 (hw _ (List.mem_of_getElem? (i := 15) rfl)) F91 F88 (Or.inl (hw _ (List.mem_of_getElem? (i := 16) rfl))) (hw _ (List.mem_of_getElem? (i := 1) rfl)) (ty := (.array .long)) (by decide) rfl rfl ge_a0_ d1_22 rfl (fun T100 h102 X101 W103 => ?_)
  have F104 := (F88.wr W103)
  have F105 := (F89.other W103 (Or.inr (slot_ne (Or.inl (hw _ (List.mem_of_getElem? (i := 11) rfl))) (Or.inl (hw _ (List.mem_of_getElem? (i := 16) rfl))) (by decide) (t := (.array .long)) (t' := (.array .long)) (by decide) (by decide))))
  have F106 := (F90.other W103 (Or.inr (slot_ne (Or.inl (hw _ (List.mem_of_getElem? (i := 14) rfl))) (Or.inl (hw _ (List.mem_of_getElem? (i := 16) rfl))) (by decide) (t := (.array .int)) (t' := (.array .long)) (by decide) (by decide))))
  have F107 := (F91.same W103)
  have F108 := (F92.other W103 (Or.inr (slot_ne (Or.inl (hw _ (List.mem_of_getElem? (i := 18) rfl))) (Or.inl (hw _ (List.mem_of_getElem? (i := 16) rfl))) (by decide) (t := .int) (t' := (.array .long)) (by decide) (by decide))))
  have F109 := (F93.other W103 (Or.inr (slot_ne (Or.inl (hw _ (List.mem_of_getElem? (i := 25) rfl))) (Or.inl (hw _ (List.mem_of_getElem? (i := 16) rfl))) (by decide) (t := .long) (t' := (.array .long)) (by decide) (by decide))))
  have F110 := (F94.other W103 (Or.inr (slot_ne (Or.inl (hw _ (List.mem_of_getElem? (i := 27) rfl))) (Or.inl (hw _ (List.mem_of_getElem? (i := 16) rfl))) (by decide) (t := .long) (t' := (.array .long)) (by decide) (by decide))))
  have F111 := (F95.other W103 (Or.inr (slot_ne (Or.inl (hw _ (List.mem_of_getElem? (i := 29) rfl))) (Or.inl (hw _ (List.mem_of_getElem? (i := 16) rfl))) (by decide) (t := .int) (t' := (.array .long)) (by decide) (by decide))))
  have F112 := (Arr.other W103 F96 (Ne.symm ne_a0__a17))
  have F113 := (Arr.other W103 F97 (Ne.symm ne_a0__a50))
  have F114 := (Arr.other W103 A84 (Ne.symm ne_a0__a85))
  have Z115 : n0 ≤ h102.size := (Nat.le_trans Z98 (Nat.le_of_eq W103.size.symm))
  have K116 := (K99.wr W103 (Or.inl (List.mem_of_getElem? (i := 0) rfl)))
  refine own_aloadN X101 d1_25 rfl rfl rfl ?_
  refine own_iconst X101 (1 : Int32) d1_26 rfl (by decide) ?_
  refine own_putf X101 (hw _ (List.mem_of_getElem? (i := 17) rfl)) F108 F104 (Or.inl (hw _ (List.mem_of_getElem? (i := 18) rfl))) (hw _ (List.mem_of_getElem? (i := 1) rfl)) (ty := .int) (by decide) rfl rfl ge_a0_ d1_27 rfl (fun T117 h119 X118 W120 => ?_)
  have F121 := (F104.wr W120)
  have F122 := (F105.other W120 (Or.inr (slot_ne (Or.inl (hw _ (List.mem_of_getElem? (i := 11) rfl))) (Or.inl (hw _ (List.mem_of_getElem? (i := 18) rfl))) (by decide) (t := (.array .long)) (t' := .int) (by decide) (by decide))))
  have F123 := (F106.other W120 (Or.inr (slot_ne (Or.inl (hw _ (List.mem_of_getElem? (i := 14) rfl))) (Or.inl (hw _ (List.mem_of_getElem? (i := 18) rfl))) (by decide) (t := (.array .int)) (t' := .int) (by decide) (by decide))))
  have F124 := (F107.other W120 (Or.inr (slot_ne (Or.inl (hw _ (List.mem_of_getElem? (i := 16) rfl))) (Or.inl (hw _ (List.mem_of_getElem? (i := 18) rfl))) (by decide) (t := (.array .long)) (t' := .int) (by decide) (by decide))))
  have F125 := (F108.same W120)
  have F126 := (F109.other W120 (Or.inr (slot_ne (Or.inl (hw _ (List.mem_of_getElem? (i := 25) rfl))) (Or.inl (hw _ (List.mem_of_getElem? (i := 18) rfl))) (by decide) (t := .long) (t' := .int) (by decide) (by decide))))
  have F127 := (F110.other W120 (Or.inr (slot_ne (Or.inl (hw _ (List.mem_of_getElem? (i := 27) rfl))) (Or.inl (hw _ (List.mem_of_getElem? (i := 18) rfl))) (by decide) (t := .long) (t' := .int) (by decide) (by decide))))
  have F128 := (F111.other W120 (Or.inr (slot_ne (Or.inl (hw _ (List.mem_of_getElem? (i := 29) rfl))) (Or.inl (hw _ (List.mem_of_getElem? (i := 18) rfl))) (by decide) (t := .int) (t' := .int) (by decide) (by decide))))
  have F129 := (Arr.other W120 F112 (Ne.symm ne_a0__a17))
  have F130 := (Arr.other W120 F113 (Ne.symm ne_a0__a50))
  have F131 := (Arr.other W120 F114 (Ne.symm ne_a0__a85))
  have Z132 : n0 ≤ h119.size := (Nat.le_trans Z115 (Nat.le_of_eq W120.size.symm))
  have K133 := (K116.wr W120 (Or.inl (List.mem_of_getElem? (i := 0) rfl)))
  exact own_retV X118 rfl d1_30 ⟨rfl, K133, F126, F127, F128⟩ (by decide) (by decide)
theorem d3_0 : decode prog_26_method_6_code 0 = .ok (.aload_n 0, 1) := by decide +kernel
theorem d3_1 : decode prog_26_method_6_code 1 = .ok (.lload_n 1, 1) := by decide +kernel
theorem d3_2 : decode prog_26_method_6_code 2 = .ok (.putfield 24, 3) := by decide +kernel
theorem d3_5 : decode prog_26_method_6_code 5 = .ok (.aload_n 0, 1) := by decide +kernel
theorem d3_6 : decode prog_26_method_6_code 6 = .ok (.lload_n 3, 1) := by decide +kernel
theorem d3_7 : decode prog_26_method_6_code 7 = .ok (.putfield 28, 3) := by decide +kernel
theorem d3_10 : decode prog_26_method_6_code 10 = .ok (.aload_n 0, 1) := by decide +kernel
theorem d3_11 : decode prog_26_method_6_code 11 = .ok (.iload 5, 2) := by decide +kernel
theorem d3_13 : decode prog_26_method_6_code 13 = .ok (.putfield 31, 3) := by decide +kernel
theorem d3_16 : decode prog_26_method_6_code 16 = .ok (.return_, 1) := by decide +kernel
theorem own_pn2 : plainFor (⟨"com/example/iterate/iterate/engine/RecordIndex", "counted", "(JJI)V"⟩ : MethodName) = true := by first | exact plainFor_of_name (by first | (simp [plainName, overriddenIn, x]; done) | decide +kernel) | decide +kernel
theorem own_ef2 (a0_ : Addr) (x1 : Int64) (x2 : Int64) (x3 : Int32) (m : MethodId) : entryFrame m #[(.ref a0_), (.long x1), (.long x2), (.int x3)] 6 = mkF m 0 #[.val (.ref a0_), .val (.long x1), .second, .val (.long x2), .second, .val (.int x3)] [] := by
  first | (simp [entryFrame, mkF, argsToLocals, Value.category]; done) | rfl
def own_q2 (a0_ : Addr) (x1 : Int64) (x2 : Int64) (x3 : Int32) (u1 : Int64) (u2 : Int64) (u3 : Int32) (Z : State) (h0 : Heap) (v : Option Value) (h : Heap) : Prop := v = none ∧ Keep h0 h [a0_] ∧ Fld Z h a0_ "com/example/iterate/iterate/engine/RecordIndex" "count" "J" (.long x1) ∧ Fld Z h a0_ "com/example/iterate/iterate/engine/RecordIndex" "bytes" "J" (.long x2) ∧ Fld Z h a0_ "com/example/iterate/iterate/engine/RecordIndex" "fileCount" "I" (.int x3)
set_option maxRecDepth 65536 in
set_option maxHeartbeats 40000000 in
theorem own_m2 (l : Launch) (Z : State) (a0 : Array Value) (hw : ∀ d ∈ tables_1, d.before a0 Z = true) (ws : List Jvm.Cond) (a0_ : Addr) (x1 : Int64) (x2 : Int64) (x3 : Int32) (u1 : Int64) (u2 : Int64) (u3 : Int32) (h0 : Heap) (n0 : Nat) (Z0 : n0 ≤ h0.size) (F1 : Exa Z h0 a0_ "com/example/iterate/iterate/engine/RecordIndex") (F2 : Fld Z h0 a0_ "com/example/iterate/iterate/engine/RecordIndex" "count" "J" (.long u1)) (F3 : Fld Z h0 a0_ "com/example/iterate/iterate/engine/RecordIndex" "bytes" "J" (.long u2)) (F4 : Fld Z h0 a0_ "com/example/iterate/iterate/engine/RecordIndex" "fileCount" "I" (.int u3)) (ge_a0_ : n0 ≤ a0_) :
    own_Met l Z (⟨"com/example/iterate/iterate/engine/RecordIndex", "counted", "(JJI)V"⟩ : MethodName) prog_26_method_6_code 6 none ws ({ frames := 0, cells := 0, slots := 0, locals := 0 } : Room) #[(.ref a0_), (.long x1), (.long x2), (.int x3)] h0 n0 (own_q2 a0_ x1 x2 x3 u1 u2 u3 Z h0) := by
  refine own_enter (own := "com/example/iterate/iterate/engine/RecordIndex") (nm := "counted") rfl rfl own_pn2 (own_ef2 a0_ x1 x2 x3) ?_
  intro p e s m below meth c T0 X0
  have K5 := (Keep.refl h0 [a0_])
  refine own_aloadN X0 d3_0 rfl rfl rfl ?_
  refine own_lloadN X0 d3_1 rfl rfl ?_
  refine own_putf X0 (hw _ (List.mem_of_getElem? (i := 24) rfl)) F2 F1 (Or.inl (hw _ (List.mem_of_getElem? (i := 25) rfl))) (hw _ (List.mem_of_getElem? (i := 1) rfl)) (ty := .long) (by decide) rfl rfl ge_a0_ d3_2 rfl (fun T6 h8 X7 W9 => ?_)
  have F10 := (F1.wr W9)
  have F11 := (F2.same W9)
  have F12 := (F3.other W9 (Or.inr (slot_ne (Or.inl (hw _ (List.mem_of_getElem? (i := 27) rfl))) (Or.inl (hw _ (List.mem_of_getElem? (i := 25) rfl))) (by decide) (t := .long) (t' := .long) (by decide) (by decide))))
  have F13 := (F4.other W9 (Or.inr (slot_ne (Or.inl (hw _ (List.mem_of_getElem? (i := 29) rfl))) (Or.inl (hw _ (List.mem_of_getElem? (i := 25) rfl))) (by decide) (t := .int) (t' := .long) (by decide) (by decide))))
  have Z14 : n0 ≤ h8.size := (Nat.le_trans Z0 (Nat.le_of_eq W9.size.symm))
  have K15 := (K5.wr W9 (Or.inl (List.mem_of_getElem? (i := 0) rfl)))
  refine own_aloadN X7 d3_5 rfl rfl rfl ?_
  refine own_lloadN X7 d3_6 rfl rfl ?_
  refine own_putf X7 (hw _ (List.mem_of_getElem? (i := 26) rfl)) F12 F10 (Or.inl (hw _ (List.mem_of_getElem? (i := 27) rfl))) (hw _ (List.mem_of_getElem? (i := 1) rfl)) (ty := .long) (by decide) rfl rfl ge_a0_ d3_7 rfl (fun T16 h18 X17 W19 => ?_)
  have F20 := (F10.wr W19)
  have F21 := (F11.other W19 (Or.inr (slot_ne (Or.inl (hw _ (List.mem_of_getElem? (i := 25) rfl))) (Or.inl (hw _ (List.mem_of_getElem? (i := 27) rfl))) (by decide) (t := .long) (t' := .long) (by decide) (by decide))))
  have F22 := (F12.same W19)
  have F23 := (F13.other W19 (Or.inr (slot_ne (Or.inl (hw _ (List.mem_of_getElem? (i := 29) rfl))) (Or.inl (hw _ (List.mem_of_getElem? (i := 27) rfl))) (by decide) (t := .int) (t' := .long) (by decide) (by decide))))
  have Z24 : n0 ≤ h18.size := (Nat.le_trans Z14 (Nat.le_of_eq W19.size.symm))
  have K25 := (K15.wr W19 (Or.inl (List.mem_of_getElem? (i := 0) rfl)))
  refine own_aloadN X17 d3_10 rfl rfl rfl ?_
  refine own_iload X17 d3_11 rfl rfl ?_
  refine own_putf X17 (hw _ (List.mem_of_getElem? (i := 28) rfl)) F23 F20 (Or.inl (hw _ (List.mem_of_getElem? (i := 29) rfl))) (hw _ (List.mem_of_getElem? (i := 1) rfl)) (ty := .int) (by decide) rfl rfl ge_a0_ d3_13 rfl (fun T26 h28 X27 W29 => ?_)
  have F30 := (F20.wr W29)
  have F31 := (F21.other W29 (Or.inr (slot_ne (Or.inl (hw _ (List.mem_of_getElem? (i := 25) rfl))) (Or.inl (hw _ (List.mem_of_getElem? (i := 29) rfl))) (by decide) (t := .long) (t' := .int) (by decide) (by decide))))
  have F32 := (F22.other W29 (Or.inr (slot_ne (Or.inl (hw _ (List.mem_of_getElem? (i := 27) rfl))) (Or.inl (hw _ (List.mem_of_getElem? (i := 29) rfl))) (by decide) (t := .long) (t' := .int) (by decide) (by decide))))
  have F33 := (F23.same W29)
  have Z34 : n0 ≤ h28.size := (Nat.le_trans Z24 (Nat.le_of_eq W29.size.symm))
  have K35 := (K25.wr W29 (Or.inl (List.mem_of_getElem? (i := 0) rfl)))
  exact own_retV X27 rfl d3_16 ⟨rfl, K35, F31, F32, F33⟩ (by decide) (by decide)
theorem d4_0 : decode prog_26_method_2_code 0 = .ok (.aload_n 0, 1) := by decide +kernel
theorem d4_1 : decode prog_26_method_2_code 1 = .ok (.getfield 24, 3) := by decide +kernel
theorem d4_4 : decode prog_26_method_2_code 4 = .ok (.lreturn, 1) := by decide +kernel
theorem own_pn3 : plainFor (⟨"com/example/iterate/iterate/engine/RecordIndex", "count", "()J"⟩ : MethodName) = true := by first | exact plainFor_of_name (by first | (simp [plainName, overriddenIn, x]; done) | decide +kernel) | decide +kernel
theorem own_ef3 (a0_ : Addr) (m : MethodId) : entryFrame m #[(.ref a0_)] 1 = mkF m 0 #[.val (.ref a0_)] [] := by
  first | (simp [entryFrame, mkF, argsToLocals, Value.category]; done) | rfl
def own_q3 (a0_ : Addr) (u1 : Int64) (Z : State) (h0 : Heap) (v : Option Value) (h : Heap) : Prop := v = some (.long u1) ∧ h0 = h
set_option maxRecDepth 65536 in
set_option maxHeartbeats 40000000 in
theorem own_m3 (l : Launch) (Z : State) (a0 : Array Value) (hw : ∀ d ∈ tables_1, d.before a0 Z = true) (ws : List Jvm.Cond) (a0_ : Addr) (u1 : Int64) (h0 : Heap) (n0 : Nat) (Z0 : n0 ≤ h0.size) (F1 : Fld Z h0 a0_ "com/example/iterate/iterate/engine/RecordIndex" "count" "J" (.long u1)) :
    own_Met l Z (⟨"com/example/iterate/iterate/engine/RecordIndex", "count", "()J"⟩ : MethodName) prog_26_method_2_code 1 (some .long) ws ({ frames := 0, cells := 0, slots := 0, locals := 0 } : Room) #[(.ref a0_)] h0 n0 (own_q3 a0_ u1 Z h0) := by
  refine own_enter (own := "com/example/iterate/iterate/engine/RecordIndex") (nm := "count") rfl rfl own_pn3 (own_ef3 a0_) ?_
  intro p e s m below meth c T0 X0
  refine own_aloadN X0 d4_0 rfl rfl rfl ?_
  refine own_getf X0 (hw _ (List.mem_of_getElem? (i := 24) rfl)) F1 d4_1 rfl (fun T2 X3 => ?_)
  exact own_retJ X3 rfl d4_4 ⟨rfl, rfl⟩ (by decide) (by decide)
theorem d5_0 : decode prog_26_method_3_code 0 = .ok (.aload_n 0, 1) := by decide +kernel
theorem d5_1 : decode prog_26_method_3_code 1 = .ok (.getfield 28, 3) := by decide +kernel
theorem d5_4 : decode prog_26_method_3_code 4 = .ok (.lreturn, 1) := by decide +kernel
theorem own_pn4 : plainFor (⟨"com/example/iterate/iterate/engine/RecordIndex", "bytes", "()J"⟩ : MethodName) = true := by first | exact plainFor_of_name (by first | (simp [plainName, overriddenIn, x]; done) | decide +kernel) | decide +kernel
theorem own_ef4 (a0_ : Addr) (m : MethodId) : entryFrame m #[(.ref a0_)] 1 = mkF m 0 #[.val (.ref a0_)] [] := by
  first | (simp [entryFrame, mkF, argsToLocals, Value.category]; done) | rfl
def own_q4 (a0_ : Addr) (u1 : Int64) (Z : State) (h0 : Heap) (v : Option Value) (h : Heap) : Prop := v = some (.long u1) ∧ h0 = h
set_option maxRecDepth 65536 in
set_option maxHeartbeats 40000000 in
theorem own_m4 (l : Launch) (Z : State) (a0 : Array Value) (hw : ∀ d ∈ tables_1, d.before a0 Z = true) (ws : List Jvm.Cond) (a0_ : Addr) (u1 : Int64) (h0 : Heap) (n0 : Nat) (Z0 : n0 ≤ h0.size) (F1 : Fld Z h0 a0_ "com/example/iterate/iterate/engine/RecordIndex" "bytes" "J" (.long u1)) :
    own_Met l Z (⟨"com/example/iterate/iterate/engine/RecordIndex", "bytes", "()J"⟩ : MethodName) prog_26_method_3_code 1 (some .long) ws ({ frames := 0, cells := 0, slots := 0, locals := 0 } : Room) #[(.ref a0_)] h0 n0 (own_q4 a0_ u1 Z h0) := by
  refine own_enter (own := "com/example/iterate/iterate/engine/RecordIndex") (nm := "bytes") rfl rfl own_pn4 (own_ef4 a0_) ?_
  intro p e s m below meth c T0 X0
  refine own_aloadN X0 d5_0 rfl rfl rfl ?_
  refine own_getf X0 (hw _ (List.mem_of_getElem? (i := 26) rfl)) F1 d5_1 rfl (fun T2 X3 => ?_)
  exact own_retJ X3 rfl d5_4 ⟨rfl, rfl⟩ (by decide) (by decide)
theorem d6_0 : decode prog_26_method_4_code 0 = .ok (.aload_n 0, 1) := by decide +kernel
theorem d6_1 : decode prog_26_method_4_code 1 = .ok (.getfield 31, 3) := by decide +kernel
theorem d6_4 : decode prog_26_method_4_code 4 = .ok (.ireturn, 1) := by decide +kernel
theorem own_pn5 : plainFor (⟨"com/example/iterate/iterate/engine/RecordIndex", "fileCount", "()I"⟩ : MethodName) = true := by first | exact plainFor_of_name (by first | (simp [plainName, overriddenIn, x]; done) | decide +kernel) | decide +kernel
theorem own_ef5 (a0_ : Addr) (m : MethodId) : entryFrame m #[(.ref a0_)] 1 = mkF m 0 #[.val (.ref a0_)] [] := by
  first | (simp [entryFrame, mkF, argsToLocals, Value.category]; done) | rfl
def own_q5 (a0_ : Addr) (u1 : Int32) (Z : State) (h0 : Heap) (v : Option Value) (h : Heap) : Prop := v = some (.int u1) ∧ h0 = h
set_option maxRecDepth 65536 in
set_option maxHeartbeats 40000000 in
theorem own_m5 (l : Launch) (Z : State) (a0 : Array Value) (hw : ∀ d ∈ tables_1, d.before a0 Z = true) (ws : List Jvm.Cond) (a0_ : Addr) (u1 : Int32) (h0 : Heap) (n0 : Nat) (Z0 : n0 ≤ h0.size) (F1 : Fld Z h0 a0_ "com/example/iterate/iterate/engine/RecordIndex" "fileCount" "I" (.int u1)) :
    own_Met l Z (⟨"com/example/iterate/iterate/engine/RecordIndex", "fileCount", "()I"⟩ : MethodName) prog_26_method_4_code 1 (some .int) ws ({ frames := 0, cells := 0, slots := 0, locals := 0 } : Room) #[(.ref a0_)] h0 n0 (own_q5 a0_ u1 Z h0) := by
  refine own_enter (own := "com/example/iterate/iterate/engine/RecordIndex") (nm := "fileCount") rfl rfl own_pn5 (own_ef5 a0_) ?_
  intro p e s m below meth c T0 X0
  refine own_aloadN X0 d6_0 rfl rfl rfl ?_
  refine own_getf X0 (hw _ (List.mem_of_getElem? (i := 28) rfl)) F1 d6_1 rfl (fun T2 X3 => ?_)
  exact own_retI X3 rfl d6_4 ⟨rfl, rfl⟩ (by decide) (by decide)
theorem own_pnlaw : plainFor x = true := by first | exact plainFor_of_name (by first | (simp [plainName, overriddenIn, x]; done) | decide +kernel) | decide +kernel
theorem own_eflaw (p1 : Int64) (p2 : Int64) (p3 : Int32) (p4 : Int64) (p5 : Int64) (p6 : Int32) (m : MethodId) : entryFrame m #[(.long p1), (.long p2), (.int p3), (.long p4), (.long p5), (.int p6)] maxLocals = mkF m 0 #[.val (.long p1), .second, .val (.long p2), .second, .val (.int p3), .val (.long p4), .second, .val (.long p5), .second, .val (.int p6), .unset, .unset, .unset] [] := by
  first | (simp [entryFrame, mkF, argsToLocals, Value.category, maxLocals]; done) | rfl
set_option maxRecDepth 65536 in
set_option maxHeartbeats 40000000 in
theorem own_law (l : Launch) (Z : State) (a0 : Array Value) (hw : ∀ d ∈ tables_1, d.before a0 Z = true) (ws : List Jvm.Cond) (p1 : Int64) (p2 : Int64) (p3 : Int32) (p4 : Int64) (p5 : Int64) (p6 : Int32) (h0 : Heap) (n0 : Nat) (Z0 : n0 ≤ h0.size) :
    own_Met l Z x code maxLocals ret ws room_1 #[(.long p1), (.long p2), (.int p3), (.long p4), (.long p5), (.int p6)] h0 n0 (fun v _ => v = some (.int 1)) := by
  refine own_enter (own := "com/example/iterate/iterate/engine/RecordIndexCountedPinLaw") (nm := "law") rfl rfl own_pnlaw (own_eflaw p1 p2 p3 p4 p5 p6) ?_
  intro p e s m below meth c T0 X0
  refine own_new X0 (hw _ (List.mem_of_getElem? (i := 0) rfl)) (hw _ (List.mem_of_getElem? (i := 1) rfl)) (hw _ (List.mem_of_getElem? (i := 2) rfl)) at_0 rfl (cells' := 1) (slots' := 9) rfl rfl (by decide) (by decide) (fun T1 h3 a7 g8 X2 E4 A5 D6 => ?_)
  have ge_a7 : n0 ≤ a7 := Nat.le_trans Z0 (Nat.le_of_eq g8.symm)
  have F9 := D6 (Or.inl (hw _ (List.mem_of_getElem? (i := 11) rfl))) (ty := (.array .long)) (by decide)
  replace F9 : Fld Z h3 a7 "com/example/iterate/iterate/engine/RecordIndex" "records" "[J" (.null) := F9
  have F10 := D6 (Or.inl (hw _ (List.mem_of_getElem? (i := 14) rfl))) (ty := (.array .int)) (by decide)
  replace F10 : Fld Z h3 a7 "com/example/iterate/iterate/engine/RecordIndex" "files" "[I" (.null) := F10
  have F11 := D6 (Or.inl (hw _ (List.mem_of_getElem? (i := 16) rfl))) (ty := (.array .long)) (by decide)
  replace F11 : Fld Z h3 a7 "com/example/iterate/iterate/engine/RecordIndex" "offsets" "[J" (.null) := F11
  have F12 := D6 (Or.inl (hw _ (List.mem_of_getElem? (i := 18) rfl))) (ty := .int) (by decide)
  replace F12 : Fld Z h3 a7 "com/example/iterate/iterate/engine/RecordIndex" "stride" "I" (.int (0 : Int32)) := F12
  have F13 := D6 (Or.inl (hw _ (List.mem_of_getElem? (i := 25) rfl))) (ty := .long) (by decide)
  replace F13 : Fld Z h3 a7 "com/example/iterate/iterate/engine/RecordIndex" "count" "J" (.long (0 : Int64)) := F13
  have F14 := D6 (Or.inl (hw _ (List.mem_of_getElem? (i := 27) rfl))) (ty := .long) (by decide)
  replace F14 : Fld Z h3 a7 "com/example/iterate/iterate/engine/RecordIndex" "bytes" "J" (.long (0 : Int64)) := F14
  have F15 := D6 (Or.inl (hw _ (List.mem_of_getElem? (i := 29) rfl))) (ty := .int) (by decide)
  replace F15 : Fld Z h3 a7 "com/example/iterate/iterate/engine/RecordIndex" "fileCount" "I" (.int (0 : Int32)) := F15
  have Z16 : n0 ≤ h3.size := (Nat.le_trans Z0 E4.1)
  refine own_dup X2 at_3 rfl rfl ?_
  refine own_callI X2 rfl (hw _ (List.mem_of_getElem? (i := 3) rfl)) (hw _ (List.mem_of_getElem? (i := 4) rfl)) (hw _ (List.mem_of_getElem? (i := 2) rfl)) (hw _ (List.mem_of_getElem? (i := 5) rfl)) (by decide) (a := a7) (argsL := []) (rest := [(.ref a7)]) (own_m1 l Z a0 hw [] a7 _ _ Z16 A5 F9 F10 F11 F12 F13 F14 F15 ge_a7) (pd_1) rfl at_4 rfl rfl rfl (W := 1) rfl (by decide) (by decide) (cells' := 4) (slots' := 9) rfl rfl (by decide) (by decide) (fun v T21 h23 X22 q24 => ?_)
  obtain ⟨rfl, K20, F17, F18, F19⟩ := q24
  show own_Fin p e below (own_End s n0 (fun v _ => v = some (.int 1)) room_1.cells room_1.slots) (T21.setTop (mkF m 7 #[.val (.long p1), .second, .val (.long p2), .second, .val (.int p3), .val (.long p4), .second, .val (.long p5), .second, .val (.int p6), .unset, .unset, .unset] [(.ref a7)]))
  have F25 := (A5.keep K20)
  have Z26 : n0 ≤ h23.size := (Nat.le_trans Z16 K20.1)
  refine own_astore X22 (L' := #[.val (.long p1), .second, .val (.long p2), .second, .val (.int p3), .val (.long p4), .second, .val (.long p5), .second, .val (.int p6), .val (.ref a7), .unset, .unset]) at_7 rfl rfl rfl ?_
  refine own_aload X22 at_9 rfl rfl rfl ?_
  refine own_lloadN X22 at_11 rfl rfl ?_
  refine own_lloadN X22 at_12 rfl rfl ?_
  refine own_iload X22 at_13 rfl rfl ?_
  refine own_callV X22 (hw _ (List.mem_of_getElem? (i := 19) rfl)) (hw _ (List.mem_of_getElem? (i := 20) rfl)) (hw _ (List.mem_of_getElem? (i := 22) rfl)) (hw _ (List.mem_of_getElem? (i := 21) rfl)) (hw _ (List.mem_of_getElem? (i := 2) rfl)) (hw _ (List.mem_of_getElem? (i := 23) rfl)) (by decide) (a := a7) (argsL := [(.long p1), (.long p2), (.int p3)]) (rest := []) (own_m2 l Z a0 hw [] a7 p1 p2 p3 (0 : Int64) (0 : Int64) (0 : Int32) _ _ Z26 F25 F17 F18 F19 ge_a7) F25 (pd_3) rfl at_15 rfl rfl rfl (W := 0) rfl (by decide) (by decide) (cells' := 4) (slots' := 9) rfl rfl (by decide) (by decide) (fun v T31 h33 X32 q34 => ?_)
  obtain ⟨rfl, K30, F27, F28, F29⟩ := q34
  show own_Fin p e below (own_End s n0 (fun v _ => v = some (.int 1)) room_1.cells room_1.slots) (T31.setTop (mkF m 18 #[.val (.long p1), .second, .val (.long p2), .second, .val (.int p3), .val (.long p4), .second, .val (.long p5), .second, .val (.int p6), .val (.ref a7), .unset, .unset] []))
  have F35 := (F25.keep K30)
  have Z36 : n0 ≤ h33.size := (Nat.le_trans Z26 K30.1)
  refine own_aload X32 at_18 rfl rfl rfl ?_
  refine own_callV X32 (hw _ (List.mem_of_getElem? (i := 30) rfl)) (hw _ (List.mem_of_getElem? (i := 31) rfl)) (hw _ (List.mem_of_getElem? (i := 33) rfl)) (hw _ (List.mem_of_getElem? (i := 32) rfl)) (hw _ (List.mem_of_getElem? (i := 2) rfl)) (hw _ (List.mem_of_getElem? (i := 34) rfl)) (by decide) (a := a7) (argsL := []) (rest := []) (own_m3 l Z a0 hw [] a7 p1 _ _ Z36 F27) F35 (pd_4) rfl at_20 rfl rfl rfl (W := 0) rfl (by decide) (by decide) (cells' := 4) (slots' := 9) rfl rfl (by decide) (by decide) (fun v T38 h40 X39 q41 => ?_)
  obtain ⟨rfl, rfl⟩ := q41
  show own_Fin p e below (own_End s n0 (fun v _ => v = some (.int 1)) room_1.cells room_1.slots) (T38.setTop (mkF m 23 #[.val (.long p1), .second, .val (.long p2), .second, .val (.int p3), .val (.long p4), .second, .val (.long p5), .second, .val (.int p6), .val (.ref a7), .unset, .unset] [(.long p1)]))
  refine own_lloadN X39 at_23 rfl rfl ?_
  refine own_lcmp_ne X39 at_24 rfl at_25 (by decide) (pcT := 52) (by decide) rfl (fun hc => absurd rfl hc) (fun hc => ?_)
  refine own_aload X39 at_28 rfl rfl rfl ?_
  refine own_callV X39 (hw _ (List.mem_of_getElem? (i := 35) rfl)) (hw _ (List.mem_of_getElem? (i := 36) rfl)) (hw _ (List.mem_of_getElem? (i := 38) rfl)) (hw _ (List.mem_of_getElem? (i := 37) rfl)) (hw _ (List.mem_of_getElem? (i := 2) rfl)) (hw _ (List.mem_of_getElem? (i := 39) rfl)) (by decide) (a := a7) (argsL := []) (rest := []) (own_m4 l Z a0 hw [] a7 p2 _ _ Z36 F28) F35 (pd_5) rfl at_30 rfl rfl rfl (W := 0) rfl (by decide) (by decide) (cells' := 4) (slots' := 9) rfl rfl (by decide) (by decide) (fun v T43 h45 X44 q46 => ?_)
  obtain ⟨rfl, rfl⟩ := q46
  show own_Fin p e below (own_End s n0 (fun v _ => v = some (.int 1)) room_1.cells room_1.slots) (T43.setTop (mkF m 33 #[.val (.long p1), .second, .val (.long p2), .second, .val (.int p3), .val (.long p4), .second, .val (.long p5), .second, .val (.int p6), .val (.ref a7), .unset, .unset] [(.long p2)]))
  refine own_lloadN X44 at_33 rfl rfl ?_
  refine own_lcmp_ne X44 at_34 rfl at_35 (by decide) (pcT := 52) (by decide) rfl (fun hc => absurd rfl hc) (fun hc => ?_)
  refine own_aload X44 at_38 rfl rfl rfl ?_
  refine own_callV X44 (hw _ (List.mem_of_getElem? (i := 40) rfl)) (hw _ (List.mem_of_getElem? (i := 41) rfl)) (hw _ (List.mem_of_getElem? (i := 43) rfl)) (hw _ (List.mem_of_getElem? (i := 42) rfl)) (hw _ (List.mem_of_getElem? (i := 2) rfl)) (hw _ (List.mem_of_getElem? (i := 44) rfl)) (by decide) (a := a7) (argsL := []) (rest := []) (own_m5 l Z a0 hw [] a7 p3 _ _ Z36 F29) F35 (pd_6) rfl at_40 rfl rfl rfl (W := 0) rfl (by decide) (by decide) (cells' := 4) (slots' := 9) rfl rfl (by decide) (by decide) (fun v T48 h50 X49 q51 => ?_)
  obtain ⟨rfl, rfl⟩ := q51
  show own_Fin p e below (own_End s n0 (fun v _ => v = some (.int 1)) room_1.cells room_1.slots) (T48.setTop (mkF m 43 #[.val (.long p1), .second, .val (.long p2), .second, .val (.int p3), .val (.long p4), .second, .val (.long p5), .second, .val (.int p6), .val (.ref a7), .unset, .unset] [(.int p3)]))
  refine own_iload X49 at_43 rfl rfl ?_
  refine own_icmp_ne X49 at_45 (by decide) (pcT := 52) (by decide) rfl (fun hc => absurd rfl hc) (fun hc => ?_)
  refine own_iconst X49 (1 : Int32) at_48 rfl (by decide) ?_
  refine own_goto X49 at_49 (by decide) (pc' := 53) (by decide) ?_
  refine own_istore X49 (L' := #[.val (.long p1), .second, .val (.long p2), .second, .val (.int p3), .val (.long p4), .second, .val (.long p5), .second, .val (.int p6), .val (.ref a7), .val (.int (1 : Int32)), .unset]) at_53 rfl rfl ?_
  refine own_aload X49 at_55 rfl rfl rfl ?_
  refine own_lload X49 at_57 rfl rfl ?_
  refine own_lload X49 at_59 rfl rfl ?_
  refine own_iload X49 at_61 rfl rfl ?_
  refine own_callV X49 (hw _ (List.mem_of_getElem? (i := 19) rfl)) (hw _ (List.mem_of_getElem? (i := 20) rfl)) (hw _ (List.mem_of_getElem? (i := 22) rfl)) (hw _ (List.mem_of_getElem? (i := 21) rfl)) (hw _ (List.mem_of_getElem? (i := 2) rfl)) (hw _ (List.mem_of_getElem? (i := 23) rfl)) (by decide) (a := a7) (argsL := [(.long p4), (.long p5), (.int p6)]) (rest := []) (own_m2 l Z a0 hw [] a7 p4 p5 p6 p1 p2 p3 _ _ Z36 F35 F27 F28 F29 ge_a7) F35 (pd_3) rfl at_63 rfl rfl rfl (W := 0) rfl (by decide) (by decide) (cells' := 4) (slots' := 9) rfl rfl (by decide) (by decide) (fun v T56 h58 X57 q59 => ?_)
  obtain ⟨rfl, K55, F52, F53, F54⟩ := q59
  show own_Fin p e below (own_End s n0 (fun v _ => v = some (.int 1)) room_1.cells room_1.slots) (T56.setTop (mkF m 66 #[.val (.long p1), .second, .val (.long p2), .second, .val (.int p3), .val (.long p4), .second, .val (.long p5), .second, .val (.int p6), .val (.ref a7), .val (.int (1 : Int32)), .unset] []))
  have F60 := (F35.keep K55)
  have Z61 : n0 ≤ h58.size := (Nat.le_trans Z36 K55.1)
  refine own_aload X57 at_66 rfl rfl rfl ?_
  refine own_callV X57 (hw _ (List.mem_of_getElem? (i := 30) rfl)) (hw _ (List.mem_of_getElem? (i := 31) rfl)) (hw _ (List.mem_of_getElem? (i := 33) rfl)) (hw _ (List.mem_of_getElem? (i := 32) rfl)) (hw _ (List.mem_of_getElem? (i := 2) rfl)) (hw _ (List.mem_of_getElem? (i := 34) rfl)) (by decide) (a := a7) (argsL := []) (rest := []) (own_m3 l Z a0 hw [] a7 p4 _ _ Z61 F52) F60 (pd_4) rfl at_68 rfl rfl rfl (W := 0) rfl (by decide) (by decide) (cells' := 4) (slots' := 9) rfl rfl (by decide) (by decide) (fun v T63 h65 X64 q66 => ?_)
  obtain ⟨rfl, rfl⟩ := q66
  show own_Fin p e below (own_End s n0 (fun v _ => v = some (.int 1)) room_1.cells room_1.slots) (T63.setTop (mkF m 71 #[.val (.long p1), .second, .val (.long p2), .second, .val (.int p3), .val (.long p4), .second, .val (.long p5), .second, .val (.int p6), .val (.ref a7), .val (.int (1 : Int32)), .unset] [(.long p4)]))
  refine own_lload X64 at_71 rfl rfl ?_
  refine own_lcmp_ne X64 at_73 rfl at_74 (by decide) (pcT := 102) (by decide) rfl (fun hc => absurd rfl hc) (fun hc => ?_)
  refine own_aload X64 at_77 rfl rfl rfl ?_
  refine own_callV X64 (hw _ (List.mem_of_getElem? (i := 35) rfl)) (hw _ (List.mem_of_getElem? (i := 36) rfl)) (hw _ (List.mem_of_getElem? (i := 38) rfl)) (hw _ (List.mem_of_getElem? (i := 37) rfl)) (hw _ (List.mem_of_getElem? (i := 2) rfl)) (hw _ (List.mem_of_getElem? (i := 39) rfl)) (by decide) (a := a7) (argsL := []) (rest := []) (own_m4 l Z a0 hw [] a7 p5 _ _ Z61 F53) F60 (pd_5) rfl at_79 rfl rfl rfl (W := 0) rfl (by decide) (by decide) (cells' := 4) (slots' := 9) rfl rfl (by decide) (by decide) (fun v T68 h70 X69 q71 => ?_)
  obtain ⟨rfl, rfl⟩ := q71
  show own_Fin p e below (own_End s n0 (fun v _ => v = some (.int 1)) room_1.cells room_1.slots) (T68.setTop (mkF m 82 #[.val (.long p1), .second, .val (.long p2), .second, .val (.int p3), .val (.long p4), .second, .val (.long p5), .second, .val (.int p6), .val (.ref a7), .val (.int (1 : Int32)), .unset] [(.long p5)]))
  refine own_lload X69 at_82 rfl rfl ?_
  refine own_lcmp_ne X69 at_84 rfl at_85 (by decide) (pcT := 102) (by decide) rfl (fun hc => absurd rfl hc) (fun hc => ?_)
  refine own_aload X69 at_88 rfl rfl rfl ?_
  refine own_callV X69 (hw _ (List.mem_of_getElem? (i := 40) rfl)) (hw _ (List.mem_of_getElem? (i := 41) rfl)) (hw _ (List.mem_of_getElem? (i := 43) rfl)) (hw _ (List.mem_of_getElem? (i := 42) rfl)) (hw _ (List.mem_of_getElem? (i := 2) rfl)) (hw _ (List.mem_of_getElem? (i := 44) rfl)) (by decide) (a := a7) (argsL := []) (rest := []) (own_m5 l Z a0 hw [] a7 p6 _ _ Z61 F54) F60 (pd_6) rfl at_90 rfl rfl rfl (W := 0) rfl (by decide) (by decide) (cells' := 4) (slots' := 9) rfl rfl (by decide) (by decide) (fun v T73 h75 X74 q76 => ?_)
  obtain ⟨rfl, rfl⟩ := q76
  show own_Fin p e below (own_End s n0 (fun v _ => v = some (.int 1)) room_1.cells room_1.slots) (T73.setTop (mkF m 93 #[.val (.long p1), .second, .val (.long p2), .second, .val (.int p3), .val (.long p4), .second, .val (.long p5), .second, .val (.int p6), .val (.ref a7), .val (.int (1 : Int32)), .unset] [(.int p6)]))
  refine own_iload X74 at_93 rfl rfl ?_
  refine own_icmp_ne X74 at_95 (by decide) (pcT := 102) (by decide) rfl (fun hc => absurd rfl hc) (fun hc => ?_)
  refine own_iconst X74 (1 : Int32) at_98 rfl (by decide) ?_
  refine own_goto X74 at_99 (by decide) (pc' := 103) (by decide) ?_
  refine own_istore X74 (L' := #[.val (.long p1), .second, .val (.long p2), .second, .val (.int p3), .val (.long p4), .second, .val (.long p5), .second, .val (.int p6), .val (.ref a7), .val (.int (1 : Int32)), .val (.int (1 : Int32))]) at_103 rfl rfl ?_
  refine own_iload X74 at_105 rfl rfl ?_
  refine own_if_eq X74 at_107 (by decide) (pcT := 119) (by decide) rfl (fun hc => absurd hc (by decide)) (fun hc => ?_)
  refine own_iload X74 at_110 rfl rfl ?_
  refine own_if_eq X74 at_112 (by decide) (pcT := 119) (by decide) rfl (fun hc => absurd hc (by decide)) (fun hc => ?_)
  refine own_iconst X74 (1 : Int32) at_115 rfl (by decide) ?_
  refine own_goto X74 at_116 (by decide) (pc' := 120) (by decide) ?_
  exact own_retZ X74 rfl at_120 rfl rfl (by decide) (by decide)
set_option maxRecDepth 65536 in
set_option maxHeartbeats 40000000 in
theorem comes_1 {Post : Tables → Env → Array Value → State → Outcome → State → Prop} (hpost : ∀ tb e args s v u, (limb_1_1.after args s (.returned v) u = true ∧ limb_1_2.after args s (.returned v) u = true ∧ True) → FrameEnd s (.returned v) u (Jvm.fieldLocs frame_1_writes args s ++ Jvm.arrayLocs frame_1_arrays args s ++ Jvm.staticLocs frame_1_statics s) 16 128 → Post tb e args s (.returned v) u) :
    ArmFor flags0 classFile x code maxLocals ret World_1 tables_1 room_1 Calls_1 rest_1 Pre_1 Post := by
  intro l hfl _ _ p e ha hc hk s m args below hf hA hF happ hP
  obtain ⟨hcalls, hrest, hpre⟩ := hP
  obtain ⟨-, -, -, hnamed, -, -, -, hat⟩ := (Spec.applies_iff hf).mp happ
  obtain ⟨hg, hn⟩ := and_e (Cond.before_iff.mp (show (Jvm.Cond.and given_1 narrow_1).before args s = true from hpre))
  obtain ⟨h1, g0⟩ := and_e hg
  obtain ⟨g0, g1⟩ := and_e g0
  obtain ⟨g1, g2⟩ := and_e g1
  obtain ⟨g2, g3⟩ := and_e g2
  obtain ⟨g3, g4⟩ := and_e g3
  obtain ⟨g4, g5⟩ := and_e g4
  obtain ⟨w0, w1, w2, w3, w4, w5, rfl⟩ : ∃ w0 w1 w2 w3 w4 w5 : Value, args = #[w0, w1, w2, w3, w4, w5] := by
    have hs : args.size = 6 := by simpa [Cond.value, given_1] using h1
    obtain ⟨L⟩ := args
    match L, hs with
    | [w0, w1, w2, w3, w4, w5], _ => exact ⟨w0, w1, w2, w3, w4, w5, rfl⟩
  have hw := fun d (hd : d ∈ tables_1) => atoms_spec (ws := Jvm.Cond.code x code maxLocals ret :: tables_1) hat d (List.mem_cons_of_mem _ hd)
  obtain ⟨i0, e0⟩ := isL_v g0
  obtain rfl : w0 = (.long i0) := Option.some.inj e0
  obtain ⟨i1, e1⟩ := isL_v g1
  obtain rfl : w1 = (.long i1) := Option.some.inj e1
  obtain ⟨i2, e2⟩ := is_v g2
  obtain rfl : w2 = (.int i2) := Option.some.inj e2
  obtain ⟨i3, e3⟩ := isL_v g3
  obtain rfl : w3 = (.long i3) := Option.some.inj e3
  obtain ⟨i4, e4⟩ := isL_v g4
  obtain rfl : w4 = (.long i4) := Option.some.inj e4
  obtain ⟨i5, e5⟩ := is_v g5
  obtain rfl : w5 = (.int i5) := Option.some.inj e5
  obtain ⟨n, o, h1, h2, h3, _, L, rfl, ⟨rfl, N⟩, hq⟩ := own_law l s _ hw tables_1 i0 i1 i2 i3 i4 i5 s.heap s.heap.size (Nat.le_refl _) p e ha hc hk s m _ below hf ((Spec.applies_iff_loose hf).mp happ).1 ⟨rfl, State.Warmed39.refl s, rfl⟩ trivial
  refine ⟨n, _, h1, h2, h3, hpost _ _ _ _ _ _ ⟨Cond.after_iff.mpr rfl, Cond.after_iff.mpr (eq_i res_at (Term.int_eval (1)) rfl), trivial⟩ ⟨hq.1, hq.2.1, (hq.2.2.sift fun y hy => Or.inr (N y hy)).mono (by decide) (by decide)⟩⟩
theorem main_1_1 : Claimed_1_1 := comes_1 fun _ _ _ _ _ _ h hF => ⟨h.1, hF⟩
theorem main_1_2 : Claimed_1_2 := comes_1 fun _ _ _ _ _ _ h hF => ⟨h.2.1, hF⟩
end Jvm.Pilot.@@N@@
namespace Jvm.Pilot.@@N@@
open Jvm Jvm.ClassFile Sem Op Lib Jvm.Free Jvm.Stand Jvm.Pilot.@@N@@.Jvm.D
/-! MADE BY PROGRAM (witnessworld.py) out of the Statement's table words and the real class files: 11 classes; the members and pool entries that the words name. The judged class is class 1, her method 1. -/
namespace start1
open Jvm.ClassFile
def u (s : String) : CpInfo := .utf8 (stringToUtf16 s)
/-- a pool by its gaps: so many unusable entries, then the entry; so many at the end -/
def gap : Nat → List CpInfo → List CpInfo
  | 0, r => r
  | n + 1, r => .unusable :: gap n r
def poolList (es : List (Nat × CpInfo)) (last : Nat) : List CpInfo := es.foldr (fun e r => gap e.1 (e.2 :: r)) (gap last [])
def pool (es : List (Nat × CpInfo)) (last : Nat) : Array CpInfo := ⟨poolList es last⟩
def fileOf (pool : Array CpInfo) (this : Nat) (attrs : Array Attribute := #[]) (ms : Array MethodInfo := #[]) (fl : Nat := 33) (sup : Nat := 0) (ifs : Array Nat := #[]) (fds : Array FieldInfo := #[]) : ClassFile where
  minorVersion := 0
  majorVersion := 65
  constantPool := pool
  accessFlags := fl
  thisClass := this
  superClass := sup
  interfaces := ifs
  fields := fds
  methods := ms
  attributes := attrs
def plain (name : String) (sup : Option ClassId) : Class where
  name := name
  kind := .ordinary
  loader := none
  accessFlags := 33
  super := sup
  interfaces := #[]
  cf := none
  fields := #[]
  methods := #[]
  instanceTypes := #[]
  staticTypes := #[]
  resolved := #[]
  callSites := []
  init := .initialized
  statics := none
  mirror := none

def pool0 : Array CpInfo := pool [(5, u "<init>"), (0, u "()V"), (1, .class_ 10), (1, u "java/lang/Object")] 113

def k0c0 : Code := { maxStack := 0, maxLocals := 1, code := object_method_1_code, exceptionTable := #[], attributes := #[] }
def k0m0 : Method := { name := "<init>", desc := "()V", sig := { parameters := [], returnType := none }, accessFlags := 1, code := some k0c0 }
/-- java/lang/Object -/
def k0 : Class := { plain "java/lang/Object" none with
  accessFlags := 33
  interfaces := #[]
  cf := some (fileOf pool0 8 #[] #[{ accessFlags := 1, nameIndex := 5, descriptorIndex := 6, attributes := #[] }] 33 0 #[] #[])
  fields := #[]
  methods := #[k0m0]
  instanceTypes := #[]
  staticTypes := #[]
  resolved := Array.replicate 124 none
  statics := none }

def pool1 : Array CpInfo := pool [(2, .class_ 4), (0, .nameAndType 5 6), (0, u "java/lang/Object"), (0, u "<init>"), (0, u "()V"), (0, .class_ 8), (0, u "com/example/iterate/iterate/engine/RecordIndex"), (0, .methodref 7 3), (0, .methodref 7 11), (0, .nameAndType 12 13), (0, u "counted"), (0, u "(JJI)V"), (0, .methodref 7 15), (0, .nameAndType 16 17), (0, u "count"), (0, u "()J"), (0, .methodref 7 19), (0, .nameAndType 20 17), (0, u "bytes"), (0, .methodref 7 22), (0, .nameAndType 23 24), (0, u "fileCount"), (0, u "()I"), (0, .class_ 26), (0, u "com/example/iterate/iterate/engine/RecordIndexCountedPinLaw"), (2, u "law"), (0, u "(JJIJJI)Z")] 3

def k1m0 : Method := { name := "<init>", desc := "()V", sig := { parameters := [], returnType := none }, accessFlags := 1, code := none }
def k1c1 : Code := { maxStack := 6, maxLocals := 13, code := code, exceptionTable := #[], attributes := #[] }
def k1m1 : Method := { name := "law", desc := "(JJIJJI)Z", sig := { parameters := [.long, .long, .int, .long, .long, .int], returnType := some .boolean }, accessFlags := 9, code := some k1c1 }
/-- com/example/iterate/iterate/engine/RecordIndexCountedPinLaw -/
def k1 : Class := { plain "com/example/iterate/iterate/engine/RecordIndexCountedPinLaw" (some 0) with
  accessFlags := 49
  interfaces := #[]
  cf := some (fileOf pool1 25 #[] #[{ accessFlags := 1, nameIndex := 5, descriptorIndex := 6, attributes := #[] }, { accessFlags := 9, nameIndex := 29, descriptorIndex := 30, attributes := #[] }] 49 2 #[] #[])
  fields := #[]
  methods := #[k1m0, k1m1]
  instanceTypes := #[]
  staticTypes := #[]
  resolved := Array.replicate 34 none
  statics := none }

def pool2 : Array CpInfo := pool [(1, .methodref 2 3), (0, .class_ 4), (0, .nameAndType 5 6), (0, u "java/lang/Object"), (0, u "<init>"), (0, u "()V"), (0, .fieldref 8 9), (0, .class_ 10), (0, .nameAndType 11 12), (0, u "com/example/iterate/iterate/engine/RecordIndex"), (0, u "records"), (0, u "[J"), (0, .fieldref 8 14), (0, .nameAndType 15 16), (0, u "files"), (0, u "[I"), (0, .fieldref 8 18), (0, .nameAndType 19 12), (0, u "offsets"), (0, .fieldref 8 21), (0, .nameAndType 22 23), (0, u "stride"), (0, u "I"), (0, .fieldref 8 25), (0, .nameAndType 26 27), (0, u "count"), (0, u "J"), (0, .fieldref 8 29), (0, .nameAndType 30 27), (0, u "bytes"), (0, .fieldref 8 32), (0, .nameAndType 33 23), (0, u "fileCount"), (2, u "marks"), (5, u "offered"), (9, .class_ 53), (0, u "com/example/iterate/iterate/engine/RecordIndex$Mark"), (25, u "MOST_MARKS"), (4, u "()J"), (0, u "()I"), (3, u "counted"), (0, u "(JJI)V")] 9

def k2c0 : Code := { maxStack := 2, maxLocals := 1, code := prog_26_method_1_code, exceptionTable := #[], attributes := #[] }
def k2m0 : Method := { name := "<init>", desc := "()V", sig := { parameters := [], returnType := none }, accessFlags := 0, code := some k2c0 }
def k2c1 : Code := { maxStack := 2, maxLocals := 1, code := prog_26_method_2_code, exceptionTable := #[], attributes := #[] }
def k2m1 : Method := { name := "count", desc := "()J", sig := { parameters := [], returnType := some .long }, accessFlags := 0, code := some k2c1 }
def k2c2 : Code := { maxStack := 2, maxLocals := 1, code := prog_26_method_3_code, exceptionTable := #[], attributes := #[] }
def k2m2 : Method := { name := "bytes", desc := "()J", sig := { parameters := [], returnType := some .long }, accessFlags := 0, code := some k2c2 }
def k2c3 : Code := { maxStack := 1, maxLocals := 1, code := prog_26_method_4_code, exceptionTable := #[], attributes := #[] }
def k2m3 : Method := { name := "fileCount", desc := "()I", sig := { parameters := [], returnType := some .int }, accessFlags := 0, code := some k2c3 }
def k2c4 : Code := { maxStack := 3, maxLocals := 6, code := prog_26_method_6_code, exceptionTable := #[], attributes := #[] }
def k2m4 : Method := { name := "counted", desc := "(JJI)V", sig := { parameters := [.long, .long, .int], returnType := none }, accessFlags := 0, code := some k2c4 }
/-- com/example/iterate/iterate/engine/RecordIndex -/
def k2 : Class := { plain "com/example/iterate/iterate/engine/RecordIndex" (some 0) with
  accessFlags := 48
  interfaces := #[]
  cf := some (fileOf pool2 8 #[.nestMembers #[52]] #[{ accessFlags := 0, nameIndex := 5, descriptorIndex := 6, attributes := #[] }, { accessFlags := 0, nameIndex := 26, descriptorIndex := 84, attributes := #[] }, { accessFlags := 0, nameIndex := 30, descriptorIndex := 84, attributes := #[] }, { accessFlags := 0, nameIndex := 33, descriptorIndex := 85, attributes := #[] }, { accessFlags := 0, nameIndex := 89, descriptorIndex := 90, attributes := #[] }] 48 2 #[] #[{ accessFlags := 24, nameIndex := 79, descriptorIndex := 23, attributes := #[] }, { accessFlags := 2, nameIndex := 26, descriptorIndex := 27, attributes := #[] }, { accessFlags := 2, nameIndex := 30, descriptorIndex := 27, attributes := #[] }, { accessFlags := 2, nameIndex := 33, descriptorIndex := 23, attributes := #[] }, { accessFlags := 2, nameIndex := 11, descriptorIndex := 12, attributes := #[] }, { accessFlags := 2, nameIndex := 15, descriptorIndex := 16, attributes := #[] }, { accessFlags := 2, nameIndex := 19, descriptorIndex := 12, attributes := #[] }, { accessFlags := 2, nameIndex := 36, descriptorIndex := 23, attributes := #[] }, { accessFlags := 2, nameIndex := 42, descriptorIndex := 27, attributes := #[] }, { accessFlags := 2, nameIndex := 22, descriptorIndex := 23, attributes := #[] }])
  fields := #[{ name := "MOST_MARKS", type := .int, accessFlags := 24, slot := 0, constantValue := 0 }, { name := "count", type := .long, accessFlags := 2, slot := 0, constantValue := 0 }, { name := "bytes", type := .long, accessFlags := 2, slot := 1, constantValue := 0 }, { name := "fileCount", type := .int, accessFlags := 2, slot := 2, constantValue := 0 }, { name := "records", type := (.array .long), accessFlags := 2, slot := 3, constantValue := 0 }, { name := "files", type := (.array .int), accessFlags := 2, slot := 4, constantValue := 0 }, { name := "offsets", type := (.array .long), accessFlags := 2, slot := 5, constantValue := 0 }, { name := "marks", type := .int, accessFlags := 2, slot := 6, constantValue := 0 }, { name := "offered", type := .long, accessFlags := 2, slot := 7, constantValue := 0 }, { name := "stride", type := .int, accessFlags := 2, slot := 8, constantValue := 0 }]
  methods := #[k2m0, k2m1, k2m2, k2m3, k2m4]
  instanceTypes := #[.long, .long, .int, (.array .long), (.array .int), (.array .long), .int, .long, .int]
  staticTypes := #[.int]
  resolved := Array.replicate 100 none
  statics := none }

def pool3 : Array CpInfo := pool [(1, u "java/lang/Cloneable"), (0, .class_ 1), (0, u "java/lang/Object"), (0, .class_ 3)] 3

/-- java/lang/Cloneable -/
def k3 : Class := { plain "java/lang/Cloneable" (some 0) with
  accessFlags := 1537
  interfaces := #[]
  cf := some (fileOf pool3 2 #[] #[] 1537 4 #[] #[])
  fields := #[]
  methods := #[]
  instanceTypes := #[]
  staticTypes := #[]
  resolved := Array.replicate 8 none
  statics := none }

def pool4 : Array CpInfo := pool [(1, u "java/io/Serializable"), (0, .class_ 1), (0, u "java/lang/Object"), (0, .class_ 3)] 3

/-- java/io/Serializable -/
def k4 : Class := { plain "java/io/Serializable" (some 0) with
  accessFlags := 1537
  interfaces := #[]
  cf := some (fileOf pool4 2 #[] #[] 1537 4 #[] #[])
  fields := #[]
  methods := #[]
  instanceTypes := #[]
  staticTypes := #[]
  resolved := Array.replicate 8 none
  statics := none }

/-- the primitive byte -/
def k5 : Class := { plain "byte" none with kind := .primitive 'B', accessFlags := 0x411 }
/-- [B -/
def k6 : Class := { plain "[B" (some 0) with kind := .array 5 .byte, interfaces := #[3, 4], accessFlags := 1041 }

/-- the primitive int -/
def k7 : Class := { plain "int" none with kind := .primitive 'I', accessFlags := 0x411 }
/-- [I -/
def k8 : Class := { plain "[I" (some 0) with kind := .array 7 .int, interfaces := #[3, 4], accessFlags := 1041 }

/-- the primitive long -/
def k9 : Class := { plain "long" none with kind := .primitive 'J', accessFlags := 0x411 }
/-- [J -/
def k10 : Class := { plain "[J" (some 0) with kind := .array 9 .long, interfaces := #[3, 4], accessFlags := 1041 }

def heap : Heap := #[]
def classes : Array Class := #[k0, k1, k2, k3, k4, k5, k6, k7, k8, k9, k10]
def interned : List (Array UInt16 × Addr) := []
def slotsUsed : Nat := 0
def theMethod : MethodId := ⟨1, 1⟩
def args0 : Array Value := #[.long 5, .long 6, .int 7, .long 8, .long 9, .int 10]
def aboutOver (below : List Frame) : State where
  vm := { classes := classes, interned := interned.toArray }
  heap := heap
  slotsUsed := slotsUsed
  threads := #[{ frames := .invoking theMethod args0 :: below }]
def below0 : List Frame := [.native { method := ⟨0, 0⟩, args := #[] }]
def about1 : State := aboutOver below0
def p0 : Program := .bare "" "" ""
def e0 : Env := launch0.env 0 0 0
theorem w_frames : about1.frames = Frame.invoking theMethod args0 :: below0 := rfl
set_option maxRecDepth 65536 in
theorem w_args : argsFit about1.vm theMethod args0 = true := by decide +kernel
set_option maxRecDepth 65536 in
theorem w_heap : heapFits about1 = true := by decide +kernel
set_option maxRecDepth 65536 in
theorem w_runnable : about1.curStatus? = some .runnable := by decide +kernel
set_option maxRecDepth 65536 in
theorem w_alone : about1.alone = true := by decide +kernel
set_option maxRecDepth 65536 in
theorem w_named : about1.methodNamed? x = some theMethod := by decide +kernel
set_option maxRecDepth 65536 in
theorem w_hears : about1.hears theMethod below0 = true := by decide +kernel
set_option maxRecDepth 65536 in
theorem w_ripe : about1.ripe theMethod args0 below0 = true := by decide +kernel
theorem w_running : about1.status = .running := rfl
set_option maxRecDepth 65536 in
theorem w_room : about1.hasRoom e0.platform room_1 = true :=
  launch0.hasRoom_least _ room_1 (by decide +kernel) (by decide +kernel) (by decide +kernel) (by decide +kernel) (by decide +kernel) (by decide +kernel)
theorem allAtoms_all (ts : List Jvm.Cond) (a : Array Jvm.Value) (st : Jvm.State) : (allAtoms ts).before a st = ts.all (fun c => c.before a st) := by
  induction ts with
  | nil => rfl
  | cons c t ih =>
    show (Jvm.Cond.and c (allAtoms t)).before a st = _
    rw [Jvm.Cond.before_and, ih, List.all_cons]
def words1 : List Jvm.Cond := Jvm.Cond.code x code maxLocals ret :: tables_1
/-- a 'code' word, met by the world's own term for the bytes: nothing is compared byte by byte -/
theorem code_word {y : MethodName} {bytes : ByteArray} {mx : Nat} {rt : Option FieldType} {a : Array Value} {s : State} {m : MethodId} {meth : Method} {c : Code} (h1 : s.methodNamed? y = some m) (h2 : s.vm.method? m = some meth) (h3 : meth.code = some c) (h4 : c.code = bytes)
    (h5 : (c.maxLocals == mx && c.exceptionTable.isEmpty && decide (c.maxStack ≤ mostOperands) && decide (meth.sig.returnType = rt) && !meth.locks && decide (parseMethodDescriptor y.desc = some meth.sig)) = true) : (Jvm.Cond.code y bytes mx rt).before a s = true := by
  simp only [Bool.and_eq_true, beq_iff_eq, Bool.not_eq_true', decide_eq_true_eq] at h5
  obtain ⟨⟨⟨⟨⟨g1, g2⟩, g3⟩, g4⟩, g5⟩, g6⟩ := h5
  simp [Cond.before, Cond.holds, Cond.value, h1, h2, h3, h4, g1, g2, g3, g4, g5, g6]
def isCode : Jvm.Cond → Bool
  | .code _ _ _ _ => true
  | _ => false
theorem all_split {L : List Jvm.Cond} {P : Jvm.Cond → Bool} (h1 : L.all (fun c => isCode c || P c) = true) (h2 : ∀ c ∈ L.filter isCode, P c = true) : L.all P = true := by
  refine List.all_eq_true.mpr fun c hc => ?_
  have h := List.all_eq_true.mp h1 c hc
  rcases Bool.eq_false_or_eq_true (isCode c) with hi | hi
  · exact h2 c (List.mem_filter.mpr ⟨hc, hi⟩)
  · simpa [hi] using h
set_option maxRecDepth 65536 in
theorem w_c0 : (Jvm.Cond.code x code maxLocals ret).before args0 about1 = true := code_word (m := ⟨1, 1⟩) (meth := k1m1) (c := k1c1) (by decide +kernel) rfl rfl rfl (by decide +kernel)
set_option maxRecDepth 65536 in
theorem w_c1 : (Jvm.Cond.code ({ cls := "com/example/iterate/iterate/engine/RecordIndex", name := "<init>", desc := "()V" } : Jvm.MethodName) prog_26_method_1_code (1 : Nat) (Option.none : Option Jvm.ClassFile.FieldType)).before args0 about1 = true := code_word (m := ⟨2, 0⟩) (meth := k2m0) (c := k2c0) (by decide +kernel) rfl rfl rfl (by decide +kernel)
set_option maxRecDepth 65536 in
theorem w_c2 : (Jvm.Cond.code ({ cls := "java/lang/Object", name := "<init>", desc := "()V" } : Jvm.MethodName) object_method_1_code (1 : Nat) (Option.none : Option Jvm.ClassFile.FieldType)).before args0 about1 = true := code_word (m := ⟨0, 0⟩) (meth := k0m0) (c := k0c0) (by decide +kernel) rfl rfl rfl (by decide +kernel)
set_option maxRecDepth 65536 in
theorem w_c3 : (Jvm.Cond.code ({ cls := "com/example/iterate/iterate/engine/RecordIndex", name := "counted", desc := "(JJI)V" } : Jvm.MethodName) prog_26_method_6_code (6 : Nat) (Option.none : Option Jvm.ClassFile.FieldType)).before args0 about1 = true := code_word (m := ⟨2, 4⟩) (meth := k2m4) (c := k2c4) (by decide +kernel) rfl rfl rfl (by decide +kernel)
set_option maxRecDepth 65536 in
theorem w_c4 : (Jvm.Cond.code ({ cls := "com/example/iterate/iterate/engine/RecordIndex", name := "count", desc := "()J" } : Jvm.MethodName) prog_26_method_2_code (1 : Nat) (Option.some Jvm.ClassFile.FieldType.long)).before args0 about1 = true := code_word (m := ⟨2, 1⟩) (meth := k2m1) (c := k2c1) (by decide +kernel) rfl rfl rfl (by decide +kernel)
set_option maxRecDepth 65536 in
theorem w_c5 : (Jvm.Cond.code ({ cls := "com/example/iterate/iterate/engine/RecordIndex", name := "bytes", desc := "()J" } : Jvm.MethodName) prog_26_method_3_code (1 : Nat) (Option.some Jvm.ClassFile.FieldType.long)).before args0 about1 = true := code_word (m := ⟨2, 2⟩) (meth := k2m2) (c := k2c2) (by decide +kernel) rfl rfl rfl (by decide +kernel)
set_option maxRecDepth 65536 in
theorem w_c6 : (Jvm.Cond.code ({ cls := "com/example/iterate/iterate/engine/RecordIndex", name := "fileCount", desc := "()I" } : Jvm.MethodName) prog_26_method_4_code (1 : Nat) (Option.some Jvm.ClassFile.FieldType.int)).before args0 about1 = true := code_word (m := ⟨2, 3⟩) (meth := k2m3) (c := k2c3) (by decide +kernel) rfl rfl rfl (by decide +kernel)
def codes1 : List Jvm.Cond := [Jvm.Cond.code x code maxLocals ret, Jvm.Cond.code ({ cls := "com/example/iterate/iterate/engine/RecordIndex", name := "<init>", desc := "()V" } : Jvm.MethodName) prog_26_method_1_code (1 : Nat) (Option.none : Option Jvm.ClassFile.FieldType), Jvm.Cond.code ({ cls := "java/lang/Object", name := "<init>", desc := "()V" } : Jvm.MethodName) object_method_1_code (1 : Nat) (Option.none : Option Jvm.ClassFile.FieldType), Jvm.Cond.code ({ cls := "com/example/iterate/iterate/engine/RecordIndex", name := "counted", desc := "(JJI)V" } : Jvm.MethodName) prog_26_method_6_code (6 : Nat) (Option.none : Option Jvm.ClassFile.FieldType), Jvm.Cond.code ({ cls := "com/example/iterate/iterate/engine/RecordIndex", name := "count", desc := "()J" } : Jvm.MethodName) prog_26_method_2_code (1 : Nat) (Option.some Jvm.ClassFile.FieldType.long), Jvm.Cond.code ({ cls := "com/example/iterate/iterate/engine/RecordIndex", name := "bytes", desc := "()J" } : Jvm.MethodName) prog_26_method_3_code (1 : Nat) (Option.some Jvm.ClassFile.FieldType.long), Jvm.Cond.code ({ cls := "com/example/iterate/iterate/engine/RecordIndex", name := "fileCount", desc := "()I" } : Jvm.MethodName) prog_26_method_4_code (1 : Nat) (Option.some Jvm.ClassFile.FieldType.int)]
set_option maxRecDepth 65536 in
theorem codes_eq : words1.filter isCode = codes1 := rfl
theorem w_codes : ∀ c ∈ words1.filter isCode, c.before args0 about1 = true := by
  rw [codes_eq]
  intro c hc
  simp only [codes1, List.mem_cons, List.not_mem_nil, or_false] at hc
  rcases hc with rfl | rfl | rfl | rfl | rfl | rfl | rfl
  · exact w_c0
  · exact w_c1
  · exact w_c2
  · exact w_c3
  · exact w_c4
  · exact w_c5
  · exact w_c6
set_option maxRecDepth 65536 in
theorem w_t1 : (words1.take 24).all (fun c => isCode c || c.before args0 about1) = true := by decide +kernel
set_option maxRecDepth 65536 in
theorem w_t2 : (words1.drop 24).all (fun c => isCode c || c.before args0 about1) = true := by decide +kernel
theorem w_tables : (allAtoms (Jvm.Cond.code x code maxLocals ret :: tables_1)).before args0 about1 = true := by
  rw [allAtoms_all]
  show words1.all (fun c => c.before args0 about1) = true
  refine all_split ?_ w_codes
  rw [← List.take_append_drop 24 words1, List.all_append, w_t1, w_t2]
  rfl
set_option maxRecDepth 65536 in
theorem w_case : (Jvm.Cond.and given_1 narrow_1).before args0 about1 = true := by decide +kernel
theorem w_applies : (headSpec (Jvm.Cond.code x code maxLocals ret :: tables_1) room_1).applies x e0.platform about1 = true :=
  (Spec.applies_iff w_frames).mpr ⟨w_running, w_runnable, w_alone, w_named, w_hears, w_ripe, w_room, w_tables⟩
theorem atStart : AtStart classFile x code maxLocals ret World_1 tables_1 room_1 Calls_1 rest_1 Pre_1 launch0 p0 e0 about1 theMethod args0 below0 :=
  ⟨lists_1, trivial, launch0.admits_env _ _ _, launch0.least_env, fairChoices_fair.cas, fairChoices_fair.clock, w_frames, w_args, w_heap, w_applies, trivial, trivial, w_case⟩
end start1
theorem witness_1 : WitnessClaimed_1 := ⟨start1.p0, start1.e0, start1.about1, start1.theMethod, start1.args0, start1.below0, start1.atStart⟩
end Jvm.Pilot.@@N@@
