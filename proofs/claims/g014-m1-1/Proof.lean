import JvmDerived
import JvmDerived.Pilot.@@N@@Statement
import JvmDerived.Pilot.@@N@@Code
set_option linter.unusedVariables false
set_option linter.unusedSimpArgs false
namespace Jvm.Pilot.@@N@@
open Jvm Jvm.ClassFile Sem Op Lib Jvm.Free Jvm.Stand Jvm.LawKit Jvm.RoadKit Bundle Jvm.Pilot.@@N@@.Jvm.D
section OwnKit
variable {Z : State} {p : Program} {l : Launch} {e : Env} {R : Room} {s : State} {m : MethodId} {args : Array Value} {below : List Frame} {meth : Method} {c : Code} {n0 : Nat} {own : String} {bytes : ByteArray} {maxL : Nat} {nm : String} {ret : Option FieldType} {T : State} {h : Heap} {cells slots : Nat} {G : Outcome → State → Prop} {L : Array Slot} {st : List Value} {pc pc' : Nat} {a0 : Array Value}
def own_Fin (p : Program) (e : Env) (below : List Frame) (G : Outcome → State → Prop) (t : State) : Prop :=
  ∃ s₂ o, Steps p.tables e below t s₂ ∧ s₂.status = .running ∧ Ended s₂ below o ∧ G o s₂
theorem own_go {a a' : State} (k : ∀ t, Steps p.tables e below a' t → Steps p.tables e below a t) (q : own_Fin p e below G a') : own_Fin p e below G a := by
  obtain ⟨s2, o, h1, h2⟩ := q
  exact ⟨s2, o, k _ h1, h2⟩
def own_Cx (Z : State) (p : Program) (l : Launch) (e : Env) (R : Room) (s : State) (m : MethodId) (args : Array Value) (below : List Frame) (meth : Method) (c : Code) (n0 : Nat) (own : String) (bytes : ByteArray) (maxL : Nat) (nm : String) (ret : Option FieldType) (T : State) (h : Heap) (cells slots : Nat) : Prop :=
  ∃ locs, Stand p l e R s m args below meth c T locs cells slots ∧ Fr n0 locs ∧ T.heap = h ∧ p.tables.exec = Jvm.exec ∧ Z.Warmed39 s.vm ∧ s.vm.findClass own = some m.cls ∧ c.code = bytes ∧ c.maxLocals = maxL ∧ meth.name = nm ∧ meth.sig.returnType = ret ∧ meth.locks = false
def own_End (s : State) (n0 : Nat) (q : Option Value → Heap → Prop) (k n : Nat) (o : Outcome) (U' : State) : Prop :=
  ∃ v L, o = .returned v ∧ (q v U'.heap ∧ Fr n0 L) ∧ FrameEnd s o U' L k n
def own_Met (l : Launch) (Z : State) (y : MethodName) (bytes : ByteArray) (maxL : Nat) (ret : Option FieldType) (ws : List Jvm.Cond) (rm : Room) (as' : Array Value) (h0 : Heap) (n0 : Nat) (q : Option Value → Heap → Prop) : Prop :=
  MetFree l y (head1 (Jvm.Cond.code y bytes maxL ret :: ws) rm) (fun a U => a = as' ∧ Z.Warmed39 U.vm ∧ U.heap = h0) (fun _ _ _ _ _ => True) (fun _ U o U' => own_End U n0 q rm.cells rm.slots o U')
theorem own_enter {y : MethodName} {ws : List Jvm.Cond} {rm : Room} {as' : Array Value} {h0 : Heap} {q : Option Value → Heap → Prop} {L0 : Array Slot} {own nm : String} (ho : y.cls = own) (hnm0 : y.name = nm) (pn : plainFor y = true) (ef : ∀ m, entryFrame m as' maxL = mkF m 0 L0 [])
    (body : ∀ p e s m below meth c T, own_Cx Z p l e rm s m as' below meth c n0 own bytes maxL nm ret T h0 0 0 → own_Fin p e below (own_End s n0 q rm.cells rm.slots) (T.setTop (mkF m 0 L0 []))) :
    own_Met l Z y bytes maxL ret ws rm as' h0 n0 q := by
  subst ho hnm0
  refine MetFree.of_bodySF pn hisR ?_
  intro p e s m args below meth c s₁ Bd hml0 hP hK
  obtain ⟨rfl, hZ, hh⟩ := hP
  have hnm := (name_of_methodNamed Bd.named Bd.method).1
  have e0 : s₁.heap = h0 := by rw [← hh, Bd.state]; rfl
  obtain ⟨s2, o, k1, k2, k3, k4⟩ := body p e s m below meth c s₁ ⟨[], Stand.of_body Bd, Fr.nil _, e0, Bd.exec, hZ, findClass_of_methodNamed Bd.named, Bd.bytes, hml0, hnm, Bd.returns, Bd.notSynchronized⟩
  exact ⟨s2, o, castTop (ef m) k1, k2, k3, k4⟩
theorem own_iload (X : own_Cx Z p l e R s m args below meth c n0 own bytes maxL nm ret T h cells slots) {k : Nat} {v : Int32} (d : decode bytes pc = .ok (.iload k, 2)) (hp : pc + 2 = pc') (hl : L[k]? = some (.val (.int v)))
    (q : own_Fin p e below G (T.setTop (mkF m pc' L ((.int v) :: st)))) : own_Fin p e below G (T.setTop (mkF m pc L (st))) := by
  obtain ⟨locs, X, N, eT, hx, hZ, hown, hby, hml, hnm, hret, hlk⟩ := X
  subst hp
  exact own_go (fun t k => XS.iload X.here hx rfl (hb hby d) hl k) q
theorem own_lload (X : own_Cx Z p l e R s m args below meth c n0 own bytes maxL nm ret T h cells slots) {k : Nat} {v : Int64} (d : decode bytes pc = .ok (.lload k, 2)) (hp : pc + 2 = pc') (hl : L[k]? = some (.val (.long v)))
    (q : own_Fin p e below G (T.setTop (mkF m pc' L ((.long v) :: st)))) : own_Fin p e below G (T.setTop (mkF m pc L (st))) := by
  obtain ⟨locs, X, N, eT, hx, hZ, hown, hby, hml, hnm, hret, hlk⟩ := X
  subst hp
  exact own_go (fun t k => XT.lload X.here hx rfl (hb hby d) hl k) q
theorem own_iloadN (X : own_Cx Z p l e R s m args below meth c n0 own bytes maxL nm ret T h cells slots) {k : Fin 4} {v : Int32} (d : decode bytes pc = .ok (.iload_n k, 1)) (hp : pc + 1 = pc') (hl : L[k.val]? = some (.val (.int v)))
    (q : own_Fin p e below G (T.setTop (mkF m pc' L ((.int v) :: st)))) : own_Fin p e below G (T.setTop (mkF m pc L (st))) := by
  obtain ⟨locs, X, N, eT, hx, hZ, hown, hby, hml, hnm, hret, hlk⟩ := X
  subst hp
  exact own_go (fun t k => XS.iloadN X.here hx rfl (hb hby d) hl k) q
theorem own_lloadN (X : own_Cx Z p l e R s m args below meth c n0 own bytes maxL nm ret T h cells slots) {k : Fin 4} {v : Int64} (d : decode bytes pc = .ok (.lload_n k, 1)) (hp : pc + 1 = pc') (hl : L[k.val]? = some (.val (.long v)))
    (q : own_Fin p e below G (T.setTop (mkF m pc' L ((.long v) :: st)))) : own_Fin p e below G (T.setTop (mkF m pc L (st))) := by
  obtain ⟨locs, X, N, eT, hx, hZ, hown, hby, hml, hnm, hret, hlk⟩ := X
  subst hp
  exact own_go (fun t k => XT.lloadN X.here hx rfl (hb hby d) hl k) q
theorem own_aload (X : own_Cx Z p l e R s m args below meth c n0 own bytes maxL nm ret T h cells slots) {k : Nat} {v : Value} (d : decode bytes pc = .ok (.aload k, 2)) (hp : pc + 2 = pc') (hl : L[k]? = some (.val v)) (hv : v.isRef = true)
    (q : own_Fin p e below G (T.setTop (mkF m pc' L (v :: st)))) : own_Fin p e below G (T.setTop (mkF m pc L (st))) := by
  obtain ⟨locs, X, N, eT, hx, hZ, hown, hby, hml, hnm, hret, hlk⟩ := X
  subst hp
  exact own_go (fun t k => XS.aload X.here hx rfl (hb hby d) hl hv k) q
theorem own_aloadN (X : own_Cx Z p l e R s m args below meth c n0 own bytes maxL nm ret T h cells slots) {k : Fin 4} {v : Value} (d : decode bytes pc = .ok (.aload_n k, 1)) (hp : pc + 1 = pc') (hl : L[k.val]? = some (.val v)) (hv : v.isRef = true)
    (q : own_Fin p e below G (T.setTop (mkF m pc' L (v :: st)))) : own_Fin p e below G (T.setTop (mkF m pc L (st))) := by
  obtain ⟨locs, X, N, eT, hx, hZ, hown, hby, hml, hnm, hret, hlk⟩ := X
  subst hp
  exact own_go (fun t k => XS.aloadN X.here hx rfl (hb hby d) hl hv k) q
theorem own_istore (X : own_Cx Z p l e R s m args below meth c n0 own bytes maxL nm ret T h cells slots) {k : Nat} {v : Int32} {L' : Array Slot} (d : decode bytes pc = .ok (.istore k, 2)) (hp : pc + 2 = pc') (hl : storeLocals L k (.int v) = some L')
    (q : own_Fin p e below G (T.setTop (mkF m pc' L' (st)))) : own_Fin p e below G (T.setTop (mkF m pc L ((.int v) :: st))) := by
  obtain ⟨locs, X, N, eT, hx, hZ, hown, hby, hml, hnm, hret, hlk⟩ := X
  subst hp
  exact own_go (fun t k => XS.istore X.here hx rfl (hb hby d) rfl hl k) q
theorem own_lstore (X : own_Cx Z p l e R s m args below meth c n0 own bytes maxL nm ret T h cells slots) {k : Nat} {v : Int64} {L' : Array Slot} (d : decode bytes pc = .ok (.lstore k, 2)) (hp : pc + 2 = pc') (hl : storeLocals L k (.long v) = some L')
    (q : own_Fin p e below G (T.setTop (mkF m pc' L' (st)))) : own_Fin p e below G (T.setTop (mkF m pc L ((.long v) :: st))) := by
  obtain ⟨locs, X, N, eT, hx, hZ, hown, hby, hml, hnm, hret, hlk⟩ := X
  subst hp
  exact own_go (fun t k => XT.lstore X.here hx rfl (hb hby d) rfl hl k) q
theorem own_istoreN (X : own_Cx Z p l e R s m args below meth c n0 own bytes maxL nm ret T h cells slots) {k : Fin 4} {v : Int32} {L' : Array Slot} (d : decode bytes pc = .ok (.istore_n k, 1)) (hp : pc + 1 = pc') (hl : storeLocals L k.val (.int v) = some L')
    (q : own_Fin p e below G (T.setTop (mkF m pc' L' (st)))) : own_Fin p e below G (T.setTop (mkF m pc L ((.int v) :: st))) := by
  obtain ⟨locs, X, N, eT, hx, hZ, hown, hby, hml, hnm, hret, hlk⟩ := X
  subst hp
  exact own_go (fun t k => XS.istoreN X.here hx rfl (hb hby d) rfl hl k) q
theorem own_lstoreN (X : own_Cx Z p l e R s m args below meth c n0 own bytes maxL nm ret T h cells slots) {k : Fin 4} {v : Int64} {L' : Array Slot} (d : decode bytes pc = .ok (.lstore_n k, 1)) (hp : pc + 1 = pc') (hl : storeLocals L k.val (.long v) = some L')
    (q : own_Fin p e below G (T.setTop (mkF m pc' L' (st)))) : own_Fin p e below G (T.setTop (mkF m pc L ((.long v) :: st))) := by
  obtain ⟨locs, X, N, eT, hx, hZ, hown, hby, hml, hnm, hret, hlk⟩ := X
  subst hp
  exact own_go (fun t k => XT.lstoreN X.here hx rfl (hb hby d) rfl hl k) q
theorem own_astore (X : own_Cx Z p l e R s m args below meth c n0 own bytes maxL nm ret T h cells slots) {k : Nat} {v : Value} {L' : Array Slot} (d : decode bytes pc = .ok (.astore k, 2)) (hp : pc + 2 = pc') (hv : v.isRef = true) (hl : storeLocals L k v = some L')
    (q : own_Fin p e below G (T.setTop (mkF m pc' L' (st)))) : own_Fin p e below G (T.setTop (mkF m pc L (v :: st))) := by
  obtain ⟨locs, X, N, eT, hx, hZ, hown, hby, hml, hnm, hret, hlk⟩ := X
  subst hp
  exact own_go (fun t k => XS.astore X.here hx rfl (hb hby d) rfl hv hl k) q
theorem own_astoreN (X : own_Cx Z p l e R s m args below meth c n0 own bytes maxL nm ret T h cells slots) {k : Fin 4} {v : Value} {L' : Array Slot} (d : decode bytes pc = .ok (.astore_n k, 1)) (hp : pc + 1 = pc') (hv : v.isRef = true) (hl : storeLocals L k.val v = some L')
    (q : own_Fin p e below G (T.setTop (mkF m pc' L' (st)))) : own_Fin p e below G (T.setTop (mkF m pc L (v :: st))) := by
  obtain ⟨locs, X, N, eT, hx, hZ, hown, hby, hml, hnm, hret, hlk⟩ := X
  subst hp
  exact own_go (fun t k => XS.astoreN X.here hx rfl (hb hby d) rfl hv hl k) q
theorem own_iinc (X : own_Cx Z p l e R s m args below meth c n0 own bytes maxL nm ret T h cells slots) {k : Nat} {x : Int32} {i : Int} {L' : Array Slot} (v : Int32) (d : decode bytes pc = .ok (.iinc k i, 3)) (hp : pc + 3 = pc') (hv : Int32.ofInt i = v) (hl : L[k]? = some (.val (.int x))) (hl' : storeLocals L k (.int (x + v)) = some L')
    (q : own_Fin p e below G (T.setTop (mkF m pc' L' (st)))) : own_Fin p e below G (T.setTop (mkF m pc L (st))) := by
  obtain ⟨locs, X, N, eT, hx, hZ, hown, hby, hml, hnm, hret, hlk⟩ := X
  subst hp
  exact own_go (fun t k => XT.iincV X.here hx rfl v (hb hby d) hv hl hl' k) q
theorem own_iconst (X : own_Cx Z p l e R s m args below meth c n0 own bytes maxL nm ret T h cells slots) {i : Int} (v : Int32) (d : decode bytes pc = .ok (.iconst i, 1)) (hp : pc + 1 = pc') (hv : Int32.ofInt i = v)
    (q : own_Fin p e below G (T.setTop (mkF m pc' L ((.int v) :: st)))) : own_Fin p e below G (T.setTop (mkF m pc L (st))) := by
  obtain ⟨locs, X, N, eT, hx, hZ, hown, hby, hml, hnm, hret, hlk⟩ := X
  subst hp
  exact own_go (fun t k => XT.iconstV X.here hx rfl v (hb hby d) hv k) q
theorem own_bipush (X : own_Cx Z p l e R s m args below meth c n0 own bytes maxL nm ret T h cells slots) {i : Int} (v : Int32) (d : decode bytes pc = .ok (.bipush i, 2)) (hp : pc + 2 = pc') (hv : (Int8.ofInt i).toInt32 = v)
    (q : own_Fin p e below G (T.setTop (mkF m pc' L ((.int v) :: st)))) : own_Fin p e below G (T.setTop (mkF m pc L (st))) := by
  obtain ⟨locs, X, N, eT, hx, hZ, hown, hby, hml, hnm, hret, hlk⟩ := X
  subst hp
  exact own_go (fun t k => XT.bipushV X.here hx rfl v (hb hby d) hv k) q
theorem own_sipush (X : own_Cx Z p l e R s m args below meth c n0 own bytes maxL nm ret T h cells slots) {i : Int} (v : Int32) (d : decode bytes pc = .ok (.sipush i, 3)) (hp : pc + 3 = pc') (hv : (Int16.ofInt i).toInt32 = v)
    (q : own_Fin p e below G (T.setTop (mkF m pc' L ((.int v) :: st)))) : own_Fin p e below G (T.setTop (mkF m pc L (st))) := by
  obtain ⟨locs, X, N, eT, hx, hZ, hown, hby, hml, hnm, hret, hlk⟩ := X
  subst hp
  exact own_go (fun t k => XT.sipushV X.here hx rfl v (hb hby d) hv k) q
theorem own_lconst (X : own_Cx Z p l e R s m args below meth c n0 own bytes maxL nm ret T h cells slots) {i : Fin 2} (v : Int64) (d : decode bytes pc = .ok (.lconst i, 1)) (hp : pc + 1 = pc') (hv : Int64.ofNat i = v)
    (q : own_Fin p e below G (T.setTop (mkF m pc' L ((.long v) :: st)))) : own_Fin p e below G (T.setTop (mkF m pc L (st))) := by
  obtain ⟨locs, X, N, eT, hx, hZ, hown, hby, hml, hnm, hret, hlk⟩ := X
  subst hp
  exact own_go (fun t k => XT.lconstV X.here hx rfl v (hb hby d) hv k) q
theorem own_aconst_null (X : own_Cx Z p l e R s m args below meth c n0 own bytes maxL nm ret T h cells slots)  (d : decode bytes pc = .ok (.aconst_null, 1)) (hp : pc + 1 = pc') 
    (q : own_Fin p e below G (T.setTop (mkF m pc' L (.null :: st)))) : own_Fin p e below G (T.setTop (mkF m pc L (st))) := by
  obtain ⟨locs, X, N, eT, hx, hZ, hown, hby, hml, hnm, hret, hlk⟩ := X
  subst hp
  exact own_go (fun t k => XS.aconstNull X.here hx rfl (hb hby d) k) q
theorem own_iadd (X : own_Cx Z p l e R s m args below meth c n0 own bytes maxL nm ret T h cells slots) {x y : Int32} (d : decode bytes pc = .ok (.iadd, 1)) (hp : pc + 1 = pc') 
    (q : own_Fin p e below G (T.setTop (mkF m pc' L ((.int (x + y)) :: st)))) : own_Fin p e below G (T.setTop (mkF m pc L ((.int y) :: (.int x) :: st))) := by
  obtain ⟨locs, X, N, eT, hx, hZ, hown, hby, hml, hnm, hret, hlk⟩ := X
  subst hp
  exact own_go (fun t k => XS.iadd X.here hx rfl (hb hby d) rfl k) q
theorem own_isub (X : own_Cx Z p l e R s m args below meth c n0 own bytes maxL nm ret T h cells slots) {x y : Int32} (d : decode bytes pc = .ok (.isub, 1)) (hp : pc + 1 = pc') 
    (q : own_Fin p e below G (T.setTop (mkF m pc' L ((.int (x - y)) :: st)))) : own_Fin p e below G (T.setTop (mkF m pc L ((.int y) :: (.int x) :: st))) := by
  obtain ⟨locs, X, N, eT, hx, hZ, hown, hby, hml, hnm, hret, hlk⟩ := X
  subst hp
  exact own_go (fun t k => XS.isub X.here hx rfl (hb hby d) rfl k) q
theorem own_iand (X : own_Cx Z p l e R s m args below meth c n0 own bytes maxL nm ret T h cells slots) {x y : Int32} (d : decode bytes pc = .ok (.iand, 1)) (hp : pc + 1 = pc') 
    (q : own_Fin p e below G (T.setTop (mkF m pc' L ((.int (x &&& y)) :: st)))) : own_Fin p e below G (T.setTop (mkF m pc L ((.int y) :: (.int x) :: st))) := by
  obtain ⟨locs, X, N, eT, hx, hZ, hown, hby, hml, hnm, hret, hlk⟩ := X
  subst hp
  exact own_go (fun t k => XS.iand X.here hx rfl (hb hby d) rfl k) q
theorem own_imul (X : own_Cx Z p l e R s m args below meth c n0 own bytes maxL nm ret T h cells slots) {x y : Int32} (d : decode bytes pc = .ok (.imul, 1)) (hp : pc + 1 = pc') 
    (q : own_Fin p e below G (T.setTop (mkF m pc' L ((.int (x * y)) :: st)))) : own_Fin p e below G (T.setTop (mkF m pc L ((.int y) :: (.int x) :: st))) := by
  obtain ⟨locs, X, N, eT, hx, hZ, hown, hby, hml, hnm, hret, hlk⟩ := X
  subst hp
  exact own_go (fun t k => XS.imul X.here hx rfl (hb hby d) rfl k) q
theorem own_irem (X : own_Cx Z p l e R s m args below meth c n0 own bytes maxL nm ret T h cells slots) {x y : Int32} (d : decode bytes pc = .ok (.irem, 1)) (hp : pc + 1 = pc') (hy : y ≠ 0)
    (q : own_Fin p e below G (T.setTop (mkF m pc' L ((.int (x % y)) :: st)))) : own_Fin p e below G (T.setTop (mkF m pc L ((.int y) :: (.int x) :: st))) := by
  obtain ⟨locs, X, N, eT, hx, hZ, hown, hby, hml, hnm, hret, hlk⟩ := X
  subst hp
  exact own_go (fun t k => iremM X hx rfl (hb hby d) rfl hy k) q
theorem own_ixor (X : own_Cx Z p l e R s m args below meth c n0 own bytes maxL nm ret T h cells slots) {x y : Int32} (d : decode bytes pc = .ok (.ixor, 1)) (hp : pc + 1 = pc') 
    (q : own_Fin p e below G (T.setTop (mkF m pc' L ((.int (x ^^^ y)) :: st)))) : own_Fin p e below G (T.setTop (mkF m pc L ((.int y) :: (.int x) :: st))) := by
  obtain ⟨locs, X, N, eT, hx, hZ, hown, hby, hml, hnm, hret, hlk⟩ := X
  subst hp
  exact own_go (fun t k => XT.ixor X.here hx rfl (hb hby d) rfl k) q
theorem own_ior (X : own_Cx Z p l e R s m args below meth c n0 own bytes maxL nm ret T h cells slots) {x y : Int32} (d : decode bytes pc = .ok (.ior, 1)) (hp : pc + 1 = pc') 
    (q : own_Fin p e below G (T.setTop (mkF m pc' L ((.int (x ||| y)) :: st)))) : own_Fin p e below G (T.setTop (mkF m pc L ((.int y) :: (.int x) :: st))) := by
  obtain ⟨locs, X, N, eT, hx, hZ, hown, hby, hml, hnm, hret, hlk⟩ := X
  subst hp
  exact own_go (fun t k => XT.ior X.here hx rfl (hb hby d) rfl k) q
theorem own_ishl (X : own_Cx Z p l e R s m args below meth c n0 own bytes maxL nm ret T h cells slots) {x y : Int32} (d : decode bytes pc = .ok (.ishl, 1)) (hp : pc + 1 = pc') 
    (q : own_Fin p e below G (T.setTop (mkF m pc' L ((.int (x <<< (y &&& 31))) :: st)))) : own_Fin p e below G (T.setTop (mkF m pc L ((.int y) :: (.int x) :: st))) := by
  obtain ⟨locs, X, N, eT, hx, hZ, hown, hby, hml, hnm, hret, hlk⟩ := X
  subst hp
  exact own_go (fun t k => XT.ishl X.here hx rfl (hb hby d) rfl k) q
theorem own_ishr (X : own_Cx Z p l e R s m args below meth c n0 own bytes maxL nm ret T h cells slots) {x y : Int32} (d : decode bytes pc = .ok (.ishr, 1)) (hp : pc + 1 = pc') 
    (q : own_Fin p e below G (T.setTop (mkF m pc' L ((.int (x >>> (y &&& 31))) :: st)))) : own_Fin p e below G (T.setTop (mkF m pc L ((.int y) :: (.int x) :: st))) := by
  obtain ⟨locs, X, N, eT, hx, hZ, hown, hby, hml, hnm, hret, hlk⟩ := X
  subst hp
  exact own_go (fun t k => XT.ishr X.here hx rfl (hb hby d) rfl k) q
theorem own_iushr (X : own_Cx Z p l e R s m args below meth c n0 own bytes maxL nm ret T h cells slots) {x y : Int32} (d : decode bytes pc = .ok (.iushr, 1)) (hp : pc + 1 = pc') 
    (q : own_Fin p e below G (T.setTop (mkF m pc' L ((.int (XT.ushr x y)) :: st)))) : own_Fin p e below G (T.setTop (mkF m pc L ((.int y) :: (.int x) :: st))) := by
  obtain ⟨locs, X, N, eT, hx, hZ, hown, hby, hml, hnm, hret, hlk⟩ := X
  subst hp
  exact own_go (fun t k => XT.iushr X.here hx rfl (hb hby d) rfl k) q
theorem own_ladd (X : own_Cx Z p l e R s m args below meth c n0 own bytes maxL nm ret T h cells slots) {x y : Int64} (d : decode bytes pc = .ok (.ladd, 1)) (hp : pc + 1 = pc') 
    (q : own_Fin p e below G (T.setTop (mkF m pc' L ((.long (x + y)) :: st)))) : own_Fin p e below G (T.setTop (mkF m pc L ((.long y) :: (.long x) :: st))) := by
  obtain ⟨locs, X, N, eT, hx, hZ, hown, hby, hml, hnm, hret, hlk⟩ := X
  subst hp
  exact own_go (fun t k => XT.ladd X.here hx rfl (hb hby d) rfl k) q
theorem own_lsub (X : own_Cx Z p l e R s m args below meth c n0 own bytes maxL nm ret T h cells slots) {x y : Int64} (d : decode bytes pc = .ok (.lsub, 1)) (hp : pc + 1 = pc') 
    (q : own_Fin p e below G (T.setTop (mkF m pc' L ((.long (x - y)) :: st)))) : own_Fin p e below G (T.setTop (mkF m pc L ((.long y) :: (.long x) :: st))) := by
  obtain ⟨locs, X, N, eT, hx, hZ, hown, hby, hml, hnm, hret, hlk⟩ := X
  subst hp
  exact own_go (fun t k => XT.lsub X.here hx rfl (hb hby d) rfl k) q
theorem own_lmul (X : own_Cx Z p l e R s m args below meth c n0 own bytes maxL nm ret T h cells slots) {x y : Int64} (d : decode bytes pc = .ok (.lmul, 1)) (hp : pc + 1 = pc') 
    (q : own_Fin p e below G (T.setTop (mkF m pc' L ((.long (x * y)) :: st)))) : own_Fin p e below G (T.setTop (mkF m pc L ((.long y) :: (.long x) :: st))) := by
  obtain ⟨locs, X, N, eT, hx, hZ, hown, hby, hml, hnm, hret, hlk⟩ := X
  subst hp
  exact own_go (fun t k => XT.lmul X.here hx rfl (hb hby d) rfl k) q
theorem own_land (X : own_Cx Z p l e R s m args below meth c n0 own bytes maxL nm ret T h cells slots) {x y : Int64} (d : decode bytes pc = .ok (.land, 1)) (hp : pc + 1 = pc') 
    (q : own_Fin p e below G (T.setTop (mkF m pc' L ((.long (x &&& y)) :: st)))) : own_Fin p e below G (T.setTop (mkF m pc L ((.long y) :: (.long x) :: st))) := by
  obtain ⟨locs, X, N, eT, hx, hZ, hown, hby, hml, hnm, hret, hlk⟩ := X
  subst hp
  exact own_go (fun t k => XT.land X.here hx rfl (hb hby d) rfl k) q
theorem own_lor (X : own_Cx Z p l e R s m args below meth c n0 own bytes maxL nm ret T h cells slots) {x y : Int64} (d : decode bytes pc = .ok (.lor, 1)) (hp : pc + 1 = pc') 
    (q : own_Fin p e below G (T.setTop (mkF m pc' L ((.long (x ||| y)) :: st)))) : own_Fin p e below G (T.setTop (mkF m pc L ((.long y) :: (.long x) :: st))) := by
  obtain ⟨locs, X, N, eT, hx, hZ, hown, hby, hml, hnm, hret, hlk⟩ := X
  subst hp
  exact own_go (fun t k => XT.lor X.here hx rfl (hb hby d) rfl k) q
theorem own_lxor (X : own_Cx Z p l e R s m args below meth c n0 own bytes maxL nm ret T h cells slots) {x y : Int64} (d : decode bytes pc = .ok (.lxor, 1)) (hp : pc + 1 = pc') 
    (q : own_Fin p e below G (T.setTop (mkF m pc' L ((.long (x ^^^ y)) :: st)))) : own_Fin p e below G (T.setTop (mkF m pc L ((.long y) :: (.long x) :: st))) := by
  obtain ⟨locs, X, N, eT, hx, hZ, hown, hby, hml, hnm, hret, hlk⟩ := X
  subst hp
  exact own_go (fun t k => XT.lxor X.here hx rfl (hb hby d) rfl k) q
theorem own_lshl (X : own_Cx Z p l e R s m args below meth c n0 own bytes maxL nm ret T h cells slots) {x : Int64} {y : Int32} (d : decode bytes pc = .ok (.lshl, 1)) (hp : pc + 1 = pc') 
    (q : own_Fin p e below G (T.setTop (mkF m pc' L ((.long (x <<< (y.toInt64 &&& 63))) :: st)))) : own_Fin p e below G (T.setTop (mkF m pc L ((.int y) :: (.long x) :: st))) := by
  obtain ⟨locs, X, N, eT, hx, hZ, hown, hby, hml, hnm, hret, hlk⟩ := X
  subst hp
  exact own_go (fun t k => XT.lshl X.here hx rfl (hb hby d) rfl k) q
theorem own_lshr (X : own_Cx Z p l e R s m args below meth c n0 own bytes maxL nm ret T h cells slots) {x : Int64} {y : Int32} (d : decode bytes pc = .ok (.lshr, 1)) (hp : pc + 1 = pc') 
    (q : own_Fin p e below G (T.setTop (mkF m pc' L ((.long (x >>> (y.toInt64 &&& 63))) :: st)))) : own_Fin p e below G (T.setTop (mkF m pc L ((.int y) :: (.long x) :: st))) := by
  obtain ⟨locs, X, N, eT, hx, hZ, hown, hby, hml, hnm, hret, hlk⟩ := X
  subst hp
  exact own_go (fun t k => XT.lshr X.here hx rfl (hb hby d) rfl k) q
theorem own_lushr (X : own_Cx Z p l e R s m args below meth c n0 own bytes maxL nm ret T h cells slots) {x : Int64} {y : Int32} (d : decode bytes pc = .ok (.lushr, 1)) (hp : pc + 1 = pc') 
    (q : own_Fin p e below G (T.setTop (mkF m pc' L ((.long (XT.ushrL x y)) :: st)))) : own_Fin p e below G (T.setTop (mkF m pc L ((.int y) :: (.long x) :: st))) := by
  obtain ⟨locs, X, N, eT, hx, hZ, hown, hby, hml, hnm, hret, hlk⟩ := X
  subst hp
  exact own_go (fun t k => XT.lushr X.here hx rfl (hb hby d) rfl k) q
theorem own_lneg (X : own_Cx Z p l e R s m args below meth c n0 own bytes maxL nm ret T h cells slots) {x : Int64} (d : decode bytes pc = .ok (.lneg, 1)) (hp : pc + 1 = pc') 
    (q : own_Fin p e below G (T.setTop (mkF m pc' L ((.long (-x)) :: st)))) : own_Fin p e below G (T.setTop (mkF m pc L ((.long x) :: st))) := by
  obtain ⟨locs, X, N, eT, hx, hZ, hown, hby, hml, hnm, hret, hlk⟩ := X
  subst hp
  exact own_go (fun t k => XT.lneg X.here hx rfl (hb hby d) rfl k) q
theorem own_i2l (X : own_Cx Z p l e R s m args below meth c n0 own bytes maxL nm ret T h cells slots) {x : Int32} (d : decode bytes pc = .ok (.i2l, 1)) (hp : pc + 1 = pc') 
    (q : own_Fin p e below G (T.setTop (mkF m pc' L ((.long x.toInt64) :: st)))) : own_Fin p e below G (T.setTop (mkF m pc L ((.int x) :: st))) := by
  obtain ⟨locs, X, N, eT, hx, hZ, hown, hby, hml, hnm, hret, hlk⟩ := X
  subst hp
  exact own_go (fun t k => XT.i2l X.here hx rfl (hb hby d) rfl k) q
theorem own_l2i (X : own_Cx Z p l e R s m args below meth c n0 own bytes maxL nm ret T h cells slots) {x : Int64} (d : decode bytes pc = .ok (.l2i, 1)) (hp : pc + 1 = pc') 
    (q : own_Fin p e below G (T.setTop (mkF m pc' L ((.int x.toInt32) :: st)))) : own_Fin p e below G (T.setTop (mkF m pc L ((.long x) :: st))) := by
  obtain ⟨locs, X, N, eT, hx, hZ, hown, hby, hml, hnm, hret, hlk⟩ := X
  subst hp
  exact own_go (fun t k => XT.l2i X.here hx rfl (hb hby d) rfl k) q
theorem own_i2c (X : own_Cx Z p l e R s m args below meth c n0 own bytes maxL nm ret T h cells slots) {x : Int32} (d : decode bytes pc = .ok (.i2c, 1)) (hp : pc + 1 = pc') 
    (q : own_Fin p e below G (T.setTop (mkF m pc' L ((.int x.toUInt32.toUInt16.toUInt32.toInt32) :: st)))) : own_Fin p e below G (T.setTop (mkF m pc L ((.int x) :: st))) := by
  obtain ⟨locs, X, N, eT, hx, hZ, hown, hby, hml, hnm, hret, hlk⟩ := X
  subst hp
  exact own_go (fun t k => XT.i2c X.here hx rfl (hb hby d) rfl k) q
theorem own_dup (X : own_Cx Z p l e R s m args below meth c n0 own bytes maxL nm ret T h cells slots) {v : Value} (d : decode bytes pc = .ok (.dup, 1)) (hp : pc + 1 = pc') (hc : v.category = 1)
    (q : own_Fin p e below G (T.setTop (mkF m pc' L (v :: v :: st)))) : own_Fin p e below G (T.setTop (mkF m pc L (v :: st))) := by
  obtain ⟨locs, X, N, eT, hx, hZ, hown, hby, hml, hnm, hret, hlk⟩ := X
  subst hp
  exact own_go (fun t k => XS.dup X.here hx rfl (hb hby d) rfl hc k) q
theorem own_pop (X : own_Cx Z p l e R s m args below meth c n0 own bytes maxL nm ret T h cells slots) {v : Value} (d : decode bytes pc = .ok (.pop, 1)) (hp : pc + 1 = pc') (hc : v.category = 1)
    (q : own_Fin p e below G (T.setTop (mkF m pc' L (st)))) : own_Fin p e below G (T.setTop (mkF m pc L (v :: st))) := by
  obtain ⟨locs, X, N, eT, hx, hZ, hown, hby, hml, hnm, hret, hlk⟩ := X
  subst hp
  exact own_go (fun t k => XT.pop X.here hx rfl (hb hby d) rfl hc k) q
theorem own_ldcI (X : own_Cx Z p l e R s m args below meth c n0 own bytes maxL nm ret T h cells slots) {i : Nat} {v : Int32} (d : decode bytes pc = .ok (.ldc i, 2)) (hp : pc + 2 = pc') (w : (Jvm.Cond.constant own i v).before a0 Z = true)
    (q : own_Fin p e below G (T.setTop (mkF m pc' L ((.int v) :: st)))) : own_Fin p e below G (T.setTop (mkF m pc L (st))) := by
  obtain ⟨locs, X, N, eT, hx, hZ, hown, hby, hml, hnm, hret, hlk⟩ := X
  subst hp
  exact own_go (fun t k => X.ldcInt hx hown (mvT hZ w) (g := mkF m pc L st) rfl (hb hby d) t k) q
theorem own_ldc2J (X : own_Cx Z p l e R s m args below meth c n0 own bytes maxL nm ret T h cells slots) {i : Nat} {v : Int64} (d : decode bytes pc = .ok (.ldc2_w i, 3)) (hp : pc + 3 = pc') (w : (Jvm.Cond.constantLong own i v).before a0 Z = true)
    (q : own_Fin p e below G (T.setTop (mkF m pc' L ((.long v) :: st)))) : own_Fin p e below G (T.setTop (mkF m pc L (st))) := by
  obtain ⟨locs, X, N, eT, hx, hZ, hown, hby, hml, hnm, hret, hlk⟩ := X
  subst hp
  exact own_go (fun t k => X.ldc2Long hx hown (mvT hZ w) (g := mkF m pc L st) rfl (hb hby d) t k) q
theorem own_ldcF (X : own_Cx Z p l e R s m args below meth c n0 own bytes maxL nm ret T h cells slots) {i : Nat} {v : UInt32} (d : decode bytes pc = .ok (.ldc i, 2)) (hp : pc + 2 = pc') (w : (Jvm.Cond.constantFloat own i v).before a0 Z = true)
    (q : own_Fin p e below G (T.setTop (mkF m pc' L ((.float v) :: st)))) : own_Fin p e below G (T.setTop (mkF m pc L (st))) := by
  obtain ⟨locs, X, N, eT, hx, hZ, hown, hby, hml, hnm, hret, hlk⟩ := X
  subst hp
  exact own_go (fun t k => X.ldcFloatC hx hown (mvT hZ w) (g := mkF m pc L st) rfl (hb hby d) t k) q
theorem own_goto (X : own_Cx Z p l e R s m args below meth c n0 own bytes maxL nm ret T h cells slots) {o : Int} (d : decode bytes pc = .ok (.goto o, 3)) (ho : 0 ≤ (pc : Int) + o) (hp : ((pc : Int) + o).toNat = pc')
    (q : own_Fin p e below G (T.setTop (mkF m pc' L (st)))) : own_Fin p e below G (T.setTop (mkF m pc L (st))) := by
  obtain ⟨locs, X, N, eT, hx, hZ, hown, hby, hml, hnm, hret, hlk⟩ := X
  exact own_go (fun t k => XS.goto X.here hx rfl rfl (hb hby d) ho hp k) q
theorem own_icmp_eq (X : own_Cx Z p l e R s m args below meth c n0 own bytes maxL nm ret T h cells slots) {x y : Int32} {o : Int} {pcT pcF : Nat} (d : decode bytes pc = .ok (.if_icmp .eq o, 3)) (ho : 0 ≤ (pc : Int) + o) (hT : ((pc : Int) + o).toNat = pcT) (hF : pc + 3 = pcF)
    (qT : (x = y) → own_Fin p e below G (T.setTop (mkF m pcT L (st)))) (qF : (¬ (x = y)) → own_Fin p e below G (T.setTop (mkF m pcF L (st)))) : own_Fin p e below G (T.setTop (mkF m pc L ((.int y) :: (.int x) :: st))) := by
  obtain ⟨locs, X, N, eT, hx, hZ, hown, hby, hml, hnm, hret, hlk⟩ := X
  subst hF
  by_cases hc : x = y
  · exact own_go (fun t k => XS.icmpYes X.here hx rfl rfl (hb hby d) rfl (XT.ii_eq_t hc) ho hT k) (qT hc)
  · exact own_go (fun t k => XS.icmpNo X.here hx rfl (hb hby d) rfl (XT.ii_eq_f hc) k) (qF hc)
theorem own_if_eq (X : own_Cx Z p l e R s m args below meth c n0 own bytes maxL nm ret T h cells slots) {x : Int32} {o : Int} {pcT pcF : Nat} (d : decode bytes pc = .ok (.ifCond .eq o, 3)) (ho : 0 ≤ (pc : Int) + o) (hT : ((pc : Int) + o).toNat = pcT) (hF : pc + 3 = pcF)
    (qT : (x = 0) → own_Fin p e below G (T.setTop (mkF m pcT L (st)))) (qF : (¬ (x = 0)) → own_Fin p e below G (T.setTop (mkF m pcF L (st)))) : own_Fin p e below G (T.setTop (mkF m pc L ((.int x) :: st))) := by
  obtain ⟨locs, X, N, eT, hx, hZ, hown, hby, hml, hnm, hret, hlk⟩ := X
  subst hF
  by_cases hc : x = 0
  · exact own_go (fun t k => XS.ifYes X.here hx rfl rfl (hb hby d) rfl (XT.i0_eq_t hc) ho hT k) (qT hc)
  · exact own_go (fun t k => XS.ifNo X.here hx rfl (hb hby d) rfl (XT.i0_eq_f hc) k) (qF hc)
theorem own_lcmp_eq (X : own_Cx Z p l e R s m args below meth c n0 own bytes maxL nm ret T h cells slots) {x y : Int64} {pc1 : Nat} {o : Int} {pcT pcF : Nat} (d0 : decode bytes pc = .ok (.lcmp, 1)) (h1 : pc + 1 = pc1) (d : decode bytes pc1 = .ok (.ifCond .eq o, 3)) (ho : 0 ≤ (pc1 : Int) + o) (hT : ((pc1 : Int) + o).toNat = pcT) (hF : pc1 + 3 = pcF)
    (qT : (x = y) → own_Fin p e below G (T.setTop (mkF m pcT L (st)))) (qF : (¬ (x = y)) → own_Fin p e below G (T.setTop (mkF m pcF L (st)))) : own_Fin p e below G (T.setTop (mkF m pc L ((.long y) :: (.long x) :: st))) := by
  obtain ⟨locs, X, N, eT, hx, hZ, hown, hby, hml, hnm, hret, hlk⟩ := X
  subst h1
  subst hF
  by_cases hc : x = y
  · exact own_go (fun t k => XT.lcmp X.here hx rfl (hb hby d0) rfl (XS.ifYes X.here hx rfl rfl (hb hby d) rfl (XT.ll_eq_t hc) ho hT k)) (qT hc)
  · exact own_go (fun t k => XT.lcmp X.here hx rfl (hb hby d0) rfl (XS.ifNo X.here hx rfl (hb hby d) rfl (XT.ll_eq_f hc) k)) (qF hc)
theorem own_icmp_ne (X : own_Cx Z p l e R s m args below meth c n0 own bytes maxL nm ret T h cells slots) {x y : Int32} {o : Int} {pcT pcF : Nat} (d : decode bytes pc = .ok (.if_icmp .ne o, 3)) (ho : 0 ≤ (pc : Int) + o) (hT : ((pc : Int) + o).toNat = pcT) (hF : pc + 3 = pcF)
    (qT : (¬ (x = y)) → own_Fin p e below G (T.setTop (mkF m pcT L (st)))) (qF : (x = y) → own_Fin p e below G (T.setTop (mkF m pcF L (st)))) : own_Fin p e below G (T.setTop (mkF m pc L ((.int y) :: (.int x) :: st))) := by
  obtain ⟨locs, X, N, eT, hx, hZ, hown, hby, hml, hnm, hret, hlk⟩ := X
  subst hF
  by_cases hc : x = y
  · exact own_go (fun t k => XS.icmpNo X.here hx rfl (hb hby d) rfl (XT.ii_ne_f hc) k) (qF hc)
  · exact own_go (fun t k => XS.icmpYes X.here hx rfl rfl (hb hby d) rfl (XT.ii_ne_t hc) ho hT k) (qT hc)
theorem own_if_ne (X : own_Cx Z p l e R s m args below meth c n0 own bytes maxL nm ret T h cells slots) {x : Int32} {o : Int} {pcT pcF : Nat} (d : decode bytes pc = .ok (.ifCond .ne o, 3)) (ho : 0 ≤ (pc : Int) + o) (hT : ((pc : Int) + o).toNat = pcT) (hF : pc + 3 = pcF)
    (qT : (¬ (x = 0)) → own_Fin p e below G (T.setTop (mkF m pcT L (st)))) (qF : (x = 0) → own_Fin p e below G (T.setTop (mkF m pcF L (st)))) : own_Fin p e below G (T.setTop (mkF m pc L ((.int x) :: st))) := by
  obtain ⟨locs, X, N, eT, hx, hZ, hown, hby, hml, hnm, hret, hlk⟩ := X
  subst hF
  by_cases hc : x = 0
  · exact own_go (fun t k => XS.ifNo X.here hx rfl (hb hby d) rfl (XT.i0_ne_f hc) k) (qF hc)
  · exact own_go (fun t k => XS.ifYes X.here hx rfl rfl (hb hby d) rfl (XT.i0_ne_t hc) ho hT k) (qT hc)
theorem own_lcmp_ne (X : own_Cx Z p l e R s m args below meth c n0 own bytes maxL nm ret T h cells slots) {x y : Int64} {pc1 : Nat} {o : Int} {pcT pcF : Nat} (d0 : decode bytes pc = .ok (.lcmp, 1)) (h1 : pc + 1 = pc1) (d : decode bytes pc1 = .ok (.ifCond .ne o, 3)) (ho : 0 ≤ (pc1 : Int) + o) (hT : ((pc1 : Int) + o).toNat = pcT) (hF : pc1 + 3 = pcF)
    (qT : (¬ (x = y)) → own_Fin p e below G (T.setTop (mkF m pcT L (st)))) (qF : (x = y) → own_Fin p e below G (T.setTop (mkF m pcF L (st)))) : own_Fin p e below G (T.setTop (mkF m pc L ((.long y) :: (.long x) :: st))) := by
  obtain ⟨locs, X, N, eT, hx, hZ, hown, hby, hml, hnm, hret, hlk⟩ := X
  subst h1
  subst hF
  by_cases hc : x = y
  · exact own_go (fun t k => XT.lcmp X.here hx rfl (hb hby d0) rfl (XS.ifNo X.here hx rfl (hb hby d) rfl (XT.ll_ne_f hc) k)) (qF hc)
  · exact own_go (fun t k => XT.lcmp X.here hx rfl (hb hby d0) rfl (XS.ifYes X.here hx rfl rfl (hb hby d) rfl (XT.ll_ne_t hc) ho hT k)) (qT hc)
theorem own_icmp_lt (X : own_Cx Z p l e R s m args below meth c n0 own bytes maxL nm ret T h cells slots) {x y : Int32} {o : Int} {pcT pcF : Nat} (d : decode bytes pc = .ok (.if_icmp .lt o, 3)) (ho : 0 ≤ (pc : Int) + o) (hT : ((pc : Int) + o).toNat = pcT) (hF : pc + 3 = pcF)
    (qT : (x < y) → own_Fin p e below G (T.setTop (mkF m pcT L (st)))) (qF : (¬ (x < y)) → own_Fin p e below G (T.setTop (mkF m pcF L (st)))) : own_Fin p e below G (T.setTop (mkF m pc L ((.int y) :: (.int x) :: st))) := by
  obtain ⟨locs, X, N, eT, hx, hZ, hown, hby, hml, hnm, hret, hlk⟩ := X
  subst hF
  by_cases hc : x < y
  · exact own_go (fun t k => XS.icmpYes X.here hx rfl rfl (hb hby d) rfl (XT.ii_lt_t hc) ho hT k) (qT hc)
  · exact own_go (fun t k => XS.icmpNo X.here hx rfl (hb hby d) rfl (XT.ii_lt_f hc) k) (qF hc)
theorem own_if_lt (X : own_Cx Z p l e R s m args below meth c n0 own bytes maxL nm ret T h cells slots) {x : Int32} {o : Int} {pcT pcF : Nat} (d : decode bytes pc = .ok (.ifCond .lt o, 3)) (ho : 0 ≤ (pc : Int) + o) (hT : ((pc : Int) + o).toNat = pcT) (hF : pc + 3 = pcF)
    (qT : (x < 0) → own_Fin p e below G (T.setTop (mkF m pcT L (st)))) (qF : (¬ (x < 0)) → own_Fin p e below G (T.setTop (mkF m pcF L (st)))) : own_Fin p e below G (T.setTop (mkF m pc L ((.int x) :: st))) := by
  obtain ⟨locs, X, N, eT, hx, hZ, hown, hby, hml, hnm, hret, hlk⟩ := X
  subst hF
  by_cases hc : x < 0
  · exact own_go (fun t k => XS.ifYes X.here hx rfl rfl (hb hby d) rfl (XT.i0_lt_t hc) ho hT k) (qT hc)
  · exact own_go (fun t k => XS.ifNo X.here hx rfl (hb hby d) rfl (XT.i0_lt_f hc) k) (qF hc)
theorem own_lcmp_lt (X : own_Cx Z p l e R s m args below meth c n0 own bytes maxL nm ret T h cells slots) {x y : Int64} {pc1 : Nat} {o : Int} {pcT pcF : Nat} (d0 : decode bytes pc = .ok (.lcmp, 1)) (h1 : pc + 1 = pc1) (d : decode bytes pc1 = .ok (.ifCond .lt o, 3)) (ho : 0 ≤ (pc1 : Int) + o) (hT : ((pc1 : Int) + o).toNat = pcT) (hF : pc1 + 3 = pcF)
    (qT : (x < y) → own_Fin p e below G (T.setTop (mkF m pcT L (st)))) (qF : (¬ (x < y)) → own_Fin p e below G (T.setTop (mkF m pcF L (st)))) : own_Fin p e below G (T.setTop (mkF m pc L ((.long y) :: (.long x) :: st))) := by
  obtain ⟨locs, X, N, eT, hx, hZ, hown, hby, hml, hnm, hret, hlk⟩ := X
  subst h1
  subst hF
  by_cases hc : x < y
  · exact own_go (fun t k => XT.lcmp X.here hx rfl (hb hby d0) rfl (XS.ifYes X.here hx rfl rfl (hb hby d) rfl (XT.ll_lt_t hc) ho hT k)) (qT hc)
  · exact own_go (fun t k => XT.lcmp X.here hx rfl (hb hby d0) rfl (XS.ifNo X.here hx rfl (hb hby d) rfl (XT.ll_lt_f hc) k)) (qF hc)
theorem own_icmp_ge (X : own_Cx Z p l e R s m args below meth c n0 own bytes maxL nm ret T h cells slots) {x y : Int32} {o : Int} {pcT pcF : Nat} (d : decode bytes pc = .ok (.if_icmp .ge o, 3)) (ho : 0 ≤ (pc : Int) + o) (hT : ((pc : Int) + o).toNat = pcT) (hF : pc + 3 = pcF)
    (qT : (¬ (x < y)) → own_Fin p e below G (T.setTop (mkF m pcT L (st)))) (qF : (x < y) → own_Fin p e below G (T.setTop (mkF m pcF L (st)))) : own_Fin p e below G (T.setTop (mkF m pc L ((.int y) :: (.int x) :: st))) := by
  obtain ⟨locs, X, N, eT, hx, hZ, hown, hby, hml, hnm, hret, hlk⟩ := X
  subst hF
  by_cases hc : x < y
  · exact own_go (fun t k => XS.icmpNo X.here hx rfl (hb hby d) rfl (XT.ii_ge_f hc) k) (qF hc)
  · exact own_go (fun t k => XS.icmpYes X.here hx rfl rfl (hb hby d) rfl (XT.ii_ge_t hc) ho hT k) (qT hc)
theorem own_if_ge (X : own_Cx Z p l e R s m args below meth c n0 own bytes maxL nm ret T h cells slots) {x : Int32} {o : Int} {pcT pcF : Nat} (d : decode bytes pc = .ok (.ifCond .ge o, 3)) (ho : 0 ≤ (pc : Int) + o) (hT : ((pc : Int) + o).toNat = pcT) (hF : pc + 3 = pcF)
    (qT : (¬ (x < 0)) → own_Fin p e below G (T.setTop (mkF m pcT L (st)))) (qF : (x < 0) → own_Fin p e below G (T.setTop (mkF m pcF L (st)))) : own_Fin p e below G (T.setTop (mkF m pc L ((.int x) :: st))) := by
  obtain ⟨locs, X, N, eT, hx, hZ, hown, hby, hml, hnm, hret, hlk⟩ := X
  subst hF
  by_cases hc : x < 0
  · exact own_go (fun t k => XS.ifNo X.here hx rfl (hb hby d) rfl (XT.i0_ge_f hc) k) (qF hc)
  · exact own_go (fun t k => XS.ifYes X.here hx rfl rfl (hb hby d) rfl (XT.i0_ge_t hc) ho hT k) (qT hc)
theorem own_lcmp_ge (X : own_Cx Z p l e R s m args below meth c n0 own bytes maxL nm ret T h cells slots) {x y : Int64} {pc1 : Nat} {o : Int} {pcT pcF : Nat} (d0 : decode bytes pc = .ok (.lcmp, 1)) (h1 : pc + 1 = pc1) (d : decode bytes pc1 = .ok (.ifCond .ge o, 3)) (ho : 0 ≤ (pc1 : Int) + o) (hT : ((pc1 : Int) + o).toNat = pcT) (hF : pc1 + 3 = pcF)
    (qT : (¬ (x < y)) → own_Fin p e below G (T.setTop (mkF m pcT L (st)))) (qF : (x < y) → own_Fin p e below G (T.setTop (mkF m pcF L (st)))) : own_Fin p e below G (T.setTop (mkF m pc L ((.long y) :: (.long x) :: st))) := by
  obtain ⟨locs, X, N, eT, hx, hZ, hown, hby, hml, hnm, hret, hlk⟩ := X
  subst h1
  subst hF
  by_cases hc : x < y
  · exact own_go (fun t k => XT.lcmp X.here hx rfl (hb hby d0) rfl (XS.ifNo X.here hx rfl (hb hby d) rfl (XT.ll_ge_f hc) k)) (qF hc)
  · exact own_go (fun t k => XT.lcmp X.here hx rfl (hb hby d0) rfl (XS.ifYes X.here hx rfl rfl (hb hby d) rfl (XT.ll_ge_t hc) ho hT k)) (qT hc)
theorem own_icmp_gt (X : own_Cx Z p l e R s m args below meth c n0 own bytes maxL nm ret T h cells slots) {x y : Int32} {o : Int} {pcT pcF : Nat} (d : decode bytes pc = .ok (.if_icmp .gt o, 3)) (ho : 0 ≤ (pc : Int) + o) (hT : ((pc : Int) + o).toNat = pcT) (hF : pc + 3 = pcF)
    (qT : (y < x) → own_Fin p e below G (T.setTop (mkF m pcT L (st)))) (qF : (¬ (y < x)) → own_Fin p e below G (T.setTop (mkF m pcF L (st)))) : own_Fin p e below G (T.setTop (mkF m pc L ((.int y) :: (.int x) :: st))) := by
  obtain ⟨locs, X, N, eT, hx, hZ, hown, hby, hml, hnm, hret, hlk⟩ := X
  subst hF
  by_cases hc : y < x
  · exact own_go (fun t k => XS.icmpYes X.here hx rfl rfl (hb hby d) rfl (XT.ii_gt_t hc) ho hT k) (qT hc)
  · exact own_go (fun t k => XS.icmpNo X.here hx rfl (hb hby d) rfl (XT.ii_gt_f hc) k) (qF hc)
theorem own_if_gt (X : own_Cx Z p l e R s m args below meth c n0 own bytes maxL nm ret T h cells slots) {x : Int32} {o : Int} {pcT pcF : Nat} (d : decode bytes pc = .ok (.ifCond .gt o, 3)) (ho : 0 ≤ (pc : Int) + o) (hT : ((pc : Int) + o).toNat = pcT) (hF : pc + 3 = pcF)
    (qT : (0 < x) → own_Fin p e below G (T.setTop (mkF m pcT L (st)))) (qF : (¬ (0 < x)) → own_Fin p e below G (T.setTop (mkF m pcF L (st)))) : own_Fin p e below G (T.setTop (mkF m pc L ((.int x) :: st))) := by
  obtain ⟨locs, X, N, eT, hx, hZ, hown, hby, hml, hnm, hret, hlk⟩ := X
  subst hF
  by_cases hc : 0 < x
  · exact own_go (fun t k => XS.ifYes X.here hx rfl rfl (hb hby d) rfl (XT.i0_gt_t hc) ho hT k) (qT hc)
  · exact own_go (fun t k => XS.ifNo X.here hx rfl (hb hby d) rfl (XT.i0_gt_f hc) k) (qF hc)
theorem own_lcmp_gt (X : own_Cx Z p l e R s m args below meth c n0 own bytes maxL nm ret T h cells slots) {x y : Int64} {pc1 : Nat} {o : Int} {pcT pcF : Nat} (d0 : decode bytes pc = .ok (.lcmp, 1)) (h1 : pc + 1 = pc1) (d : decode bytes pc1 = .ok (.ifCond .gt o, 3)) (ho : 0 ≤ (pc1 : Int) + o) (hT : ((pc1 : Int) + o).toNat = pcT) (hF : pc1 + 3 = pcF)
    (qT : (y < x) → own_Fin p e below G (T.setTop (mkF m pcT L (st)))) (qF : (¬ (y < x)) → own_Fin p e below G (T.setTop (mkF m pcF L (st)))) : own_Fin p e below G (T.setTop (mkF m pc L ((.long y) :: (.long x) :: st))) := by
  obtain ⟨locs, X, N, eT, hx, hZ, hown, hby, hml, hnm, hret, hlk⟩ := X
  subst h1
  subst hF
  by_cases hc : y < x
  · exact own_go (fun t k => XT.lcmp X.here hx rfl (hb hby d0) rfl (XS.ifYes X.here hx rfl rfl (hb hby d) rfl (XT.ll_gt_t hc) ho hT k)) (qT hc)
  · exact own_go (fun t k => XT.lcmp X.here hx rfl (hb hby d0) rfl (XS.ifNo X.here hx rfl (hb hby d) rfl (XT.ll_gt_f hc) k)) (qF hc)
theorem own_icmp_le (X : own_Cx Z p l e R s m args below meth c n0 own bytes maxL nm ret T h cells slots) {x y : Int32} {o : Int} {pcT pcF : Nat} (d : decode bytes pc = .ok (.if_icmp .le o, 3)) (ho : 0 ≤ (pc : Int) + o) (hT : ((pc : Int) + o).toNat = pcT) (hF : pc + 3 = pcF)
    (qT : (¬ (y < x)) → own_Fin p e below G (T.setTop (mkF m pcT L (st)))) (qF : (y < x) → own_Fin p e below G (T.setTop (mkF m pcF L (st)))) : own_Fin p e below G (T.setTop (mkF m pc L ((.int y) :: (.int x) :: st))) := by
  obtain ⟨locs, X, N, eT, hx, hZ, hown, hby, hml, hnm, hret, hlk⟩ := X
  subst hF
  by_cases hc : y < x
  · exact own_go (fun t k => XS.icmpNo X.here hx rfl (hb hby d) rfl (XT.ii_le_f hc) k) (qF hc)
  · exact own_go (fun t k => XS.icmpYes X.here hx rfl rfl (hb hby d) rfl (XT.ii_le_t hc) ho hT k) (qT hc)
theorem own_if_le (X : own_Cx Z p l e R s m args below meth c n0 own bytes maxL nm ret T h cells slots) {x : Int32} {o : Int} {pcT pcF : Nat} (d : decode bytes pc = .ok (.ifCond .le o, 3)) (ho : 0 ≤ (pc : Int) + o) (hT : ((pc : Int) + o).toNat = pcT) (hF : pc + 3 = pcF)
    (qT : (¬ (0 < x)) → own_Fin p e below G (T.setTop (mkF m pcT L (st)))) (qF : (0 < x) → own_Fin p e below G (T.setTop (mkF m pcF L (st)))) : own_Fin p e below G (T.setTop (mkF m pc L ((.int x) :: st))) := by
  obtain ⟨locs, X, N, eT, hx, hZ, hown, hby, hml, hnm, hret, hlk⟩ := X
  subst hF
  by_cases hc : 0 < x
  · exact own_go (fun t k => XS.ifNo X.here hx rfl (hb hby d) rfl (XT.i0_le_f hc) k) (qF hc)
  · exact own_go (fun t k => XS.ifYes X.here hx rfl rfl (hb hby d) rfl (XT.i0_le_t hc) ho hT k) (qT hc)
theorem own_lcmp_le (X : own_Cx Z p l e R s m args below meth c n0 own bytes maxL nm ret T h cells slots) {x y : Int64} {pc1 : Nat} {o : Int} {pcT pcF : Nat} (d0 : decode bytes pc = .ok (.lcmp, 1)) (h1 : pc + 1 = pc1) (d : decode bytes pc1 = .ok (.ifCond .le o, 3)) (ho : 0 ≤ (pc1 : Int) + o) (hT : ((pc1 : Int) + o).toNat = pcT) (hF : pc1 + 3 = pcF)
    (qT : (¬ (y < x)) → own_Fin p e below G (T.setTop (mkF m pcT L (st)))) (qF : (y < x) → own_Fin p e below G (T.setTop (mkF m pcF L (st)))) : own_Fin p e below G (T.setTop (mkF m pc L ((.long y) :: (.long x) :: st))) := by
  obtain ⟨locs, X, N, eT, hx, hZ, hown, hby, hml, hnm, hret, hlk⟩ := X
  subst h1
  subst hF
  by_cases hc : y < x
  · exact own_go (fun t k => XT.lcmp X.here hx rfl (hb hby d0) rfl (XS.ifNo X.here hx rfl (hb hby d) rfl (XT.ll_le_f hc) k)) (qF hc)
  · exact own_go (fun t k => XT.lcmp X.here hx rfl (hb hby d0) rfl (XS.ifYes X.here hx rfl rfl (hb hby d) rfl (XT.ll_le_t hc) ho hT k)) (qT hc)
theorem own_acmp_eq (X : own_Cx Z p l e R s m args below meth c n0 own bytes maxL nm ret T h cells slots) {x y : Value} {o : Int} {pcT pcF : Nat} (d : decode bytes pc = .ok (.if_acmp .eq o, 3)) (hx1 : x.isRef = true) (hy1 : y.isRef = true) (ho : 0 ≤ (pc : Int) + o) (hT : ((pc : Int) + o).toNat = pcT) (hF : pc + 3 = pcF)
    (qT : (x = y) → own_Fin p e below G (T.setTop (mkF m pcT L (st)))) (qF : (¬ (x = y)) → own_Fin p e below G (T.setTop (mkF m pcF L (st)))) : own_Fin p e below G (T.setTop (mkF m pc L (y :: x :: st))) := by
  obtain ⟨locs, X, N, eT, hx, hZ, hown, hby, hml, hnm, hret, hlk⟩ := X
  subst hF
  by_cases hc : x = y
  · exact own_go (fun t k => XT.acmpYes X.here hx rfl rfl (hb hby d) rfl hx1 hy1 (XT.aa_eq_t hc) ho hT k) (qT hc)
  · exact own_go (fun t k => XT.acmpNo X.here hx rfl (hb hby d) rfl hx1 hy1 (XT.aa_eq_f hc) k) (qF hc)
theorem own_acmp_ne (X : own_Cx Z p l e R s m args below meth c n0 own bytes maxL nm ret T h cells slots) {x y : Value} {o : Int} {pcT pcF : Nat} (d : decode bytes pc = .ok (.if_acmp .ne o, 3)) (hx1 : x.isRef = true) (hy1 : y.isRef = true) (ho : 0 ≤ (pc : Int) + o) (hT : ((pc : Int) + o).toNat = pcT) (hF : pc + 3 = pcF)
    (qT : (¬ (x = y)) → own_Fin p e below G (T.setTop (mkF m pcT L (st)))) (qF : (x = y) → own_Fin p e below G (T.setTop (mkF m pcF L (st)))) : own_Fin p e below G (T.setTop (mkF m pc L (y :: x :: st))) := by
  obtain ⟨locs, X, N, eT, hx, hZ, hown, hby, hml, hnm, hret, hlk⟩ := X
  subst hF
  by_cases hc : x = y
  · exact own_go (fun t k => XT.acmpNo X.here hx rfl (hb hby d) rfl hx1 hy1 (XT.aa_ne_f hc) k) (qF hc)
  · exact own_go (fun t k => XT.acmpYes X.here hx rfl rfl (hb hby d) rfl hx1 hy1 (XT.aa_ne_t hc) ho hT k) (qT hc)
theorem own_nonnullN (X : own_Cx Z p l e R s m args below meth c n0 own bytes maxL nm ret T h cells slots) {o : Int} (d : decode bytes pc = .ok (.ifnonnull o, 3)) (hp : pc + 3 = pc') 
    (q : own_Fin p e below G (T.setTop (mkF m pc' L (st)))) : own_Fin p e below G (T.setTop (mkF m pc L (.null :: st))) := by
  obtain ⟨locs, X, N, eT, hx, hZ, hown, hby, hml, hnm, hret, hlk⟩ := X
  subst hp
  exact own_go (fun t k => XT.nonnullNo X.here hx rfl (hb hby d) rfl rfl k) q
theorem own_more (X : own_Cx Z p l e R s m args below meth c n0 own bytes maxL nm ret T h cells slots) {cells' slots' : Nat} (h1 : cells ≤ cells') (h2 : slots ≤ slots') : own_Cx Z p l e R s m args below meth c n0 own bytes maxL nm ret T h cells' slots' := by
  obtain ⟨locs, X, N, eT, hx, hZ, hown, hby, hml, hnm, hret, hlk⟩ := X
  exact ⟨locs, X.more h1 h2, N, eT, hx, hZ, hown, hby, hml, hnm, hret, hlk⟩
theorem own_nar {ty : FieldType} {z : Value} (h : ty.isReference = true) : narrow ty z = z := by cases ty <;> first | rfl | (cases h; done)
theorem own_retI (X : own_Cx Z p l e R s m args below meth c n0 own bytes maxL nm ret T h cells slots) {z : Int32} {q : Option Value → Heap → Prop} {k n : Nat} (hr0 : ret = some .int) (d : decode bytes pc = .ok (.ireturn, 1)) (hq : q (some (.int z)) h) (hc : cells ≤ k) (hs : slots ≤ n) :
    own_Fin p e below (own_End s n0 q k n) (T.setTop (mkF m pc L ((.int z) :: st))) := by
  obtain ⟨locs, X, N, eT, hx, hZ, hown, hby, hml, hnm, hret, hlk⟩ := X
  obtain ⟨fs, hr, hrun, hended, hW, hsame⟩ := X.leave (v := some (.int z)) (fun h => by first | rfl | (rw [hret, hr0] at h; cases h)) hlk
  refine ⟨_, _, retOut X hx (hret.trans hr0) rfl (Or.inl ⟨rfl, Or.inl rfl, _, rfl⟩) (hb hby d) hr, hrun, hended, _, _, rfl, ⟨?_, N⟩, ⟨_, rfl⟩, hW, hsame.mono hc hs⟩
  show q _ T.heap
  rw [eT]
  exact hq
theorem own_retJ (X : own_Cx Z p l e R s m args below meth c n0 own bytes maxL nm ret T h cells slots) {z : Int64} {q : Option Value → Heap → Prop} {k n : Nat} (hr0 : ret = some .long) (d : decode bytes pc = .ok (.lreturn, 1)) (hq : q (some (.long z)) h) (hc : cells ≤ k) (hs : slots ≤ n) :
    own_Fin p e below (own_End s n0 q k n) (T.setTop (mkF m pc L ((.long z) :: st))) := by
  obtain ⟨locs, X, N, eT, hx, hZ, hown, hby, hml, hnm, hret, hlk⟩ := X
  obtain ⟨fs, hr, hrun, hended, hW, hsame⟩ := X.leave (v := some (.long z)) (fun h => by first | rfl | (rw [hret, hr0] at h; cases h)) hlk
  refine ⟨_, _, retOut X hx (hret.trans hr0) rfl (Or.inr (Or.inl ⟨rfl, rfl, _, rfl⟩)) (hb hby d) hr, hrun, hended, _, _, rfl, ⟨?_, N⟩, ⟨_, rfl⟩, hW, hsame.mono hc hs⟩
  show q _ T.heap
  rw [eT]
  exact hq
theorem own_retZ (X : own_Cx Z p l e R s m args below meth c n0 own bytes maxL nm ret T h cells slots) {z : Int32} {q : Option Value → Heap → Prop} {k n : Nat} (hr0 : ret = some .boolean) (d : decode bytes pc = .ok (.ireturn, 1)) (hz : narrow .boolean (.int z) = .int z) (hq : q (some (.int z)) h) (hc : cells ≤ k) (hs : slots ≤ n) :
    own_Fin p e below (own_End s n0 q k n) (T.setTop (mkF m pc L ((.int z) :: st))) := by
  obtain ⟨locs, X, N, eT, hx, hZ, hown, hby, hml, hnm, hret, hlk⟩ := X
  obtain ⟨fs, hr, hrun, hended, hW, hsame⟩ := X.leave (v := some (.int z)) (fun h => by first | rfl | (rw [hret, hr0] at h; cases h)) hlk
  refine ⟨_, _, retOut X hx (hret.trans hr0) hz (Or.inl ⟨rfl, Or.inr (Or.inl rfl), _, rfl⟩) (hb hby d) hr, hrun, hended, _, _, rfl, ⟨?_, N⟩, ⟨_, rfl⟩, hW, hsame.mono hc hs⟩
  show q _ T.heap
  rw [eT]
  exact hq
theorem own_retC (X : own_Cx Z p l e R s m args below meth c n0 own bytes maxL nm ret T h cells slots) {z : Int32} {q : Option Value → Heap → Prop} {k n : Nat} (hr0 : ret = some .char) (d : decode bytes pc = .ok (.ireturn, 1)) (hz : narrow .char (.int z) = .int z) (hq : q (some (.int z)) h) (hc : cells ≤ k) (hs : slots ≤ n) :
    own_Fin p e below (own_End s n0 q k n) (T.setTop (mkF m pc L ((.int z) :: st))) := by
  obtain ⟨locs, X, N, eT, hx, hZ, hown, hby, hml, hnm, hret, hlk⟩ := X
  obtain ⟨fs, hr, hrun, hended, hW, hsame⟩ := X.leave (v := some (.int z)) (fun h => by first | rfl | (rw [hret, hr0] at h; cases h)) hlk
  refine ⟨_, _, retOut X hx (hret.trans hr0) hz (Or.inl ⟨rfl, Or.inr (Or.inr (Or.inr (Or.inl rfl))), _, rfl⟩) (hb hby d) hr, hrun, hended, _, _, rfl, ⟨?_, N⟩, ⟨_, rfl⟩, hW, hsame.mono hc hs⟩
  show q _ T.heap
  rw [eT]
  exact hq
theorem own_retA (X : own_Cx Z p l e R s m args below meth c n0 own bytes maxL nm ret T h cells slots) {z : Value} {ty : FieldType} {q : Option Value → Heap → Prop} {k n : Nat} (hr0 : ret = some ty) (hty : ty.isReference = true) (hz : z.isRef = true) (d : decode bytes pc = .ok (.areturn, 1)) (hq : q (some z) h) (hc : cells ≤ k) (hs : slots ≤ n) :
    own_Fin p e below (own_End s n0 q k n) (T.setTop (mkF m pc L (z :: st))) := by
  obtain ⟨locs, X, N, eT, hx, hZ, hown, hby, hml, hnm, hret, hlk⟩ := X
  obtain ⟨fs, hr, hrun, hended, hW, hsame⟩ := X.leave (v := some z) (fun h => by first | rfl | (rw [hret, hr0] at h; cases h)) hlk
  refine ⟨_, _, retOut X hx (hret.trans hr0) (own_nar hty) (Or.inr (Or.inr (Or.inr (Or.inr ⟨rfl, hty, hz⟩)))) (hb hby d) hr, hrun, hended, _, _, rfl, ⟨?_, N⟩, ⟨_, rfl⟩, hW, hsame.mono hc hs⟩
  show q _ T.heap
  rw [eT]
  exact hq
theorem own_retV (X : own_Cx Z p l e R s m args below meth c n0 own bytes maxL nm ret T h cells slots)  {q : Option Value → Heap → Prop} {k n : Nat} (hr0 : ret = none) (d : decode bytes pc = .ok (.return_, 1)) (hq : q (none) h) (hc : cells ≤ k) (hs : slots ≤ n) :
    own_Fin p e below (own_End s n0 q k n) (T.setTop (mkF m pc L ([]))) := by
  obtain ⟨locs, X, N, eT, hx, hZ, hown, hby, hml, hnm, hret, hlk⟩ := X
  obtain ⟨fs, hr, hrun, hended, hW, hsame⟩ := X.leave (v := none) (fun h => by first | rfl | (rw [hret, hr0] at h; cases h)) hlk
  refine ⟨_, _, X.returnOut hx (hret.trans hr0) (hb hby d) hr, hrun, hended, _, _, rfl, ⟨?_, N⟩, ⟨_, rfl⟩, hW, hsame.mono hc hs⟩
  show q _ T.heap
  rw [eT]
  exact hq
theorem own_eqF {a : Addr} {C n d : String} {v w : Value} (F : Fld Z h a C n d v) (e : v = w) : Fld Z h a C n d w := e ▸ F
theorem own_getf (X : own_Cx Z p l e R s m args below meth c n0 own bytes maxL nm ret T h cells slots) {R0 n d0 : String} {i : Nat} {a : Addr} {v : Value} (w : (Jvm.Cond.fieldLink own i R0 n d0).before a0 Z = true) (F : Fld Z h a R0 n d0 v) (d : decode bytes pc = .ok (.getfield i, 3)) (hp : pc + 3 = pc')
    (q : ∀ T', own_Cx Z p l e R s m args below meth c n0 own bytes maxL nm ret T' h cells slots → own_Fin p e below G (T'.setTop (mkF m pc' L (v :: st)))) : own_Fin p e below G (T.setTop (mkF m pc L ((.ref a) :: st))) := by
  obtain ⟨locs, X, N, eT, hx, hZ, hown, hby, hml, hnm, hret, hlk⟩ := X
  subst hp
  obtain ⟨T1, X1, e1, st1⟩ := getF X hx hZ hown (host := "") (Or.inl w) Via.refl eT F (g := mkF m pc L ((.ref a) :: st)) rfl rfl (hb hby d)
  exact own_go st1 (q T1 ⟨locs, X1, N, e1, hx, hZ, hown, hby, hml, hnm, hret, hlk⟩)
theorem own_gets (X : own_Cx Z p l e R s m args below meth c n0 own bytes maxL nm ret T h cells slots) {R0 n d0 : String} {i : Nat} {v : Value} (w : (Jvm.Cond.fieldLink own i R0 n d0).before a0 Z = true) (F : Sta Z h R0 n d0 v) (d : decode bytes pc = .ok (.getstatic i, 3)) (hp : pc + 3 = pc')
    (q : ∀ T', own_Cx Z p l e R s m args below meth c n0 own bytes maxL nm ret T' h cells slots → own_Fin p e below G (T'.setTop (mkF m pc' L (v :: st)))) : own_Fin p e below G (T.setTop (mkF m pc L (st))) := by
  obtain ⟨locs, X, N, eT, hx, hZ, hown, hby, hml, hnm, hret, hlk⟩ := X
  subst hp
  obtain ⟨T1, X1, e1, st1⟩ := getS X hx hZ hown (host := "") w Via.refl eT F (g := mkF m pc L st) rfl (hb hby d)
  exact own_go st1 (q T1 ⟨locs, X1, N, e1, hx, hZ, hown, hby, hml, hnm, hret, hlk⟩)
theorem own_putf (X : own_Cx Z p l e R s m args below meth c n0 own bytes maxL nm ret T h cells slots) {R0 n d0 C : String} {i kk : Nat} {a : Addr} {v old : Value} {ty : FieldType} (w : (Jvm.Cond.fieldLink own i R0 n d0).before a0 Z = true) (F : Fld Z h a R0 n d0 old) (E : Exa Z h a C) (Ly : (Jvm.Cond.lays C R0 n d0).before a0 Z = true ∨ ((Jvm.Cond.laysFinal C R0 n d0).before a0 Z = true ∧ own = R0 ∧ nm = "<init>")) (wi : (Jvm.Cond.instantiable C kk).before a0 Z = true) (hty : parseFieldDescriptor d0 = some ty) (hn : narrow ty v = v) (hf : fits ty v = true) (hge : n0 ≤ a) (d : decode bytes pc = .ok (.putfield i, 3)) (hp : pc + 3 = pc')
    (q : ∀ T' h', own_Cx Z p l e R s m args below meth c n0 own bytes maxL nm ret T' h' cells slots → Wr h h' a (Jvm.RoadKit.slotOf Z R0 n d0) v → own_Fin p e below G (T'.setTop (mkF m pc' L (st)))) : own_Fin p e below G (T.setTop (mkF m pc L (v :: (.ref a) :: st))) := by
  obtain ⟨locs, X, N, eT, hx, hZ, hown, hby, hml, hnm, hret, hlk⟩ := X
  subst hp
  have Ly' : (Jvm.Cond.lays C R0 n d0).before a0 Z = true ∨ ((Jvm.Cond.laysFinal C R0 n d0).before a0 Z = true ∧ own = R0 ∧ meth.name = "<init>") := by
    rcases Ly with q | ⟨q1, q2, q3⟩
    · exact Or.inl q
    · exact Or.inr ⟨q1, q2, hnm.trans q3⟩
  obtain ⟨T1, h1, X1, e1, W1, st1⟩ := putF X hx hZ hown (host := "") (Or.inl w) Via.refl eT F E Ly' wi hty hn hf (g := mkF m pc L (v :: (.ref a) :: st)) rfl rfl (hb hby d)
  exact own_go st1 (q T1 h1 ⟨_, X1, Fr.snoc X1 N hge, e1, hx, hZ, hown, hby, hml, hnm, hret, hlk⟩ W1)
theorem own_new (X : own_Cx Z p l e R s m args below meth c n0 own bytes maxL nm ret T h cells slots) {C : String} {i n : Nat} (w : (Jvm.Cond.classLink own i C).before a0 Z = true) (wi : (Jvm.Cond.instantiable C n).before a0 Z = true) (wz : (Jvm.Cond.initialized C).before a0 Z = true) (d : decode bytes pc = .ok (.new i, 3)) (hp : pc + 3 = pc') {cells' slots' : Nat} (ec : cells + 1 = cells') (es : slots + n = slots') (hc : cells' ≤ R.cells) (hl : slots' ≤ R.slots)
    (q : ∀ T' h' a, a = h.size → own_Cx Z p l e R s m args below meth c n0 own bytes maxL nm ret T' h' cells' slots' → Ext h h' → Exa Z h' a C → (∀ {O nm d : String} {ty : FieldType}, Laid Z a0 C O nm d → parseFieldDescriptor d = some ty → Fld Z h' a O nm d (defaultValue ty)) → own_Fin p e below G (T'.setTop (mkF m pc' L ((.ref a) :: st)))) : own_Fin p e below G (T.setTop (mkF m pc L (st))) := by
  obtain ⟨locs, X, N, eT, hx, hZ, hown, hby, hml, hnm, hret, hlk⟩ := X
  subst hp ec es
  obtain ⟨T1, h1, X1, e1, E1, A1, D1, -, st1⟩ := newO X hx hZ hown w wi wz eT (g := mkF m pc L st) rfl (hb hby d) hc hl
  exact own_go st1 (q T1 h1 _ rfl ⟨_, X1, N, e1, hx, hZ, hown, hby, hml, hnm, hret, hlk⟩ E1 A1 D1)
theorem own_newarray (X : own_Cx Z p l e R s m args below meth c n0 own bytes maxL nm ret T h cells slots) {aty : ArrayType} (w : (Jvm.Cond.arrayClass (newarray.typeOf aty)).before a0 Z = true) {n : Int32} (cap : Nat) (hn : ¬ n < 0) (hcap : n.toNatClampNeg ≤ cap) (hb8 : cap * 8 ≤ 536870912) (d : decode bytes pc = .ok (.newarray aty, 2)) (hp : pc + 2 = pc') {cells' slots' : Nat} (ec : cells + 1 = cells') (es : slots + cap = slots') (hc : cells' ≤ R.cells) (hl : slots' ≤ R.slots)
    (q : ∀ T' h' cA a, a = h.size → own_Cx Z p l e R s m args below meth c n0 own bytes maxL nm ret T' h' cells' slots' → Ext h h' → Arr Z h' a (newA cA (newarray.typeOf aty) n) (newarray.typeOf aty) → own_Fin p e below G (T'.setTop (mkF m pc' L ((.ref a) :: st)))) : own_Fin p e below G (T.setTop (mkF m pc L ((.int n) :: st))) := by
  obtain ⟨locs, X, N, eT, hx, hZ, hown, hby, hml, hnm, hret, hlk⟩ := X
  subst hp ec es
  obtain ⟨T1, h1, cA, X1, e1, E1, A1, st1⟩ := newP X hx hZ w eT (g := mkF m pc L ((.int n) :: st)) rfl (hb hby d) rfl hn hcap hb8 hc hl
  exact own_go st1 (q T1 h1 cA _ rfl ⟨_, X1, N, e1, hx, hZ, hown, hby, hml, hnm, hret, hlk⟩ E1 A1)
theorem own_anewarray (X : own_Cx Z p l e R s m args below meth c n0 own bytes maxL nm ret T h cells slots) {C : String} {i : Nat} (w : (Jvm.Cond.classLink own i C).before a0 Z = true) (w2 : (Jvm.Cond.arrayOver (.object C)).before a0 Z = true) {n : Int32} (cap : Nat) (hn : ¬ n < 0) (hcap : n.toNatClampNeg ≤ cap) (hb8 : cap * 8 ≤ 536870912) (d : decode bytes pc = .ok (.anewarray i, 3)) (hp : pc + 3 = pc') {cells' slots' : Nat} (ec : cells + 1 = cells') (es : slots + cap = slots') (hc : cells' ≤ R.cells) (hl : slots' ≤ R.slots)
    (q : ∀ T' h' cA a, a = h.size → own_Cx Z p l e R s m args below meth c n0 own bytes maxL nm ret T' h' cells' slots' → Ext h h' → Arr Z h' a (newA cA (.object C) n) (.object C) → own_Fin p e below G (T'.setTop (mkF m pc' L ((.ref a) :: st)))) : own_Fin p e below G (T.setTop (mkF m pc L ((.int n) :: st))) := by
  obtain ⟨locs, X, N, eT, hx, hZ, hown, hby, hml, hnm, hret, hlk⟩ := X
  subst hp ec es
  obtain ⟨T1, h1, cA, X1, e1, E1, A1, -, st1⟩ := newR X hx hZ hown w w2 eT (g := mkF m pc L ((.int n) :: st)) rfl (hb hby d) rfl hn hcap hb8 hc hl
  exact own_go st1 (q T1 h1 cA _ rfl ⟨_, X1, N, e1, hx, hZ, hown, hby, hml, hnm, hret, hlk⟩ E1 A1)
theorem own_iaload (X : own_Cx Z p l e R s m args below meth c n0 own bytes maxL nm ret T h cells slots) {a : Addr} {cl : Cell} {j : Int32} {v : Value} (A : Arr Z h a cl .int) (hj : ¬ (j < 0 ∨ cl.slots.size ≤ j.toNatClampNeg)) (hv : cl.slots[j.toNatClampNeg]? = some v) (d : decode bytes pc = .ok (.iaload, 1)) (hp : pc + 1 = pc')
    (q : own_Fin p e below G (T.setTop (mkF m pc' L (v :: st)))) : own_Fin p e below G (T.setTop (mkF m pc L ((.int j) :: (.ref a) :: st))) := by
  obtain ⟨locs, X, N, eT, hx, hZ, hown, hby, hml, hnm, hret, hlk⟩ := X
  subst hp
  exact own_go (fun t k => X.iaload hx (by rw [eT]; exact A.1) (State.isArrayOf_alike hZ.alike A.2.1) A.2.2 hj hv (g := mkF m pc L ((.int j) :: (.ref a) :: st)) rfl rfl (hb hby d) t k) q
theorem own_laload (X : own_Cx Z p l e R s m args below meth c n0 own bytes maxL nm ret T h cells slots) {a : Addr} {cl : Cell} {j : Int32} {v : Value} (A : Arr Z h a cl .long) (hj : ¬ (j < 0 ∨ cl.slots.size ≤ j.toNatClampNeg)) (hv : cl.slots[j.toNatClampNeg]? = some v) (d : decode bytes pc = .ok (.laload, 1)) (hp : pc + 1 = pc')
    (q : own_Fin p e below G (T.setTop (mkF m pc' L (v :: st)))) : own_Fin p e below G (T.setTop (mkF m pc L ((.int j) :: (.ref a) :: st))) := by
  obtain ⟨locs, X, N, eT, hx, hZ, hown, hby, hml, hnm, hret, hlk⟩ := X
  subst hp
  exact own_go (fun t k => X.laload hx (by rw [eT]; exact A.1) (State.isArrayOf_alike hZ.alike A.2.1) A.2.2 hj hv (g := mkF m pc L ((.int j) :: (.ref a) :: st)) rfl rfl (hb hby d) t k) q
theorem own_baload (X : own_Cx Z p l e R s m args below meth c n0 own bytes maxL nm ret T h cells slots) {a : Addr} {cl : Cell} {j : Int32} {v : Value} (A : Arr Z h a cl .byte) (hj : ¬ (j < 0 ∨ cl.slots.size ≤ j.toNatClampNeg)) (hv : cl.slots[j.toNatClampNeg]? = some v) (d : decode bytes pc = .ok (.baload, 1)) (hp : pc + 1 = pc')
    (q : own_Fin p e below G (T.setTop (mkF m pc' L (v :: st)))) : own_Fin p e below G (T.setTop (mkF m pc L ((.int j) :: (.ref a) :: st))) := by
  obtain ⟨locs, X, N, eT, hx, hZ, hown, hby, hml, hnm, hret, hlk⟩ := X
  subst hp
  exact own_go (fun t k => X.baloadBytes hx (by rw [eT]; exact A.1) (State.isArrayOf_alike hZ.alike A.2.1) A.2.2 hj hv (g := mkF m pc L ((.int j) :: (.ref a) :: st)) rfl rfl (hb hby d) t k) q
theorem own_arraylength (X : own_Cx Z p l e R s m args below meth c n0 own bytes maxL nm ret T h cells slots) {a : Addr} {cl : Cell} {ty : FieldType} {z : Int32} (A : Arr Z h a cl ty) (hz : cl.slots.size.toInt32 = z) (d : decode bytes pc = .ok (.arraylength, 1)) (hp : pc + 1 = pc')
    (q : own_Fin p e below G (T.setTop (mkF m pc' L ((.int z) :: st)))) : own_Fin p e below G (T.setTop (mkF m pc L ((.ref a) :: st))) := by
  obtain ⟨locs, X, N, eT, hx, hZ, hown, hby, hml, hnm, hret, hlk⟩ := X
  subst hp hz
  exact own_go (fun t k => X.arraylength hx (by rw [eT]; exact A.1) (State.isArrayOf_alike hZ.alike A.2.1) (g := mkF m pc L ((.ref a) :: st)) rfl rfl (hb hby d) t k) q
theorem own_iastore (X : own_Cx Z p l e R s m args below meth c n0 own bytes maxL nm ret T h cells slots) {a : Addr} {cl : Cell} {j : Int32} {x : Int32} (A : Arr Z h a cl .int) (hj : ¬ (j < 0 ∨ cl.slots.size ≤ j.toNatClampNeg)) (hge : n0 ≤ a) (d : decode bytes pc = .ok (.iastore, 1)) (hp : pc + 1 = pc')
    (q : ∀ T' h', own_Cx Z p l e R s m args below meth c n0 own bytes maxL nm ret T' h' cells slots → Wr h h' a j.toNatClampNeg (.int x) → own_Fin p e below G (T'.setTop (mkF m pc' L (st)))) : own_Fin p e below G (T.setTop (mkF m pc L ((.int x) :: (.int j) :: (.ref a) :: st))) := by
  obtain ⟨locs, X, N, eT, hx, hZ, hown, hby, hml, hnm, hret, hlk⟩ := X
  subst hp
  obtain ⟨T1, h1, X1, e1, W1, st1⟩ := stI X hx hZ eT A hj (g := mkF m pc L ((.int x) :: (.int j) :: (.ref a) :: st)) rfl rfl (hb hby d)
  exact own_go st1 (q T1 h1 ⟨_, X1, Fr.snoc X1 N hge, e1, hx, hZ, hown, hby, hml, hnm, hret, hlk⟩ W1)
theorem own_lastore (X : own_Cx Z p l e R s m args below meth c n0 own bytes maxL nm ret T h cells slots) {a : Addr} {cl : Cell} {j : Int32} {x : Int64} (A : Arr Z h a cl .long) (hj : ¬ (j < 0 ∨ cl.slots.size ≤ j.toNatClampNeg)) (hge : n0 ≤ a) (d : decode bytes pc = .ok (.lastore, 1)) (hp : pc + 1 = pc')
    (q : ∀ T' h', own_Cx Z p l e R s m args below meth c n0 own bytes maxL nm ret T' h' cells slots → Wr h h' a j.toNatClampNeg (.long x) → own_Fin p e below G (T'.setTop (mkF m pc' L (st)))) : own_Fin p e below G (T.setTop (mkF m pc L ((.long x) :: (.int j) :: (.ref a) :: st))) := by
  obtain ⟨locs, X, N, eT, hx, hZ, hown, hby, hml, hnm, hret, hlk⟩ := X
  subst hp
  obtain ⟨T1, h1, X1, e1, W1, st1⟩ := stJ X hx hZ eT A hj (g := mkF m pc L ((.long x) :: (.int j) :: (.ref a) :: st)) rfl rfl (hb hby d)
  exact own_go st1 (q T1 h1 ⟨_, X1, Fr.snoc X1 N hge, e1, hx, hZ, hown, hby, hml, hnm, hret, hlk⟩ W1)
theorem own_initO (X : own_Cx Z p l e R s m args below meth c n0 own bytes maxL nm ret T h cells slots) {i : Nat} {a : Addr} (w1 : (Jvm.Cond.methodLink own i Lib.objectInit).before a0 Z = true) (w2 : (Jvm.Cond.instanceMethod Lib.objectInit).before a0 Z = true) (w3 : (Jvm.Cond.code Lib.objectInit ⟨#[0xb1]⟩ 1 none).before a0 Z = true) (d : decode bytes pc = .ok (.invokespecial i, 3)) (hp : pc + 3 = pc') (hsz : L.size = maxL) (hf : 1 ≤ R.frames) {W : Nat} (hW : (st.map fun v => v.category).sum = W) (hl : W + 12 ≤ R.locals)
    (q : ∀ T', own_Cx Z p l e R s m args below meth c n0 own bytes maxL nm ret T' h cells slots → own_Fin p e below G (T'.setTop (mkF m pc' L (st)))) : own_Fin p e below G (T.setTop (mkF m pc L ((.ref a) :: st))) := by
  obtain ⟨locs, X, N, eT, hx, hZ, hown, hby, hml, hnm, hret, hlk⟩ := X
  subst hp
  obtain ⟨T1, X1, e1, st1⟩ := initO X hx hZ hown w1 w2 w3 eT (g := mkF m pc L ((.ref a) :: st)) rfl (hsz.trans hml.symm) rfl (hb hby d) hf (W := W) (by show 2 * 0 + _ ≤ _; omega) hl
  exact own_go st1 (q T1 ⟨locs, X1, N, e1, hx, hZ, hown, hby, hml, hnm, hret, hlk⟩)
theorem own_callS (X : own_Cx Z p l e R s m args below meth c n0 own bytes maxL nm ret T h cells slots) {y : MethodName} {yb : ByteArray} {ymax : Nat} {yr : Option FieldType} {i : Nat} (w1 : (Jvm.Cond.methodLink own i y).before a0 Z = true) (w2 : (Jvm.Cond.static y).before a0 Z = true) (w3 : (Jvm.Cond.initialized y.cls).before a0 Z = true) (w4 : (Jvm.Cond.code y yb ymax yr).before a0 Z = true) (hy : y.cls ≠ "java/lang/invoke/MethodHandle" ∧ y.cls ≠ "java/lang/invoke/VarHandle")
    {rm : Room} {argsL rest : List Value} {q : Option Value → Heap → Prop} (hM : own_Met l Z y yb ymax yr [] rm argsL.toArray h n0 q) {ps : List FieldType} {r : Option FieldType} (pd : parseMethodDescriptor y.desc = some ⟨ps, r⟩) (hlen : argsL.length = ps.length) (d : decode bytes pc = .ok (.invokestatic i, 3)) (hp : pc + 3 = pc') (hsz : L.size = maxL) (hst : st = argsL.reverse ++ rest) {W : Nat} (hW : (rest.map fun v => v.category).sum = W) (hfr : rm.frames + 1 ≤ R.frames) (hlo : W + (ymax + 11) + rm.locals ≤ R.locals) {cells' slots' : Nat} (ec : cells + rm.cells = cells') (es : slots + rm.slots = slots') (hc : cells' ≤ R.cells) (hs : slots' ≤ R.slots)
    (k : ∀ v T' h', own_Cx Z p l e R s m args below meth c n0 own bytes maxL nm ret T' h' cells' slots' → q v h' → own_Fin p e below G (T'.setTop (mkF m pc' L (v.toList ++ rest)))) : own_Fin p e below G (T.setTop (mkF m pc L st)) := by
  obtain ⟨locs, X, N, eT, hx, hZ, hown, hby, hml, hnm, hret, hlk⟩ := X
  subst hp ec es
  obtain ⟨v, _, ⟨T1, L1, k1, n1⟩, -, X1, ⟨Lc, hQ, l1, y1, z1⟩, st1⟩ := Jvm.LawKit.callS X hx (y := y) hown (mvT hZ w1) (mvT hZ w2) (mvT hZ w3) (mvT hZ w4) hy (backOf (W := W) (Q := fun v h L => q v h ∧ Fr n0 L) hM hZ w4 w3 hfr hlo) (g := mkF m pc L st) rfl (hsz.trans hml.symm) (argsL := argsL) (rest := rest) (lenOf pd hlen) hst (by show 2 * 0 + _ ≤ _; omega) (hb hby d) (fun _ _ => ⟨rfl, eT, hc, hs⟩)
  dsimp only [Pt.U, Pt.locs, Pt.cells, Pt.slots] at X1 l1 y1 z1 st1 hQ
  subst l1 y1 z1
  exact own_go st1 (k v T1 _ ⟨_, X1, Fr.app N hQ.2, rfl, hx, hZ, hown, hby, hml, hnm, hret, hlk⟩ hQ.1)
theorem own_callI (X : own_Cx Z p l e R s m args below meth c n0 own bytes maxL nm ret T h cells slots) {y : MethodName} {yb : ByteArray} {ymax : Nat} {i : Nat} (hi : y.name = "<init>") (w1 : (Jvm.Cond.methodLink own i y).before a0 Z = true) (w2 : (Jvm.Cond.instanceMethod y).before a0 Z = true) (w3 : (Jvm.Cond.initialized y.cls).before a0 Z = true) (w4 : (Jvm.Cond.code y yb ymax none).before a0 Z = true) (hy : y.cls ≠ "java/lang/invoke/MethodHandle" ∧ y.cls ≠ "java/lang/invoke/VarHandle")
    {rm : Room} {a : Addr} {argsL rest : List Value} {q : Option Value → Heap → Prop} (hM : own_Met l Z y yb ymax none [] rm (Value.ref a :: argsL).toArray h n0 q) {ps : List FieldType} {r : Option FieldType} (pd : parseMethodDescriptor y.desc = some ⟨ps, r⟩) (hlen : argsL.length = ps.length) (d : decode bytes pc = .ok (.invokespecial i, 3)) (hp : pc + 3 = pc') (hsz : L.size = maxL) (hst : st = argsL.reverse ++ .ref a :: rest) {W : Nat} (hW : (rest.map fun v => v.category).sum = W) (hfr : rm.frames + 1 ≤ R.frames) (hlo : W + (ymax + 11) + rm.locals ≤ R.locals) {cells' slots' : Nat} (ec : cells + rm.cells = cells') (es : slots + rm.slots = slots') (hc : cells' ≤ R.cells) (hs : slots' ≤ R.slots)
    (k : ∀ v T' h', own_Cx Z p l e R s m args below meth c n0 own bytes maxL nm ret T' h' cells' slots' → q v h' → own_Fin p e below G (T'.setTop (mkF m pc' L (v.toList ++ rest)))) : own_Fin p e below G (T.setTop (mkF m pc L st)) := by
  obtain ⟨locs, X, N, eT, hx, hZ, hown, hby, hml, hnm, hret, hlk⟩ := X
  subst hp ec es
  obtain ⟨v, _, ⟨T1, L1, k1, n1⟩, -, X1, ⟨Lc, hQ, l1, y1, z1⟩, st1⟩ := X.specialBack hx (y := y) hi hown (mvT hZ w1) (mvT hZ w2) (mvT hZ w4) hy (backOf (W := W) (Q := fun v h L => q v h ∧ Fr n0 L) hM hZ w4 w3 hfr hlo) (g := mkF m pc L st) rfl (hsz.trans hml.symm) (Steps.refl _) (a := a) (argsL := argsL) (rest := rest) (lenOf pd hlen) hst (by show 2 * 0 + _ ≤ _; omega) (hb hby d) (fun _ _ => ⟨rfl, eT, hc, hs⟩)
  dsimp only [Pt.U, Pt.locs, Pt.cells, Pt.slots] at X1 l1 y1 z1 st1 hQ
  subst l1 y1 z1
  exact own_go (fun t k => st1.trans k) (k v T1 _ ⟨_, X1, Fr.app N hQ.2, rfl, hx, hZ, hown, hby, hml, hnm, hret, hlk⟩ hQ.1)
theorem own_callV (X : own_Cx Z p l e R s m args below meth c n0 own bytes maxL nm ret T h cells slots) {y : MethodName} {yb : ByteArray} {ymax : Nat} {yr : Option FieldType} {i : Nat} {C : String} (w1 : (Jvm.Cond.methodLink own i y).before a0 Z = true) (w2 : (Jvm.Cond.declares y).before a0 Z = true) (w5 : (Jvm.Cond.selects C y y).before a0 Z = true) (w6 : (Jvm.Cond.instanceMethod y).before a0 Z = true) (w3 : (Jvm.Cond.initialized y.cls).before a0 Z = true) (w4 : (Jvm.Cond.code y yb ymax yr).before a0 Z = true) (hy : y.cls ≠ "java/lang/invoke/MethodHandle" ∧ y.cls ≠ "java/lang/invoke/VarHandle")
    {rm : Room} {a : Addr} {argsL rest : List Value} {q : Option Value → Heap → Prop} (hM : own_Met l Z y yb ymax yr [] rm (Value.ref a :: argsL).toArray h n0 q) (E : Exa Z h a C) {ps : List FieldType} {r : Option FieldType} (pd : parseMethodDescriptor y.desc = some ⟨ps, r⟩) (hlen : argsL.length = ps.length) (d : decode bytes pc = .ok (.invokevirtual i, 3)) (hp : pc + 3 = pc') (hsz : L.size = maxL) (hst : st = argsL.reverse ++ .ref a :: rest) {W : Nat} (hW : (rest.map fun v => v.category).sum = W) (hfr : rm.frames + 1 ≤ R.frames) (hlo : W + (ymax + 11) + rm.locals ≤ R.locals) {cells' slots' : Nat} (ec : cells + rm.cells = cells') (es : slots + rm.slots = slots') (hc : cells' ≤ R.cells) (hs : slots' ≤ R.slots)
    (k : ∀ v T' h', own_Cx Z p l e R s m args below meth c n0 own bytes maxL nm ret T' h' cells' slots' → q v h' → own_Fin p e below G (T'.setTop (mkF m pc' L (v.toList ++ rest)))) : own_Fin p e below G (T.setTop (mkF m pc L st)) := by
  obtain ⟨locs, X, N, eT, hx, hZ, hown, hby, hml, hnm, hret, hlk⟩ := X
  subst hp ec es
  obtain ⟨cq, kq, qa, qb, qc⟩ := isOf (T := T) hZ eT E
  obtain ⟨v, _, ⟨T1, L1, k1, n1⟩, -, X1, ⟨Lc, hQ, l1, y1, z1⟩, st1⟩ := X.virtualBack hx (y := y) (z := y) hown (mvT hZ w1) (mvT hZ w2) (notFace_of_selects (args := #[]) (mvT hZ w5)) (mvT hZ w5) (mvT hZ w6) hy (backOf (W := W) (Q := fun v h L => q v h ∧ Fr n0 L) hM hZ w4 w3 hfr hlo) qa qc (g := mkF m pc L st) rfl (hsz.trans hml.symm) (Steps.refl _) (argsL := argsL) (rest := rest) (lenOf pd hlen) hst (by show 2 * 0 + _ ≤ _; omega) (hb hby d) (fun _ _ => ⟨rfl, eT, hc, hs⟩)
  dsimp only [Pt.U, Pt.locs, Pt.cells, Pt.slots] at X1 l1 y1 z1 st1 hQ
  subst l1 y1 z1
  exact own_go (fun t k => st1.trans k) (k v T1 _ ⟨_, X1, Fr.app N hQ.2, rfl, hx, hZ, hown, hby, hml, hnm, hret, hlk⟩ hQ.1)
end OwnKit
theorem pd_2 : parseMethodDescriptor "(JJ)V" = some ⟨[.long, .long], none⟩ := by decide +kernel
theorem pd_3 : parseMethodDescriptor "(Ljava/lang/Object;IZJ)Z" = some ⟨[(.object "java/lang/Object"), .int, .boolean, .long], some .boolean⟩ := by decide +kernel
theorem pd_4 : parseMethodDescriptor "()V" = some ⟨[], none⟩ := by decide +kernel

def own_si (nw : Bool) (si now : Int64) : Int64 := if nw = true then now else si
def own_bs (nw : Bool) (wb bl : Int32) (bs now : Int64) : Int64 := if bl = 0 then bs else (if (if nw = true then (0 : Int32) else wb) = 0 then now else bs)
def own_res (rL dif : Int64) (bl : Int32) (bL dib : Int64) : Int32 := if rL < dif then (1 : Int32) else (if bl = (0 : Int32) then (0 : Int32) else (if bL < dib then (1 : Int32) else (0 : Int32)))
theorem own_nf {nw : Bool} {P : Prop} (h : nw = true ↔ ¬ P) (q : P) : nw = false := by
  cases nw
  · rfl
  · exact absurd q (h.mp rfl)
theorem own_b01 {z : Int32} {P : Prop} [Decidable P] (h : z = if P then (0 : Int32) else (1 : Int32)) : narrow .boolean (.int z) = .int z ∧ fits .boolean (.int z) = true := by
  by_cases q : P
  · rw [if_pos q] at h; subst h; exact ⟨rfl, rfl⟩
  · rw [if_neg q] at h; subst h; exact ⟨rfl, rfl⟩
theorem own_succ (c : Int32) : ¬ c + 1 = c := fun h => by
  have h1 : c + 1 - c = c - c := congrArg (fun z => z - c) h
  rw [Int32.add_comm, Int32.add_sub_cancel, Int32.sub_self] at h1
  exact absurd h1 (by decide)
theorem own_nw1 (t : Addr) (ch cs : Int32) : (true = true ↔ ¬ ((.ref t : Value) = .null ∧ ch = cs)) := ⟨fun _ z => (by cases z.1), fun _ => rfl⟩
theorem own_nw2 {a b t : Addr} {z16 z18 c1 c2 : Int32} (hab : a ≠ b) (ht : t = if z16 = (0 : Int32) then a else b) (hc : c2 = if z18 = (0 : Int32) then c1 else (c1 + (1 : Int32))) :
    (decide (¬ z16 = 0 ∨ ¬ z18 = 0) = true ↔ ¬ ((.ref t : Value) = .ref a ∧ c2 = c1)) := by
  rw [decide_eq_true_iff]
  by_cases q1 : z16 = 0
  · rw [if_pos q1] at ht
    subst ht
    by_cases q2 : z18 = 0
    · rw [if_pos q2] at hc
      subst hc
      exact ⟨fun z => absurd z (by simp [q1, q2]), fun z => absurd ⟨rfl, rfl⟩ z⟩
    · rw [if_neg q2] at hc
      subst hc
      exact ⟨fun _ z => own_succ c1 z.2, fun _ => Or.inr q2⟩
  · rw [if_neg q1] at ht
    subst ht
    exact ⟨fun _ z => hab (by cases z.1; rfl), fun _ => Or.inl q1⟩
theorem own_nw3 {a b t t3 : Addr} {z16 z17 z19 c2 c3 : Int32} {P Q : Prop} [Decidable P] [Decidable Q] (hab : a ≠ b) (h16 : z16 = if P then (0 : Int32) else (1 : Int32)) (h17 : z17 = if Q then (0 : Int32) else (1 : Int32)) (ht : t = if z16 = (0 : Int32) then a else b) (ht3 : t3 = if z17 = (0 : Int32) then a else b) (hc : c3 = if z19 = (0 : Int32) then c2 else (c2 + (1 : Int32))) :
    (decide (¬ z16 = z17 ∨ ¬ z19 = 0) = true ↔ ¬ ((.ref t3 : Value) = .ref t ∧ c3 = c2)) := by
  have key : (t3 = t ↔ z16 = z17) := by
    by_cases q1 : P <;> by_cases q2 : Q <;> simp [q1, q2] at h16 h17 <;> subst h16 <;> subst h17 <;> simp at ht ht3 <;> subst ht <;> subst ht3 <;> simp
    · exact fun z => hab z.symm
    · exact hab
  by_cases q2 : z19 = 0
  · simp [q2] at hc ⊢
    subst hc
    simp [key]
  · simp [q2] at hc ⊢
    subst hc
    exact fun _ => own_succ c2
theorem own_add_sub (a b : Int64) : a + b - a = b := by rw [Int64.add_comm, Int64.add_sub_cancel]
theorem own_asa (a b c : Int64) : a + b - c = (a - c) + b := by rw [Int64.sub_eq_add_neg, Int64.sub_eq_add_neg, Int64.add_assoc, Int64.add_comm b, Int64.add_assoc]
theorem own_r (rL d d' : Int64) (bl : Int32) (bL x x' : Int64) (h1 : d = d') (h2 : ¬ bl = 0 → x = x') : own_res rL d bl bL x = (if rL < d' then (1 : Int32) else (if bl = (0 : Int32) then (0 : Int32) else (if bL < x' then (1 : Int32) else (0 : Int32)))) := by
  subst h1
  unfold own_res
  by_cases q : bl = 0
  · rw [if_pos q, if_pos q]
  · rw [h2 q]

theorem own_e1 (n : Int64) : n - own_si true 0 n = 0 := by show n - n = 0; exact Int64.sub_self n
theorem own_e1b {bl : Int32} {n : Int64} (q : ¬ bl = 0) : n - own_bs true 0 bl 0 n = 0 := by
  have : own_bs true 0 bl 0 n = n := by simp [own_bs, q]
  rw [this]; exact Int64.sub_self n
theorem own_new2 {z16 z18 z38 : Int32} (h : z38 = if z16 = (0 : Int32) then (if z18 = (0 : Int32) then (0 : Int32) else (1 : Int32)) else (1 : Int32)) : decide (¬ z16 = 0 ∨ ¬ z18 = 0) = decide (¬ z38 = 0) := by
  by_cases q1 : z16 = 0 <;> by_cases q2 : z18 = 0 <;> simp [q1, q2] at h ⊢ <;> subst h <;> decide
theorem own_d2 {z38 b1 b2 : Int32} {n g z42 z48 : Int64} (h42 : z42 = if z38 = (0 : Int32) then g else (0 : Int64)) (h48 : z48 = if b1 = (0 : Int32) then (0 : Int64) else (if z38 = (0 : Int32) then ((0 : Int64) + g) else (0 : Int64))) :
    ((n + g) - own_si (decide (¬ z38 = 0)) (own_si true 0 n) (n + g) = z42) ∧ (¬ b2 = 0 → (n + g) - own_bs (decide (¬ z38 = 0)) b1 b2 (own_bs true 0 b1 0 n) (n + g) = z48) := by
  have e0 : own_si true 0 n = n := rfl
  rw [e0]
  by_cases q : z38 = 0
  · have : decide (¬ z38 = 0) = false := by simp [q]
    rw [this]
    rw [if_pos q] at h42 h48
    refine ⟨?_, fun q2 => ?_⟩
    · show n + g - n = z42
      rw [own_add_sub, h42]
    · by_cases q1 : b1 = 0
      · have : own_bs false b1 b2 (own_bs true 0 b1 0 n) (n + g) = n + g := by simp [own_bs, q2, q1]
        rw [this, Int64.sub_self, h48, if_pos q1]
      · have : own_bs false b1 b2 (own_bs true 0 b1 0 n) (n + g) = n := by simp [own_bs, q2, q1]
        rw [this, own_add_sub, h48, if_neg q1, Int64.zero_add]
  · have : decide (¬ z38 = 0) = true := by simp [q]
    rw [this]
    rw [if_neg q] at h42 h48
    refine ⟨?_, fun q2 => ?_⟩
    · show n + g - (n + g) = z42
      rw [Int64.sub_self, h42]
    · have : own_bs true b1 b2 (own_bs true 0 b1 0 n) (n + g) = n + g := by simp [own_bs, q2]
      rw [this, Int64.sub_self, h48]
      by_cases q1 : b1 = 0
      · rw [if_pos q1]
      · rw [if_neg q1]
theorem own_r2 {rL bL n g z42 z48 : Int64} {z16 z18 z38 b1 b2 : Int32} (h38 : z38 = if z16 = (0 : Int32) then (if z18 = (0 : Int32) then (0 : Int32) else (1 : Int32)) else (1 : Int32)) (h42 : z42 = if z38 = (0 : Int32) then g else (0 : Int64)) (h48 : z48 = if b1 = (0 : Int32) then (0 : Int64) else (if z38 = (0 : Int32) then ((0 : Int64) + g) else (0 : Int64))) :
    own_res rL ((n + g) - (own_si (decide (¬ z16 = 0 ∨ ¬ z18 = 0)) (own_si true 0 n) (n + g))) b2 bL ((n + g) - (own_bs (decide (¬ z16 = 0 ∨ ¬ z18 = 0)) b1 b2 (own_bs true 0 b1 0 n) (n + g))) = (if rL < z42 then (1 : Int32) else (if b2 = (0 : Int32) then (0 : Int32) else (if bL < z48 then (1 : Int32) else (0 : Int32)))) := by
  rw [own_new2 h38]
  obtain ⟨k1, k2⟩ := own_d2 (n := n) (b2 := b2) h42 h48
  exact own_r _ _ _ _ _ _ _ k1 k2
theorem own_d3 {nw : Bool} {z39 b2 b3 : Int32} {n2 g3 s2 x2 z42 z48 z44 z50 : Int64} (hn : nw = decide (¬ z39 = 0)) (k1 : n2 - s2 = z42) (k2 : ¬ b2 = 0 → n2 - x2 = z48) (h44 : z44 = if z39 = (0 : Int32) then (z42 + g3) else (0 : Int64)) (h50 : z50 = if b2 = (0 : Int32) then (0 : Int64) else (if z39 = (0 : Int32) then (z48 + g3) else (0 : Int64))) :
    ((n2 + g3) - own_si nw s2 (n2 + g3) = z44) ∧ (¬ b3 = 0 → (n2 + g3) - own_bs nw b2 b3 x2 (n2 + g3) = z50) := by
  by_cases q : z39 = 0
  · have : nw = false := by rw [hn]; simp [q]
    subst this
    rw [if_pos q] at h44 h50
    refine ⟨?_, fun q3 => ?_⟩
    · show n2 + g3 - s2 = z44
      rw [own_asa, k1, h44]
    · by_cases q2 : b2 = 0
      · have : own_bs false b2 b3 x2 (n2 + g3) = n2 + g3 := by simp [own_bs, q2, q3]
        rw [this, Int64.sub_self, h50, if_pos q2]
      · have : own_bs false b2 b3 x2 (n2 + g3) = x2 := by simp [own_bs, q2, q3]
        rw [this, own_asa, k2 q2, h50, if_neg q2]
  · have : nw = true := by rw [hn]; simp [q]
    subst this
    rw [if_neg q] at h44 h50
    refine ⟨?_, fun q3 => ?_⟩
    · show n2 + g3 - (n2 + g3) = z44
      rw [Int64.sub_self, h44]
    · have : own_bs true b2 b3 x2 (n2 + g3) = n2 + g3 := by simp [own_bs, q3]
      rw [this, Int64.sub_self, h50]
      by_cases q1 : b2 = 0
      · rw [if_pos q1]
      · rw [if_neg q1]
theorem own_r3f {rL bL n2 g3 s2 x2 z42 z48 z44 z50 : Int64} {z16 z17 z19 z20 z39 b2 b3 : Int32} (hf : ¬ z20 = (0 : Int32)) (h39 : z39 = if z20 = (0 : Int32) then (if z16 = z17 then (if z19 = (0 : Int32) then (0 : Int32) else (1 : Int32)) else (1 : Int32)) else (1 : Int32)) (h44 : z44 = if z39 = (0 : Int32) then (z42 + g3) else (0 : Int64)) (h50 : z50 = if b2 = (0 : Int32) then (0 : Int64) else (if z39 = (0 : Int32) then (z48 + g3) else (0 : Int64))) :
    own_res rL ((n2 + g3) - (own_si true s2 (n2 + g3))) b3 bL ((n2 + g3) - (own_bs true b2 b3 x2 (n2 + g3))) = (if rL < z44 then (1 : Int32) else (if b3 = (0 : Int32) then (0 : Int32) else (if bL < z50 then (1 : Int32) else (0 : Int32)))) := by
  rw [if_neg hf] at h39
  subst h39
  have e1 : ¬ (1 : Int32) = 0 := by decide
  rw [if_neg e1] at h44 h50
  refine own_r _ _ _ _ _ _ _ ?_ (fun q3 => ?_)
  · show n2 + g3 - (n2 + g3) = z44
    rw [Int64.sub_self, h44]
  · have : own_bs true b2 b3 x2 (n2 + g3) = n2 + g3 := by simp [own_bs, q3]
    rw [this, Int64.sub_self, h50]
    by_cases q1 : b2 = 0
    · rw [if_pos q1]
    · rw [if_neg q1]
theorem own_r3 {rL bL n g g3 z42 z48 z44 z50 : Int64} {z16 z17 z18 z19 z20 z38 z39 b1 b2 b3 : Int32} (hf : z20 = (0 : Int32)) (h38 : z38 = if z16 = (0 : Int32) then (if z18 = (0 : Int32) then (0 : Int32) else (1 : Int32)) else (1 : Int32)) (h42 : z42 = if z38 = (0 : Int32) then g else (0 : Int64)) (h48 : z48 = if b1 = (0 : Int32) then (0 : Int64) else (if z38 = (0 : Int32) then ((0 : Int64) + g) else (0 : Int64)))
    (h39 : z39 = if z20 = (0 : Int32) then (if z16 = z17 then (if z19 = (0 : Int32) then (0 : Int32) else (1 : Int32)) else (1 : Int32)) else (1 : Int32)) (h44 : z44 = if z39 = (0 : Int32) then (z42 + g3) else (0 : Int64)) (h50 : z50 = if b2 = (0 : Int32) then (0 : Int64) else (if z39 = (0 : Int32) then (z48 + g3) else (0 : Int64))) :
    own_res rL (((n + g) + g3) - (own_si (decide (¬ z16 = z17 ∨ ¬ z19 = 0)) (own_si (decide (¬ z16 = 0 ∨ ¬ z18 = 0)) (own_si true 0 n) (n + g)) ((n + g) + g3))) b3 bL (((n + g) + g3) - (own_bs (decide (¬ z16 = z17 ∨ ¬ z19 = 0)) b2 b3 (own_bs (decide (¬ z16 = 0 ∨ ¬ z18 = 0)) b1 b2 (own_bs true 0 b1 0 n) (n + g)) ((n + g) + g3))) = (if rL < z44 then (1 : Int32) else (if b3 = (0 : Int32) then (0 : Int32) else (if bL < z50 then (1 : Int32) else (0 : Int32)))) := by
  rw [own_new2 h38]
  obtain ⟨k1, k2⟩ := own_d2 (n := n) (b2 := b2) h42 h48
  rw [if_pos hf] at h39
  have hn : decide (¬ z16 = z17 ∨ ¬ z19 = 0) = decide (¬ z39 = 0) := by
    by_cases q1 : z16 = z17 <;> by_cases q2 : z19 = 0 <;> simp [q1, q2] at h39 ⊢ <;> subst h39 <;> decide
  obtain ⟨m1, m2⟩ := own_d3 (b3 := b3) hn k1 k2 h44 h50
  exact own_r _ _ _ _ _ _ _ m1 m2
theorem d2_0 : decode prog_169_method_1_code 0 = .ok (.aload_n 0, 1) := by decide +kernel
theorem d2_1 : decode prog_169_method_1_code 1 = .ok (.invokespecial 1, 3) := by decide +kernel
theorem d2_4 : decode prog_169_method_1_code 4 = .ok (.aload_n 0, 1) := by decide +kernel
theorem d2_5 : decode prog_169_method_1_code 5 = .ok (.lload_n 1, 1) := by decide +kernel
theorem d2_6 : decode prog_169_method_1_code 6 = .ok (.putfield 7, 3) := by decide +kernel
theorem d2_9 : decode prog_169_method_1_code 9 = .ok (.aload_n 0, 1) := by decide +kernel
theorem d2_10 : decode prog_169_method_1_code 10 = .ok (.lload_n 3, 1) := by decide +kernel
theorem d2_11 : decode prog_169_method_1_code 11 = .ok (.putfield 13, 3) := by decide +kernel
theorem d2_14 : decode prog_169_method_1_code 14 = .ok (.return_, 1) := by decide +kernel
theorem own_pn1 : plainFor (⟨"com/example/racewright/racewright/scheduler/Watchdog", "<init>", "(JJ)V"⟩ : MethodName) = true := by first | exact plainFor_of_name (by first | (simp [plainName, overriddenIn, x]; done) | decide +kernel) | decide +kernel
theorem own_ef1 (a0_ : Addr) (x1 : Int64) (x2 : Int64) (m : MethodId) : entryFrame m #[(.ref a0_), (.long x1), (.long x2)] 5 = mkF m 0 #[.val (.ref a0_), .val (.long x1), .second, .val (.long x2), .second] [] := by
  first | (simp [entryFrame, mkF, argsToLocals, Value.category]; done) | rfl
def own_q1 (a0_ : Addr) (x1 : Int64) (x2 : Int64) (Z : State) (h0 : Heap) (v : Option Value) (h : Heap) : Prop := v = none ∧ Keep h0 h [a0_] ∧ Fld Z h a0_ "com/example/racewright/racewright/scheduler/Watchdog" "awaited" "Ljava/lang/Object;" (.null) ∧ Fld Z h a0_ "com/example/racewright/racewright/scheduler/Watchdog" "changesSeen" "I" (.int (0 : Int32)) ∧ Fld Z h a0_ "com/example/racewright/racewright/scheduler/Watchdog" "since" "J" (.long (0 : Int64)) ∧ Fld Z h a0_ "com/example/racewright/racewright/scheduler/Watchdog" "wasBlocked" "Z" (.int (0 : Int32)) ∧ Fld Z h a0_ "com/example/racewright/racewright/scheduler/Watchdog" "blockedSince" "J" (.long (0 : Int64)) ∧ Fld Z h a0_ "com/example/racewright/racewright/scheduler/Watchdog" "blockedLimit" "J" (.long x1) ∧ Fld Z h a0_ "com/example/racewright/racewright/scheduler/Watchdog" "runningLimit" "J" (.long x2)
set_option maxRecDepth 65536 in
set_option maxHeartbeats 40000000 in
theorem own_m1 (l : Launch) (Z : State) (a0 : Array Value) (hw : ∀ d ∈ tables_1, d.before a0 Z = true) (ws : List Jvm.Cond) (a0_ : Addr) (x1 : Int64) (x2 : Int64) (h0 : Heap) (n0 : Nat) (Z0 : n0 ≤ h0.size) (F1 : Exa Z h0 a0_ "com/example/racewright/racewright/scheduler/Watchdog") (F2 : Fld Z h0 a0_ "com/example/racewright/racewright/scheduler/Watchdog" "awaited" "Ljava/lang/Object;" (.null)) (F3 : Fld Z h0 a0_ "com/example/racewright/racewright/scheduler/Watchdog" "changesSeen" "I" (.int (0 : Int32))) (F4 : Fld Z h0 a0_ "com/example/racewright/racewright/scheduler/Watchdog" "since" "J" (.long (0 : Int64))) (F5 : Fld Z h0 a0_ "com/example/racewright/racewright/scheduler/Watchdog" "wasBlocked" "Z" (.int (0 : Int32))) (F6 : Fld Z h0 a0_ "com/example/racewright/racewright/scheduler/Watchdog" "blockedSince" "J" (.long (0 : Int64))) (F7 : Fld Z h0 a0_ "com/example/racewright/racewright/scheduler/Watchdog" "blockedLimit" "J" (.long (0 : Int64))) (F8 : Fld Z h0 a0_ "com/example/racewright/racewright/scheduler/Watchdog" "runningLimit" "J" (.long (0 : Int64))) (ge_a0_ : n0 ≤ a0_) :
    own_Met l Z (⟨"com/example/racewright/racewright/scheduler/Watchdog", "<init>", "(JJ)V"⟩ : MethodName) prog_169_method_1_code 5 none ws ({ frames := 1, cells := 0, slots := 0, locals := 12 } : Room) #[(.ref a0_), (.long x1), (.long x2)] h0 n0 (own_q1 a0_ x1 x2 Z h0) := by
  refine own_enter (own := "com/example/racewright/racewright/scheduler/Watchdog") (nm := "<init>") rfl rfl own_pn1 (own_ef1 a0_ x1 x2) ?_
  intro p e s m below meth c T0 X0
  have K9 := (Keep.refl h0 [a0_])
  refine own_aloadN X0 d2_0 rfl rfl rfl ?_
  refine own_initO X0 (hw _ (List.mem_of_getElem? (i := 13) rfl)) (hw _ (List.mem_of_getElem? (i := 5) rfl)) (hw _ (List.mem_of_getElem? (i := 6) rfl)) d2_1 rfl rfl (by decide) (W := 0) rfl (by decide) (fun T10 X11 => ?_)
  refine own_aloadN X11 d2_4 rfl rfl rfl ?_
  refine own_lloadN X11 d2_5 rfl rfl ?_
  refine own_putf X11 (hw _ (List.mem_of_getElem? (i := 14) rfl)) F7 F1 (Or.inr ⟨(hw _ (List.mem_of_getElem? (i := 15) rfl)), rfl, rfl⟩) (hw _ (List.mem_of_getElem? (i := 8) rfl)) (ty := .long) (by decide) rfl rfl ge_a0_ d2_6 rfl (fun T12 h14 X13 W15 => ?_)
  have F16 := (F1.wr W15)
  have F17 := (F2.other W15 (Or.inr (slot_ne (Or.inl (hw _ (List.mem_of_getElem? (i := 24) rfl))) (Or.inr (hw _ (List.mem_of_getElem? (i := 15) rfl))) (by decide) (t := (.object "java/lang/Object")) (t' := .long) (by decide) (by decide))))
  have F18 := (F3.other W15 (Or.inr (slot_ne (Or.inl (hw _ (List.mem_of_getElem? (i := 26) rfl))) (Or.inr (hw _ (List.mem_of_getElem? (i := 15) rfl))) (by decide) (t := .int) (t' := .long) (by decide) (by decide))))
  have F19 := (F4.other W15 (Or.inr (slot_ne (Or.inl (hw _ (List.mem_of_getElem? (i := 28) rfl))) (Or.inr (hw _ (List.mem_of_getElem? (i := 15) rfl))) (by decide) (t := .long) (t' := .long) (by decide) (by decide))))
  have F20 := (F5.other W15 (Or.inr (slot_ne (Or.inl (hw _ (List.mem_of_getElem? (i := 30) rfl))) (Or.inr (hw _ (List.mem_of_getElem? (i := 15) rfl))) (by decide) (t := .boolean) (t' := .long) (by decide) (by decide))))
  have F21 := (F6.other W15 (Or.inr (slot_ne (Or.inl (hw _ (List.mem_of_getElem? (i := 32) rfl))) (Or.inr (hw _ (List.mem_of_getElem? (i := 15) rfl))) (by decide) (t := .long) (t' := .long) (by decide) (by decide))))
  have F22 := (F7.same W15)
  have F23 := (F8.other W15 (Or.inr (slot_ne (Or.inr (hw _ (List.mem_of_getElem? (i := 17) rfl))) (Or.inr (hw _ (List.mem_of_getElem? (i := 15) rfl))) (by decide) (t := .long) (t' := .long) (by decide) (by decide))))
  have Z24 : n0 ≤ h14.size := (Nat.le_trans Z0 (Nat.le_of_eq W15.size.symm))
  have K25 := (K9.wr W15 (Or.inl (List.mem_of_getElem? (i := 0) rfl)))
  refine own_aloadN X13 d2_9 rfl rfl rfl ?_
  refine own_lloadN X13 d2_10 rfl rfl ?_
  refine own_putf X13 (hw _ (List.mem_of_getElem? (i := 16) rfl)) F23 F16 (Or.inr ⟨(hw _ (List.mem_of_getElem? (i := 17) rfl)), rfl, rfl⟩) (hw _ (List.mem_of_getElem? (i := 8) rfl)) (ty := .long) (by decide) rfl rfl ge_a0_ d2_11 rfl (fun T26 h28 X27 W29 => ?_)
  have F30 := (F16.wr W29)
  have F31 := (F17.other W29 (Or.inr (slot_ne (Or.inl (hw _ (List.mem_of_getElem? (i := 24) rfl))) (Or.inr (hw _ (List.mem_of_getElem? (i := 17) rfl))) (by decide) (t := (.object "java/lang/Object")) (t' := .long) (by decide) (by decide))))
  have F32 := (F18.other W29 (Or.inr (slot_ne (Or.inl (hw _ (List.mem_of_getElem? (i := 26) rfl))) (Or.inr (hw _ (List.mem_of_getElem? (i := 17) rfl))) (by decide) (t := .int) (t' := .long) (by decide) (by decide))))
  have F33 := (F19.other W29 (Or.inr (slot_ne (Or.inl (hw _ (List.mem_of_getElem? (i := 28) rfl))) (Or.inr (hw _ (List.mem_of_getElem? (i := 17) rfl))) (by decide) (t := .long) (t' := .long) (by decide) (by decide))))
  have F34 := (F20.other W29 (Or.inr (slot_ne (Or.inl (hw _ (List.mem_of_getElem? (i := 30) rfl))) (Or.inr (hw _ (List.mem_of_getElem? (i := 17) rfl))) (by decide) (t := .boolean) (t' := .long) (by decide) (by decide))))
  have F35 := (F21.other W29 (Or.inr (slot_ne (Or.inl (hw _ (List.mem_of_getElem? (i := 32) rfl))) (Or.inr (hw _ (List.mem_of_getElem? (i := 17) rfl))) (by decide) (t := .long) (t' := .long) (by decide) (by decide))))
  have F36 := (F22.other W29 (Or.inr (slot_ne (Or.inr (hw _ (List.mem_of_getElem? (i := 15) rfl))) (Or.inr (hw _ (List.mem_of_getElem? (i := 17) rfl))) (by decide) (t := .long) (t' := .long) (by decide) (by decide))))
  have F37 := (F23.same W29)
  have Z38 : n0 ≤ h28.size := (Nat.le_trans Z24 (Nat.le_of_eq W29.size.symm))
  have K39 := (K25.wr W29 (Or.inl (List.mem_of_getElem? (i := 0) rfl)))
  exact own_retV X27 rfl d2_14 ⟨rfl, K39, F31, F32, F33, F34, F35, F36, F37⟩ (by decide) (by decide)
theorem d4_0 : decode prog_169_method_2_code 0 = .ok (.aload_n 0, 1) := by decide +kernel
theorem d4_1 : decode prog_169_method_2_code 1 = .ok (.aconst_null, 1) := by decide +kernel
theorem d4_2 : decode prog_169_method_2_code 2 = .ok (.putfield 16, 3) := by decide +kernel
theorem d4_5 : decode prog_169_method_2_code 5 = .ok (.return_, 1) := by decide +kernel
theorem own_pn2 : plainFor (⟨"com/example/racewright/racewright/scheduler/Watchdog", "forget", "()V"⟩ : MethodName) = true := by first | exact plainFor_of_name (by first | (simp [plainName, overriddenIn, x]; done) | decide +kernel) | decide +kernel
theorem own_ef2 (a0_ : Addr) (m : MethodId) : entryFrame m #[(.ref a0_)] 1 = mkF m 0 #[.val (.ref a0_)] [] := by
  first | (simp [entryFrame, mkF, argsToLocals, Value.category]; done) | rfl
def own_q2 (a0_ : Addr) (aw : Value) (cs : Int32) (si : Int64) (wb : Int32) (bs : Int64) (bL : Int64) (rL : Int64) (Z : State) (h0 : Heap) (v : Option Value) (h : Heap) : Prop := v = none ∧ Keep h0 h [a0_] ∧ Fld Z h a0_ "com/example/racewright/racewright/scheduler/Watchdog" "awaited" "Ljava/lang/Object;" (.null) ∧ Fld Z h a0_ "com/example/racewright/racewright/scheduler/Watchdog" "changesSeen" "I" (.int cs) ∧ Fld Z h a0_ "com/example/racewright/racewright/scheduler/Watchdog" "since" "J" (.long si) ∧ Fld Z h a0_ "com/example/racewright/racewright/scheduler/Watchdog" "wasBlocked" "Z" (.int wb) ∧ Fld Z h a0_ "com/example/racewright/racewright/scheduler/Watchdog" "blockedSince" "J" (.long bs) ∧ Fld Z h a0_ "com/example/racewright/racewright/scheduler/Watchdog" "blockedLimit" "J" (.long bL) ∧ Fld Z h a0_ "com/example/racewright/racewright/scheduler/Watchdog" "runningLimit" "J" (.long rL)
set_option maxRecDepth 65536 in
set_option maxHeartbeats 40000000 in
theorem own_m2 (l : Launch) (Z : State) (a0 : Array Value) (hw : ∀ d ∈ tables_1, d.before a0 Z = true) (ws : List Jvm.Cond) (a0_ : Addr) (aw : Value) (cs : Int32) (si : Int64) (wb : Int32) (bs : Int64) (bL : Int64) (rL : Int64) (h0 : Heap) (n0 : Nat) (Z0 : n0 ≤ h0.size) (F1 : Exa Z h0 a0_ "com/example/racewright/racewright/scheduler/Watchdog") (F2 : Fld Z h0 a0_ "com/example/racewright/racewright/scheduler/Watchdog" "awaited" "Ljava/lang/Object;" (aw)) (F3 : Fld Z h0 a0_ "com/example/racewright/racewright/scheduler/Watchdog" "changesSeen" "I" (.int cs)) (F4 : Fld Z h0 a0_ "com/example/racewright/racewright/scheduler/Watchdog" "since" "J" (.long si)) (F5 : Fld Z h0 a0_ "com/example/racewright/racewright/scheduler/Watchdog" "wasBlocked" "Z" (.int wb)) (F6 : Fld Z h0 a0_ "com/example/racewright/racewright/scheduler/Watchdog" "blockedSince" "J" (.long bs)) (F7 : Fld Z h0 a0_ "com/example/racewright/racewright/scheduler/Watchdog" "blockedLimit" "J" (.long bL)) (F8 : Fld Z h0 a0_ "com/example/racewright/racewright/scheduler/Watchdog" "runningLimit" "J" (.long rL)) (ge_a0_ : n0 ≤ a0_) :
    own_Met l Z (⟨"com/example/racewright/racewright/scheduler/Watchdog", "forget", "()V"⟩ : MethodName) prog_169_method_2_code 1 none ws ({ frames := 0, cells := 0, slots := 0, locals := 0 } : Room) #[(.ref a0_)] h0 n0 (own_q2 a0_ aw cs si wb bs bL rL Z h0) := by
  refine own_enter (own := "com/example/racewright/racewright/scheduler/Watchdog") (nm := "forget") rfl rfl own_pn2 (own_ef2 a0_) ?_
  intro p e s m below meth c T0 X0
  have K9 := (Keep.refl h0 [a0_])
  refine own_aloadN X0 d4_0 rfl rfl rfl ?_
  refine own_aconst_null X0 d4_1 rfl ?_
  refine own_putf X0 (hw _ (List.mem_of_getElem? (i := 23) rfl)) F2 F1 (Or.inl (hw _ (List.mem_of_getElem? (i := 24) rfl))) (hw _ (List.mem_of_getElem? (i := 8) rfl)) (ty := (.object "java/lang/Object")) (by decide) rfl rfl ge_a0_ d4_2 rfl (fun T10 h12 X11 W13 => ?_)
  have F14 := (F1.wr W13)
  have F15 := (F2.same W13)
  have F16 := (F3.other W13 (Or.inr (slot_ne (Or.inl (hw _ (List.mem_of_getElem? (i := 26) rfl))) (Or.inl (hw _ (List.mem_of_getElem? (i := 24) rfl))) (by decide) (t := .int) (t' := (.object "java/lang/Object")) (by decide) (by decide))))
  have F17 := (F4.other W13 (Or.inr (slot_ne (Or.inl (hw _ (List.mem_of_getElem? (i := 28) rfl))) (Or.inl (hw _ (List.mem_of_getElem? (i := 24) rfl))) (by decide) (t := .long) (t' := (.object "java/lang/Object")) (by decide) (by decide))))
  have F18 := (F5.other W13 (Or.inr (slot_ne (Or.inl (hw _ (List.mem_of_getElem? (i := 30) rfl))) (Or.inl (hw _ (List.mem_of_getElem? (i := 24) rfl))) (by decide) (t := .boolean) (t' := (.object "java/lang/Object")) (by decide) (by decide))))
  have F19 := (F6.other W13 (Or.inr (slot_ne (Or.inl (hw _ (List.mem_of_getElem? (i := 32) rfl))) (Or.inl (hw _ (List.mem_of_getElem? (i := 24) rfl))) (by decide) (t := .long) (t' := (.object "java/lang/Object")) (by decide) (by decide))))
  have F20 := (F7.other W13 (Or.inr (slot_ne (Or.inr (hw _ (List.mem_of_getElem? (i := 15) rfl))) (Or.inl (hw _ (List.mem_of_getElem? (i := 24) rfl))) (by decide) (t := .long) (t' := (.object "java/lang/Object")) (by decide) (by decide))))
  have F21 := (F8.other W13 (Or.inr (slot_ne (Or.inr (hw _ (List.mem_of_getElem? (i := 17) rfl))) (Or.inl (hw _ (List.mem_of_getElem? (i := 24) rfl))) (by decide) (t := .long) (t' := (.object "java/lang/Object")) (by decide) (by decide))))
  have Z22 : n0 ≤ h12.size := (Nat.le_trans Z0 (Nat.le_of_eq W13.size.symm))
  have K23 := (K9.wr W13 (Or.inl (List.mem_of_getElem? (i := 0) rfl)))
  exact own_retV X11 rfl d4_5 ⟨rfl, K23, F15, F16, F17, F18, F19, F20, F21⟩ (by decide) (by decide)
theorem d3_0 : decode prog_169_method_3_code 0 = .ok (.aload_n 1, 1) := by decide +kernel
theorem d3_1 : decode prog_169_method_3_code 1 = .ok (.aload_n 0, 1) := by decide +kernel
theorem d3_2 : decode prog_169_method_3_code 2 = .ok (.getfield 16, 3) := by decide +kernel
theorem d3_5 : decode prog_169_method_3_code 5 = .ok (.if_acmp .ne 11, 3) := by decide +kernel
theorem d3_8 : decode prog_169_method_3_code 8 = .ok (.iload_n 2, 1) := by decide +kernel
theorem d3_9 : decode prog_169_method_3_code 9 = .ok (.aload_n 0, 1) := by decide +kernel
theorem d3_10 : decode prog_169_method_3_code 10 = .ok (.getfield 20, 3) := by decide +kernel
theorem d3_13 : decode prog_169_method_3_code 13 = .ok (.if_icmp .eq 24, 3) := by decide +kernel
theorem d3_16 : decode prog_169_method_3_code 16 = .ok (.aload_n 0, 1) := by decide +kernel
theorem d3_17 : decode prog_169_method_3_code 17 = .ok (.aload_n 1, 1) := by decide +kernel
theorem d3_18 : decode prog_169_method_3_code 18 = .ok (.putfield 16, 3) := by decide +kernel
theorem d3_21 : decode prog_169_method_3_code 21 = .ok (.aload_n 0, 1) := by decide +kernel
theorem d3_22 : decode prog_169_method_3_code 22 = .ok (.iload_n 2, 1) := by decide +kernel
theorem d3_23 : decode prog_169_method_3_code 23 = .ok (.putfield 20, 3) := by decide +kernel
theorem d3_26 : decode prog_169_method_3_code 26 = .ok (.aload_n 0, 1) := by decide +kernel
theorem d3_27 : decode prog_169_method_3_code 27 = .ok (.lload 4, 2) := by decide +kernel
theorem d3_29 : decode prog_169_method_3_code 29 = .ok (.putfield 24, 3) := by decide +kernel
theorem d3_32 : decode prog_169_method_3_code 32 = .ok (.aload_n 0, 1) := by decide +kernel
theorem d3_33 : decode prog_169_method_3_code 33 = .ok (.iconst 0, 1) := by decide +kernel
theorem d3_34 : decode prog_169_method_3_code 34 = .ok (.putfield 27, 3) := by decide +kernel
theorem d3_37 : decode prog_169_method_3_code 37 = .ok (.iload_n 3, 1) := by decide +kernel
theorem d3_38 : decode prog_169_method_3_code 38 = .ok (.ifCond .eq 16, 3) := by decide +kernel
theorem d3_41 : decode prog_169_method_3_code 41 = .ok (.aload_n 0, 1) := by decide +kernel
theorem d3_42 : decode prog_169_method_3_code 42 = .ok (.getfield 27, 3) := by decide +kernel
theorem d3_45 : decode prog_169_method_3_code 45 = .ok (.ifCond .ne 9, 3) := by decide +kernel
theorem d3_48 : decode prog_169_method_3_code 48 = .ok (.aload_n 0, 1) := by decide +kernel
theorem d3_49 : decode prog_169_method_3_code 49 = .ok (.lload 4, 2) := by decide +kernel
theorem d3_51 : decode prog_169_method_3_code 51 = .ok (.putfield 31, 3) := by decide +kernel
theorem d3_54 : decode prog_169_method_3_code 54 = .ok (.aload_n 0, 1) := by decide +kernel
theorem d3_55 : decode prog_169_method_3_code 55 = .ok (.iload_n 3, 1) := by decide +kernel
theorem d3_56 : decode prog_169_method_3_code 56 = .ok (.putfield 27, 3) := by decide +kernel
theorem d3_59 : decode prog_169_method_3_code 59 = .ok (.lload 4, 2) := by decide +kernel
theorem d3_61 : decode prog_169_method_3_code 61 = .ok (.aload_n 0, 1) := by decide +kernel
theorem d3_62 : decode prog_169_method_3_code 62 = .ok (.getfield 24, 3) := by decide +kernel
theorem d3_65 : decode prog_169_method_3_code 65 = .ok (.lsub, 1) := by decide +kernel
theorem d3_66 : decode prog_169_method_3_code 66 = .ok (.aload_n 0, 1) := by decide +kernel
theorem d3_67 : decode prog_169_method_3_code 67 = .ok (.getfield 13, 3) := by decide +kernel
theorem d3_70 : decode prog_169_method_3_code 70 = .ok (.lcmp, 1) := by decide +kernel
theorem d3_71 : decode prog_169_method_3_code 71 = .ok (.ifCond .gt 22, 3) := by decide +kernel
theorem d3_74 : decode prog_169_method_3_code 74 = .ok (.iload_n 3, 1) := by decide +kernel
theorem d3_75 : decode prog_169_method_3_code 75 = .ok (.ifCond .eq 22, 3) := by decide +kernel
theorem d3_78 : decode prog_169_method_3_code 78 = .ok (.lload 4, 2) := by decide +kernel
theorem d3_80 : decode prog_169_method_3_code 80 = .ok (.aload_n 0, 1) := by decide +kernel
theorem d3_81 : decode prog_169_method_3_code 81 = .ok (.getfield 31, 3) := by decide +kernel
theorem d3_84 : decode prog_169_method_3_code 84 = .ok (.lsub, 1) := by decide +kernel
theorem d3_85 : decode prog_169_method_3_code 85 = .ok (.aload_n 0, 1) := by decide +kernel
theorem d3_86 : decode prog_169_method_3_code 86 = .ok (.getfield 7, 3) := by decide +kernel
theorem d3_89 : decode prog_169_method_3_code 89 = .ok (.lcmp, 1) := by decide +kernel
theorem d3_90 : decode prog_169_method_3_code 90 = .ok (.ifCond .le 7, 3) := by decide +kernel
theorem d3_93 : decode prog_169_method_3_code 93 = .ok (.iconst 1, 1) := by decide +kernel
theorem d3_94 : decode prog_169_method_3_code 94 = .ok (.goto 4, 3) := by decide +kernel
theorem d3_97 : decode prog_169_method_3_code 97 = .ok (.iconst 0, 1) := by decide +kernel
theorem d3_98 : decode prog_169_method_3_code 98 = .ok (.ireturn, 1) := by decide +kernel
theorem own_pn3 : plainFor (⟨"com/example/racewright/racewright/scheduler/Watchdog", "stuck", "(Ljava/lang/Object;IZJ)Z"⟩ : MethodName) = true := by first | exact plainFor_of_name (by first | (simp [plainName, overriddenIn, x]; done) | decide +kernel) | decide +kernel
theorem own_ef3 (a0_ : Addr) (t_ : Addr) (ch : Int32) (bl : Int32) (now : Int64) (m : MethodId) : entryFrame m #[(.ref a0_), (.ref t_), (.int ch), (.int bl), (.long now)] 6 = mkF m 0 #[.val (.ref a0_), .val (.ref t_), .val (.int ch), .val (.int bl), .val (.long now), .second] [] := by
  first | (simp [entryFrame, mkF, argsToLocals, Value.category]; done) | rfl
def own_q3 (a0_ : Addr) (t_ : Addr) (ch : Int32) (bl : Int32) (now : Int64) (aw : Value) (cs : Int32) (si : Int64) (wb : Int32) (bs : Int64) (bL : Int64) (rL : Int64) (nw : Bool) (Z : State) (h0 : Heap) (v : Option Value) (h : Heap) : Prop := v = some (.int (own_res rL (now - (own_si nw si now)) bl bL (now - (own_bs nw wb bl bs now)))) ∧ Keep h0 h [a0_] ∧ Fld Z h a0_ "com/example/racewright/racewright/scheduler/Watchdog" "awaited" "Ljava/lang/Object;" (.ref t_) ∧ Fld Z h a0_ "com/example/racewright/racewright/scheduler/Watchdog" "changesSeen" "I" (.int ch) ∧ Fld Z h a0_ "com/example/racewright/racewright/scheduler/Watchdog" "since" "J" (.long (own_si nw si now)) ∧ Fld Z h a0_ "com/example/racewright/racewright/scheduler/Watchdog" "wasBlocked" "Z" (.int bl) ∧ Fld Z h a0_ "com/example/racewright/racewright/scheduler/Watchdog" "blockedSince" "J" (.long (own_bs nw wb bl bs now)) ∧ Fld Z h a0_ "com/example/racewright/racewright/scheduler/Watchdog" "blockedLimit" "J" (.long bL) ∧ Fld Z h a0_ "com/example/racewright/racewright/scheduler/Watchdog" "runningLimit" "J" (.long rL)
set_option maxRecDepth 65536 in
set_option maxHeartbeats 40000000 in
theorem own_m3 (l : Launch) (Z : State) (a0 : Array Value) (hw : ∀ d ∈ tables_1, d.before a0 Z = true) (ws : List Jvm.Cond) (a0_ : Addr) (t_ : Addr) (ch : Int32) (bl : Int32) (now : Int64) (aw : Value) (cs : Int32) (si : Int64) (wb : Int32) (bs : Int64) (bL : Int64) (rL : Int64) (nw : Bool) (h0 : Heap) (n0 : Nat) (Z0 : n0 ≤ h0.size) (F1 : Exa Z h0 a0_ "com/example/racewright/racewright/scheduler/Watchdog") (F2 : Fld Z h0 a0_ "com/example/racewright/racewright/scheduler/Watchdog" "awaited" "Ljava/lang/Object;" (aw)) (F3 : Fld Z h0 a0_ "com/example/racewright/racewright/scheduler/Watchdog" "changesSeen" "I" (.int cs)) (F4 : Fld Z h0 a0_ "com/example/racewright/racewright/scheduler/Watchdog" "since" "J" (.long si)) (F5 : Fld Z h0 a0_ "com/example/racewright/racewright/scheduler/Watchdog" "wasBlocked" "Z" (.int wb)) (F6 : Fld Z h0 a0_ "com/example/racewright/racewright/scheduler/Watchdog" "blockedSince" "J" (.long bs)) (F7 : Fld Z h0 a0_ "com/example/racewright/racewright/scheduler/Watchdog" "blockedLimit" "J" (.long bL)) (F8 : Fld Z h0 a0_ "com/example/racewright/racewright/scheduler/Watchdog" "runningLimit" "J" (.long rL)) (ge_a0_ : n0 ≤ a0_) (har : aw.isRef = true) (hbl : narrow .boolean (.int bl) = .int bl) (hbf : fits .boolean (.int bl) = true) (hnw : nw = true ↔ ¬ ((.ref t_ : Value) = aw ∧ ch = cs)) :
    own_Met l Z (⟨"com/example/racewright/racewright/scheduler/Watchdog", "stuck", "(Ljava/lang/Object;IZJ)Z"⟩ : MethodName) prog_169_method_3_code 6 (some .boolean) ws ({ frames := 0, cells := 0, slots := 0, locals := 0 } : Room) #[(.ref a0_), (.ref t_), (.int ch), (.int bl), (.long now)] h0 n0 (own_q3 a0_ t_ ch bl now aw cs si wb bs bL rL nw Z h0) := by
  refine own_enter (own := "com/example/racewright/racewright/scheduler/Watchdog") (nm := "stuck") rfl rfl own_pn3 (own_ef3 a0_ t_ ch bl now) ?_
  intro p e s m below meth c T0 X0
  have K9 := (Keep.refl h0 [a0_])
  refine own_aloadN X0 d3_0 rfl rfl rfl ?_
  refine own_aloadN X0 d3_1 rfl rfl rfl ?_
  refine own_getf X0 (hw _ (List.mem_of_getElem? (i := 23) rfl)) F2 d3_2 rfl (fun T10 X11 => ?_)
  refine own_acmp_ne X11 d3_5 rfl har (by decide) (pcT := 16) (by decide) rfl (fun hc12 => ?_) (fun hc12 => ?_)
  · skip
    refine own_aloadN X11 d3_16 rfl rfl rfl ?_
    refine own_aloadN X11 d3_17 rfl rfl rfl ?_
    refine own_putf X11 (hw _ (List.mem_of_getElem? (i := 23) rfl)) F2 F1 (Or.inl (hw _ (List.mem_of_getElem? (i := 24) rfl))) (hw _ (List.mem_of_getElem? (i := 8) rfl)) (ty := (.object "java/lang/Object")) (by decide) rfl rfl ge_a0_ d3_18 rfl (fun T13 h15 X14 W16 => ?_)
    have F17 := (F1.wr W16)
    have F18 := (F2.same W16)
    have F19 := (F3.other W16 (Or.inr (slot_ne (Or.inl (hw _ (List.mem_of_getElem? (i := 26) rfl))) (Or.inl (hw _ (List.mem_of_getElem? (i := 24) rfl))) (by decide) (t := .int) (t' := (.object "java/lang/Object")) (by decide) (by decide))))
    have F20 := (F4.other W16 (Or.inr (slot_ne (Or.inl (hw _ (List.mem_of_getElem? (i := 28) rfl))) (Or.inl (hw _ (List.mem_of_getElem? (i := 24) rfl))) (by decide) (t := .long) (t' := (.object "java/lang/Object")) (by decide) (by decide))))
    have F21 := (F5.other W16 (Or.inr (slot_ne (Or.inl (hw _ (List.mem_of_getElem? (i := 30) rfl))) (Or.inl (hw _ (List.mem_of_getElem? (i := 24) rfl))) (by decide) (t := .boolean) (t' := (.object "java/lang/Object")) (by decide) (by decide))))
    have F22 := (F6.other W16 (Or.inr (slot_ne (Or.inl (hw _ (List.mem_of_getElem? (i := 32) rfl))) (Or.inl (hw _ (List.mem_of_getElem? (i := 24) rfl))) (by decide) (t := .long) (t' := (.object "java/lang/Object")) (by decide) (by decide))))
    have F23 := (F7.other W16 (Or.inr (slot_ne (Or.inr (hw _ (List.mem_of_getElem? (i := 15) rfl))) (Or.inl (hw _ (List.mem_of_getElem? (i := 24) rfl))) (by decide) (t := .long) (t' := (.object "java/lang/Object")) (by decide) (by decide))))
    have F24 := (F8.other W16 (Or.inr (slot_ne (Or.inr (hw _ (List.mem_of_getElem? (i := 17) rfl))) (Or.inl (hw _ (List.mem_of_getElem? (i := 24) rfl))) (by decide) (t := .long) (t' := (.object "java/lang/Object")) (by decide) (by decide))))
    have Z25 : n0 ≤ h15.size := (Nat.le_trans Z0 (Nat.le_of_eq W16.size.symm))
    have K26 := (K9.wr W16 (Or.inl (List.mem_of_getElem? (i := 0) rfl)))
    refine own_aloadN X14 d3_21 rfl rfl rfl ?_
    refine own_iloadN X14 d3_22 rfl rfl ?_
    refine own_putf X14 (hw _ (List.mem_of_getElem? (i := 25) rfl)) F19 F17 (Or.inl (hw _ (List.mem_of_getElem? (i := 26) rfl))) (hw _ (List.mem_of_getElem? (i := 8) rfl)) (ty := .int) (by decide) rfl rfl ge_a0_ d3_23 rfl (fun T27 h29 X28 W30 => ?_)
    have F31 := (F17.wr W30)
    have F32 := (F18.other W30 (Or.inr (slot_ne (Or.inl (hw _ (List.mem_of_getElem? (i := 24) rfl))) (Or.inl (hw _ (List.mem_of_getElem? (i := 26) rfl))) (by decide) (t := (.object "java/lang/Object")) (t' := .int) (by decide) (by decide))))
    have F33 := (F19.same W30)
    have F34 := (F20.other W30 (Or.inr (slot_ne (Or.inl (hw _ (List.mem_of_getElem? (i := 28) rfl))) (Or.inl (hw _ (List.mem_of_getElem? (i := 26) rfl))) (by decide) (t := .long) (t' := .int) (by decide) (by decide))))
    have F35 := (F21.other W30 (Or.inr (slot_ne (Or.inl (hw _ (List.mem_of_getElem? (i := 30) rfl))) (Or.inl (hw _ (List.mem_of_getElem? (i := 26) rfl))) (by decide) (t := .boolean) (t' := .int) (by decide) (by decide))))
    have F36 := (F22.other W30 (Or.inr (slot_ne (Or.inl (hw _ (List.mem_of_getElem? (i := 32) rfl))) (Or.inl (hw _ (List.mem_of_getElem? (i := 26) rfl))) (by decide) (t := .long) (t' := .int) (by decide) (by decide))))
    have F37 := (F23.other W30 (Or.inr (slot_ne (Or.inr (hw _ (List.mem_of_getElem? (i := 15) rfl))) (Or.inl (hw _ (List.mem_of_getElem? (i := 26) rfl))) (by decide) (t := .long) (t' := .int) (by decide) (by decide))))
    have F38 := (F24.other W30 (Or.inr (slot_ne (Or.inr (hw _ (List.mem_of_getElem? (i := 17) rfl))) (Or.inl (hw _ (List.mem_of_getElem? (i := 26) rfl))) (by decide) (t := .long) (t' := .int) (by decide) (by decide))))
    have Z39 : n0 ≤ h29.size := (Nat.le_trans Z25 (Nat.le_of_eq W30.size.symm))
    have K40 := (K26.wr W30 (Or.inl (List.mem_of_getElem? (i := 0) rfl)))
    refine own_aloadN X28 d3_26 rfl rfl rfl ?_
    refine own_lload X28 d3_27 rfl rfl ?_
    refine own_putf X28 (hw _ (List.mem_of_getElem? (i := 27) rfl)) F34 F31 (Or.inl (hw _ (List.mem_of_getElem? (i := 28) rfl))) (hw _ (List.mem_of_getElem? (i := 8) rfl)) (ty := .long) (by decide) rfl rfl ge_a0_ d3_29 rfl (fun T41 h43 X42 W44 => ?_)
    have F45 := (F31.wr W44)
    have F46 := (F32.other W44 (Or.inr (slot_ne (Or.inl (hw _ (List.mem_of_getElem? (i := 24) rfl))) (Or.inl (hw _ (List.mem_of_getElem? (i := 28) rfl))) (by decide) (t := (.object "java/lang/Object")) (t' := .long) (by decide) (by decide))))
    have F47 := (F33.other W44 (Or.inr (slot_ne (Or.inl (hw _ (List.mem_of_getElem? (i := 26) rfl))) (Or.inl (hw _ (List.mem_of_getElem? (i := 28) rfl))) (by decide) (t := .int) (t' := .long) (by decide) (by decide))))
    have F48 := (F34.same W44)
    have F49 := (F35.other W44 (Or.inr (slot_ne (Or.inl (hw _ (List.mem_of_getElem? (i := 30) rfl))) (Or.inl (hw _ (List.mem_of_getElem? (i := 28) rfl))) (by decide) (t := .boolean) (t' := .long) (by decide) (by decide))))
    have F50 := (F36.other W44 (Or.inr (slot_ne (Or.inl (hw _ (List.mem_of_getElem? (i := 32) rfl))) (Or.inl (hw _ (List.mem_of_getElem? (i := 28) rfl))) (by decide) (t := .long) (t' := .long) (by decide) (by decide))))
    have F51 := (F37.other W44 (Or.inr (slot_ne (Or.inr (hw _ (List.mem_of_getElem? (i := 15) rfl))) (Or.inl (hw _ (List.mem_of_getElem? (i := 28) rfl))) (by decide) (t := .long) (t' := .long) (by decide) (by decide))))
    have F52 := (F38.other W44 (Or.inr (slot_ne (Or.inr (hw _ (List.mem_of_getElem? (i := 17) rfl))) (Or.inl (hw _ (List.mem_of_getElem? (i := 28) rfl))) (by decide) (t := .long) (t' := .long) (by decide) (by decide))))
    have Z53 : n0 ≤ h43.size := (Nat.le_trans Z39 (Nat.le_of_eq W44.size.symm))
    have K54 := (K40.wr W44 (Or.inl (List.mem_of_getElem? (i := 0) rfl)))
    refine own_aloadN X42 d3_32 rfl rfl rfl ?_
    refine own_iconst X42 (0 : Int32) d3_33 rfl (by decide) ?_
    refine own_putf X42 (hw _ (List.mem_of_getElem? (i := 29) rfl)) F49 F45 (Or.inl (hw _ (List.mem_of_getElem? (i := 30) rfl))) (hw _ (List.mem_of_getElem? (i := 8) rfl)) (ty := .boolean) (by decide) rfl rfl ge_a0_ d3_34 rfl (fun T55 h57 X56 W58 => ?_)
    have F59 := (F45.wr W58)
    have F60 := (F46.other W58 (Or.inr (slot_ne (Or.inl (hw _ (List.mem_of_getElem? (i := 24) rfl))) (Or.inl (hw _ (List.mem_of_getElem? (i := 30) rfl))) (by decide) (t := (.object "java/lang/Object")) (t' := .boolean) (by decide) (by decide))))
    have F61 := (F47.other W58 (Or.inr (slot_ne (Or.inl (hw _ (List.mem_of_getElem? (i := 26) rfl))) (Or.inl (hw _ (List.mem_of_getElem? (i := 30) rfl))) (by decide) (t := .int) (t' := .boolean) (by decide) (by decide))))
    have F62 := (F48.other W58 (Or.inr (slot_ne (Or.inl (hw _ (List.mem_of_getElem? (i := 28) rfl))) (Or.inl (hw _ (List.mem_of_getElem? (i := 30) rfl))) (by decide) (t := .long) (t' := .boolean) (by decide) (by decide))))
    have F63 := (F49.same W58)
    have F64 := (F50.other W58 (Or.inr (slot_ne (Or.inl (hw _ (List.mem_of_getElem? (i := 32) rfl))) (Or.inl (hw _ (List.mem_of_getElem? (i := 30) rfl))) (by decide) (t := .long) (t' := .boolean) (by decide) (by decide))))
    have F65 := (F51.other W58 (Or.inr (slot_ne (Or.inr (hw _ (List.mem_of_getElem? (i := 15) rfl))) (Or.inl (hw _ (List.mem_of_getElem? (i := 30) rfl))) (by decide) (t := .long) (t' := .boolean) (by decide) (by decide))))
    have F66 := (F52.other W58 (Or.inr (slot_ne (Or.inr (hw _ (List.mem_of_getElem? (i := 17) rfl))) (Or.inl (hw _ (List.mem_of_getElem? (i := 30) rfl))) (by decide) (t := .long) (t' := .boolean) (by decide) (by decide))))
    have Z67 : n0 ≤ h57.size := (Nat.le_trans Z53 (Nat.le_of_eq W58.size.symm))
    have K68 := (K54.wr W58 (Or.inl (List.mem_of_getElem? (i := 0) rfl)))
    refine own_iloadN X56 d3_37 rfl rfl ?_
    refine own_if_eq X56 d3_38 (by decide) (pcT := 54) (by decide) rfl (fun hc69 => ?_) (fun hc69 => ?_)
    · skip
      refine own_aloadN X56 d3_54 rfl rfl rfl ?_
      refine own_iloadN X56 d3_55 rfl rfl ?_
      refine own_putf X56 (hw _ (List.mem_of_getElem? (i := 29) rfl)) F63 F59 (Or.inl (hw _ (List.mem_of_getElem? (i := 30) rfl))) (hw _ (List.mem_of_getElem? (i := 8) rfl)) (ty := .boolean) (by decide) hbl hbf ge_a0_ d3_56 rfl (fun T70 h72 X71 W73 => ?_)
      have F74 := (F59.wr W73)
      have F75 := (F60.other W73 (Or.inr (slot_ne (Or.inl (hw _ (List.mem_of_getElem? (i := 24) rfl))) (Or.inl (hw _ (List.mem_of_getElem? (i := 30) rfl))) (by decide) (t := (.object "java/lang/Object")) (t' := .boolean) (by decide) (by decide))))
      have F76 := (F61.other W73 (Or.inr (slot_ne (Or.inl (hw _ (List.mem_of_getElem? (i := 26) rfl))) (Or.inl (hw _ (List.mem_of_getElem? (i := 30) rfl))) (by decide) (t := .int) (t' := .boolean) (by decide) (by decide))))
      have F77 := (F62.other W73 (Or.inr (slot_ne (Or.inl (hw _ (List.mem_of_getElem? (i := 28) rfl))) (Or.inl (hw _ (List.mem_of_getElem? (i := 30) rfl))) (by decide) (t := .long) (t' := .boolean) (by decide) (by decide))))
      have F78 := (F63.same W73)
      have F79 := (F64.other W73 (Or.inr (slot_ne (Or.inl (hw _ (List.mem_of_getElem? (i := 32) rfl))) (Or.inl (hw _ (List.mem_of_getElem? (i := 30) rfl))) (by decide) (t := .long) (t' := .boolean) (by decide) (by decide))))
      have F80 := (F65.other W73 (Or.inr (slot_ne (Or.inr (hw _ (List.mem_of_getElem? (i := 15) rfl))) (Or.inl (hw _ (List.mem_of_getElem? (i := 30) rfl))) (by decide) (t := .long) (t' := .boolean) (by decide) (by decide))))
      have F81 := (F66.other W73 (Or.inr (slot_ne (Or.inr (hw _ (List.mem_of_getElem? (i := 17) rfl))) (Or.inl (hw _ (List.mem_of_getElem? (i := 30) rfl))) (by decide) (t := .long) (t' := .boolean) (by decide) (by decide))))
      have Z82 : n0 ≤ h72.size := (Nat.le_trans Z67 (Nat.le_of_eq W73.size.symm))
      have K83 := (K68.wr W73 (Or.inl (List.mem_of_getElem? (i := 0) rfl)))
      refine own_lload X71 d3_59 rfl rfl ?_
      refine own_aloadN X71 d3_61 rfl rfl rfl ?_
      refine own_getf X71 (hw _ (List.mem_of_getElem? (i := 27) rfl)) F77 d3_62 rfl (fun T84 X85 => ?_)
      refine own_lsub X85 d3_65 rfl ?_
      refine own_aloadN X85 d3_66 rfl rfl rfl ?_
      refine own_getf X85 (hw _ (List.mem_of_getElem? (i := 16) rfl)) F81 d3_67 rfl (fun T86 X87 => ?_)
      refine own_lcmp_gt X87 d3_70 rfl d3_71 (by decide) (pcT := 93) (by decide) rfl (fun hc88 => ?_) (fun hc88 => ?_)
      · skip
        refine own_iconst X87 (1 : Int32) d3_93 rfl (by decide) ?_
        refine own_goto X87 d3_94 (by decide) (pc' := 98) (by decide) ?_
        obtain rfl : nw = true := hnw.mpr (fun z => hc12 z.1)
        have e89 : own_bs true wb bl bs now = bs := by simp [own_bs, hc69]
        refine own_retZ X87 rfl d3_98 rfl ⟨?_, K83, F75, F76, F77, F78, (own_eqF F79 (congrArg Value.long e89.symm)), F80, F81⟩ (by decide) (by decide)
        rw [e89]
        show some (Value.int (1 : Int32)) = some (.int (own_res rL (now - now) bl bL (now - bs)))
        rw [own_res, if_pos hc88]
      · skip
        refine own_iloadN X87 d3_74 rfl rfl ?_
        refine own_if_eq X87 d3_75 (by decide) (pcT := 97) (by decide) rfl (fun hc => ?_) (fun hc => absurd hc69 hc)
        refine own_iconst X87 (0 : Int32) d3_97 rfl (by decide) ?_
        obtain rfl : nw = true := hnw.mpr (fun z => hc12 z.1)
        have e90 : own_bs true wb bl bs now = bs := by simp [own_bs, hc69]
        refine own_retZ X87 rfl d3_98 rfl ⟨?_, K83, F75, F76, F77, F78, (own_eqF F79 (congrArg Value.long e90.symm)), F80, F81⟩ (by decide) (by decide)
        rw [e90]
        show some (Value.int (0 : Int32)) = some (.int (own_res rL (now - now) bl bL (now - bs)))
        rw [own_res, if_neg hc88, if_pos hc69]
    · skip
      refine own_aloadN X56 d3_41 rfl rfl rfl ?_
      refine own_getf X56 (hw _ (List.mem_of_getElem? (i := 29) rfl)) F63 d3_42 rfl (fun T91 X92 => ?_)
      refine own_if_ne X92 d3_45 (by decide) (pcT := 54) (by decide) rfl (fun hc => absurd hc (by decide)) (fun hc => ?_)
      refine own_aloadN X92 d3_48 rfl rfl rfl ?_
      refine own_lload X92 d3_49 rfl rfl ?_
      refine own_putf X92 (hw _ (List.mem_of_getElem? (i := 31) rfl)) F64 F59 (Or.inl (hw _ (List.mem_of_getElem? (i := 32) rfl))) (hw _ (List.mem_of_getElem? (i := 8) rfl)) (ty := .long) (by decide) rfl rfl ge_a0_ d3_51 rfl (fun T93 h95 X94 W96 => ?_)
      have F97 := (F59.wr W96)
      have F98 := (F60.other W96 (Or.inr (slot_ne (Or.inl (hw _ (List.mem_of_getElem? (i := 24) rfl))) (Or.inl (hw _ (List.mem_of_getElem? (i := 32) rfl))) (by decide) (t := (.object "java/lang/Object")) (t' := .long) (by decide) (by decide))))
      have F99 := (F61.other W96 (Or.inr (slot_ne (Or.inl (hw _ (List.mem_of_getElem? (i := 26) rfl))) (Or.inl (hw _ (List.mem_of_getElem? (i := 32) rfl))) (by decide) (t := .int) (t' := .long) (by decide) (by decide))))
      have F100 := (F62.other W96 (Or.inr (slot_ne (Or.inl (hw _ (List.mem_of_getElem? (i := 28) rfl))) (Or.inl (hw _ (List.mem_of_getElem? (i := 32) rfl))) (by decide) (t := .long) (t' := .long) (by decide) (by decide))))
      have F101 := (F63.other W96 (Or.inr (slot_ne (Or.inl (hw _ (List.mem_of_getElem? (i := 30) rfl))) (Or.inl (hw _ (List.mem_of_getElem? (i := 32) rfl))) (by decide) (t := .boolean) (t' := .long) (by decide) (by decide))))
      have F102 := (F64.same W96)
      have F103 := (F65.other W96 (Or.inr (slot_ne (Or.inr (hw _ (List.mem_of_getElem? (i := 15) rfl))) (Or.inl (hw _ (List.mem_of_getElem? (i := 32) rfl))) (by decide) (t := .long) (t' := .long) (by decide) (by decide))))
      have F104 := (F66.other W96 (Or.inr (slot_ne (Or.inr (hw _ (List.mem_of_getElem? (i := 17) rfl))) (Or.inl (hw _ (List.mem_of_getElem? (i := 32) rfl))) (by decide) (t := .long) (t' := .long) (by decide) (by decide))))
      have Z105 : n0 ≤ h95.size := (Nat.le_trans Z67 (Nat.le_of_eq W96.size.symm))
      have K106 := (K68.wr W96 (Or.inl (List.mem_of_getElem? (i := 0) rfl)))
      refine own_aloadN X94 d3_54 rfl rfl rfl ?_
      refine own_iloadN X94 d3_55 rfl rfl ?_
      refine own_putf X94 (hw _ (List.mem_of_getElem? (i := 29) rfl)) F101 F97 (Or.inl (hw _ (List.mem_of_getElem? (i := 30) rfl))) (hw _ (List.mem_of_getElem? (i := 8) rfl)) (ty := .boolean) (by decide) hbl hbf ge_a0_ d3_56 rfl (fun T107 h109 X108 W110 => ?_)
      have F111 := (F97.wr W110)
      have F112 := (F98.other W110 (Or.inr (slot_ne (Or.inl (hw _ (List.mem_of_getElem? (i := 24) rfl))) (Or.inl (hw _ (List.mem_of_getElem? (i := 30) rfl))) (by decide) (t := (.object "java/lang/Object")) (t' := .boolean) (by decide) (by decide))))
      have F113 := (F99.other W110 (Or.inr (slot_ne (Or.inl (hw _ (List.mem_of_getElem? (i := 26) rfl))) (Or.inl (hw _ (List.mem_of_getElem? (i := 30) rfl))) (by decide) (t := .int) (t' := .boolean) (by decide) (by decide))))
      have F114 := (F100.other W110 (Or.inr (slot_ne (Or.inl (hw _ (List.mem_of_getElem? (i := 28) rfl))) (Or.inl (hw _ (List.mem_of_getElem? (i := 30) rfl))) (by decide) (t := .long) (t' := .boolean) (by decide) (by decide))))
      have F115 := (F101.same W110)
      have F116 := (F102.other W110 (Or.inr (slot_ne (Or.inl (hw _ (List.mem_of_getElem? (i := 32) rfl))) (Or.inl (hw _ (List.mem_of_getElem? (i := 30) rfl))) (by decide) (t := .long) (t' := .boolean) (by decide) (by decide))))
      have F117 := (F103.other W110 (Or.inr (slot_ne (Or.inr (hw _ (List.mem_of_getElem? (i := 15) rfl))) (Or.inl (hw _ (List.mem_of_getElem? (i := 30) rfl))) (by decide) (t := .long) (t' := .boolean) (by decide) (by decide))))
      have F118 := (F104.other W110 (Or.inr (slot_ne (Or.inr (hw _ (List.mem_of_getElem? (i := 17) rfl))) (Or.inl (hw _ (List.mem_of_getElem? (i := 30) rfl))) (by decide) (t := .long) (t' := .boolean) (by decide) (by decide))))
      have Z119 : n0 ≤ h109.size := (Nat.le_trans Z105 (Nat.le_of_eq W110.size.symm))
      have K120 := (K106.wr W110 (Or.inl (List.mem_of_getElem? (i := 0) rfl)))
      refine own_lload X108 d3_59 rfl rfl ?_
      refine own_aloadN X108 d3_61 rfl rfl rfl ?_
      refine own_getf X108 (hw _ (List.mem_of_getElem? (i := 27) rfl)) F114 d3_62 rfl (fun T121 X122 => ?_)
      refine own_lsub X122 d3_65 rfl ?_
      refine own_aloadN X122 d3_66 rfl rfl rfl ?_
      refine own_getf X122 (hw _ (List.mem_of_getElem? (i := 16) rfl)) F118 d3_67 rfl (fun T123 X124 => ?_)
      refine own_lcmp_gt X124 d3_70 rfl d3_71 (by decide) (pcT := 93) (by decide) rfl (fun hc125 => ?_) (fun hc125 => ?_)
      · skip
        refine own_iconst X124 (1 : Int32) d3_93 rfl (by decide) ?_
        refine own_goto X124 d3_94 (by decide) (pc' := 98) (by decide) ?_
        obtain rfl : nw = true := hnw.mpr (fun z => hc12 z.1)
        have e126 : own_bs true wb bl bs now = now := by simp [own_bs, hc69]
        refine own_retZ X124 rfl d3_98 rfl ⟨?_, K120, F112, F113, F114, F115, (own_eqF F116 (congrArg Value.long e126.symm)), F117, F118⟩ (by decide) (by decide)
        rw [e126]
        show some (Value.int (1 : Int32)) = some (.int (own_res rL (now - now) bl bL (now - now)))
        rw [own_res, if_pos hc125]
      · skip
        refine own_iloadN X124 d3_74 rfl rfl ?_
        refine own_if_eq X124 d3_75 (by decide) (pcT := 97) (by decide) rfl (fun hc => absurd hc hc69) (fun hc => ?_)
        refine own_lload X124 d3_78 rfl rfl ?_
        refine own_aloadN X124 d3_80 rfl rfl rfl ?_
        refine own_getf X124 (hw _ (List.mem_of_getElem? (i := 31) rfl)) F116 d3_81 rfl (fun T127 X128 => ?_)
        refine own_lsub X128 d3_84 rfl ?_
        refine own_aloadN X128 d3_85 rfl rfl rfl ?_
        refine own_getf X128 (hw _ (List.mem_of_getElem? (i := 14) rfl)) F117 d3_86 rfl (fun T129 X130 => ?_)
        refine own_lcmp_le X130 d3_89 rfl d3_90 (by decide) (pcT := 97) (by decide) rfl (fun hc131 => ?_) (fun hc131 => ?_)
        · skip
          refine own_iconst X130 (0 : Int32) d3_97 rfl (by decide) ?_
          obtain rfl : nw = true := hnw.mpr (fun z => hc12 z.1)
          have e132 : own_bs true wb bl bs now = now := by simp [own_bs, hc69]
          refine own_retZ X130 rfl d3_98 rfl ⟨?_, K120, F112, F113, F114, F115, (own_eqF F116 (congrArg Value.long e132.symm)), F117, F118⟩ (by decide) (by decide)
          rw [e132]
          show some (Value.int (0 : Int32)) = some (.int (own_res rL (now - now) bl bL (now - now)))
          rw [own_res, if_neg hc125, if_neg hc69, if_neg hc131]
        · skip
          refine own_iconst X130 (1 : Int32) d3_93 rfl (by decide) ?_
          refine own_goto X130 d3_94 (by decide) (pc' := 98) (by decide) ?_
          obtain rfl : nw = true := hnw.mpr (fun z => hc12 z.1)
          have e133 : own_bs true wb bl bs now = now := by simp [own_bs, hc69]
          refine own_retZ X130 rfl d3_98 rfl ⟨?_, K120, F112, F113, F114, F115, (own_eqF F116 (congrArg Value.long e133.symm)), F117, F118⟩ (by decide) (by decide)
          rw [e133]
          show some (Value.int (1 : Int32)) = some (.int (own_res rL (now - now) bl bL (now - now)))
          rw [own_res, if_neg hc125, if_neg hc69, if_pos hc131]
  · skip
    refine own_iloadN X11 d3_8 rfl rfl ?_
    refine own_aloadN X11 d3_9 rfl rfl rfl ?_
    refine own_getf X11 (hw _ (List.mem_of_getElem? (i := 25) rfl)) F3 d3_10 rfl (fun T134 X135 => ?_)
    refine own_icmp_eq X135 d3_13 (by decide) (pcT := 37) (by decide) rfl (fun hc136 => ?_) (fun hc136 => ?_)
    · skip
      refine own_iloadN X135 d3_37 rfl rfl ?_
      refine own_if_eq X135 d3_38 (by decide) (pcT := 54) (by decide) rfl (fun hc137 => ?_) (fun hc137 => ?_)
      · skip
        refine own_aloadN X135 d3_54 rfl rfl rfl ?_
        refine own_iloadN X135 d3_55 rfl rfl ?_
        refine own_putf X135 (hw _ (List.mem_of_getElem? (i := 29) rfl)) F5 F1 (Or.inl (hw _ (List.mem_of_getElem? (i := 30) rfl))) (hw _ (List.mem_of_getElem? (i := 8) rfl)) (ty := .boolean) (by decide) hbl hbf ge_a0_ d3_56 rfl (fun T138 h140 X139 W141 => ?_)
        have F142 := (F1.wr W141)
        have F143 := (F2.other W141 (Or.inr (slot_ne (Or.inl (hw _ (List.mem_of_getElem? (i := 24) rfl))) (Or.inl (hw _ (List.mem_of_getElem? (i := 30) rfl))) (by decide) (t := (.object "java/lang/Object")) (t' := .boolean) (by decide) (by decide))))
        have F144 := (F3.other W141 (Or.inr (slot_ne (Or.inl (hw _ (List.mem_of_getElem? (i := 26) rfl))) (Or.inl (hw _ (List.mem_of_getElem? (i := 30) rfl))) (by decide) (t := .int) (t' := .boolean) (by decide) (by decide))))
        have F145 := (F4.other W141 (Or.inr (slot_ne (Or.inl (hw _ (List.mem_of_getElem? (i := 28) rfl))) (Or.inl (hw _ (List.mem_of_getElem? (i := 30) rfl))) (by decide) (t := .long) (t' := .boolean) (by decide) (by decide))))
        have F146 := (F5.same W141)
        have F147 := (F6.other W141 (Or.inr (slot_ne (Or.inl (hw _ (List.mem_of_getElem? (i := 32) rfl))) (Or.inl (hw _ (List.mem_of_getElem? (i := 30) rfl))) (by decide) (t := .long) (t' := .boolean) (by decide) (by decide))))
        have F148 := (F7.other W141 (Or.inr (slot_ne (Or.inr (hw _ (List.mem_of_getElem? (i := 15) rfl))) (Or.inl (hw _ (List.mem_of_getElem? (i := 30) rfl))) (by decide) (t := .long) (t' := .boolean) (by decide) (by decide))))
        have F149 := (F8.other W141 (Or.inr (slot_ne (Or.inr (hw _ (List.mem_of_getElem? (i := 17) rfl))) (Or.inl (hw _ (List.mem_of_getElem? (i := 30) rfl))) (by decide) (t := .long) (t' := .boolean) (by decide) (by decide))))
        have Z150 : n0 ≤ h140.size := (Nat.le_trans Z0 (Nat.le_of_eq W141.size.symm))
        have K151 := (K9.wr W141 (Or.inl (List.mem_of_getElem? (i := 0) rfl)))
        refine own_lload X139 d3_59 rfl rfl ?_
        refine own_aloadN X139 d3_61 rfl rfl rfl ?_
        refine own_getf X139 (hw _ (List.mem_of_getElem? (i := 27) rfl)) F145 d3_62 rfl (fun T152 X153 => ?_)
        refine own_lsub X153 d3_65 rfl ?_
        refine own_aloadN X153 d3_66 rfl rfl rfl ?_
        refine own_getf X153 (hw _ (List.mem_of_getElem? (i := 16) rfl)) F149 d3_67 rfl (fun T154 X155 => ?_)
        refine own_lcmp_gt X155 d3_70 rfl d3_71 (by decide) (pcT := 93) (by decide) rfl (fun hc156 => ?_) (fun hc156 => ?_)
        · skip
          refine own_iconst X155 (1 : Int32) d3_93 rfl (by decide) ?_
          refine own_goto X155 d3_94 (by decide) (pc' := 98) (by decide) ?_
          obtain rfl : nw = false := own_nf hnw ⟨hc12, hc136⟩
          have e157 : own_bs false wb bl bs now = bs := by simp [own_bs, hc137]
          refine own_retZ X155 rfl d3_98 rfl ⟨?_, K151, (own_eqF F143 hc12.symm), (own_eqF F144 (congrArg Value.int hc136.symm)), F145, F146, (own_eqF F147 (congrArg Value.long e157.symm)), F148, F149⟩ (by decide) (by decide)
          rw [e157]
          show some (Value.int (1 : Int32)) = some (.int (own_res rL (now - si) bl bL (now - bs)))
          rw [own_res, if_pos hc156]
        · skip
          refine own_iloadN X155 d3_74 rfl rfl ?_
          refine own_if_eq X155 d3_75 (by decide) (pcT := 97) (by decide) rfl (fun hc => ?_) (fun hc => absurd hc137 hc)
          refine own_iconst X155 (0 : Int32) d3_97 rfl (by decide) ?_
          obtain rfl : nw = false := own_nf hnw ⟨hc12, hc136⟩
          have e158 : own_bs false wb bl bs now = bs := by simp [own_bs, hc137]
          refine own_retZ X155 rfl d3_98 rfl ⟨?_, K151, (own_eqF F143 hc12.symm), (own_eqF F144 (congrArg Value.int hc136.symm)), F145, F146, (own_eqF F147 (congrArg Value.long e158.symm)), F148, F149⟩ (by decide) (by decide)
          rw [e158]
          show some (Value.int (0 : Int32)) = some (.int (own_res rL (now - si) bl bL (now - bs)))
          rw [own_res, if_neg hc156, if_pos hc137]
      · skip
        refine own_aloadN X135 d3_41 rfl rfl rfl ?_
        refine own_getf X135 (hw _ (List.mem_of_getElem? (i := 29) rfl)) F5 d3_42 rfl (fun T159 X160 => ?_)
        refine own_if_ne X160 d3_45 (by decide) (pcT := 54) (by decide) rfl (fun hc161 => ?_) (fun hc161 => ?_)
        · skip
          refine own_aloadN X160 d3_54 rfl rfl rfl ?_
          refine own_iloadN X160 d3_55 rfl rfl ?_
          refine own_putf X160 (hw _ (List.mem_of_getElem? (i := 29) rfl)) F5 F1 (Or.inl (hw _ (List.mem_of_getElem? (i := 30) rfl))) (hw _ (List.mem_of_getElem? (i := 8) rfl)) (ty := .boolean) (by decide) hbl hbf ge_a0_ d3_56 rfl (fun T162 h164 X163 W165 => ?_)
          have F166 := (F1.wr W165)
          have F167 := (F2.other W165 (Or.inr (slot_ne (Or.inl (hw _ (List.mem_of_getElem? (i := 24) rfl))) (Or.inl (hw _ (List.mem_of_getElem? (i := 30) rfl))) (by decide) (t := (.object "java/lang/Object")) (t' := .boolean) (by decide) (by decide))))
          have F168 := (F3.other W165 (Or.inr (slot_ne (Or.inl (hw _ (List.mem_of_getElem? (i := 26) rfl))) (Or.inl (hw _ (List.mem_of_getElem? (i := 30) rfl))) (by decide) (t := .int) (t' := .boolean) (by decide) (by decide))))
          have F169 := (F4.other W165 (Or.inr (slot_ne (Or.inl (hw _ (List.mem_of_getElem? (i := 28) rfl))) (Or.inl (hw _ (List.mem_of_getElem? (i := 30) rfl))) (by decide) (t := .long) (t' := .boolean) (by decide) (by decide))))
          have F170 := (F5.same W165)
          have F171 := (F6.other W165 (Or.inr (slot_ne (Or.inl (hw _ (List.mem_of_getElem? (i := 32) rfl))) (Or.inl (hw _ (List.mem_of_getElem? (i := 30) rfl))) (by decide) (t := .long) (t' := .boolean) (by decide) (by decide))))
          have F172 := (F7.other W165 (Or.inr (slot_ne (Or.inr (hw _ (List.mem_of_getElem? (i := 15) rfl))) (Or.inl (hw _ (List.mem_of_getElem? (i := 30) rfl))) (by decide) (t := .long) (t' := .boolean) (by decide) (by decide))))
          have F173 := (F8.other W165 (Or.inr (slot_ne (Or.inr (hw _ (List.mem_of_getElem? (i := 17) rfl))) (Or.inl (hw _ (List.mem_of_getElem? (i := 30) rfl))) (by decide) (t := .long) (t' := .boolean) (by decide) (by decide))))
          have Z174 : n0 ≤ h164.size := (Nat.le_trans Z0 (Nat.le_of_eq W165.size.symm))
          have K175 := (K9.wr W165 (Or.inl (List.mem_of_getElem? (i := 0) rfl)))
          refine own_lload X163 d3_59 rfl rfl ?_
          refine own_aloadN X163 d3_61 rfl rfl rfl ?_
          refine own_getf X163 (hw _ (List.mem_of_getElem? (i := 27) rfl)) F169 d3_62 rfl (fun T176 X177 => ?_)
          refine own_lsub X177 d3_65 rfl ?_
          refine own_aloadN X177 d3_66 rfl rfl rfl ?_
          refine own_getf X177 (hw _ (List.mem_of_getElem? (i := 16) rfl)) F173 d3_67 rfl (fun T178 X179 => ?_)
          refine own_lcmp_gt X179 d3_70 rfl d3_71 (by decide) (pcT := 93) (by decide) rfl (fun hc180 => ?_) (fun hc180 => ?_)
          · skip
            refine own_iconst X179 (1 : Int32) d3_93 rfl (by decide) ?_
            refine own_goto X179 d3_94 (by decide) (pc' := 98) (by decide) ?_
            obtain rfl : nw = false := own_nf hnw ⟨hc12, hc136⟩
            have e181 : own_bs false wb bl bs now = bs := by simp [own_bs, hc137, hc161]
            refine own_retZ X179 rfl d3_98 rfl ⟨?_, K175, (own_eqF F167 hc12.symm), (own_eqF F168 (congrArg Value.int hc136.symm)), F169, F170, (own_eqF F171 (congrArg Value.long e181.symm)), F172, F173⟩ (by decide) (by decide)
            rw [e181]
            show some (Value.int (1 : Int32)) = some (.int (own_res rL (now - si) bl bL (now - bs)))
            rw [own_res, if_pos hc180]
          · skip
            refine own_iloadN X179 d3_74 rfl rfl ?_
            refine own_if_eq X179 d3_75 (by decide) (pcT := 97) (by decide) rfl (fun hc => absurd hc hc137) (fun hc => ?_)
            refine own_lload X179 d3_78 rfl rfl ?_
            refine own_aloadN X179 d3_80 rfl rfl rfl ?_
            refine own_getf X179 (hw _ (List.mem_of_getElem? (i := 31) rfl)) F171 d3_81 rfl (fun T182 X183 => ?_)
            refine own_lsub X183 d3_84 rfl ?_
            refine own_aloadN X183 d3_85 rfl rfl rfl ?_
            refine own_getf X183 (hw _ (List.mem_of_getElem? (i := 14) rfl)) F172 d3_86 rfl (fun T184 X185 => ?_)
            refine own_lcmp_le X185 d3_89 rfl d3_90 (by decide) (pcT := 97) (by decide) rfl (fun hc186 => ?_) (fun hc186 => ?_)
            · skip
              refine own_iconst X185 (0 : Int32) d3_97 rfl (by decide) ?_
              obtain rfl : nw = false := own_nf hnw ⟨hc12, hc136⟩
              have e187 : own_bs false wb bl bs now = bs := by simp [own_bs, hc137, hc161]
              refine own_retZ X185 rfl d3_98 rfl ⟨?_, K175, (own_eqF F167 hc12.symm), (own_eqF F168 (congrArg Value.int hc136.symm)), F169, F170, (own_eqF F171 (congrArg Value.long e187.symm)), F172, F173⟩ (by decide) (by decide)
              rw [e187]
              show some (Value.int (0 : Int32)) = some (.int (own_res rL (now - si) bl bL (now - bs)))
              rw [own_res, if_neg hc180, if_neg hc137, if_neg hc186]
            · skip
              refine own_iconst X185 (1 : Int32) d3_93 rfl (by decide) ?_
              refine own_goto X185 d3_94 (by decide) (pc' := 98) (by decide) ?_
              obtain rfl : nw = false := own_nf hnw ⟨hc12, hc136⟩
              have e188 : own_bs false wb bl bs now = bs := by simp [own_bs, hc137, hc161]
              refine own_retZ X185 rfl d3_98 rfl ⟨?_, K175, (own_eqF F167 hc12.symm), (own_eqF F168 (congrArg Value.int hc136.symm)), F169, F170, (own_eqF F171 (congrArg Value.long e188.symm)), F172, F173⟩ (by decide) (by decide)
              rw [e188]
              show some (Value.int (1 : Int32)) = some (.int (own_res rL (now - si) bl bL (now - bs)))
              rw [own_res, if_neg hc180, if_neg hc137, if_pos hc186]
        · skip
          refine own_aloadN X160 d3_48 rfl rfl rfl ?_
          refine own_lload X160 d3_49 rfl rfl ?_
          refine own_putf X160 (hw _ (List.mem_of_getElem? (i := 31) rfl)) F6 F1 (Or.inl (hw _ (List.mem_of_getElem? (i := 32) rfl))) (hw _ (List.mem_of_getElem? (i := 8) rfl)) (ty := .long) (by decide) rfl rfl ge_a0_ d3_51 rfl (fun T189 h191 X190 W192 => ?_)
          have F193 := (F1.wr W192)
          have F194 := (F2.other W192 (Or.inr (slot_ne (Or.inl (hw _ (List.mem_of_getElem? (i := 24) rfl))) (Or.inl (hw _ (List.mem_of_getElem? (i := 32) rfl))) (by decide) (t := (.object "java/lang/Object")) (t' := .long) (by decide) (by decide))))
          have F195 := (F3.other W192 (Or.inr (slot_ne (Or.inl (hw _ (List.mem_of_getElem? (i := 26) rfl))) (Or.inl (hw _ (List.mem_of_getElem? (i := 32) rfl))) (by decide) (t := .int) (t' := .long) (by decide) (by decide))))
          have F196 := (F4.other W192 (Or.inr (slot_ne (Or.inl (hw _ (List.mem_of_getElem? (i := 28) rfl))) (Or.inl (hw _ (List.mem_of_getElem? (i := 32) rfl))) (by decide) (t := .long) (t' := .long) (by decide) (by decide))))
          have F197 := (F5.other W192 (Or.inr (slot_ne (Or.inl (hw _ (List.mem_of_getElem? (i := 30) rfl))) (Or.inl (hw _ (List.mem_of_getElem? (i := 32) rfl))) (by decide) (t := .boolean) (t' := .long) (by decide) (by decide))))
          have F198 := (F6.same W192)
          have F199 := (F7.other W192 (Or.inr (slot_ne (Or.inr (hw _ (List.mem_of_getElem? (i := 15) rfl))) (Or.inl (hw _ (List.mem_of_getElem? (i := 32) rfl))) (by decide) (t := .long) (t' := .long) (by decide) (by decide))))
          have F200 := (F8.other W192 (Or.inr (slot_ne (Or.inr (hw _ (List.mem_of_getElem? (i := 17) rfl))) (Or.inl (hw _ (List.mem_of_getElem? (i := 32) rfl))) (by decide) (t := .long) (t' := .long) (by decide) (by decide))))
          have Z201 : n0 ≤ h191.size := (Nat.le_trans Z0 (Nat.le_of_eq W192.size.symm))
          have K202 := (K9.wr W192 (Or.inl (List.mem_of_getElem? (i := 0) rfl)))
          refine own_aloadN X190 d3_54 rfl rfl rfl ?_
          refine own_iloadN X190 d3_55 rfl rfl ?_
          refine own_putf X190 (hw _ (List.mem_of_getElem? (i := 29) rfl)) F197 F193 (Or.inl (hw _ (List.mem_of_getElem? (i := 30) rfl))) (hw _ (List.mem_of_getElem? (i := 8) rfl)) (ty := .boolean) (by decide) hbl hbf ge_a0_ d3_56 rfl (fun T203 h205 X204 W206 => ?_)
          have F207 := (F193.wr W206)
          have F208 := (F194.other W206 (Or.inr (slot_ne (Or.inl (hw _ (List.mem_of_getElem? (i := 24) rfl))) (Or.inl (hw _ (List.mem_of_getElem? (i := 30) rfl))) (by decide) (t := (.object "java/lang/Object")) (t' := .boolean) (by decide) (by decide))))
          have F209 := (F195.other W206 (Or.inr (slot_ne (Or.inl (hw _ (List.mem_of_getElem? (i := 26) rfl))) (Or.inl (hw _ (List.mem_of_getElem? (i := 30) rfl))) (by decide) (t := .int) (t' := .boolean) (by decide) (by decide))))
          have F210 := (F196.other W206 (Or.inr (slot_ne (Or.inl (hw _ (List.mem_of_getElem? (i := 28) rfl))) (Or.inl (hw _ (List.mem_of_getElem? (i := 30) rfl))) (by decide) (t := .long) (t' := .boolean) (by decide) (by decide))))
          have F211 := (F197.same W206)
          have F212 := (F198.other W206 (Or.inr (slot_ne (Or.inl (hw _ (List.mem_of_getElem? (i := 32) rfl))) (Or.inl (hw _ (List.mem_of_getElem? (i := 30) rfl))) (by decide) (t := .long) (t' := .boolean) (by decide) (by decide))))
          have F213 := (F199.other W206 (Or.inr (slot_ne (Or.inr (hw _ (List.mem_of_getElem? (i := 15) rfl))) (Or.inl (hw _ (List.mem_of_getElem? (i := 30) rfl))) (by decide) (t := .long) (t' := .boolean) (by decide) (by decide))))
          have F214 := (F200.other W206 (Or.inr (slot_ne (Or.inr (hw _ (List.mem_of_getElem? (i := 17) rfl))) (Or.inl (hw _ (List.mem_of_getElem? (i := 30) rfl))) (by decide) (t := .long) (t' := .boolean) (by decide) (by decide))))
          have Z215 : n0 ≤ h205.size := (Nat.le_trans Z201 (Nat.le_of_eq W206.size.symm))
          have K216 := (K202.wr W206 (Or.inl (List.mem_of_getElem? (i := 0) rfl)))
          refine own_lload X204 d3_59 rfl rfl ?_
          refine own_aloadN X204 d3_61 rfl rfl rfl ?_
          refine own_getf X204 (hw _ (List.mem_of_getElem? (i := 27) rfl)) F210 d3_62 rfl (fun T217 X218 => ?_)
          refine own_lsub X218 d3_65 rfl ?_
          refine own_aloadN X218 d3_66 rfl rfl rfl ?_
          refine own_getf X218 (hw _ (List.mem_of_getElem? (i := 16) rfl)) F214 d3_67 rfl (fun T219 X220 => ?_)
          refine own_lcmp_gt X220 d3_70 rfl d3_71 (by decide) (pcT := 93) (by decide) rfl (fun hc221 => ?_) (fun hc221 => ?_)
          · skip
            refine own_iconst X220 (1 : Int32) d3_93 rfl (by decide) ?_
            refine own_goto X220 d3_94 (by decide) (pc' := 98) (by decide) ?_
            obtain rfl : nw = false := own_nf hnw ⟨hc12, hc136⟩
            have e222 : own_bs false wb bl bs now = now := by simp [own_bs, hc137, hc161]
            refine own_retZ X220 rfl d3_98 rfl ⟨?_, K216, (own_eqF F208 hc12.symm), (own_eqF F209 (congrArg Value.int hc136.symm)), F210, F211, (own_eqF F212 (congrArg Value.long e222.symm)), F213, F214⟩ (by decide) (by decide)
            rw [e222]
            show some (Value.int (1 : Int32)) = some (.int (own_res rL (now - si) bl bL (now - now)))
            rw [own_res, if_pos hc221]
          · skip
            refine own_iloadN X220 d3_74 rfl rfl ?_
            refine own_if_eq X220 d3_75 (by decide) (pcT := 97) (by decide) rfl (fun hc => absurd hc hc137) (fun hc => ?_)
            refine own_lload X220 d3_78 rfl rfl ?_
            refine own_aloadN X220 d3_80 rfl rfl rfl ?_
            refine own_getf X220 (hw _ (List.mem_of_getElem? (i := 31) rfl)) F212 d3_81 rfl (fun T223 X224 => ?_)
            refine own_lsub X224 d3_84 rfl ?_
            refine own_aloadN X224 d3_85 rfl rfl rfl ?_
            refine own_getf X224 (hw _ (List.mem_of_getElem? (i := 14) rfl)) F213 d3_86 rfl (fun T225 X226 => ?_)
            refine own_lcmp_le X226 d3_89 rfl d3_90 (by decide) (pcT := 97) (by decide) rfl (fun hc227 => ?_) (fun hc227 => ?_)
            · skip
              refine own_iconst X226 (0 : Int32) d3_97 rfl (by decide) ?_
              obtain rfl : nw = false := own_nf hnw ⟨hc12, hc136⟩
              have e228 : own_bs false wb bl bs now = now := by simp [own_bs, hc137, hc161]
              refine own_retZ X226 rfl d3_98 rfl ⟨?_, K216, (own_eqF F208 hc12.symm), (own_eqF F209 (congrArg Value.int hc136.symm)), F210, F211, (own_eqF F212 (congrArg Value.long e228.symm)), F213, F214⟩ (by decide) (by decide)
              rw [e228]
              show some (Value.int (0 : Int32)) = some (.int (own_res rL (now - si) bl bL (now - now)))
              rw [own_res, if_neg hc221, if_neg hc137, if_neg hc227]
            · skip
              refine own_iconst X226 (1 : Int32) d3_93 rfl (by decide) ?_
              refine own_goto X226 d3_94 (by decide) (pc' := 98) (by decide) ?_
              obtain rfl : nw = false := own_nf hnw ⟨hc12, hc136⟩
              have e229 : own_bs false wb bl bs now = now := by simp [own_bs, hc137, hc161]
              refine own_retZ X226 rfl d3_98 rfl ⟨?_, K216, (own_eqF F208 hc12.symm), (own_eqF F209 (congrArg Value.int hc136.symm)), F210, F211, (own_eqF F212 (congrArg Value.long e229.symm)), F213, F214⟩ (by decide) (by decide)
              rw [e229]
              show some (Value.int (1 : Int32)) = some (.int (own_res rL (now - si) bl bL (now - now)))
              rw [own_res, if_neg hc221, if_neg hc137, if_pos hc227]
    · skip
      refine own_aloadN X135 d3_16 rfl rfl rfl ?_
      refine own_aloadN X135 d3_17 rfl rfl rfl ?_
      refine own_putf X135 (hw _ (List.mem_of_getElem? (i := 23) rfl)) F2 F1 (Or.inl (hw _ (List.mem_of_getElem? (i := 24) rfl))) (hw _ (List.mem_of_getElem? (i := 8) rfl)) (ty := (.object "java/lang/Object")) (by decide) rfl rfl ge_a0_ d3_18 rfl (fun T230 h232 X231 W233 => ?_)
      have F234 := (F1.wr W233)
      have F235 := (F2.same W233)
      have F236 := (F3.other W233 (Or.inr (slot_ne (Or.inl (hw _ (List.mem_of_getElem? (i := 26) rfl))) (Or.inl (hw _ (List.mem_of_getElem? (i := 24) rfl))) (by decide) (t := .int) (t' := (.object "java/lang/Object")) (by decide) (by decide))))
      have F237 := (F4.other W233 (Or.inr (slot_ne (Or.inl (hw _ (List.mem_of_getElem? (i := 28) rfl))) (Or.inl (hw _ (List.mem_of_getElem? (i := 24) rfl))) (by decide) (t := .long) (t' := (.object "java/lang/Object")) (by decide) (by decide))))
      have F238 := (F5.other W233 (Or.inr (slot_ne (Or.inl (hw _ (List.mem_of_getElem? (i := 30) rfl))) (Or.inl (hw _ (List.mem_of_getElem? (i := 24) rfl))) (by decide) (t := .boolean) (t' := (.object "java/lang/Object")) (by decide) (by decide))))
      have F239 := (F6.other W233 (Or.inr (slot_ne (Or.inl (hw _ (List.mem_of_getElem? (i := 32) rfl))) (Or.inl (hw _ (List.mem_of_getElem? (i := 24) rfl))) (by decide) (t := .long) (t' := (.object "java/lang/Object")) (by decide) (by decide))))
      have F240 := (F7.other W233 (Or.inr (slot_ne (Or.inr (hw _ (List.mem_of_getElem? (i := 15) rfl))) (Or.inl (hw _ (List.mem_of_getElem? (i := 24) rfl))) (by decide) (t := .long) (t' := (.object "java/lang/Object")) (by decide) (by decide))))
      have F241 := (F8.other W233 (Or.inr (slot_ne (Or.inr (hw _ (List.mem_of_getElem? (i := 17) rfl))) (Or.inl (hw _ (List.mem_of_getElem? (i := 24) rfl))) (by decide) (t := .long) (t' := (.object "java/lang/Object")) (by decide) (by decide))))
      have Z242 : n0 ≤ h232.size := (Nat.le_trans Z0 (Nat.le_of_eq W233.size.symm))
      have K243 := (K9.wr W233 (Or.inl (List.mem_of_getElem? (i := 0) rfl)))
      refine own_aloadN X231 d3_21 rfl rfl rfl ?_
      refine own_iloadN X231 d3_22 rfl rfl ?_
      refine own_putf X231 (hw _ (List.mem_of_getElem? (i := 25) rfl)) F236 F234 (Or.inl (hw _ (List.mem_of_getElem? (i := 26) rfl))) (hw _ (List.mem_of_getElem? (i := 8) rfl)) (ty := .int) (by decide) rfl rfl ge_a0_ d3_23 rfl (fun T244 h246 X245 W247 => ?_)
      have F248 := (F234.wr W247)
      have F249 := (F235.other W247 (Or.inr (slot_ne (Or.inl (hw _ (List.mem_of_getElem? (i := 24) rfl))) (Or.inl (hw _ (List.mem_of_getElem? (i := 26) rfl))) (by decide) (t := (.object "java/lang/Object")) (t' := .int) (by decide) (by decide))))
      have F250 := (F236.same W247)
      have F251 := (F237.other W247 (Or.inr (slot_ne (Or.inl (hw _ (List.mem_of_getElem? (i := 28) rfl))) (Or.inl (hw _ (List.mem_of_getElem? (i := 26) rfl))) (by decide) (t := .long) (t' := .int) (by decide) (by decide))))
      have F252 := (F238.other W247 (Or.inr (slot_ne (Or.inl (hw _ (List.mem_of_getElem? (i := 30) rfl))) (Or.inl (hw _ (List.mem_of_getElem? (i := 26) rfl))) (by decide) (t := .boolean) (t' := .int) (by decide) (by decide))))
      have F253 := (F239.other W247 (Or.inr (slot_ne (Or.inl (hw _ (List.mem_of_getElem? (i := 32) rfl))) (Or.inl (hw _ (List.mem_of_getElem? (i := 26) rfl))) (by decide) (t := .long) (t' := .int) (by decide) (by decide))))
      have F254 := (F240.other W247 (Or.inr (slot_ne (Or.inr (hw _ (List.mem_of_getElem? (i := 15) rfl))) (Or.inl (hw _ (List.mem_of_getElem? (i := 26) rfl))) (by decide) (t := .long) (t' := .int) (by decide) (by decide))))
      have F255 := (F241.other W247 (Or.inr (slot_ne (Or.inr (hw _ (List.mem_of_getElem? (i := 17) rfl))) (Or.inl (hw _ (List.mem_of_getElem? (i := 26) rfl))) (by decide) (t := .long) (t' := .int) (by decide) (by decide))))
      have Z256 : n0 ≤ h246.size := (Nat.le_trans Z242 (Nat.le_of_eq W247.size.symm))
      have K257 := (K243.wr W247 (Or.inl (List.mem_of_getElem? (i := 0) rfl)))
      refine own_aloadN X245 d3_26 rfl rfl rfl ?_
      refine own_lload X245 d3_27 rfl rfl ?_
      refine own_putf X245 (hw _ (List.mem_of_getElem? (i := 27) rfl)) F251 F248 (Or.inl (hw _ (List.mem_of_getElem? (i := 28) rfl))) (hw _ (List.mem_of_getElem? (i := 8) rfl)) (ty := .long) (by decide) rfl rfl ge_a0_ d3_29 rfl (fun T258 h260 X259 W261 => ?_)
      have F262 := (F248.wr W261)
      have F263 := (F249.other W261 (Or.inr (slot_ne (Or.inl (hw _ (List.mem_of_getElem? (i := 24) rfl))) (Or.inl (hw _ (List.mem_of_getElem? (i := 28) rfl))) (by decide) (t := (.object "java/lang/Object")) (t' := .long) (by decide) (by decide))))
      have F264 := (F250.other W261 (Or.inr (slot_ne (Or.inl (hw _ (List.mem_of_getElem? (i := 26) rfl))) (Or.inl (hw _ (List.mem_of_getElem? (i := 28) rfl))) (by decide) (t := .int) (t' := .long) (by decide) (by decide))))
      have F265 := (F251.same W261)
      have F266 := (F252.other W261 (Or.inr (slot_ne (Or.inl (hw _ (List.mem_of_getElem? (i := 30) rfl))) (Or.inl (hw _ (List.mem_of_getElem? (i := 28) rfl))) (by decide) (t := .boolean) (t' := .long) (by decide) (by decide))))
      have F267 := (F253.other W261 (Or.inr (slot_ne (Or.inl (hw _ (List.mem_of_getElem? (i := 32) rfl))) (Or.inl (hw _ (List.mem_of_getElem? (i := 28) rfl))) (by decide) (t := .long) (t' := .long) (by decide) (by decide))))
      have F268 := (F254.other W261 (Or.inr (slot_ne (Or.inr (hw _ (List.mem_of_getElem? (i := 15) rfl))) (Or.inl (hw _ (List.mem_of_getElem? (i := 28) rfl))) (by decide) (t := .long) (t' := .long) (by decide) (by decide))))
      have F269 := (F255.other W261 (Or.inr (slot_ne (Or.inr (hw _ (List.mem_of_getElem? (i := 17) rfl))) (Or.inl (hw _ (List.mem_of_getElem? (i := 28) rfl))) (by decide) (t := .long) (t' := .long) (by decide) (by decide))))
      have Z270 : n0 ≤ h260.size := (Nat.le_trans Z256 (Nat.le_of_eq W261.size.symm))
      have K271 := (K257.wr W261 (Or.inl (List.mem_of_getElem? (i := 0) rfl)))
      refine own_aloadN X259 d3_32 rfl rfl rfl ?_
      refine own_iconst X259 (0 : Int32) d3_33 rfl (by decide) ?_
      refine own_putf X259 (hw _ (List.mem_of_getElem? (i := 29) rfl)) F266 F262 (Or.inl (hw _ (List.mem_of_getElem? (i := 30) rfl))) (hw _ (List.mem_of_getElem? (i := 8) rfl)) (ty := .boolean) (by decide) rfl rfl ge_a0_ d3_34 rfl (fun T272 h274 X273 W275 => ?_)
      have F276 := (F262.wr W275)
      have F277 := (F263.other W275 (Or.inr (slot_ne (Or.inl (hw _ (List.mem_of_getElem? (i := 24) rfl))) (Or.inl (hw _ (List.mem_of_getElem? (i := 30) rfl))) (by decide) (t := (.object "java/lang/Object")) (t' := .boolean) (by decide) (by decide))))
      have F278 := (F264.other W275 (Or.inr (slot_ne (Or.inl (hw _ (List.mem_of_getElem? (i := 26) rfl))) (Or.inl (hw _ (List.mem_of_getElem? (i := 30) rfl))) (by decide) (t := .int) (t' := .boolean) (by decide) (by decide))))
      have F279 := (F265.other W275 (Or.inr (slot_ne (Or.inl (hw _ (List.mem_of_getElem? (i := 28) rfl))) (Or.inl (hw _ (List.mem_of_getElem? (i := 30) rfl))) (by decide) (t := .long) (t' := .boolean) (by decide) (by decide))))
      have F280 := (F266.same W275)
      have F281 := (F267.other W275 (Or.inr (slot_ne (Or.inl (hw _ (List.mem_of_getElem? (i := 32) rfl))) (Or.inl (hw _ (List.mem_of_getElem? (i := 30) rfl))) (by decide) (t := .long) (t' := .boolean) (by decide) (by decide))))
      have F282 := (F268.other W275 (Or.inr (slot_ne (Or.inr (hw _ (List.mem_of_getElem? (i := 15) rfl))) (Or.inl (hw _ (List.mem_of_getElem? (i := 30) rfl))) (by decide) (t := .long) (t' := .boolean) (by decide) (by decide))))
      have F283 := (F269.other W275 (Or.inr (slot_ne (Or.inr (hw _ (List.mem_of_getElem? (i := 17) rfl))) (Or.inl (hw _ (List.mem_of_getElem? (i := 30) rfl))) (by decide) (t := .long) (t' := .boolean) (by decide) (by decide))))
      have Z284 : n0 ≤ h274.size := (Nat.le_trans Z270 (Nat.le_of_eq W275.size.symm))
      have K285 := (K271.wr W275 (Or.inl (List.mem_of_getElem? (i := 0) rfl)))
      refine own_iloadN X273 d3_37 rfl rfl ?_
      refine own_if_eq X273 d3_38 (by decide) (pcT := 54) (by decide) rfl (fun hc286 => ?_) (fun hc286 => ?_)
      · skip
        refine own_aloadN X273 d3_54 rfl rfl rfl ?_
        refine own_iloadN X273 d3_55 rfl rfl ?_
        refine own_putf X273 (hw _ (List.mem_of_getElem? (i := 29) rfl)) F280 F276 (Or.inl (hw _ (List.mem_of_getElem? (i := 30) rfl))) (hw _ (List.mem_of_getElem? (i := 8) rfl)) (ty := .boolean) (by decide) hbl hbf ge_a0_ d3_56 rfl (fun T287 h289 X288 W290 => ?_)
        have F291 := (F276.wr W290)
        have F292 := (F277.other W290 (Or.inr (slot_ne (Or.inl (hw _ (List.mem_of_getElem? (i := 24) rfl))) (Or.inl (hw _ (List.mem_of_getElem? (i := 30) rfl))) (by decide) (t := (.object "java/lang/Object")) (t' := .boolean) (by decide) (by decide))))
        have F293 := (F278.other W290 (Or.inr (slot_ne (Or.inl (hw _ (List.mem_of_getElem? (i := 26) rfl))) (Or.inl (hw _ (List.mem_of_getElem? (i := 30) rfl))) (by decide) (t := .int) (t' := .boolean) (by decide) (by decide))))
        have F294 := (F279.other W290 (Or.inr (slot_ne (Or.inl (hw _ (List.mem_of_getElem? (i := 28) rfl))) (Or.inl (hw _ (List.mem_of_getElem? (i := 30) rfl))) (by decide) (t := .long) (t' := .boolean) (by decide) (by decide))))
        have F295 := (F280.same W290)
        have F296 := (F281.other W290 (Or.inr (slot_ne (Or.inl (hw _ (List.mem_of_getElem? (i := 32) rfl))) (Or.inl (hw _ (List.mem_of_getElem? (i := 30) rfl))) (by decide) (t := .long) (t' := .boolean) (by decide) (by decide))))
        have F297 := (F282.other W290 (Or.inr (slot_ne (Or.inr (hw _ (List.mem_of_getElem? (i := 15) rfl))) (Or.inl (hw _ (List.mem_of_getElem? (i := 30) rfl))) (by decide) (t := .long) (t' := .boolean) (by decide) (by decide))))
        have F298 := (F283.other W290 (Or.inr (slot_ne (Or.inr (hw _ (List.mem_of_getElem? (i := 17) rfl))) (Or.inl (hw _ (List.mem_of_getElem? (i := 30) rfl))) (by decide) (t := .long) (t' := .boolean) (by decide) (by decide))))
        have Z299 : n0 ≤ h289.size := (Nat.le_trans Z284 (Nat.le_of_eq W290.size.symm))
        have K300 := (K285.wr W290 (Or.inl (List.mem_of_getElem? (i := 0) rfl)))
        refine own_lload X288 d3_59 rfl rfl ?_
        refine own_aloadN X288 d3_61 rfl rfl rfl ?_
        refine own_getf X288 (hw _ (List.mem_of_getElem? (i := 27) rfl)) F294 d3_62 rfl (fun T301 X302 => ?_)
        refine own_lsub X302 d3_65 rfl ?_
        refine own_aloadN X302 d3_66 rfl rfl rfl ?_
        refine own_getf X302 (hw _ (List.mem_of_getElem? (i := 16) rfl)) F298 d3_67 rfl (fun T303 X304 => ?_)
        refine own_lcmp_gt X304 d3_70 rfl d3_71 (by decide) (pcT := 93) (by decide) rfl (fun hc305 => ?_) (fun hc305 => ?_)
        · skip
          refine own_iconst X304 (1 : Int32) d3_93 rfl (by decide) ?_
          refine own_goto X304 d3_94 (by decide) (pc' := 98) (by decide) ?_
          obtain rfl : nw = true := hnw.mpr (fun z => hc136 z.2)
          have e306 : own_bs true wb bl bs now = bs := by simp [own_bs, hc286]
          refine own_retZ X304 rfl d3_98 rfl ⟨?_, K300, F292, F293, F294, F295, (own_eqF F296 (congrArg Value.long e306.symm)), F297, F298⟩ (by decide) (by decide)
          rw [e306]
          show some (Value.int (1 : Int32)) = some (.int (own_res rL (now - now) bl bL (now - bs)))
          rw [own_res, if_pos hc305]
        · skip
          refine own_iloadN X304 d3_74 rfl rfl ?_
          refine own_if_eq X304 d3_75 (by decide) (pcT := 97) (by decide) rfl (fun hc => ?_) (fun hc => absurd hc286 hc)
          refine own_iconst X304 (0 : Int32) d3_97 rfl (by decide) ?_
          obtain rfl : nw = true := hnw.mpr (fun z => hc136 z.2)
          have e307 : own_bs true wb bl bs now = bs := by simp [own_bs, hc286]
          refine own_retZ X304 rfl d3_98 rfl ⟨?_, K300, F292, F293, F294, F295, (own_eqF F296 (congrArg Value.long e307.symm)), F297, F298⟩ (by decide) (by decide)
          rw [e307]
          show some (Value.int (0 : Int32)) = some (.int (own_res rL (now - now) bl bL (now - bs)))
          rw [own_res, if_neg hc305, if_pos hc286]
      · skip
        refine own_aloadN X273 d3_41 rfl rfl rfl ?_
        refine own_getf X273 (hw _ (List.mem_of_getElem? (i := 29) rfl)) F280 d3_42 rfl (fun T308 X309 => ?_)
        refine own_if_ne X309 d3_45 (by decide) (pcT := 54) (by decide) rfl (fun hc => absurd hc (by decide)) (fun hc => ?_)
        refine own_aloadN X309 d3_48 rfl rfl rfl ?_
        refine own_lload X309 d3_49 rfl rfl ?_
        refine own_putf X309 (hw _ (List.mem_of_getElem? (i := 31) rfl)) F281 F276 (Or.inl (hw _ (List.mem_of_getElem? (i := 32) rfl))) (hw _ (List.mem_of_getElem? (i := 8) rfl)) (ty := .long) (by decide) rfl rfl ge_a0_ d3_51 rfl (fun T310 h312 X311 W313 => ?_)
        have F314 := (F276.wr W313)
        have F315 := (F277.other W313 (Or.inr (slot_ne (Or.inl (hw _ (List.mem_of_getElem? (i := 24) rfl))) (Or.inl (hw _ (List.mem_of_getElem? (i := 32) rfl))) (by decide) (t := (.object "java/lang/Object")) (t' := .long) (by decide) (by decide))))
        have F316 := (F278.other W313 (Or.inr (slot_ne (Or.inl (hw _ (List.mem_of_getElem? (i := 26) rfl))) (Or.inl (hw _ (List.mem_of_getElem? (i := 32) rfl))) (by decide) (t := .int) (t' := .long) (by decide) (by decide))))
        have F317 := (F279.other W313 (Or.inr (slot_ne (Or.inl (hw _ (List.mem_of_getElem? (i := 28) rfl))) (Or.inl (hw _ (List.mem_of_getElem? (i := 32) rfl))) (by decide) (t := .long) (t' := .long) (by decide) (by decide))))
        have F318 := (F280.other W313 (Or.inr (slot_ne (Or.inl (hw _ (List.mem_of_getElem? (i := 30) rfl))) (Or.inl (hw _ (List.mem_of_getElem? (i := 32) rfl))) (by decide) (t := .boolean) (t' := .long) (by decide) (by decide))))
        have F319 := (F281.same W313)
        have F320 := (F282.other W313 (Or.inr (slot_ne (Or.inr (hw _ (List.mem_of_getElem? (i := 15) rfl))) (Or.inl (hw _ (List.mem_of_getElem? (i := 32) rfl))) (by decide) (t := .long) (t' := .long) (by decide) (by decide))))
        have F321 := (F283.other W313 (Or.inr (slot_ne (Or.inr (hw _ (List.mem_of_getElem? (i := 17) rfl))) (Or.inl (hw _ (List.mem_of_getElem? (i := 32) rfl))) (by decide) (t := .long) (t' := .long) (by decide) (by decide))))
        have Z322 : n0 ≤ h312.size := (Nat.le_trans Z284 (Nat.le_of_eq W313.size.symm))
        have K323 := (K285.wr W313 (Or.inl (List.mem_of_getElem? (i := 0) rfl)))
        refine own_aloadN X311 d3_54 rfl rfl rfl ?_
        refine own_iloadN X311 d3_55 rfl rfl ?_
        refine own_putf X311 (hw _ (List.mem_of_getElem? (i := 29) rfl)) F318 F314 (Or.inl (hw _ (List.mem_of_getElem? (i := 30) rfl))) (hw _ (List.mem_of_getElem? (i := 8) rfl)) (ty := .boolean) (by decide) hbl hbf ge_a0_ d3_56 rfl (fun T324 h326 X325 W327 => ?_)
        have F328 := (F314.wr W327)
        have F329 := (F315.other W327 (Or.inr (slot_ne (Or.inl (hw _ (List.mem_of_getElem? (i := 24) rfl))) (Or.inl (hw _ (List.mem_of_getElem? (i := 30) rfl))) (by decide) (t := (.object "java/lang/Object")) (t' := .boolean) (by decide) (by decide))))
        have F330 := (F316.other W327 (Or.inr (slot_ne (Or.inl (hw _ (List.mem_of_getElem? (i := 26) rfl))) (Or.inl (hw _ (List.mem_of_getElem? (i := 30) rfl))) (by decide) (t := .int) (t' := .boolean) (by decide) (by decide))))
        have F331 := (F317.other W327 (Or.inr (slot_ne (Or.inl (hw _ (List.mem_of_getElem? (i := 28) rfl))) (Or.inl (hw _ (List.mem_of_getElem? (i := 30) rfl))) (by decide) (t := .long) (t' := .boolean) (by decide) (by decide))))
        have F332 := (F318.same W327)
        have F333 := (F319.other W327 (Or.inr (slot_ne (Or.inl (hw _ (List.mem_of_getElem? (i := 32) rfl))) (Or.inl (hw _ (List.mem_of_getElem? (i := 30) rfl))) (by decide) (t := .long) (t' := .boolean) (by decide) (by decide))))
        have F334 := (F320.other W327 (Or.inr (slot_ne (Or.inr (hw _ (List.mem_of_getElem? (i := 15) rfl))) (Or.inl (hw _ (List.mem_of_getElem? (i := 30) rfl))) (by decide) (t := .long) (t' := .boolean) (by decide) (by decide))))
        have F335 := (F321.other W327 (Or.inr (slot_ne (Or.inr (hw _ (List.mem_of_getElem? (i := 17) rfl))) (Or.inl (hw _ (List.mem_of_getElem? (i := 30) rfl))) (by decide) (t := .long) (t' := .boolean) (by decide) (by decide))))
        have Z336 : n0 ≤ h326.size := (Nat.le_trans Z322 (Nat.le_of_eq W327.size.symm))
        have K337 := (K323.wr W327 (Or.inl (List.mem_of_getElem? (i := 0) rfl)))
        refine own_lload X325 d3_59 rfl rfl ?_
        refine own_aloadN X325 d3_61 rfl rfl rfl ?_
        refine own_getf X325 (hw _ (List.mem_of_getElem? (i := 27) rfl)) F331 d3_62 rfl (fun T338 X339 => ?_)
        refine own_lsub X339 d3_65 rfl ?_
        refine own_aloadN X339 d3_66 rfl rfl rfl ?_
        refine own_getf X339 (hw _ (List.mem_of_getElem? (i := 16) rfl)) F335 d3_67 rfl (fun T340 X341 => ?_)
        refine own_lcmp_gt X341 d3_70 rfl d3_71 (by decide) (pcT := 93) (by decide) rfl (fun hc342 => ?_) (fun hc342 => ?_)
        · skip
          refine own_iconst X341 (1 : Int32) d3_93 rfl (by decide) ?_
          refine own_goto X341 d3_94 (by decide) (pc' := 98) (by decide) ?_
          obtain rfl : nw = true := hnw.mpr (fun z => hc136 z.2)
          have e343 : own_bs true wb bl bs now = now := by simp [own_bs, hc286]
          refine own_retZ X341 rfl d3_98 rfl ⟨?_, K337, F329, F330, F331, F332, (own_eqF F333 (congrArg Value.long e343.symm)), F334, F335⟩ (by decide) (by decide)
          rw [e343]
          show some (Value.int (1 : Int32)) = some (.int (own_res rL (now - now) bl bL (now - now)))
          rw [own_res, if_pos hc342]
        · skip
          refine own_iloadN X341 d3_74 rfl rfl ?_
          refine own_if_eq X341 d3_75 (by decide) (pcT := 97) (by decide) rfl (fun hc => absurd hc hc286) (fun hc => ?_)
          refine own_lload X341 d3_78 rfl rfl ?_
          refine own_aloadN X341 d3_80 rfl rfl rfl ?_
          refine own_getf X341 (hw _ (List.mem_of_getElem? (i := 31) rfl)) F333 d3_81 rfl (fun T344 X345 => ?_)
          refine own_lsub X345 d3_84 rfl ?_
          refine own_aloadN X345 d3_85 rfl rfl rfl ?_
          refine own_getf X345 (hw _ (List.mem_of_getElem? (i := 14) rfl)) F334 d3_86 rfl (fun T346 X347 => ?_)
          refine own_lcmp_le X347 d3_89 rfl d3_90 (by decide) (pcT := 97) (by decide) rfl (fun hc348 => ?_) (fun hc348 => ?_)
          · skip
            refine own_iconst X347 (0 : Int32) d3_97 rfl (by decide) ?_
            obtain rfl : nw = true := hnw.mpr (fun z => hc136 z.2)
            have e349 : own_bs true wb bl bs now = now := by simp [own_bs, hc286]
            refine own_retZ X347 rfl d3_98 rfl ⟨?_, K337, F329, F330, F331, F332, (own_eqF F333 (congrArg Value.long e349.symm)), F334, F335⟩ (by decide) (by decide)
            rw [e349]
            show some (Value.int (0 : Int32)) = some (.int (own_res rL (now - now) bl bL (now - now)))
            rw [own_res, if_neg hc342, if_neg hc286, if_neg hc348]
          · skip
            refine own_iconst X347 (1 : Int32) d3_93 rfl (by decide) ?_
            refine own_goto X347 d3_94 (by decide) (pc' := 98) (by decide) ?_
            obtain rfl : nw = true := hnw.mpr (fun z => hc136 z.2)
            have e350 : own_bs true wb bl bs now = now := by simp [own_bs, hc286]
            refine own_retZ X347 rfl d3_98 rfl ⟨?_, K337, F329, F330, F331, F332, (own_eqF F333 (congrArg Value.long e350.symm)), F334, F335⟩ (by decide) (by decide)
            rw [e350]
            show some (Value.int (1 : Int32)) = some (.int (own_res rL (now - now) bl bL (now - now)))
            rw [own_res, if_neg hc342, if_neg hc286, if_pos hc348]
theorem own_pnlaw : plainFor x = true := by first | exact plainFor_of_name (by first | (simp [plainName, overriddenIn, x]; done) | decide +kernel) | decide +kernel
theorem own_eflaw (p1 : Int64) (p2 : Int64) (p3 : Int64) (p4 : Int32) (p5 : Int32) (p6 : Int32) (m : MethodId) : entryFrame m #[(.long p1), (.long p2), (.long p3), (.int p4), (.int p5), (.int p6)] maxLocals = mkF m 0 #[.val (.long p1), .second, .val (.long p2), .second, .val (.long p3), .second, .val (.int p4), .val (.int p5), .val (.int p6), .unset, .unset, .unset, .unset, .unset, .unset, .unset, .unset, .unset, .unset, .unset, .unset, .unset, .unset, .unset, .unset, .unset, .unset, .unset, .unset, .unset, .unset, .unset, .unset, .unset, .unset, .unset, .unset, .unset, .unset, .unset, .unset, .unset, .unset, .unset, .unset, .unset, .unset, .unset, .unset, .unset, .unset, .unset, .unset, .unset, .unset] [] := by
  first | (simp [entryFrame, mkF, argsToLocals, Value.category, maxLocals]; done) | rfl
set_option maxRecDepth 65536 in
set_option maxHeartbeats 40000000 in
theorem own_law (l : Launch) (Z : State) (a0 : Array Value) (hw : ∀ d ∈ tables_1, d.before a0 Z = true) (ws : List Jvm.Cond) (p1 : Int64) (p2 : Int64) (p3 : Int64) (p4 : Int32) (p5 : Int32) (p6 : Int32) (h0 : Heap) (n0 : Nat) (Z0 : n0 ≤ h0.size) :
    own_Met l Z x code maxLocals ret ws room_1 #[(.long p1), (.long p2), (.long p3), (.int p4), (.int p5), (.int p6)] h0 n0 (fun v _ => v = some (.int 1)) := by
  refine own_enter (own := "com/example/racewright/racewright/scheduler/WatchdogStuckPinLaw") (nm := "law") rfl rfl own_pnlaw (own_eflaw p1 p2 p3 p4 p5 p6) ?_
  intro p e s m below meth c T0 X0
  refine own_iload X0 at_0 rfl rfl ?_
  refine own_i2l X0 at_2 rfl ?_
  refine own_ldc2J X0 (v := (2147483647 : Int64)) at_3 rfl (hw _ (List.mem_of_getElem? (i := 0) rfl)) ?_
  refine own_land X0 at_6 rfl ?_
  refine own_lstore X0 (L' := #[.val (.long p1), .second, .val (.long p2), .second, .val (.long p3), .second, .val (.int p4), .val (.int p5), .val (.int p6), .val (.long ((p4.toInt64) &&& (2147483647 : Int64))), .second, .unset, .unset, .unset, .unset, .unset, .unset, .unset, .unset, .unset, .unset, .unset, .unset, .unset, .unset, .unset, .unset, .unset, .unset, .unset, .unset, .unset, .unset, .unset, .unset, .unset, .unset, .unset, .unset, .unset, .unset, .unset, .unset, .unset, .unset, .unset, .unset, .unset, .unset, .unset, .unset, .unset, .unset, .unset, .unset]) at_7 rfl rfl ?_
  refine own_iload X0 at_9 rfl rfl ?_
  refine own_i2l X0 at_11 rfl ?_
  refine own_ldc2J X0 (v := (2147483647 : Int64)) at_12 rfl (hw _ (List.mem_of_getElem? (i := 0) rfl)) ?_
  refine own_land X0 at_15 rfl ?_
  refine own_lstore X0 (L' := #[.val (.long p1), .second, .val (.long p2), .second, .val (.long p3), .second, .val (.int p4), .val (.int p5), .val (.int p6), .val (.long ((p4.toInt64) &&& (2147483647 : Int64))), .second, .val (.long ((p5.toInt64) &&& (2147483647 : Int64))), .second, .unset, .unset, .unset, .unset, .unset, .unset, .unset, .unset, .unset, .unset, .unset, .unset, .unset, .unset, .unset, .unset, .unset, .unset, .unset, .unset, .unset, .unset, .unset, .unset, .unset, .unset, .unset, .unset, .unset, .unset, .unset, .unset, .unset, .unset, .unset, .unset, .unset, .unset, .unset, .unset, .unset, .unset]) at_16 rfl rfl ?_
  suffices H18 : ∀ (u1 : Int64) (u2 : Int64), own_Fin p e below (own_End s n0 (fun v _ => v = some (.int 1)) room_1.cells room_1.slots) (T0.setTop (mkF m 18 #[.val (.long p1), .second, .val (.long p2), .second, .val (.long p3), .second, .val (.int p4), .val (.int p5), .val (.int p6), .val (.long u1), .second, .val (.long u2), .second, .unset, .unset, .unset, .unset, .unset, .unset, .unset, .unset, .unset, .unset, .unset, .unset, .unset, .unset, .unset, .unset, .unset, .unset, .unset, .unset, .unset, .unset, .unset, .unset, .unset, .unset, .unset, .unset, .unset, .unset, .unset, .unset, .unset, .unset, .unset, .unset, .unset, .unset, .unset, .unset, .unset, .unset] [])) from H18 _ _ 
  intro u1 u2
  refine own_iload X0 at_18 rfl rfl ?_
  refine own_iconst X0 (1 : Int32) at_20 rfl (by decide) ?_
  refine own_iand X0 at_21 rfl ?_
  suffices J30_4 : ∀ (z3 : Int32), z3 = (if (p6 &&& (1 : Int32)) = (0 : Int32) then (0 : Int32) else (1 : Int32)) → own_Fin p e below (own_End s n0 (fun v _ => v = some (.int 1)) room_1.cells room_1.slots) (T0.setTop (mkF m 30 #[.val (.long p1), .second, .val (.long p2), .second, .val (.long p3), .second, .val (.int p4), .val (.int p5), .val (.int p6), .val (.long u1), .second, .val (.long u2), .second, .unset, .unset, .unset, .unset, .unset, .unset, .unset, .unset, .unset, .unset, .unset, .unset, .unset, .unset, .unset, .unset, .unset, .unset, .unset, .unset, .unset, .unset, .unset, .unset, .unset, .unset, .unset, .unset, .unset, .unset, .unset, .unset, .unset, .unset, .unset, .unset, .unset, .unset, .unset, .unset, .unset, .unset] [(.int z3)])) by
    refine own_if_eq X0 at_22 (by decide) (pcT := 29) (by decide) rfl (fun hc5 => ?_) (fun hc5 => ?_)
    · skip
      refine own_iconst X0 (0 : Int32) at_29 rfl (by decide) ?_
      exact J30_4 _ (by rw [if_pos hc5])
    · skip
      refine own_iconst X0 (1 : Int32) at_25 rfl (by decide) ?_
      refine own_goto X0 at_26 (by decide) (pc' := 30) (by decide) ?_
      exact J30_4 _ (by rw [if_neg hc5])
  intro z3 hz3
  refine own_istore X0 (L' := #[.val (.long p1), .second, .val (.long p2), .second, .val (.long p3), .second, .val (.int p4), .val (.int p5), .val (.int p6), .val (.long u1), .second, .val (.long u2), .second, .val (.int z3), .unset, .unset, .unset, .unset, .unset, .unset, .unset, .unset, .unset, .unset, .unset, .unset, .unset, .unset, .unset, .unset, .unset, .unset, .unset, .unset, .unset, .unset, .unset, .unset, .unset, .unset, .unset, .unset, .unset, .unset, .unset, .unset, .unset, .unset, .unset, .unset, .unset, .unset, .unset, .unset, .unset]) at_30 rfl rfl ?_
  refine own_iload X0 at_32 rfl rfl ?_
  refine own_iconst X0 (2 : Int32) at_34 rfl (by decide) ?_
  refine own_iand X0 at_35 rfl ?_
  suffices J44_7 : ∀ (z6 : Int32), z6 = (if (p6 &&& (2 : Int32)) = (0 : Int32) then (0 : Int32) else (1 : Int32)) → own_Fin p e below (own_End s n0 (fun v _ => v = some (.int 1)) room_1.cells room_1.slots) (T0.setTop (mkF m 44 #[.val (.long p1), .second, .val (.long p2), .second, .val (.long p3), .second, .val (.int p4), .val (.int p5), .val (.int p6), .val (.long u1), .second, .val (.long u2), .second, .val (.int z3), .unset, .unset, .unset, .unset, .unset, .unset, .unset, .unset, .unset, .unset, .unset, .unset, .unset, .unset, .unset, .unset, .unset, .unset, .unset, .unset, .unset, .unset, .unset, .unset, .unset, .unset, .unset, .unset, .unset, .unset, .unset, .unset, .unset, .unset, .unset, .unset, .unset, .unset, .unset, .unset, .unset] [(.int z6)])) by
    refine own_if_eq X0 at_36 (by decide) (pcT := 43) (by decide) rfl (fun hc8 => ?_) (fun hc8 => ?_)
    · skip
      refine own_iconst X0 (0 : Int32) at_43 rfl (by decide) ?_
      exact J44_7 _ (by rw [if_pos hc8])
    · skip
      refine own_iconst X0 (1 : Int32) at_39 rfl (by decide) ?_
      refine own_goto X0 at_40 (by decide) (pc' := 44) (by decide) ?_
      exact J44_7 _ (by rw [if_neg hc8])
  intro z6 hz6
  refine own_istore X0 (L' := #[.val (.long p1), .second, .val (.long p2), .second, .val (.long p3), .second, .val (.int p4), .val (.int p5), .val (.int p6), .val (.long u1), .second, .val (.long u2), .second, .val (.int z3), .val (.int z6), .unset, .unset, .unset, .unset, .unset, .unset, .unset, .unset, .unset, .unset, .unset, .unset, .unset, .unset, .unset, .unset, .unset, .unset, .unset, .unset, .unset, .unset, .unset, .unset, .unset, .unset, .unset, .unset, .unset, .unset, .unset, .unset, .unset, .unset, .unset, .unset, .unset, .unset, .unset, .unset]) at_44 rfl rfl ?_
  refine own_iload X0 at_46 rfl rfl ?_
  refine own_iconst X0 (4 : Int32) at_48 rfl (by decide) ?_
  refine own_iand X0 at_49 rfl ?_
  suffices J58_10 : ∀ (z9 : Int32), z9 = (if (p6 &&& (4 : Int32)) = (0 : Int32) then (0 : Int32) else (1 : Int32)) → own_Fin p e below (own_End s n0 (fun v _ => v = some (.int 1)) room_1.cells room_1.slots) (T0.setTop (mkF m 58 #[.val (.long p1), .second, .val (.long p2), .second, .val (.long p3), .second, .val (.int p4), .val (.int p5), .val (.int p6), .val (.long u1), .second, .val (.long u2), .second, .val (.int z3), .val (.int z6), .unset, .unset, .unset, .unset, .unset, .unset, .unset, .unset, .unset, .unset, .unset, .unset, .unset, .unset, .unset, .unset, .unset, .unset, .unset, .unset, .unset, .unset, .unset, .unset, .unset, .unset, .unset, .unset, .unset, .unset, .unset, .unset, .unset, .unset, .unset, .unset, .unset, .unset, .unset, .unset] [(.int z9)])) by
    refine own_if_eq X0 at_50 (by decide) (pcT := 57) (by decide) rfl (fun hc11 => ?_) (fun hc11 => ?_)
    · skip
      refine own_iconst X0 (0 : Int32) at_57 rfl (by decide) ?_
      exact J58_10 _ (by rw [if_pos hc11])
    · skip
      refine own_iconst X0 (1 : Int32) at_53 rfl (by decide) ?_
      refine own_goto X0 at_54 (by decide) (pc' := 58) (by decide) ?_
      exact J58_10 _ (by rw [if_neg hc11])
  intro z9 hz9
  refine own_istore X0 (L' := #[.val (.long p1), .second, .val (.long p2), .second, .val (.long p3), .second, .val (.int p4), .val (.int p5), .val (.int p6), .val (.long u1), .second, .val (.long u2), .second, .val (.int z3), .val (.int z6), .val (.int z9), .unset, .unset, .unset, .unset, .unset, .unset, .unset, .unset, .unset, .unset, .unset, .unset, .unset, .unset, .unset, .unset, .unset, .unset, .unset, .unset, .unset, .unset, .unset, .unset, .unset, .unset, .unset, .unset, .unset, .unset, .unset, .unset, .unset, .unset, .unset, .unset, .unset, .unset, .unset]) at_58 rfl rfl ?_
  refine own_iload X0 at_60 rfl rfl ?_
  refine own_bipush X0 (8 : Int32) at_62 rfl (by decide) ?_
  refine own_iand X0 at_64 rfl ?_
  suffices J73_13 : ∀ (z12 : Int32), z12 = (if (p6 &&& (8 : Int32)) = (0 : Int32) then (0 : Int32) else (1 : Int32)) → own_Fin p e below (own_End s n0 (fun v _ => v = some (.int 1)) room_1.cells room_1.slots) (T0.setTop (mkF m 73 #[.val (.long p1), .second, .val (.long p2), .second, .val (.long p3), .second, .val (.int p4), .val (.int p5), .val (.int p6), .val (.long u1), .second, .val (.long u2), .second, .val (.int z3), .val (.int z6), .val (.int z9), .unset, .unset, .unset, .unset, .unset, .unset, .unset, .unset, .unset, .unset, .unset, .unset, .unset, .unset, .unset, .unset, .unset, .unset, .unset, .unset, .unset, .unset, .unset, .unset, .unset, .unset, .unset, .unset, .unset, .unset, .unset, .unset, .unset, .unset, .unset, .unset, .unset, .unset, .unset] [(.int z12)])) by
    refine own_if_eq X0 at_65 (by decide) (pcT := 72) (by decide) rfl (fun hc14 => ?_) (fun hc14 => ?_)
    · skip
      refine own_iconst X0 (0 : Int32) at_72 rfl (by decide) ?_
      exact J73_13 _ (by rw [if_pos hc14])
    · skip
      refine own_iconst X0 (1 : Int32) at_68 rfl (by decide) ?_
      refine own_goto X0 at_69 (by decide) (pc' := 73) (by decide) ?_
      exact J73_13 _ (by rw [if_neg hc14])
  intro z12 hz12
  refine own_istore X0 (L' := #[.val (.long p1), .second, .val (.long p2), .second, .val (.long p3), .second, .val (.int p4), .val (.int p5), .val (.int p6), .val (.long u1), .second, .val (.long u2), .second, .val (.int z3), .val (.int z6), .val (.int z9), .val (.int z12), .unset, .unset, .unset, .unset, .unset, .unset, .unset, .unset, .unset, .unset, .unset, .unset, .unset, .unset, .unset, .unset, .unset, .unset, .unset, .unset, .unset, .unset, .unset, .unset, .unset, .unset, .unset, .unset, .unset, .unset, .unset, .unset, .unset, .unset, .unset, .unset, .unset, .unset]) at_73 rfl rfl ?_
  refine own_iload X0 at_75 rfl rfl ?_
  refine own_bipush X0 (16 : Int32) at_77 rfl (by decide) ?_
  refine own_iand X0 at_79 rfl ?_
  suffices J88_16 : ∀ (z15 : Int32), z15 = (if (p6 &&& (16 : Int32)) = (0 : Int32) then (0 : Int32) else (1 : Int32)) → own_Fin p e below (own_End s n0 (fun v _ => v = some (.int 1)) room_1.cells room_1.slots) (T0.setTop (mkF m 88 #[.val (.long p1), .second, .val (.long p2), .second, .val (.long p3), .second, .val (.int p4), .val (.int p5), .val (.int p6), .val (.long u1), .second, .val (.long u2), .second, .val (.int z3), .val (.int z6), .val (.int z9), .val (.int z12), .unset, .unset, .unset, .unset, .unset, .unset, .unset, .unset, .unset, .unset, .unset, .unset, .unset, .unset, .unset, .unset, .unset, .unset, .unset, .unset, .unset, .unset, .unset, .unset, .unset, .unset, .unset, .unset, .unset, .unset, .unset, .unset, .unset, .unset, .unset, .unset, .unset, .unset] [(.int z15)])) by
    refine own_if_eq X0 at_80 (by decide) (pcT := 87) (by decide) rfl (fun hc17 => ?_) (fun hc17 => ?_)
    · skip
      refine own_iconst X0 (0 : Int32) at_87 rfl (by decide) ?_
      exact J88_16 _ (by rw [if_pos hc17])
    · skip
      refine own_iconst X0 (1 : Int32) at_83 rfl (by decide) ?_
      refine own_goto X0 at_84 (by decide) (pc' := 88) (by decide) ?_
      exact J88_16 _ (by rw [if_neg hc17])
  intro z15 hz15
  refine own_istore X0 (L' := #[.val (.long p1), .second, .val (.long p2), .second, .val (.long p3), .second, .val (.int p4), .val (.int p5), .val (.int p6), .val (.long u1), .second, .val (.long u2), .second, .val (.int z3), .val (.int z6), .val (.int z9), .val (.int z12), .val (.int z15), .unset, .unset, .unset, .unset, .unset, .unset, .unset, .unset, .unset, .unset, .unset, .unset, .unset, .unset, .unset, .unset, .unset, .unset, .unset, .unset, .unset, .unset, .unset, .unset, .unset, .unset, .unset, .unset, .unset, .unset, .unset, .unset, .unset, .unset, .unset, .unset, .unset]) at_88 rfl rfl ?_
  refine own_iload X0 at_90 rfl rfl ?_
  refine own_bipush X0 (32 : Int32) at_92 rfl (by decide) ?_
  refine own_iand X0 at_94 rfl ?_
  suffices J103_19 : ∀ (z18 : Int32), z18 = (if (p6 &&& (32 : Int32)) = (0 : Int32) then (0 : Int32) else (1 : Int32)) → own_Fin p e below (own_End s n0 (fun v _ => v = some (.int 1)) room_1.cells room_1.slots) (T0.setTop (mkF m 103 #[.val (.long p1), .second, .val (.long p2), .second, .val (.long p3), .second, .val (.int p4), .val (.int p5), .val (.int p6), .val (.long u1), .second, .val (.long u2), .second, .val (.int z3), .val (.int z6), .val (.int z9), .val (.int z12), .val (.int z15), .unset, .unset, .unset, .unset, .unset, .unset, .unset, .unset, .unset, .unset, .unset, .unset, .unset, .unset, .unset, .unset, .unset, .unset, .unset, .unset, .unset, .unset, .unset, .unset, .unset, .unset, .unset, .unset, .unset, .unset, .unset, .unset, .unset, .unset, .unset, .unset, .unset] [(.int z18)])) by
    refine own_if_eq X0 at_95 (by decide) (pcT := 102) (by decide) rfl (fun hc20 => ?_) (fun hc20 => ?_)
    · skip
      refine own_iconst X0 (0 : Int32) at_102 rfl (by decide) ?_
      exact J103_19 _ (by rw [if_pos hc20])
    · skip
      refine own_iconst X0 (1 : Int32) at_98 rfl (by decide) ?_
      refine own_goto X0 at_99 (by decide) (pc' := 103) (by decide) ?_
      exact J103_19 _ (by rw [if_neg hc20])
  intro z18 hz18
  refine own_istore X0 (L' := #[.val (.long p1), .second, .val (.long p2), .second, .val (.long p3), .second, .val (.int p4), .val (.int p5), .val (.int p6), .val (.long u1), .second, .val (.long u2), .second, .val (.int z3), .val (.int z6), .val (.int z9), .val (.int z12), .val (.int z15), .val (.int z18), .unset, .unset, .unset, .unset, .unset, .unset, .unset, .unset, .unset, .unset, .unset, .unset, .unset, .unset, .unset, .unset, .unset, .unset, .unset, .unset, .unset, .unset, .unset, .unset, .unset, .unset, .unset, .unset, .unset, .unset, .unset, .unset, .unset, .unset, .unset, .unset]) at_103 rfl rfl ?_
  refine own_iload X0 at_105 rfl rfl ?_
  refine own_bipush X0 (64 : Int32) at_107 rfl (by decide) ?_
  refine own_iand X0 at_109 rfl ?_
  suffices J118_22 : ∀ (z21 : Int32), z21 = (if (p6 &&& (64 : Int32)) = (0 : Int32) then (0 : Int32) else (1 : Int32)) → own_Fin p e below (own_End s n0 (fun v _ => v = some (.int 1)) room_1.cells room_1.slots) (T0.setTop (mkF m 118 #[.val (.long p1), .second, .val (.long p2), .second, .val (.long p3), .second, .val (.int p4), .val (.int p5), .val (.int p6), .val (.long u1), .second, .val (.long u2), .second, .val (.int z3), .val (.int z6), .val (.int z9), .val (.int z12), .val (.int z15), .val (.int z18), .unset, .unset, .unset, .unset, .unset, .unset, .unset, .unset, .unset, .unset, .unset, .unset, .unset, .unset, .unset, .unset, .unset, .unset, .unset, .unset, .unset, .unset, .unset, .unset, .unset, .unset, .unset, .unset, .unset, .unset, .unset, .unset, .unset, .unset, .unset, .unset] [(.int z21)])) by
    refine own_if_eq X0 at_110 (by decide) (pcT := 117) (by decide) rfl (fun hc23 => ?_) (fun hc23 => ?_)
    · skip
      refine own_iconst X0 (0 : Int32) at_117 rfl (by decide) ?_
      exact J118_22 _ (by rw [if_pos hc23])
    · skip
      refine own_iconst X0 (1 : Int32) at_113 rfl (by decide) ?_
      refine own_goto X0 at_114 (by decide) (pc' := 118) (by decide) ?_
      exact J118_22 _ (by rw [if_neg hc23])
  intro z21 hz21
  refine own_istore X0 (L' := #[.val (.long p1), .second, .val (.long p2), .second, .val (.long p3), .second, .val (.int p4), .val (.int p5), .val (.int p6), .val (.long u1), .second, .val (.long u2), .second, .val (.int z3), .val (.int z6), .val (.int z9), .val (.int z12), .val (.int z15), .val (.int z18), .val (.int z21), .unset, .unset, .unset, .unset, .unset, .unset, .unset, .unset, .unset, .unset, .unset, .unset, .unset, .unset, .unset, .unset, .unset, .unset, .unset, .unset, .unset, .unset, .unset, .unset, .unset, .unset, .unset, .unset, .unset, .unset, .unset, .unset, .unset, .unset, .unset]) at_118 rfl rfl ?_
  refine own_iload X0 at_120 rfl rfl ?_
  refine own_sipush X0 (128 : Int32) at_122 rfl (by decide) ?_
  refine own_iand X0 at_125 rfl ?_
  suffices J134_25 : ∀ (z24 : Int32), z24 = (if (p6 &&& (128 : Int32)) = (0 : Int32) then (0 : Int32) else (1 : Int32)) → own_Fin p e below (own_End s n0 (fun v _ => v = some (.int 1)) room_1.cells room_1.slots) (T0.setTop (mkF m 134 #[.val (.long p1), .second, .val (.long p2), .second, .val (.long p3), .second, .val (.int p4), .val (.int p5), .val (.int p6), .val (.long u1), .second, .val (.long u2), .second, .val (.int z3), .val (.int z6), .val (.int z9), .val (.int z12), .val (.int z15), .val (.int z18), .val (.int z21), .unset, .unset, .unset, .unset, .unset, .unset, .unset, .unset, .unset, .unset, .unset, .unset, .unset, .unset, .unset, .unset, .unset, .unset, .unset, .unset, .unset, .unset, .unset, .unset, .unset, .unset, .unset, .unset, .unset, .unset, .unset, .unset, .unset, .unset, .unset] [(.int z24)])) by
    refine own_if_eq X0 at_126 (by decide) (pcT := 133) (by decide) rfl (fun hc26 => ?_) (fun hc26 => ?_)
    · skip
      refine own_iconst X0 (0 : Int32) at_133 rfl (by decide) ?_
      exact J134_25 _ (by rw [if_pos hc26])
    · skip
      refine own_iconst X0 (1 : Int32) at_129 rfl (by decide) ?_
      refine own_goto X0 at_130 (by decide) (pc' := 134) (by decide) ?_
      exact J134_25 _ (by rw [if_neg hc26])
  intro z24 hz24
  refine own_istore X0 (L' := #[.val (.long p1), .second, .val (.long p2), .second, .val (.long p3), .second, .val (.int p4), .val (.int p5), .val (.int p6), .val (.long u1), .second, .val (.long u2), .second, .val (.int z3), .val (.int z6), .val (.int z9), .val (.int z12), .val (.int z15), .val (.int z18), .val (.int z21), .val (.int z24), .unset, .unset, .unset, .unset, .unset, .unset, .unset, .unset, .unset, .unset, .unset, .unset, .unset, .unset, .unset, .unset, .unset, .unset, .unset, .unset, .unset, .unset, .unset, .unset, .unset, .unset, .unset, .unset, .unset, .unset, .unset, .unset, .unset, .unset]) at_134 rfl rfl ?_
  refine own_new X0 (hw _ (List.mem_of_getElem? (i := 1) rfl)) (hw _ (List.mem_of_getElem? (i := 2) rfl)) (hw _ (List.mem_of_getElem? (i := 3) rfl)) at_136 rfl (cells' := 1) (slots' := 0) rfl rfl (by decide) (by decide) (fun T27 h29 a33 g34 X28 E30 A31 D32 => ?_)
  have ge_a33 : n0 ≤ a33 := Nat.le_trans Z0 (Nat.le_of_eq g34.symm)
  have Z35 : n0 ≤ h29.size := (Nat.le_trans Z0 E30.1)
  refine own_dup X28 at_139 rfl rfl ?_
  refine own_initO X28 (hw _ (List.mem_of_getElem? (i := 4) rfl)) (hw _ (List.mem_of_getElem? (i := 5) rfl)) (hw _ (List.mem_of_getElem? (i := 6) rfl)) at_140 rfl rfl (by decide) (W := 1) rfl (by decide) (fun T36 X37 => ?_)
  refine own_astore X37 (L' := #[.val (.long p1), .second, .val (.long p2), .second, .val (.long p3), .second, .val (.int p4), .val (.int p5), .val (.int p6), .val (.long u1), .second, .val (.long u2), .second, .val (.int z3), .val (.int z6), .val (.int z9), .val (.int z12), .val (.int z15), .val (.int z18), .val (.int z21), .val (.int z24), .val (.ref a33), .unset, .unset, .unset, .unset, .unset, .unset, .unset, .unset, .unset, .unset, .unset, .unset, .unset, .unset, .unset, .unset, .unset, .unset, .unset, .unset, .unset, .unset, .unset, .unset, .unset, .unset, .unset, .unset, .unset, .unset, .unset, .unset, .unset]) at_143 rfl rfl rfl ?_
  refine own_new X37 (hw _ (List.mem_of_getElem? (i := 1) rfl)) (hw _ (List.mem_of_getElem? (i := 2) rfl)) (hw _ (List.mem_of_getElem? (i := 3) rfl)) at_145 rfl (cells' := 2) (slots' := 0) rfl rfl (by decide) (by decide) (fun T38 h40 a44 g45 X39 E41 A42 D43 => ?_)
  have ge_a44 : n0 ≤ a44 := Nat.le_trans Z35 (Nat.le_of_eq g45.symm)
  have ne_a33_a44 : a33 ≠ a44 := Nat.ne_of_lt (g45 ▸ A31.lt)
  have F46 := (A31.ext E41)
  have Z47 : n0 ≤ h40.size := (Nat.le_trans Z35 E41.1)
  refine own_dup X39 at_148 rfl rfl ?_
  refine own_initO X39 (hw _ (List.mem_of_getElem? (i := 4) rfl)) (hw _ (List.mem_of_getElem? (i := 5) rfl)) (hw _ (List.mem_of_getElem? (i := 6) rfl)) at_149 rfl rfl (by decide) (W := 1) rfl (by decide) (fun T48 X49 => ?_)
  refine own_astore X49 (L' := #[.val (.long p1), .second, .val (.long p2), .second, .val (.long p3), .second, .val (.int p4), .val (.int p5), .val (.int p6), .val (.long u1), .second, .val (.long u2), .second, .val (.int z3), .val (.int z6), .val (.int z9), .val (.int z12), .val (.int z15), .val (.int z18), .val (.int z21), .val (.int z24), .val (.ref a33), .val (.ref a44), .unset, .unset, .unset, .unset, .unset, .unset, .unset, .unset, .unset, .unset, .unset, .unset, .unset, .unset, .unset, .unset, .unset, .unset, .unset, .unset, .unset, .unset, .unset, .unset, .unset, .unset, .unset, .unset, .unset, .unset, .unset, .unset]) at_152 rfl rfl rfl ?_
  refine own_iload X49 at_154 rfl rfl ?_
  suffices J166_51 : ∀ (z50 : Addr), z50 = (if z12 = (0 : Int32) then a33 else a44) → own_Fin p e below (own_End s n0 (fun v _ => v = some (.int 1)) room_1.cells room_1.slots) (T48.setTop (mkF m 166 #[.val (.long p1), .second, .val (.long p2), .second, .val (.long p3), .second, .val (.int p4), .val (.int p5), .val (.int p6), .val (.long u1), .second, .val (.long u2), .second, .val (.int z3), .val (.int z6), .val (.int z9), .val (.int z12), .val (.int z15), .val (.int z18), .val (.int z21), .val (.int z24), .val (.ref a33), .val (.ref a44), .unset, .unset, .unset, .unset, .unset, .unset, .unset, .unset, .unset, .unset, .unset, .unset, .unset, .unset, .unset, .unset, .unset, .unset, .unset, .unset, .unset, .unset, .unset, .unset, .unset, .unset, .unset, .unset, .unset, .unset, .unset, .unset] [(.ref z50)])) by
    refine own_if_eq X49 at_156 (by decide) (pcT := 164) (by decide) rfl (fun hc52 => ?_) (fun hc52 => ?_)
    · skip
      refine own_aload X49 at_164 rfl rfl rfl ?_
      exact J166_51 _ (by rw [if_pos hc52])
    · skip
      refine own_aload X49 at_159 rfl rfl rfl ?_
      refine own_goto X49 at_161 (by decide) (pc' := 166) (by decide) ?_
      exact J166_51 _ (by rw [if_neg hc52])
  intro z50 hz50
  refine own_astore X49 (L' := #[.val (.long p1), .second, .val (.long p2), .second, .val (.long p3), .second, .val (.int p4), .val (.int p5), .val (.int p6), .val (.long u1), .second, .val (.long u2), .second, .val (.int z3), .val (.int z6), .val (.int z9), .val (.int z12), .val (.int z15), .val (.int z18), .val (.int z21), .val (.int z24), .val (.ref a33), .val (.ref a44), .val (.ref z50), .unset, .unset, .unset, .unset, .unset, .unset, .unset, .unset, .unset, .unset, .unset, .unset, .unset, .unset, .unset, .unset, .unset, .unset, .unset, .unset, .unset, .unset, .unset, .unset, .unset, .unset, .unset, .unset, .unset, .unset, .unset]) at_166 rfl rfl rfl ?_
  refine own_iload X49 at_168 rfl rfl ?_
  suffices J180_54 : ∀ (z53 : Addr), z53 = (if z15 = (0 : Int32) then a33 else a44) → own_Fin p e below (own_End s n0 (fun v _ => v = some (.int 1)) room_1.cells room_1.slots) (T48.setTop (mkF m 180 #[.val (.long p1), .second, .val (.long p2), .second, .val (.long p3), .second, .val (.int p4), .val (.int p5), .val (.int p6), .val (.long u1), .second, .val (.long u2), .second, .val (.int z3), .val (.int z6), .val (.int z9), .val (.int z12), .val (.int z15), .val (.int z18), .val (.int z21), .val (.int z24), .val (.ref a33), .val (.ref a44), .val (.ref z50), .unset, .unset, .unset, .unset, .unset, .unset, .unset, .unset, .unset, .unset, .unset, .unset, .unset, .unset, .unset, .unset, .unset, .unset, .unset, .unset, .unset, .unset, .unset, .unset, .unset, .unset, .unset, .unset, .unset, .unset, .unset] [(.ref z53)])) by
    refine own_if_eq X49 at_170 (by decide) (pcT := 178) (by decide) rfl (fun hc55 => ?_) (fun hc55 => ?_)
    · skip
      refine own_aload X49 at_178 rfl rfl rfl ?_
      exact J180_54 _ (by rw [if_pos hc55])
    · skip
      refine own_aload X49 at_173 rfl rfl rfl ?_
      refine own_goto X49 at_175 (by decide) (pc' := 180) (by decide) ?_
      exact J180_54 _ (by rw [if_neg hc55])
  intro z53 hz53
  refine own_astore X49 (L' := #[.val (.long p1), .second, .val (.long p2), .second, .val (.long p3), .second, .val (.int p4), .val (.int p5), .val (.int p6), .val (.long u1), .second, .val (.long u2), .second, .val (.int z3), .val (.int z6), .val (.int z9), .val (.int z12), .val (.int z15), .val (.int z18), .val (.int z21), .val (.int z24), .val (.ref a33), .val (.ref a44), .val (.ref z50), .val (.ref z53), .unset, .unset, .unset, .unset, .unset, .unset, .unset, .unset, .unset, .unset, .unset, .unset, .unset, .unset, .unset, .unset, .unset, .unset, .unset, .unset, .unset, .unset, .unset, .unset, .unset, .unset, .unset, .unset, .unset, .unset]) at_180 rfl rfl rfl ?_
  refine own_iload X49 at_182 rfl rfl ?_
  refine own_bipush X49 (8 : Int32) at_184 rfl (by decide) ?_
  refine own_ishr X49 at_186 rfl ?_
  refine own_istore X49 (L' := #[.val (.long p1), .second, .val (.long p2), .second, .val (.long p3), .second, .val (.int p4), .val (.int p5), .val (.int p6), .val (.long u1), .second, .val (.long u2), .second, .val (.int z3), .val (.int z6), .val (.int z9), .val (.int z12), .val (.int z15), .val (.int z18), .val (.int z21), .val (.int z24), .val (.ref a33), .val (.ref a44), .val (.ref z50), .val (.ref z53), .val (.int (p6 >>> ((8 : Int32) &&& 31))), .unset, .unset, .unset, .unset, .unset, .unset, .unset, .unset, .unset, .unset, .unset, .unset, .unset, .unset, .unset, .unset, .unset, .unset, .unset, .unset, .unset, .unset, .unset, .unset, .unset, .unset, .unset, .unset, .unset]) at_187 rfl rfl ?_
  suffices H189 : ∀ (u56 : Int32), own_Fin p e below (own_End s n0 (fun v _ => v = some (.int 1)) room_1.cells room_1.slots) (T48.setTop (mkF m 189 #[.val (.long p1), .second, .val (.long p2), .second, .val (.long p3), .second, .val (.int p4), .val (.int p5), .val (.int p6), .val (.long u1), .second, .val (.long u2), .second, .val (.int z3), .val (.int z6), .val (.int z9), .val (.int z12), .val (.int z15), .val (.int z18), .val (.int z21), .val (.int z24), .val (.ref a33), .val (.ref a44), .val (.ref z50), .val (.ref z53), .val (.int u56), .unset, .unset, .unset, .unset, .unset, .unset, .unset, .unset, .unset, .unset, .unset, .unset, .unset, .unset, .unset, .unset, .unset, .unset, .unset, .unset, .unset, .unset, .unset, .unset, .unset, .unset, .unset, .unset, .unset] [])) from H189 _ 
  intro u56
  refine own_iload X49 at_189 rfl rfl ?_
  suffices J203_58 : ∀ (z57 : Int32), z57 = (if z18 = (0 : Int32) then u56 else (u56 + (1 : Int32))) → own_Fin p e below (own_End s n0 (fun v _ => v = some (.int 1)) room_1.cells room_1.slots) (T48.setTop (mkF m 203 #[.val (.long p1), .second, .val (.long p2), .second, .val (.long p3), .second, .val (.int p4), .val (.int p5), .val (.int p6), .val (.long u1), .second, .val (.long u2), .second, .val (.int z3), .val (.int z6), .val (.int z9), .val (.int z12), .val (.int z15), .val (.int z18), .val (.int z21), .val (.int z24), .val (.ref a33), .val (.ref a44), .val (.ref z50), .val (.ref z53), .val (.int u56), .unset, .unset, .unset, .unset, .unset, .unset, .unset, .unset, .unset, .unset, .unset, .unset, .unset, .unset, .unset, .unset, .unset, .unset, .unset, .unset, .unset, .unset, .unset, .unset, .unset, .unset, .unset, .unset, .unset] [(.int z57)])) by
    refine own_if_eq X49 at_191 (by decide) (pcT := 201) (by decide) rfl (fun hc59 => ?_) (fun hc59 => ?_)
    · skip
      refine own_iload X49 at_201 rfl rfl ?_
      exact J203_58 _ (by rw [if_pos hc59])
    · skip
      refine own_iload X49 at_194 rfl rfl ?_
      refine own_iconst X49 (1 : Int32) at_196 rfl (by decide) ?_
      refine own_iadd X49 at_197 rfl ?_
      refine own_goto X49 at_198 (by decide) (pc' := 203) (by decide) ?_
      exact J203_58 _ (by rw [if_neg hc59])
  intro z57 hz57
  refine own_istore X49 (L' := #[.val (.long p1), .second, .val (.long p2), .second, .val (.long p3), .second, .val (.int p4), .val (.int p5), .val (.int p6), .val (.long u1), .second, .val (.long u2), .second, .val (.int z3), .val (.int z6), .val (.int z9), .val (.int z12), .val (.int z15), .val (.int z18), .val (.int z21), .val (.int z24), .val (.ref a33), .val (.ref a44), .val (.ref z50), .val (.ref z53), .val (.int u56), .val (.int z57), .unset, .unset, .unset, .unset, .unset, .unset, .unset, .unset, .unset, .unset, .unset, .unset, .unset, .unset, .unset, .unset, .unset, .unset, .unset, .unset, .unset, .unset, .unset, .unset, .unset, .unset, .unset, .unset]) at_203 rfl rfl ?_
  refine own_iload X49 at_205 rfl rfl ?_
  suffices J219_61 : ∀ (z60 : Int32), z60 = (if z21 = (0 : Int32) then z57 else (z57 + (1 : Int32))) → own_Fin p e below (own_End s n0 (fun v _ => v = some (.int 1)) room_1.cells room_1.slots) (T48.setTop (mkF m 219 #[.val (.long p1), .second, .val (.long p2), .second, .val (.long p3), .second, .val (.int p4), .val (.int p5), .val (.int p6), .val (.long u1), .second, .val (.long u2), .second, .val (.int z3), .val (.int z6), .val (.int z9), .val (.int z12), .val (.int z15), .val (.int z18), .val (.int z21), .val (.int z24), .val (.ref a33), .val (.ref a44), .val (.ref z50), .val (.ref z53), .val (.int u56), .val (.int z57), .unset, .unset, .unset, .unset, .unset, .unset, .unset, .unset, .unset, .unset, .unset, .unset, .unset, .unset, .unset, .unset, .unset, .unset, .unset, .unset, .unset, .unset, .unset, .unset, .unset, .unset, .unset, .unset] [(.int z60)])) by
    refine own_if_eq X49 at_207 (by decide) (pcT := 217) (by decide) rfl (fun hc62 => ?_) (fun hc62 => ?_)
    · skip
      refine own_iload X49 at_217 rfl rfl ?_
      exact J219_61 _ (by rw [if_pos hc62])
    · skip
      refine own_iload X49 at_210 rfl rfl ?_
      refine own_iconst X49 (1 : Int32) at_212 rfl (by decide) ?_
      refine own_iadd X49 at_213 rfl ?_
      refine own_goto X49 at_214 (by decide) (pc' := 219) (by decide) ?_
      exact J219_61 _ (by rw [if_neg hc62])
  intro z60 hz60
  refine own_istore X49 (L' := #[.val (.long p1), .second, .val (.long p2), .second, .val (.long p3), .second, .val (.int p4), .val (.int p5), .val (.int p6), .val (.long u1), .second, .val (.long u2), .second, .val (.int z3), .val (.int z6), .val (.int z9), .val (.int z12), .val (.int z15), .val (.int z18), .val (.int z21), .val (.int z24), .val (.ref a33), .val (.ref a44), .val (.ref z50), .val (.ref z53), .val (.int u56), .val (.int z57), .val (.int z60), .unset, .unset, .unset, .unset, .unset, .unset, .unset, .unset, .unset, .unset, .unset, .unset, .unset, .unset, .unset, .unset, .unset, .unset, .unset, .unset, .unset, .unset, .unset, .unset, .unset, .unset, .unset]) at_219 rfl rfl ?_
  refine own_lload X49 at_221 rfl rfl ?_
  refine own_lstore X49 (L' := #[.val (.long p1), .second, .val (.long p2), .second, .val (.long p3), .second, .val (.int p4), .val (.int p5), .val (.int p6), .val (.long u1), .second, .val (.long u2), .second, .val (.int z3), .val (.int z6), .val (.int z9), .val (.int z12), .val (.int z15), .val (.int z18), .val (.int z21), .val (.int z24), .val (.ref a33), .val (.ref a44), .val (.ref z50), .val (.ref z53), .val (.int u56), .val (.int z57), .val (.int z60), .val (.long p3), .second, .unset, .unset, .unset, .unset, .unset, .unset, .unset, .unset, .unset, .unset, .unset, .unset, .unset, .unset, .unset, .unset, .unset, .unset, .unset, .unset, .unset, .unset, .unset, .unset, .unset]) at_223 rfl rfl ?_
  refine own_lload X49 at_225 rfl rfl ?_
  refine own_lload X49 at_227 rfl rfl ?_
  refine own_ladd X49 at_229 rfl ?_
  refine own_lstore X49 (L' := #[.val (.long p1), .second, .val (.long p2), .second, .val (.long p3), .second, .val (.int p4), .val (.int p5), .val (.int p6), .val (.long u1), .second, .val (.long u2), .second, .val (.int z3), .val (.int z6), .val (.int z9), .val (.int z12), .val (.int z15), .val (.int z18), .val (.int z21), .val (.int z24), .val (.ref a33), .val (.ref a44), .val (.ref z50), .val (.ref z53), .val (.int u56), .val (.int z57), .val (.int z60), .val (.long p3), .second, .val (.long (p3 + u1)), .second, .unset, .unset, .unset, .unset, .unset, .unset, .unset, .unset, .unset, .unset, .unset, .unset, .unset, .unset, .unset, .unset, .unset, .unset, .unset, .unset, .unset, .unset, .unset]) at_230 rfl rfl ?_
  refine own_lload X49 at_232 rfl rfl ?_
  refine own_lload X49 at_234 rfl rfl ?_
  refine own_ladd X49 at_236 rfl ?_
  refine own_lstore X49 (L' := #[.val (.long p1), .second, .val (.long p2), .second, .val (.long p3), .second, .val (.int p4), .val (.int p5), .val (.int p6), .val (.long u1), .second, .val (.long u2), .second, .val (.int z3), .val (.int z6), .val (.int z9), .val (.int z12), .val (.int z15), .val (.int z18), .val (.int z21), .val (.int z24), .val (.ref a33), .val (.ref a44), .val (.ref z50), .val (.ref z53), .val (.int u56), .val (.int z57), .val (.int z60), .val (.long p3), .second, .val (.long (p3 + u1)), .second, .val (.long ((p3 + u1) + u2)), .second, .unset, .unset, .unset, .unset, .unset, .unset, .unset, .unset, .unset, .unset, .unset, .unset, .unset, .unset, .unset, .unset, .unset, .unset, .unset, .unset, .unset]) at_237 rfl rfl ?_
  refine own_new X49 (hw _ (List.mem_of_getElem? (i := 7) rfl)) (hw _ (List.mem_of_getElem? (i := 8) rfl)) (hw _ (List.mem_of_getElem? (i := 9) rfl)) at_239 rfl (cells' := 3) (slots' := 7) rfl rfl (by decide) (by decide) (fun T63 h65 a69 g70 X64 E66 A67 D68 => ?_)
  have ge_a69 : n0 ≤ a69 := Nat.le_trans Z47 (Nat.le_of_eq g70.symm)
  have ne_a33_a69 : a33 ≠ a69 := Nat.ne_of_lt (g70 ▸ F46.lt)
  have ne_a44_a69 : a44 ≠ a69 := Nat.ne_of_lt (g70 ▸ A42.lt)
  have F71 := D68 (Or.inr (hw _ (List.mem_of_getElem? (i := 15) rfl))) (ty := .long) (by decide)
  replace F71 : Fld Z h65 a69 "com/example/racewright/racewright/scheduler/Watchdog" "blockedLimit" "J" (.long (0 : Int64)) := F71
  have F72 := D68 (Or.inr (hw _ (List.mem_of_getElem? (i := 17) rfl))) (ty := .long) (by decide)
  replace F72 : Fld Z h65 a69 "com/example/racewright/racewright/scheduler/Watchdog" "runningLimit" "J" (.long (0 : Int64)) := F72
  have F73 := D68 (Or.inl (hw _ (List.mem_of_getElem? (i := 24) rfl))) (ty := (.object "java/lang/Object")) (by decide)
  replace F73 : Fld Z h65 a69 "com/example/racewright/racewright/scheduler/Watchdog" "awaited" "Ljava/lang/Object;" (.null) := F73
  have F74 := D68 (Or.inl (hw _ (List.mem_of_getElem? (i := 26) rfl))) (ty := .int) (by decide)
  replace F74 : Fld Z h65 a69 "com/example/racewright/racewright/scheduler/Watchdog" "changesSeen" "I" (.int (0 : Int32)) := F74
  have F75 := D68 (Or.inl (hw _ (List.mem_of_getElem? (i := 28) rfl))) (ty := .long) (by decide)
  replace F75 : Fld Z h65 a69 "com/example/racewright/racewright/scheduler/Watchdog" "since" "J" (.long (0 : Int64)) := F75
  have F76 := D68 (Or.inl (hw _ (List.mem_of_getElem? (i := 30) rfl))) (ty := .boolean) (by decide)
  replace F76 : Fld Z h65 a69 "com/example/racewright/racewright/scheduler/Watchdog" "wasBlocked" "Z" (.int (0 : Int32)) := F76
  have F77 := D68 (Or.inl (hw _ (List.mem_of_getElem? (i := 32) rfl))) (ty := .long) (by decide)
  replace F77 : Fld Z h65 a69 "com/example/racewright/racewright/scheduler/Watchdog" "blockedSince" "J" (.long (0 : Int64)) := F77
  have F78 := (F46.ext E66)
  have F79 := (A42.ext E66)
  have Z80 : n0 ≤ h65.size := (Nat.le_trans Z47 E66.1)
  refine own_dup X64 at_242 rfl rfl ?_
  refine own_lloadN X64 at_243 rfl rfl ?_
  refine own_lloadN X64 at_244 rfl rfl ?_
  refine own_callI X64 rfl (hw _ (List.mem_of_getElem? (i := 10) rfl)) (hw _ (List.mem_of_getElem? (i := 11) rfl)) (hw _ (List.mem_of_getElem? (i := 9) rfl)) (hw _ (List.mem_of_getElem? (i := 12) rfl)) (by decide) (a := a69) (argsL := [(.long p1), (.long p2)]) (rest := [(.ref a69)]) (own_m1 l Z a0 hw [] a69 p1 p2 _ _ Z80 A67 F73 F74 F75 F76 F77 F71 F72 ge_a69) (pd_2) rfl at_245 rfl rfl rfl (W := 1) rfl (by decide) (by decide) (cells' := 3) (slots' := 7) rfl rfl (by decide) (by decide) (fun v T89 h91 X90 q92 => ?_)
  obtain ⟨rfl, K88, F81, F82, F83, F84, F85, F86, F87⟩ := q92
  show own_Fin p e below (own_End s n0 (fun v _ => v = some (.int 1)) room_1.cells room_1.slots) (T89.setTop (mkF m 248 #[.val (.long p1), .second, .val (.long p2), .second, .val (.long p3), .second, .val (.int p4), .val (.int p5), .val (.int p6), .val (.long u1), .second, .val (.long u2), .second, .val (.int z3), .val (.int z6), .val (.int z9), .val (.int z12), .val (.int z15), .val (.int z18), .val (.int z21), .val (.int z24), .val (.ref a33), .val (.ref a44), .val (.ref z50), .val (.ref z53), .val (.int u56), .val (.int z57), .val (.int z60), .val (.long p3), .second, .val (.long (p3 + u1)), .second, .val (.long ((p3 + u1) + u2)), .second, .unset, .unset, .unset, .unset, .unset, .unset, .unset, .unset, .unset, .unset, .unset, .unset, .unset, .unset, .unset, .unset, .unset, .unset, .unset, .unset, .unset] [(.ref a69)]))
  have F93 := (F78.keep K88)
  have F94 := (F79.keep K88)
  have F95 := (A67.keep K88)
  have Z96 : n0 ≤ h91.size := (Nat.le_trans Z80 K88.1)
  refine own_astore X90 (L' := #[.val (.long p1), .second, .val (.long p2), .second, .val (.long p3), .second, .val (.int p4), .val (.int p5), .val (.int p6), .val (.long u1), .second, .val (.long u2), .second, .val (.int z3), .val (.int z6), .val (.int z9), .val (.int z12), .val (.int z15), .val (.int z18), .val (.int z21), .val (.int z24), .val (.ref a33), .val (.ref a44), .val (.ref z50), .val (.ref z53), .val (.int u56), .val (.int z57), .val (.int z60), .val (.long p3), .second, .val (.long (p3 + u1)), .second, .val (.long ((p3 + u1) + u2)), .second, .val (.ref a69), .unset, .unset, .unset, .unset, .unset, .unset, .unset, .unset, .unset, .unset, .unset, .unset, .unset, .unset, .unset, .unset, .unset, .unset, .unset, .unset]) at_248 rfl rfl rfl ?_
  refine own_aload X90 at_250 rfl rfl rfl ?_
  refine own_aload X90 at_252 rfl rfl rfl ?_
  refine own_iload X90 at_254 rfl rfl ?_
  refine own_iload X90 at_256 rfl rfl ?_
  refine own_lload X90 at_258 rfl rfl ?_
  refine own_callV X90 (hw _ (List.mem_of_getElem? (i := 18) rfl)) (hw _ (List.mem_of_getElem? (i := 19) rfl)) (hw _ (List.mem_of_getElem? (i := 21) rfl)) (hw _ (List.mem_of_getElem? (i := 20) rfl)) (hw _ (List.mem_of_getElem? (i := 9) rfl)) (hw _ (List.mem_of_getElem? (i := 22) rfl)) (by decide) (a := a69) (argsL := [(.ref a33), (.int u56), (.int z3), (.long p3)]) (rest := []) (own_m3 l Z a0 hw [] a69 a33 u56 z3 p3 .null (0 : Int32) (0 : Int64) (0 : Int32) (0 : Int64) p1 p2 true _ _ Z96 F95 F81 F82 F83 F84 F85 F86 F87 ge_a69 rfl (own_b01 hz3).1 (own_b01 hz3).2 (own_nw1 _ _ _)) F95 (pd_3) rfl at_260 rfl rfl rfl (W := 0) rfl (by decide) (by decide) (cells' := 3) (slots' := 7) rfl rfl (by decide) (by decide) (fun v T105 h107 X106 q108 => ?_)
  obtain ⟨rfl, K104, F97, F98, F99, F100, F101, F102, F103⟩ := q108
  show own_Fin p e below (own_End s n0 (fun v _ => v = some (.int 1)) room_1.cells room_1.slots) (T105.setTop (mkF m 263 #[.val (.long p1), .second, .val (.long p2), .second, .val (.long p3), .second, .val (.int p4), .val (.int p5), .val (.int p6), .val (.long u1), .second, .val (.long u2), .second, .val (.int z3), .val (.int z6), .val (.int z9), .val (.int z12), .val (.int z15), .val (.int z18), .val (.int z21), .val (.int z24), .val (.ref a33), .val (.ref a44), .val (.ref z50), .val (.ref z53), .val (.int u56), .val (.int z57), .val (.int z60), .val (.long p3), .second, .val (.long (p3 + u1)), .second, .val (.long ((p3 + u1) + u2)), .second, .val (.ref a69), .unset, .unset, .unset, .unset, .unset, .unset, .unset, .unset, .unset, .unset, .unset, .unset, .unset, .unset, .unset, .unset, .unset, .unset, .unset, .unset] [(.int (own_res p2 (p3 - (own_si true (0 : Int64) p3)) z3 p1 (p3 - (own_bs true (0 : Int32) z3 (0 : Int64) p3))))]))
  have F109 := (F93.keep K104)
  have F110 := (F94.keep K104)
  have F111 := (F95.keep K104)
  have Z112 : n0 ≤ h107.size := (Nat.le_trans Z96 K104.1)
  refine own_istore X106 (L' := #[.val (.long p1), .second, .val (.long p2), .second, .val (.long p3), .second, .val (.int p4), .val (.int p5), .val (.int p6), .val (.long u1), .second, .val (.long u2), .second, .val (.int z3), .val (.int z6), .val (.int z9), .val (.int z12), .val (.int z15), .val (.int z18), .val (.int z21), .val (.int z24), .val (.ref a33), .val (.ref a44), .val (.ref z50), .val (.ref z53), .val (.int u56), .val (.int z57), .val (.int z60), .val (.long p3), .second, .val (.long (p3 + u1)), .second, .val (.long ((p3 + u1) + u2)), .second, .val (.ref a69), .val (.int (own_res p2 (p3 - (own_si true (0 : Int64) p3)) z3 p1 (p3 - (own_bs true (0 : Int32) z3 (0 : Int64) p3)))), .unset, .unset, .unset, .unset, .unset, .unset, .unset, .unset, .unset, .unset, .unset, .unset, .unset, .unset, .unset, .unset, .unset, .unset, .unset]) at_263 rfl rfl ?_
  refine own_aload X106 at_265 rfl rfl rfl ?_
  refine own_aload X106 at_267 rfl rfl rfl ?_
  refine own_iload X106 at_269 rfl rfl ?_
  refine own_iload X106 at_271 rfl rfl ?_
  refine own_lload X106 at_273 rfl rfl ?_
  refine own_callV X106 (hw _ (List.mem_of_getElem? (i := 18) rfl)) (hw _ (List.mem_of_getElem? (i := 19) rfl)) (hw _ (List.mem_of_getElem? (i := 21) rfl)) (hw _ (List.mem_of_getElem? (i := 20) rfl)) (hw _ (List.mem_of_getElem? (i := 9) rfl)) (hw _ (List.mem_of_getElem? (i := 22) rfl)) (by decide) (a := a69) (argsL := [(.ref z50), (.int z57), (.int z6), (.long (p3 + u1))]) (rest := []) (own_m3 l Z a0 hw [] a69 z50 z57 z6 (p3 + u1) (.ref a33) u56 (own_si true (0 : Int64) p3) z3 (own_bs true (0 : Int32) z3 (0 : Int64) p3) p1 p2 (decide (¬ z12 = 0 ∨ ¬ z18 = 0)) _ _ Z112 F111 F97 F98 F99 F100 F101 F102 F103 ge_a69 rfl (own_b01 hz6).1 (own_b01 hz6).2 (own_nw2 ne_a33_a44 hz50 hz57)) F111 (pd_3) rfl at_275 rfl rfl rfl (W := 0) rfl (by decide) (by decide) (cells' := 3) (slots' := 7) rfl rfl (by decide) (by decide) (fun v T121 h123 X122 q124 => ?_)
  obtain ⟨rfl, K120, F113, F114, F115, F116, F117, F118, F119⟩ := q124
  show own_Fin p e below (own_End s n0 (fun v _ => v = some (.int 1)) room_1.cells room_1.slots) (T121.setTop (mkF m 278 #[.val (.long p1), .second, .val (.long p2), .second, .val (.long p3), .second, .val (.int p4), .val (.int p5), .val (.int p6), .val (.long u1), .second, .val (.long u2), .second, .val (.int z3), .val (.int z6), .val (.int z9), .val (.int z12), .val (.int z15), .val (.int z18), .val (.int z21), .val (.int z24), .val (.ref a33), .val (.ref a44), .val (.ref z50), .val (.ref z53), .val (.int u56), .val (.int z57), .val (.int z60), .val (.long p3), .second, .val (.long (p3 + u1)), .second, .val (.long ((p3 + u1) + u2)), .second, .val (.ref a69), .val (.int (own_res p2 (p3 - (own_si true (0 : Int64) p3)) z3 p1 (p3 - (own_bs true (0 : Int32) z3 (0 : Int64) p3)))), .unset, .unset, .unset, .unset, .unset, .unset, .unset, .unset, .unset, .unset, .unset, .unset, .unset, .unset, .unset, .unset, .unset, .unset, .unset] [(.int (own_res p2 ((p3 + u1) - (own_si (decide (¬ z12 = 0 ∨ ¬ z18 = 0)) (own_si true (0 : Int64) p3) (p3 + u1))) z6 p1 ((p3 + u1) - (own_bs (decide (¬ z12 = 0 ∨ ¬ z18 = 0)) z3 z6 (own_bs true (0 : Int32) z3 (0 : Int64) p3) (p3 + u1)))))]))
  have F125 := (F109.keep K120)
  have F126 := (F110.keep K120)
  have F127 := (F111.keep K120)
  have Z128 : n0 ≤ h123.size := (Nat.le_trans Z112 K120.1)
  refine own_istore X122 (L' := #[.val (.long p1), .second, .val (.long p2), .second, .val (.long p3), .second, .val (.int p4), .val (.int p5), .val (.int p6), .val (.long u1), .second, .val (.long u2), .second, .val (.int z3), .val (.int z6), .val (.int z9), .val (.int z12), .val (.int z15), .val (.int z18), .val (.int z21), .val (.int z24), .val (.ref a33), .val (.ref a44), .val (.ref z50), .val (.ref z53), .val (.int u56), .val (.int z57), .val (.int z60), .val (.long p3), .second, .val (.long (p3 + u1)), .second, .val (.long ((p3 + u1) + u2)), .second, .val (.ref a69), .val (.int (own_res p2 (p3 - (own_si true (0 : Int64) p3)) z3 p1 (p3 - (own_bs true (0 : Int32) z3 (0 : Int64) p3)))), .val (.int (own_res p2 ((p3 + u1) - (own_si (decide (¬ z12 = 0 ∨ ¬ z18 = 0)) (own_si true (0 : Int64) p3) (p3 + u1))) z6 p1 ((p3 + u1) - (own_bs (decide (¬ z12 = 0 ∨ ¬ z18 = 0)) z3 z6 (own_bs true (0 : Int32) z3 (0 : Int64) p3) (p3 + u1))))), .unset, .unset, .unset, .unset, .unset, .unset, .unset, .unset, .unset, .unset, .unset, .unset, .unset, .unset, .unset, .unset, .unset, .unset]) at_278 rfl rfl ?_
  refine own_iload X122 at_280 rfl rfl ?_
  refine own_if_eq X122 at_282 (by decide) (pcT := 290) (by decide) rfl (fun hc129 => ?_) (fun hc129 => ?_)
  · skip
    refine own_aload X122 at_290 rfl rfl rfl ?_
    refine own_aload X122 at_292 rfl rfl rfl ?_
    refine own_iload X122 at_294 rfl rfl ?_
    refine own_iload X122 at_296 rfl rfl ?_
    refine own_lload X122 at_298 rfl rfl ?_
    refine own_callV X122 (hw _ (List.mem_of_getElem? (i := 18) rfl)) (hw _ (List.mem_of_getElem? (i := 19) rfl)) (hw _ (List.mem_of_getElem? (i := 21) rfl)) (hw _ (List.mem_of_getElem? (i := 20) rfl)) (hw _ (List.mem_of_getElem? (i := 9) rfl)) (hw _ (List.mem_of_getElem? (i := 22) rfl)) (by decide) (a := a69) (argsL := [(.ref z53), (.int z60), (.int z9), (.long ((p3 + u1) + u2))]) (rest := []) (own_m3 l Z a0 hw [] a69 z53 z60 z9 ((p3 + u1) + u2) (.ref z50) z57 (own_si (decide (¬ z12 = 0 ∨ ¬ z18 = 0)) (own_si true (0 : Int64) p3) (p3 + u1)) z6 (own_bs (decide (¬ z12 = 0 ∨ ¬ z18 = 0)) z3 z6 (own_bs true (0 : Int32) z3 (0 : Int64) p3) (p3 + u1)) p1 p2 (decide (¬ z12 = z15 ∨ ¬ z21 = 0)) _ _ Z128 F127 F113 F114 F115 F116 F117 F118 F119 ge_a69 rfl (own_b01 hz9).1 (own_b01 hz9).2 (own_nw3 ne_a33_a44 hz12 hz15 hz50 hz53 hz60)) F127 (pd_3) rfl at_300 rfl rfl rfl (W := 0) rfl (by decide) (by decide) (cells' := 3) (slots' := 7) rfl rfl (by decide) (by decide) (fun v T138 h140 X139 q141 => ?_)
    obtain ⟨rfl, K137, F130, F131, F132, F133, F134, F135, F136⟩ := q141
    show own_Fin p e below (own_End s n0 (fun v _ => v = some (.int 1)) room_1.cells room_1.slots) (T138.setTop (mkF m 303 #[.val (.long p1), .second, .val (.long p2), .second, .val (.long p3), .second, .val (.int p4), .val (.int p5), .val (.int p6), .val (.long u1), .second, .val (.long u2), .second, .val (.int z3), .val (.int z6), .val (.int z9), .val (.int z12), .val (.int z15), .val (.int z18), .val (.int z21), .val (.int z24), .val (.ref a33), .val (.ref a44), .val (.ref z50), .val (.ref z53), .val (.int u56), .val (.int z57), .val (.int z60), .val (.long p3), .second, .val (.long (p3 + u1)), .second, .val (.long ((p3 + u1) + u2)), .second, .val (.ref a69), .val (.int (own_res p2 (p3 - (own_si true (0 : Int64) p3)) z3 p1 (p3 - (own_bs true (0 : Int32) z3 (0 : Int64) p3)))), .val (.int (own_res p2 ((p3 + u1) - (own_si (decide (¬ z12 = 0 ∨ ¬ z18 = 0)) (own_si true (0 : Int64) p3) (p3 + u1))) z6 p1 ((p3 + u1) - (own_bs (decide (¬ z12 = 0 ∨ ¬ z18 = 0)) z3 z6 (own_bs true (0 : Int32) z3 (0 : Int64) p3) (p3 + u1))))), .unset, .unset, .unset, .unset, .unset, .unset, .unset, .unset, .unset, .unset, .unset, .unset, .unset, .unset, .unset, .unset, .unset, .unset] [(.int (own_res p2 (((p3 + u1) + u2) - (own_si (decide (¬ z12 = z15 ∨ ¬ z21 = 0)) (own_si (decide (¬ z12 = 0 ∨ ¬ z18 = 0)) (own_si true (0 : Int64) p3) (p3 + u1)) ((p3 + u1) + u2))) z9 p1 (((p3 + u1) + u2) - (own_bs (decide (¬ z12 = z15 ∨ ¬ z21 = 0)) z6 z9 (own_bs (decide (¬ z12 = 0 ∨ ¬ z18 = 0)) z3 z6 (own_bs true (0 : Int32) z3 (0 : Int64) p3) (p3 + u1)) ((p3 + u1) + u2)))))]))
    have F142 := (F125.keep K137)
    have F143 := (F126.keep K137)
    have F144 := (F127.keep K137)
    have Z145 : n0 ≤ h140.size := (Nat.le_trans Z128 K137.1)
    refine own_istore X139 (L' := #[.val (.long p1), .second, .val (.long p2), .second, .val (.long p3), .second, .val (.int p4), .val (.int p5), .val (.int p6), .val (.long u1), .second, .val (.long u2), .second, .val (.int z3), .val (.int z6), .val (.int z9), .val (.int z12), .val (.int z15), .val (.int z18), .val (.int z21), .val (.int z24), .val (.ref a33), .val (.ref a44), .val (.ref z50), .val (.ref z53), .val (.int u56), .val (.int z57), .val (.int z60), .val (.long p3), .second, .val (.long (p3 + u1)), .second, .val (.long ((p3 + u1) + u2)), .second, .val (.ref a69), .val (.int (own_res p2 (p3 - (own_si true (0 : Int64) p3)) z3 p1 (p3 - (own_bs true (0 : Int32) z3 (0 : Int64) p3)))), .val (.int (own_res p2 ((p3 + u1) - (own_si (decide (¬ z12 = 0 ∨ ¬ z18 = 0)) (own_si true (0 : Int64) p3) (p3 + u1))) z6 p1 ((p3 + u1) - (own_bs (decide (¬ z12 = 0 ∨ ¬ z18 = 0)) z3 z6 (own_bs true (0 : Int32) z3 (0 : Int64) p3) (p3 + u1))))), .val (.int (own_res p2 (((p3 + u1) + u2) - (own_si (decide (¬ z12 = z15 ∨ ¬ z21 = 0)) (own_si (decide (¬ z12 = 0 ∨ ¬ z18 = 0)) (own_si true (0 : Int64) p3) (p3 + u1)) ((p3 + u1) + u2))) z9 p1 (((p3 + u1) + u2) - (own_bs (decide (¬ z12 = z15 ∨ ¬ z21 = 0)) z6 z9 (own_bs (decide (¬ z12 = 0 ∨ ¬ z18 = 0)) z3 z6 (own_bs true (0 : Int32) z3 (0 : Int64) p3) (p3 + u1)) ((p3 + u1) + u2))))), .unset, .unset, .unset, .unset, .unset, .unset, .unset, .unset, .unset, .unset, .unset, .unset, .unset, .unset, .unset, .unset, .unset]) at_303 rfl rfl ?_
    refine own_iload X139 at_305 rfl rfl ?_
    suffices J320_147 : ∀ (z146 : Int32), z146 = (if z12 = (0 : Int32) then (if z18 = (0 : Int32) then (0 : Int32) else (1 : Int32)) else (1 : Int32)) → own_Fin p e below (own_End s n0 (fun v _ => v = some (.int 1)) room_1.cells room_1.slots) (T138.setTop (mkF m 320 #[.val (.long p1), .second, .val (.long p2), .second, .val (.long p3), .second, .val (.int p4), .val (.int p5), .val (.int p6), .val (.long u1), .second, .val (.long u2), .second, .val (.int z3), .val (.int z6), .val (.int z9), .val (.int z12), .val (.int z15), .val (.int z18), .val (.int z21), .val (.int z24), .val (.ref a33), .val (.ref a44), .val (.ref z50), .val (.ref z53), .val (.int u56), .val (.int z57), .val (.int z60), .val (.long p3), .second, .val (.long (p3 + u1)), .second, .val (.long ((p3 + u1) + u2)), .second, .val (.ref a69), .val (.int (own_res p2 (p3 - (own_si true (0 : Int64) p3)) z3 p1 (p3 - (own_bs true (0 : Int32) z3 (0 : Int64) p3)))), .val (.int (own_res p2 ((p3 + u1) - (own_si (decide (¬ z12 = 0 ∨ ¬ z18 = 0)) (own_si true (0 : Int64) p3) (p3 + u1))) z6 p1 ((p3 + u1) - (own_bs (decide (¬ z12 = 0 ∨ ¬ z18 = 0)) z3 z6 (own_bs true (0 : Int32) z3 (0 : Int64) p3) (p3 + u1))))), .val (.int (own_res p2 (((p3 + u1) + u2) - (own_si (decide (¬ z12 = z15 ∨ ¬ z21 = 0)) (own_si (decide (¬ z12 = 0 ∨ ¬ z18 = 0)) (own_si true (0 : Int64) p3) (p3 + u1)) ((p3 + u1) + u2))) z9 p1 (((p3 + u1) + u2) - (own_bs (decide (¬ z12 = z15 ∨ ¬ z21 = 0)) z6 z9 (own_bs (decide (¬ z12 = 0 ∨ ¬ z18 = 0)) z3 z6 (own_bs true (0 : Int32) z3 (0 : Int64) p3) (p3 + u1)) ((p3 + u1) + u2))))), .unset, .unset, .unset, .unset, .unset, .unset, .unset, .unset, .unset, .unset, .unset, .unset, .unset, .unset, .unset, .unset, .unset] [(.int z146)])) by
      refine own_if_ne X139 at_307 (by decide) (pcT := 315) (by decide) rfl (fun hc148 => ?_) (fun hc148 => ?_)
      · skip
        refine own_iconst X139 (1 : Int32) at_315 rfl (by decide) ?_
        refine own_goto X139 at_316 (by decide) (pc' := 320) (by decide) ?_
        exact J320_147 _ (by rw [if_neg hc148])
      · skip
        refine own_iload X139 at_310 rfl rfl ?_
        refine own_if_eq X139 at_312 (by decide) (pcT := 319) (by decide) rfl (fun hc149 => ?_) (fun hc149 => ?_)
        · skip
          refine own_iconst X139 (0 : Int32) at_319 rfl (by decide) ?_
          exact J320_147 _ (by rw [if_pos hc148, if_pos hc149])
        · skip
          refine own_iconst X139 (1 : Int32) at_315 rfl (by decide) ?_
          refine own_goto X139 at_316 (by decide) (pc' := 320) (by decide) ?_
          exact J320_147 _ (by rw [if_pos hc148, if_neg hc149])
    intro z146 hz146
    refine own_istore X139 (L' := #[.val (.long p1), .second, .val (.long p2), .second, .val (.long p3), .second, .val (.int p4), .val (.int p5), .val (.int p6), .val (.long u1), .second, .val (.long u2), .second, .val (.int z3), .val (.int z6), .val (.int z9), .val (.int z12), .val (.int z15), .val (.int z18), .val (.int z21), .val (.int z24), .val (.ref a33), .val (.ref a44), .val (.ref z50), .val (.ref z53), .val (.int u56), .val (.int z57), .val (.int z60), .val (.long p3), .second, .val (.long (p3 + u1)), .second, .val (.long ((p3 + u1) + u2)), .second, .val (.ref a69), .val (.int (own_res p2 (p3 - (own_si true (0 : Int64) p3)) z3 p1 (p3 - (own_bs true (0 : Int32) z3 (0 : Int64) p3)))), .val (.int (own_res p2 ((p3 + u1) - (own_si (decide (¬ z12 = 0 ∨ ¬ z18 = 0)) (own_si true (0 : Int64) p3) (p3 + u1))) z6 p1 ((p3 + u1) - (own_bs (decide (¬ z12 = 0 ∨ ¬ z18 = 0)) z3 z6 (own_bs true (0 : Int32) z3 (0 : Int64) p3) (p3 + u1))))), .val (.int (own_res p2 (((p3 + u1) + u2) - (own_si (decide (¬ z12 = z15 ∨ ¬ z21 = 0)) (own_si (decide (¬ z12 = 0 ∨ ¬ z18 = 0)) (own_si true (0 : Int64) p3) (p3 + u1)) ((p3 + u1) + u2))) z9 p1 (((p3 + u1) + u2) - (own_bs (decide (¬ z12 = z15 ∨ ¬ z21 = 0)) z6 z9 (own_bs (decide (¬ z12 = 0 ∨ ¬ z18 = 0)) z3 z6 (own_bs true (0 : Int32) z3 (0 : Int64) p3) (p3 + u1)) ((p3 + u1) + u2))))), .val (.int z146), .unset, .unset, .unset, .unset, .unset, .unset, .unset, .unset, .unset, .unset, .unset, .unset, .unset, .unset, .unset, .unset]) at_320 rfl rfl ?_
    refine own_iload X139 at_322 rfl rfl ?_
    suffices J344_151 : ∀ (z150 : Int32), z150 = (if z24 = (0 : Int32) then (if z12 = z15 then (if z21 = (0 : Int32) then (0 : Int32) else (1 : Int32)) else (1 : Int32)) else (1 : Int32)) → own_Fin p e below (own_End s n0 (fun v _ => v = some (.int 1)) room_1.cells room_1.slots) (T138.setTop (mkF m 344 #[.val (.long p1), .second, .val (.long p2), .second, .val (.long p3), .second, .val (.int p4), .val (.int p5), .val (.int p6), .val (.long u1), .second, .val (.long u2), .second, .val (.int z3), .val (.int z6), .val (.int z9), .val (.int z12), .val (.int z15), .val (.int z18), .val (.int z21), .val (.int z24), .val (.ref a33), .val (.ref a44), .val (.ref z50), .val (.ref z53), .val (.int u56), .val (.int z57), .val (.int z60), .val (.long p3), .second, .val (.long (p3 + u1)), .second, .val (.long ((p3 + u1) + u2)), .second, .val (.ref a69), .val (.int (own_res p2 (p3 - (own_si true (0 : Int64) p3)) z3 p1 (p3 - (own_bs true (0 : Int32) z3 (0 : Int64) p3)))), .val (.int (own_res p2 ((p3 + u1) - (own_si (decide (¬ z12 = 0 ∨ ¬ z18 = 0)) (own_si true (0 : Int64) p3) (p3 + u1))) z6 p1 ((p3 + u1) - (own_bs (decide (¬ z12 = 0 ∨ ¬ z18 = 0)) z3 z6 (own_bs true (0 : Int32) z3 (0 : Int64) p3) (p3 + u1))))), .val (.int (own_res p2 (((p3 + u1) + u2) - (own_si (decide (¬ z12 = z15 ∨ ¬ z21 = 0)) (own_si (decide (¬ z12 = 0 ∨ ¬ z18 = 0)) (own_si true (0 : Int64) p3) (p3 + u1)) ((p3 + u1) + u2))) z9 p1 (((p3 + u1) + u2) - (own_bs (decide (¬ z12 = z15 ∨ ¬ z21 = 0)) z6 z9 (own_bs (decide (¬ z12 = 0 ∨ ¬ z18 = 0)) z3 z6 (own_bs true (0 : Int32) z3 (0 : Int64) p3) (p3 + u1)) ((p3 + u1) + u2))))), .val (.int z146), .unset, .unset, .unset, .unset, .unset, .unset, .unset, .unset, .unset, .unset, .unset, .unset, .unset, .unset, .unset, .unset] [(.int z150)])) by
      refine own_if_ne X139 at_324 (by decide) (pcT := 339) (by decide) rfl (fun hc152 => ?_) (fun hc152 => ?_)
      · skip
        refine own_iconst X139 (1 : Int32) at_339 rfl (by decide) ?_
        refine own_goto X139 at_340 (by decide) (pc' := 344) (by decide) ?_
        exact J344_151 _ (by rw [if_neg hc152])
      · skip
        refine own_iload X139 at_327 rfl rfl ?_
        refine own_iload X139 at_329 rfl rfl ?_
        refine own_icmp_ne X139 at_331 (by decide) (pcT := 339) (by decide) rfl (fun hc153 => ?_) (fun hc153 => ?_)
        · skip
          refine own_iconst X139 (1 : Int32) at_339 rfl (by decide) ?_
          refine own_goto X139 at_340 (by decide) (pc' := 344) (by decide) ?_
          exact J344_151 _ (by rw [if_pos hc152, if_neg hc153])
        · skip
          refine own_iload X139 at_334 rfl rfl ?_
          refine own_if_eq X139 at_336 (by decide) (pcT := 343) (by decide) rfl (fun hc154 => ?_) (fun hc154 => ?_)
          · skip
            refine own_iconst X139 (0 : Int32) at_343 rfl (by decide) ?_
            exact J344_151 _ (by rw [if_pos hc152, if_pos hc153, if_pos hc154])
          · skip
            refine own_iconst X139 (1 : Int32) at_339 rfl (by decide) ?_
            refine own_goto X139 at_340 (by decide) (pc' := 344) (by decide) ?_
            exact J344_151 _ (by rw [if_pos hc152, if_pos hc153, if_neg hc154])
    intro z150 hz150
    refine own_istore X139 (L' := #[.val (.long p1), .second, .val (.long p2), .second, .val (.long p3), .second, .val (.int p4), .val (.int p5), .val (.int p6), .val (.long u1), .second, .val (.long u2), .second, .val (.int z3), .val (.int z6), .val (.int z9), .val (.int z12), .val (.int z15), .val (.int z18), .val (.int z21), .val (.int z24), .val (.ref a33), .val (.ref a44), .val (.ref z50), .val (.ref z53), .val (.int u56), .val (.int z57), .val (.int z60), .val (.long p3), .second, .val (.long (p3 + u1)), .second, .val (.long ((p3 + u1) + u2)), .second, .val (.ref a69), .val (.int (own_res p2 (p3 - (own_si true (0 : Int64) p3)) z3 p1 (p3 - (own_bs true (0 : Int32) z3 (0 : Int64) p3)))), .val (.int (own_res p2 ((p3 + u1) - (own_si (decide (¬ z12 = 0 ∨ ¬ z18 = 0)) (own_si true (0 : Int64) p3) (p3 + u1))) z6 p1 ((p3 + u1) - (own_bs (decide (¬ z12 = 0 ∨ ¬ z18 = 0)) z3 z6 (own_bs true (0 : Int32) z3 (0 : Int64) p3) (p3 + u1))))), .val (.int (own_res p2 (((p3 + u1) + u2) - (own_si (decide (¬ z12 = z15 ∨ ¬ z21 = 0)) (own_si (decide (¬ z12 = 0 ∨ ¬ z18 = 0)) (own_si true (0 : Int64) p3) (p3 + u1)) ((p3 + u1) + u2))) z9 p1 (((p3 + u1) + u2) - (own_bs (decide (¬ z12 = z15 ∨ ¬ z21 = 0)) z6 z9 (own_bs (decide (¬ z12 = 0 ∨ ¬ z18 = 0)) z3 z6 (own_bs true (0 : Int32) z3 (0 : Int64) p3) (p3 + u1)) ((p3 + u1) + u2))))), .val (.int z146), .val (.int z150), .unset, .unset, .unset, .unset, .unset, .unset, .unset, .unset, .unset, .unset, .unset, .unset, .unset, .unset, .unset]) at_344 rfl rfl ?_
    refine own_lconst X139 (0 : Int64) at_346 rfl (by decide) ?_
    refine own_lstore X139 (L' := #[.val (.long p1), .second, .val (.long p2), .second, .val (.long p3), .second, .val (.int p4), .val (.int p5), .val (.int p6), .val (.long u1), .second, .val (.long u2), .second, .val (.int z3), .val (.int z6), .val (.int z9), .val (.int z12), .val (.int z15), .val (.int z18), .val (.int z21), .val (.int z24), .val (.ref a33), .val (.ref a44), .val (.ref z50), .val (.ref z53), .val (.int u56), .val (.int z57), .val (.int z60), .val (.long p3), .second, .val (.long (p3 + u1)), .second, .val (.long ((p3 + u1) + u2)), .second, .val (.ref a69), .val (.int (own_res p2 (p3 - (own_si true (0 : Int64) p3)) z3 p1 (p3 - (own_bs true (0 : Int32) z3 (0 : Int64) p3)))), .val (.int (own_res p2 ((p3 + u1) - (own_si (decide (¬ z12 = 0 ∨ ¬ z18 = 0)) (own_si true (0 : Int64) p3) (p3 + u1))) z6 p1 ((p3 + u1) - (own_bs (decide (¬ z12 = 0 ∨ ¬ z18 = 0)) z3 z6 (own_bs true (0 : Int32) z3 (0 : Int64) p3) (p3 + u1))))), .val (.int (own_res p2 (((p3 + u1) + u2) - (own_si (decide (¬ z12 = z15 ∨ ¬ z21 = 0)) (own_si (decide (¬ z12 = 0 ∨ ¬ z18 = 0)) (own_si true (0 : Int64) p3) (p3 + u1)) ((p3 + u1) + u2))) z9 p1 (((p3 + u1) + u2) - (own_bs (decide (¬ z12 = z15 ∨ ¬ z21 = 0)) z6 z9 (own_bs (decide (¬ z12 = 0 ∨ ¬ z18 = 0)) z3 z6 (own_bs true (0 : Int32) z3 (0 : Int64) p3) (p3 + u1)) ((p3 + u1) + u2))))), .val (.int z146), .val (.int z150), .val (.long (0 : Int64)), .second, .unset, .unset, .unset, .unset, .unset, .unset, .unset, .unset, .unset, .unset, .unset, .unset, .unset]) at_347 rfl rfl ?_
    refine own_iload X139 at_349 rfl rfl ?_
    suffices J360_156 : ∀ (z155 : Int64), z155 = (if z146 = (0 : Int32) then u1 else (0 : Int64)) → own_Fin p e below (own_End s n0 (fun v _ => v = some (.int 1)) room_1.cells room_1.slots) (T138.setTop (mkF m 360 #[.val (.long p1), .second, .val (.long p2), .second, .val (.long p3), .second, .val (.int p4), .val (.int p5), .val (.int p6), .val (.long u1), .second, .val (.long u2), .second, .val (.int z3), .val (.int z6), .val (.int z9), .val (.int z12), .val (.int z15), .val (.int z18), .val (.int z21), .val (.int z24), .val (.ref a33), .val (.ref a44), .val (.ref z50), .val (.ref z53), .val (.int u56), .val (.int z57), .val (.int z60), .val (.long p3), .second, .val (.long (p3 + u1)), .second, .val (.long ((p3 + u1) + u2)), .second, .val (.ref a69), .val (.int (own_res p2 (p3 - (own_si true (0 : Int64) p3)) z3 p1 (p3 - (own_bs true (0 : Int32) z3 (0 : Int64) p3)))), .val (.int (own_res p2 ((p3 + u1) - (own_si (decide (¬ z12 = 0 ∨ ¬ z18 = 0)) (own_si true (0 : Int64) p3) (p3 + u1))) z6 p1 ((p3 + u1) - (own_bs (decide (¬ z12 = 0 ∨ ¬ z18 = 0)) z3 z6 (own_bs true (0 : Int32) z3 (0 : Int64) p3) (p3 + u1))))), .val (.int (own_res p2 (((p3 + u1) + u2) - (own_si (decide (¬ z12 = z15 ∨ ¬ z21 = 0)) (own_si (decide (¬ z12 = 0 ∨ ¬ z18 = 0)) (own_si true (0 : Int64) p3) (p3 + u1)) ((p3 + u1) + u2))) z9 p1 (((p3 + u1) + u2) - (own_bs (decide (¬ z12 = z15 ∨ ¬ z21 = 0)) z6 z9 (own_bs (decide (¬ z12 = 0 ∨ ¬ z18 = 0)) z3 z6 (own_bs true (0 : Int32) z3 (0 : Int64) p3) (p3 + u1)) ((p3 + u1) + u2))))), .val (.int z146), .val (.int z150), .val (.long (0 : Int64)), .second, .unset, .unset, .unset, .unset, .unset, .unset, .unset, .unset, .unset, .unset, .unset, .unset, .unset] [(.long z155)])) by
      refine own_if_eq X139 at_351 (by decide) (pcT := 358) (by decide) rfl (fun hc157 => ?_) (fun hc157 => ?_)
      · skip
        refine own_lload X139 at_358 rfl rfl ?_
        exact J360_156 _ (by rw [if_pos hc157])
      · skip
        refine own_lconst X139 (0 : Int64) at_354 rfl (by decide) ?_
        refine own_goto X139 at_355 (by decide) (pc' := 360) (by decide) ?_
        exact J360_156 _ (by rw [if_neg hc157])
    intro z155 hz155
    refine own_lstore X139 (L' := #[.val (.long p1), .second, .val (.long p2), .second, .val (.long p3), .second, .val (.int p4), .val (.int p5), .val (.int p6), .val (.long u1), .second, .val (.long u2), .second, .val (.int z3), .val (.int z6), .val (.int z9), .val (.int z12), .val (.int z15), .val (.int z18), .val (.int z21), .val (.int z24), .val (.ref a33), .val (.ref a44), .val (.ref z50), .val (.ref z53), .val (.int u56), .val (.int z57), .val (.int z60), .val (.long p3), .second, .val (.long (p3 + u1)), .second, .val (.long ((p3 + u1) + u2)), .second, .val (.ref a69), .val (.int (own_res p2 (p3 - (own_si true (0 : Int64) p3)) z3 p1 (p3 - (own_bs true (0 : Int32) z3 (0 : Int64) p3)))), .val (.int (own_res p2 ((p3 + u1) - (own_si (decide (¬ z12 = 0 ∨ ¬ z18 = 0)) (own_si true (0 : Int64) p3) (p3 + u1))) z6 p1 ((p3 + u1) - (own_bs (decide (¬ z12 = 0 ∨ ¬ z18 = 0)) z3 z6 (own_bs true (0 : Int32) z3 (0 : Int64) p3) (p3 + u1))))), .val (.int (own_res p2 (((p3 + u1) + u2) - (own_si (decide (¬ z12 = z15 ∨ ¬ z21 = 0)) (own_si (decide (¬ z12 = 0 ∨ ¬ z18 = 0)) (own_si true (0 : Int64) p3) (p3 + u1)) ((p3 + u1) + u2))) z9 p1 (((p3 + u1) + u2) - (own_bs (decide (¬ z12 = z15 ∨ ¬ z21 = 0)) z6 z9 (own_bs (decide (¬ z12 = 0 ∨ ¬ z18 = 0)) z3 z6 (own_bs true (0 : Int32) z3 (0 : Int64) p3) (p3 + u1)) ((p3 + u1) + u2))))), .val (.int z146), .val (.int z150), .val (.long (0 : Int64)), .second, .val (.long z155), .second, .unset, .unset, .unset, .unset, .unset, .unset, .unset, .unset, .unset, .unset, .unset]) at_360 rfl rfl ?_
    refine own_iload X139 at_362 rfl rfl ?_
    suffices J376_159 : ∀ (z158 : Int64), z158 = (if z150 = (0 : Int32) then (z155 + u2) else (0 : Int64)) → own_Fin p e below (own_End s n0 (fun v _ => v = some (.int 1)) room_1.cells room_1.slots) (T138.setTop (mkF m 376 #[.val (.long p1), .second, .val (.long p2), .second, .val (.long p3), .second, .val (.int p4), .val (.int p5), .val (.int p6), .val (.long u1), .second, .val (.long u2), .second, .val (.int z3), .val (.int z6), .val (.int z9), .val (.int z12), .val (.int z15), .val (.int z18), .val (.int z21), .val (.int z24), .val (.ref a33), .val (.ref a44), .val (.ref z50), .val (.ref z53), .val (.int u56), .val (.int z57), .val (.int z60), .val (.long p3), .second, .val (.long (p3 + u1)), .second, .val (.long ((p3 + u1) + u2)), .second, .val (.ref a69), .val (.int (own_res p2 (p3 - (own_si true (0 : Int64) p3)) z3 p1 (p3 - (own_bs true (0 : Int32) z3 (0 : Int64) p3)))), .val (.int (own_res p2 ((p3 + u1) - (own_si (decide (¬ z12 = 0 ∨ ¬ z18 = 0)) (own_si true (0 : Int64) p3) (p3 + u1))) z6 p1 ((p3 + u1) - (own_bs (decide (¬ z12 = 0 ∨ ¬ z18 = 0)) z3 z6 (own_bs true (0 : Int32) z3 (0 : Int64) p3) (p3 + u1))))), .val (.int (own_res p2 (((p3 + u1) + u2) - (own_si (decide (¬ z12 = z15 ∨ ¬ z21 = 0)) (own_si (decide (¬ z12 = 0 ∨ ¬ z18 = 0)) (own_si true (0 : Int64) p3) (p3 + u1)) ((p3 + u1) + u2))) z9 p1 (((p3 + u1) + u2) - (own_bs (decide (¬ z12 = z15 ∨ ¬ z21 = 0)) z6 z9 (own_bs (decide (¬ z12 = 0 ∨ ¬ z18 = 0)) z3 z6 (own_bs true (0 : Int32) z3 (0 : Int64) p3) (p3 + u1)) ((p3 + u1) + u2))))), .val (.int z146), .val (.int z150), .val (.long (0 : Int64)), .second, .val (.long z155), .second, .unset, .unset, .unset, .unset, .unset, .unset, .unset, .unset, .unset, .unset, .unset] [(.long z158)])) by
      refine own_if_eq X139 at_364 (by decide) (pcT := 371) (by decide) rfl (fun hc160 => ?_) (fun hc160 => ?_)
      · skip
        refine own_lload X139 at_371 rfl rfl ?_
        refine own_lload X139 at_373 rfl rfl ?_
        refine own_ladd X139 at_375 rfl ?_
        exact J376_159 _ (by rw [if_pos hc160])
      · skip
        refine own_lconst X139 (0 : Int64) at_367 rfl (by decide) ?_
        refine own_goto X139 at_368 (by decide) (pc' := 376) (by decide) ?_
        exact J376_159 _ (by rw [if_neg hc160])
    intro z158 hz158
    refine own_lstore X139 (L' := #[.val (.long p1), .second, .val (.long p2), .second, .val (.long p3), .second, .val (.int p4), .val (.int p5), .val (.int p6), .val (.long u1), .second, .val (.long u2), .second, .val (.int z3), .val (.int z6), .val (.int z9), .val (.int z12), .val (.int z15), .val (.int z18), .val (.int z21), .val (.int z24), .val (.ref a33), .val (.ref a44), .val (.ref z50), .val (.ref z53), .val (.int u56), .val (.int z57), .val (.int z60), .val (.long p3), .second, .val (.long (p3 + u1)), .second, .val (.long ((p3 + u1) + u2)), .second, .val (.ref a69), .val (.int (own_res p2 (p3 - (own_si true (0 : Int64) p3)) z3 p1 (p3 - (own_bs true (0 : Int32) z3 (0 : Int64) p3)))), .val (.int (own_res p2 ((p3 + u1) - (own_si (decide (¬ z12 = 0 ∨ ¬ z18 = 0)) (own_si true (0 : Int64) p3) (p3 + u1))) z6 p1 ((p3 + u1) - (own_bs (decide (¬ z12 = 0 ∨ ¬ z18 = 0)) z3 z6 (own_bs true (0 : Int32) z3 (0 : Int64) p3) (p3 + u1))))), .val (.int (own_res p2 (((p3 + u1) + u2) - (own_si (decide (¬ z12 = z15 ∨ ¬ z21 = 0)) (own_si (decide (¬ z12 = 0 ∨ ¬ z18 = 0)) (own_si true (0 : Int64) p3) (p3 + u1)) ((p3 + u1) + u2))) z9 p1 (((p3 + u1) + u2) - (own_bs (decide (¬ z12 = z15 ∨ ¬ z21 = 0)) z6 z9 (own_bs (decide (¬ z12 = 0 ∨ ¬ z18 = 0)) z3 z6 (own_bs true (0 : Int32) z3 (0 : Int64) p3) (p3 + u1)) ((p3 + u1) + u2))))), .val (.int z146), .val (.int z150), .val (.long (0 : Int64)), .second, .val (.long z155), .second, .val (.long z158), .second, .unset, .unset, .unset, .unset, .unset, .unset, .unset, .unset, .unset]) at_376 rfl rfl ?_
    refine own_lconst X139 (0 : Int64) at_378 rfl (by decide) ?_
    refine own_lstore X139 (L' := #[.val (.long p1), .second, .val (.long p2), .second, .val (.long p3), .second, .val (.int p4), .val (.int p5), .val (.int p6), .val (.long u1), .second, .val (.long u2), .second, .val (.int z3), .val (.int z6), .val (.int z9), .val (.int z12), .val (.int z15), .val (.int z18), .val (.int z21), .val (.int z24), .val (.ref a33), .val (.ref a44), .val (.ref z50), .val (.ref z53), .val (.int u56), .val (.int z57), .val (.int z60), .val (.long p3), .second, .val (.long (p3 + u1)), .second, .val (.long ((p3 + u1) + u2)), .second, .val (.ref a69), .val (.int (own_res p2 (p3 - (own_si true (0 : Int64) p3)) z3 p1 (p3 - (own_bs true (0 : Int32) z3 (0 : Int64) p3)))), .val (.int (own_res p2 ((p3 + u1) - (own_si (decide (¬ z12 = 0 ∨ ¬ z18 = 0)) (own_si true (0 : Int64) p3) (p3 + u1))) z6 p1 ((p3 + u1) - (own_bs (decide (¬ z12 = 0 ∨ ¬ z18 = 0)) z3 z6 (own_bs true (0 : Int32) z3 (0 : Int64) p3) (p3 + u1))))), .val (.int (own_res p2 (((p3 + u1) + u2) - (own_si (decide (¬ z12 = z15 ∨ ¬ z21 = 0)) (own_si (decide (¬ z12 = 0 ∨ ¬ z18 = 0)) (own_si true (0 : Int64) p3) (p3 + u1)) ((p3 + u1) + u2))) z9 p1 (((p3 + u1) + u2) - (own_bs (decide (¬ z12 = z15 ∨ ¬ z21 = 0)) z6 z9 (own_bs (decide (¬ z12 = 0 ∨ ¬ z18 = 0)) z3 z6 (own_bs true (0 : Int32) z3 (0 : Int64) p3) (p3 + u1)) ((p3 + u1) + u2))))), .val (.int z146), .val (.int z150), .val (.long (0 : Int64)), .second, .val (.long z155), .second, .val (.long z158), .second, .val (.long (0 : Int64)), .second, .unset, .unset, .unset, .unset, .unset, .unset, .unset]) at_379 rfl rfl ?_
    refine own_iload X139 at_381 rfl rfl ?_
    suffices J400_162 : ∀ (z161 : Int64), z161 = (if z3 = (0 : Int32) then (0 : Int64) else (if z146 = (0 : Int32) then ((0 : Int64) + u1) else (0 : Int64))) → own_Fin p e below (own_End s n0 (fun v _ => v = some (.int 1)) room_1.cells room_1.slots) (T138.setTop (mkF m 400 #[.val (.long p1), .second, .val (.long p2), .second, .val (.long p3), .second, .val (.int p4), .val (.int p5), .val (.int p6), .val (.long u1), .second, .val (.long u2), .second, .val (.int z3), .val (.int z6), .val (.int z9), .val (.int z12), .val (.int z15), .val (.int z18), .val (.int z21), .val (.int z24), .val (.ref a33), .val (.ref a44), .val (.ref z50), .val (.ref z53), .val (.int u56), .val (.int z57), .val (.int z60), .val (.long p3), .second, .val (.long (p3 + u1)), .second, .val (.long ((p3 + u1) + u2)), .second, .val (.ref a69), .val (.int (own_res p2 (p3 - (own_si true (0 : Int64) p3)) z3 p1 (p3 - (own_bs true (0 : Int32) z3 (0 : Int64) p3)))), .val (.int (own_res p2 ((p3 + u1) - (own_si (decide (¬ z12 = 0 ∨ ¬ z18 = 0)) (own_si true (0 : Int64) p3) (p3 + u1))) z6 p1 ((p3 + u1) - (own_bs (decide (¬ z12 = 0 ∨ ¬ z18 = 0)) z3 z6 (own_bs true (0 : Int32) z3 (0 : Int64) p3) (p3 + u1))))), .val (.int (own_res p2 (((p3 + u1) + u2) - (own_si (decide (¬ z12 = z15 ∨ ¬ z21 = 0)) (own_si (decide (¬ z12 = 0 ∨ ¬ z18 = 0)) (own_si true (0 : Int64) p3) (p3 + u1)) ((p3 + u1) + u2))) z9 p1 (((p3 + u1) + u2) - (own_bs (decide (¬ z12 = z15 ∨ ¬ z21 = 0)) z6 z9 (own_bs (decide (¬ z12 = 0 ∨ ¬ z18 = 0)) z3 z6 (own_bs true (0 : Int32) z3 (0 : Int64) p3) (p3 + u1)) ((p3 + u1) + u2))))), .val (.int z146), .val (.int z150), .val (.long (0 : Int64)), .second, .val (.long z155), .second, .val (.long z158), .second, .val (.long (0 : Int64)), .second, .unset, .unset, .unset, .unset, .unset, .unset, .unset] [(.long z161)])) by
      refine own_if_eq X139 at_383 (by decide) (pcT := 399) (by decide) rfl (fun hc163 => ?_) (fun hc163 => ?_)
      · skip
        refine own_lconst X139 (0 : Int64) at_399 rfl (by decide) ?_
        exact J400_162 _ (by rw [if_pos hc163])
      · skip
        refine own_iload X139 at_386 rfl rfl ?_
        refine own_if_ne X139 at_388 (by decide) (pcT := 399) (by decide) rfl (fun hc164 => ?_) (fun hc164 => ?_)
        · skip
          refine own_lconst X139 (0 : Int64) at_399 rfl (by decide) ?_
          exact J400_162 _ (by rw [if_neg hc163, if_neg hc164])
        · skip
          refine own_lload X139 at_391 rfl rfl ?_
          refine own_lload X139 at_393 rfl rfl ?_
          refine own_ladd X139 at_395 rfl ?_
          refine own_goto X139 at_396 (by decide) (pc' := 400) (by decide) ?_
          exact J400_162 _ (by rw [if_neg hc163, if_pos hc164])
    intro z161 hz161
    refine own_lstore X139 (L' := #[.val (.long p1), .second, .val (.long p2), .second, .val (.long p3), .second, .val (.int p4), .val (.int p5), .val (.int p6), .val (.long u1), .second, .val (.long u2), .second, .val (.int z3), .val (.int z6), .val (.int z9), .val (.int z12), .val (.int z15), .val (.int z18), .val (.int z21), .val (.int z24), .val (.ref a33), .val (.ref a44), .val (.ref z50), .val (.ref z53), .val (.int u56), .val (.int z57), .val (.int z60), .val (.long p3), .second, .val (.long (p3 + u1)), .second, .val (.long ((p3 + u1) + u2)), .second, .val (.ref a69), .val (.int (own_res p2 (p3 - (own_si true (0 : Int64) p3)) z3 p1 (p3 - (own_bs true (0 : Int32) z3 (0 : Int64) p3)))), .val (.int (own_res p2 ((p3 + u1) - (own_si (decide (¬ z12 = 0 ∨ ¬ z18 = 0)) (own_si true (0 : Int64) p3) (p3 + u1))) z6 p1 ((p3 + u1) - (own_bs (decide (¬ z12 = 0 ∨ ¬ z18 = 0)) z3 z6 (own_bs true (0 : Int32) z3 (0 : Int64) p3) (p3 + u1))))), .val (.int (own_res p2 (((p3 + u1) + u2) - (own_si (decide (¬ z12 = z15 ∨ ¬ z21 = 0)) (own_si (decide (¬ z12 = 0 ∨ ¬ z18 = 0)) (own_si true (0 : Int64) p3) (p3 + u1)) ((p3 + u1) + u2))) z9 p1 (((p3 + u1) + u2) - (own_bs (decide (¬ z12 = z15 ∨ ¬ z21 = 0)) z6 z9 (own_bs (decide (¬ z12 = 0 ∨ ¬ z18 = 0)) z3 z6 (own_bs true (0 : Int32) z3 (0 : Int64) p3) (p3 + u1)) ((p3 + u1) + u2))))), .val (.int z146), .val (.int z150), .val (.long (0 : Int64)), .second, .val (.long z155), .second, .val (.long z158), .second, .val (.long (0 : Int64)), .second, .val (.long z161), .second, .unset, .unset, .unset, .unset, .unset]) at_400 rfl rfl ?_
    refine own_iload X139 at_402 rfl rfl ?_
    suffices J421_166 : ∀ (z165 : Int64), z165 = (if z6 = (0 : Int32) then (0 : Int64) else (if z150 = (0 : Int32) then (z161 + u2) else (0 : Int64))) → own_Fin p e below (own_End s n0 (fun v _ => v = some (.int 1)) room_1.cells room_1.slots) (T138.setTop (mkF m 421 #[.val (.long p1), .second, .val (.long p2), .second, .val (.long p3), .second, .val (.int p4), .val (.int p5), .val (.int p6), .val (.long u1), .second, .val (.long u2), .second, .val (.int z3), .val (.int z6), .val (.int z9), .val (.int z12), .val (.int z15), .val (.int z18), .val (.int z21), .val (.int z24), .val (.ref a33), .val (.ref a44), .val (.ref z50), .val (.ref z53), .val (.int u56), .val (.int z57), .val (.int z60), .val (.long p3), .second, .val (.long (p3 + u1)), .second, .val (.long ((p3 + u1) + u2)), .second, .val (.ref a69), .val (.int (own_res p2 (p3 - (own_si true (0 : Int64) p3)) z3 p1 (p3 - (own_bs true (0 : Int32) z3 (0 : Int64) p3)))), .val (.int (own_res p2 ((p3 + u1) - (own_si (decide (¬ z12 = 0 ∨ ¬ z18 = 0)) (own_si true (0 : Int64) p3) (p3 + u1))) z6 p1 ((p3 + u1) - (own_bs (decide (¬ z12 = 0 ∨ ¬ z18 = 0)) z3 z6 (own_bs true (0 : Int32) z3 (0 : Int64) p3) (p3 + u1))))), .val (.int (own_res p2 (((p3 + u1) + u2) - (own_si (decide (¬ z12 = z15 ∨ ¬ z21 = 0)) (own_si (decide (¬ z12 = 0 ∨ ¬ z18 = 0)) (own_si true (0 : Int64) p3) (p3 + u1)) ((p3 + u1) + u2))) z9 p1 (((p3 + u1) + u2) - (own_bs (decide (¬ z12 = z15 ∨ ¬ z21 = 0)) z6 z9 (own_bs (decide (¬ z12 = 0 ∨ ¬ z18 = 0)) z3 z6 (own_bs true (0 : Int32) z3 (0 : Int64) p3) (p3 + u1)) ((p3 + u1) + u2))))), .val (.int z146), .val (.int z150), .val (.long (0 : Int64)), .second, .val (.long z155), .second, .val (.long z158), .second, .val (.long (0 : Int64)), .second, .val (.long z161), .second, .unset, .unset, .unset, .unset, .unset] [(.long z165)])) by
      refine own_if_eq X139 at_404 (by decide) (pcT := 420) (by decide) rfl (fun hc167 => ?_) (fun hc167 => ?_)
      · skip
        refine own_lconst X139 (0 : Int64) at_420 rfl (by decide) ?_
        exact J421_166 _ (by rw [if_pos hc167])
      · skip
        refine own_iload X139 at_407 rfl rfl ?_
        refine own_if_ne X139 at_409 (by decide) (pcT := 420) (by decide) rfl (fun hc168 => ?_) (fun hc168 => ?_)
        · skip
          refine own_lconst X139 (0 : Int64) at_420 rfl (by decide) ?_
          exact J421_166 _ (by rw [if_neg hc167, if_neg hc168])
        · skip
          refine own_lload X139 at_412 rfl rfl ?_
          refine own_lload X139 at_414 rfl rfl ?_
          refine own_ladd X139 at_416 rfl ?_
          refine own_goto X139 at_417 (by decide) (pc' := 421) (by decide) ?_
          exact J421_166 _ (by rw [if_neg hc167, if_pos hc168])
    intro z165 hz165
    refine own_lstore X139 (L' := #[.val (.long p1), .second, .val (.long p2), .second, .val (.long p3), .second, .val (.int p4), .val (.int p5), .val (.int p6), .val (.long u1), .second, .val (.long u2), .second, .val (.int z3), .val (.int z6), .val (.int z9), .val (.int z12), .val (.int z15), .val (.int z18), .val (.int z21), .val (.int z24), .val (.ref a33), .val (.ref a44), .val (.ref z50), .val (.ref z53), .val (.int u56), .val (.int z57), .val (.int z60), .val (.long p3), .second, .val (.long (p3 + u1)), .second, .val (.long ((p3 + u1) + u2)), .second, .val (.ref a69), .val (.int (own_res p2 (p3 - (own_si true (0 : Int64) p3)) z3 p1 (p3 - (own_bs true (0 : Int32) z3 (0 : Int64) p3)))), .val (.int (own_res p2 ((p3 + u1) - (own_si (decide (¬ z12 = 0 ∨ ¬ z18 = 0)) (own_si true (0 : Int64) p3) (p3 + u1))) z6 p1 ((p3 + u1) - (own_bs (decide (¬ z12 = 0 ∨ ¬ z18 = 0)) z3 z6 (own_bs true (0 : Int32) z3 (0 : Int64) p3) (p3 + u1))))), .val (.int (own_res p2 (((p3 + u1) + u2) - (own_si (decide (¬ z12 = z15 ∨ ¬ z21 = 0)) (own_si (decide (¬ z12 = 0 ∨ ¬ z18 = 0)) (own_si true (0 : Int64) p3) (p3 + u1)) ((p3 + u1) + u2))) z9 p1 (((p3 + u1) + u2) - (own_bs (decide (¬ z12 = z15 ∨ ¬ z21 = 0)) z6 z9 (own_bs (decide (¬ z12 = 0 ∨ ¬ z18 = 0)) z3 z6 (own_bs true (0 : Int32) z3 (0 : Int64) p3) (p3 + u1)) ((p3 + u1) + u2))))), .val (.int z146), .val (.int z150), .val (.long (0 : Int64)), .second, .val (.long z155), .second, .val (.long z158), .second, .val (.long (0 : Int64)), .second, .val (.long z161), .second, .val (.long z165), .second, .unset, .unset, .unset]) at_421 rfl rfl ?_
    refine own_lload X139 at_423 rfl rfl ?_
    refine own_lloadN X139 at_425 rfl rfl ?_
    suffices J447_170 : ∀ (z169 : Int32), z169 = (if p2 < (0 : Int64) then (1 : Int32) else (if z3 = (0 : Int32) then (0 : Int32) else (if p1 < (0 : Int64) then (1 : Int32) else (0 : Int32)))) → own_Fin p e below (own_End s n0 (fun v _ => v = some (.int 1)) room_1.cells room_1.slots) (T138.setTop (mkF m 447 #[.val (.long p1), .second, .val (.long p2), .second, .val (.long p3), .second, .val (.int p4), .val (.int p5), .val (.int p6), .val (.long u1), .second, .val (.long u2), .second, .val (.int z3), .val (.int z6), .val (.int z9), .val (.int z12), .val (.int z15), .val (.int z18), .val (.int z21), .val (.int z24), .val (.ref a33), .val (.ref a44), .val (.ref z50), .val (.ref z53), .val (.int u56), .val (.int z57), .val (.int z60), .val (.long p3), .second, .val (.long (p3 + u1)), .second, .val (.long ((p3 + u1) + u2)), .second, .val (.ref a69), .val (.int (own_res p2 (p3 - (own_si true (0 : Int64) p3)) z3 p1 (p3 - (own_bs true (0 : Int32) z3 (0 : Int64) p3)))), .val (.int (own_res p2 ((p3 + u1) - (own_si (decide (¬ z12 = 0 ∨ ¬ z18 = 0)) (own_si true (0 : Int64) p3) (p3 + u1))) z6 p1 ((p3 + u1) - (own_bs (decide (¬ z12 = 0 ∨ ¬ z18 = 0)) z3 z6 (own_bs true (0 : Int32) z3 (0 : Int64) p3) (p3 + u1))))), .val (.int (own_res p2 (((p3 + u1) + u2) - (own_si (decide (¬ z12 = z15 ∨ ¬ z21 = 0)) (own_si (decide (¬ z12 = 0 ∨ ¬ z18 = 0)) (own_si true (0 : Int64) p3) (p3 + u1)) ((p3 + u1) + u2))) z9 p1 (((p3 + u1) + u2) - (own_bs (decide (¬ z12 = z15 ∨ ¬ z21 = 0)) z6 z9 (own_bs (decide (¬ z12 = 0 ∨ ¬ z18 = 0)) z3 z6 (own_bs true (0 : Int32) z3 (0 : Int64) p3) (p3 + u1)) ((p3 + u1) + u2))))), .val (.int z146), .val (.int z150), .val (.long (0 : Int64)), .second, .val (.long z155), .second, .val (.long z158), .second, .val (.long (0 : Int64)), .second, .val (.long z161), .second, .val (.long z165), .second, .unset, .unset, .unset] [(.int z169)])) by
      refine own_lcmp_gt X139 at_426 rfl at_427 (by decide) (pcT := 442) (by decide) rfl (fun hc171 => ?_) (fun hc171 => ?_)
      · skip
        refine own_iconst X139 (1 : Int32) at_442 rfl (by decide) ?_
        refine own_goto X139 at_443 (by decide) (pc' := 447) (by decide) ?_
        exact J447_170 _ (by rw [if_pos hc171])
      · skip
        refine own_iload X139 at_430 rfl rfl ?_
        refine own_if_eq X139 at_432 (by decide) (pcT := 446) (by decide) rfl (fun hc172 => ?_) (fun hc172 => ?_)
        · skip
          refine own_iconst X139 (0 : Int32) at_446 rfl (by decide) ?_
          exact J447_170 _ (by rw [if_neg hc171, if_pos hc172])
        · skip
          refine own_lload X139 at_435 rfl rfl ?_
          refine own_lloadN X139 at_437 rfl rfl ?_
          refine own_lcmp_le X139 at_438 rfl at_439 (by decide) (pcT := 446) (by decide) rfl (fun hc173 => ?_) (fun hc173 => ?_)
          · skip
            refine own_iconst X139 (0 : Int32) at_446 rfl (by decide) ?_
            exact J447_170 _ (by rw [if_neg hc171, if_neg hc172, if_neg hc173])
          · skip
            refine own_iconst X139 (1 : Int32) at_442 rfl (by decide) ?_
            refine own_goto X139 at_443 (by decide) (pc' := 447) (by decide) ?_
            exact J447_170 _ (by rw [if_neg hc171, if_neg hc172, if_pos hc173])
    intro z169 hz169
    refine own_istore X139 (L' := #[.val (.long p1), .second, .val (.long p2), .second, .val (.long p3), .second, .val (.int p4), .val (.int p5), .val (.int p6), .val (.long u1), .second, .val (.long u2), .second, .val (.int z3), .val (.int z6), .val (.int z9), .val (.int z12), .val (.int z15), .val (.int z18), .val (.int z21), .val (.int z24), .val (.ref a33), .val (.ref a44), .val (.ref z50), .val (.ref z53), .val (.int u56), .val (.int z57), .val (.int z60), .val (.long p3), .second, .val (.long (p3 + u1)), .second, .val (.long ((p3 + u1) + u2)), .second, .val (.ref a69), .val (.int (own_res p2 (p3 - (own_si true (0 : Int64) p3)) z3 p1 (p3 - (own_bs true (0 : Int32) z3 (0 : Int64) p3)))), .val (.int (own_res p2 ((p3 + u1) - (own_si (decide (¬ z12 = 0 ∨ ¬ z18 = 0)) (own_si true (0 : Int64) p3) (p3 + u1))) z6 p1 ((p3 + u1) - (own_bs (decide (¬ z12 = 0 ∨ ¬ z18 = 0)) z3 z6 (own_bs true (0 : Int32) z3 (0 : Int64) p3) (p3 + u1))))), .val (.int (own_res p2 (((p3 + u1) + u2) - (own_si (decide (¬ z12 = z15 ∨ ¬ z21 = 0)) (own_si (decide (¬ z12 = 0 ∨ ¬ z18 = 0)) (own_si true (0 : Int64) p3) (p3 + u1)) ((p3 + u1) + u2))) z9 p1 (((p3 + u1) + u2) - (own_bs (decide (¬ z12 = z15 ∨ ¬ z21 = 0)) z6 z9 (own_bs (decide (¬ z12 = 0 ∨ ¬ z18 = 0)) z3 z6 (own_bs true (0 : Int32) z3 (0 : Int64) p3) (p3 + u1)) ((p3 + u1) + u2))))), .val (.int z146), .val (.int z150), .val (.long (0 : Int64)), .second, .val (.long z155), .second, .val (.long z158), .second, .val (.long (0 : Int64)), .second, .val (.long z161), .second, .val (.long z165), .second, .val (.int z169), .unset, .unset]) at_447 rfl rfl ?_
    refine own_lload X139 at_449 rfl rfl ?_
    refine own_lloadN X139 at_451 rfl rfl ?_
    suffices J473_175 : ∀ (z174 : Int32), z174 = (if p2 < z155 then (1 : Int32) else (if z6 = (0 : Int32) then (0 : Int32) else (if p1 < z161 then (1 : Int32) else (0 : Int32)))) → own_Fin p e below (own_End s n0 (fun v _ => v = some (.int 1)) room_1.cells room_1.slots) (T138.setTop (mkF m 473 #[.val (.long p1), .second, .val (.long p2), .second, .val (.long p3), .second, .val (.int p4), .val (.int p5), .val (.int p6), .val (.long u1), .second, .val (.long u2), .second, .val (.int z3), .val (.int z6), .val (.int z9), .val (.int z12), .val (.int z15), .val (.int z18), .val (.int z21), .val (.int z24), .val (.ref a33), .val (.ref a44), .val (.ref z50), .val (.ref z53), .val (.int u56), .val (.int z57), .val (.int z60), .val (.long p3), .second, .val (.long (p3 + u1)), .second, .val (.long ((p3 + u1) + u2)), .second, .val (.ref a69), .val (.int (own_res p2 (p3 - (own_si true (0 : Int64) p3)) z3 p1 (p3 - (own_bs true (0 : Int32) z3 (0 : Int64) p3)))), .val (.int (own_res p2 ((p3 + u1) - (own_si (decide (¬ z12 = 0 ∨ ¬ z18 = 0)) (own_si true (0 : Int64) p3) (p3 + u1))) z6 p1 ((p3 + u1) - (own_bs (decide (¬ z12 = 0 ∨ ¬ z18 = 0)) z3 z6 (own_bs true (0 : Int32) z3 (0 : Int64) p3) (p3 + u1))))), .val (.int (own_res p2 (((p3 + u1) + u2) - (own_si (decide (¬ z12 = z15 ∨ ¬ z21 = 0)) (own_si (decide (¬ z12 = 0 ∨ ¬ z18 = 0)) (own_si true (0 : Int64) p3) (p3 + u1)) ((p3 + u1) + u2))) z9 p1 (((p3 + u1) + u2) - (own_bs (decide (¬ z12 = z15 ∨ ¬ z21 = 0)) z6 z9 (own_bs (decide (¬ z12 = 0 ∨ ¬ z18 = 0)) z3 z6 (own_bs true (0 : Int32) z3 (0 : Int64) p3) (p3 + u1)) ((p3 + u1) + u2))))), .val (.int z146), .val (.int z150), .val (.long (0 : Int64)), .second, .val (.long z155), .second, .val (.long z158), .second, .val (.long (0 : Int64)), .second, .val (.long z161), .second, .val (.long z165), .second, .val (.int z169), .unset, .unset] [(.int z174)])) by
      refine own_lcmp_gt X139 at_452 rfl at_453 (by decide) (pcT := 468) (by decide) rfl (fun hc176 => ?_) (fun hc176 => ?_)
      · skip
        refine own_iconst X139 (1 : Int32) at_468 rfl (by decide) ?_
        refine own_goto X139 at_469 (by decide) (pc' := 473) (by decide) ?_
        exact J473_175 _ (by rw [if_pos hc176])
      · skip
        refine own_iload X139 at_456 rfl rfl ?_
        refine own_if_eq X139 at_458 (by decide) (pcT := 472) (by decide) rfl (fun hc177 => ?_) (fun hc177 => ?_)
        · skip
          refine own_iconst X139 (0 : Int32) at_472 rfl (by decide) ?_
          exact J473_175 _ (by rw [if_neg hc176, if_pos hc177])
        · skip
          refine own_lload X139 at_461 rfl rfl ?_
          refine own_lloadN X139 at_463 rfl rfl ?_
          refine own_lcmp_le X139 at_464 rfl at_465 (by decide) (pcT := 472) (by decide) rfl (fun hc178 => ?_) (fun hc178 => ?_)
          · skip
            refine own_iconst X139 (0 : Int32) at_472 rfl (by decide) ?_
            exact J473_175 _ (by rw [if_neg hc176, if_neg hc177, if_neg hc178])
          · skip
            refine own_iconst X139 (1 : Int32) at_468 rfl (by decide) ?_
            refine own_goto X139 at_469 (by decide) (pc' := 473) (by decide) ?_
            exact J473_175 _ (by rw [if_neg hc176, if_neg hc177, if_pos hc178])
    intro z174 hz174
    refine own_istore X139 (L' := #[.val (.long p1), .second, .val (.long p2), .second, .val (.long p3), .second, .val (.int p4), .val (.int p5), .val (.int p6), .val (.long u1), .second, .val (.long u2), .second, .val (.int z3), .val (.int z6), .val (.int z9), .val (.int z12), .val (.int z15), .val (.int z18), .val (.int z21), .val (.int z24), .val (.ref a33), .val (.ref a44), .val (.ref z50), .val (.ref z53), .val (.int u56), .val (.int z57), .val (.int z60), .val (.long p3), .second, .val (.long (p3 + u1)), .second, .val (.long ((p3 + u1) + u2)), .second, .val (.ref a69), .val (.int (own_res p2 (p3 - (own_si true (0 : Int64) p3)) z3 p1 (p3 - (own_bs true (0 : Int32) z3 (0 : Int64) p3)))), .val (.int (own_res p2 ((p3 + u1) - (own_si (decide (¬ z12 = 0 ∨ ¬ z18 = 0)) (own_si true (0 : Int64) p3) (p3 + u1))) z6 p1 ((p3 + u1) - (own_bs (decide (¬ z12 = 0 ∨ ¬ z18 = 0)) z3 z6 (own_bs true (0 : Int32) z3 (0 : Int64) p3) (p3 + u1))))), .val (.int (own_res p2 (((p3 + u1) + u2) - (own_si (decide (¬ z12 = z15 ∨ ¬ z21 = 0)) (own_si (decide (¬ z12 = 0 ∨ ¬ z18 = 0)) (own_si true (0 : Int64) p3) (p3 + u1)) ((p3 + u1) + u2))) z9 p1 (((p3 + u1) + u2) - (own_bs (decide (¬ z12 = z15 ∨ ¬ z21 = 0)) z6 z9 (own_bs (decide (¬ z12 = 0 ∨ ¬ z18 = 0)) z3 z6 (own_bs true (0 : Int32) z3 (0 : Int64) p3) (p3 + u1)) ((p3 + u1) + u2))))), .val (.int z146), .val (.int z150), .val (.long (0 : Int64)), .second, .val (.long z155), .second, .val (.long z158), .second, .val (.long (0 : Int64)), .second, .val (.long z161), .second, .val (.long z165), .second, .val (.int z169), .val (.int z174), .unset]) at_473 rfl rfl ?_
    refine own_lload X139 at_475 rfl rfl ?_
    refine own_lloadN X139 at_477 rfl rfl ?_
    suffices J499_180 : ∀ (z179 : Int32), z179 = (if p2 < z158 then (1 : Int32) else (if z9 = (0 : Int32) then (0 : Int32) else (if p1 < z165 then (1 : Int32) else (0 : Int32)))) → own_Fin p e below (own_End s n0 (fun v _ => v = some (.int 1)) room_1.cells room_1.slots) (T138.setTop (mkF m 499 #[.val (.long p1), .second, .val (.long p2), .second, .val (.long p3), .second, .val (.int p4), .val (.int p5), .val (.int p6), .val (.long u1), .second, .val (.long u2), .second, .val (.int z3), .val (.int z6), .val (.int z9), .val (.int z12), .val (.int z15), .val (.int z18), .val (.int z21), .val (.int z24), .val (.ref a33), .val (.ref a44), .val (.ref z50), .val (.ref z53), .val (.int u56), .val (.int z57), .val (.int z60), .val (.long p3), .second, .val (.long (p3 + u1)), .second, .val (.long ((p3 + u1) + u2)), .second, .val (.ref a69), .val (.int (own_res p2 (p3 - (own_si true (0 : Int64) p3)) z3 p1 (p3 - (own_bs true (0 : Int32) z3 (0 : Int64) p3)))), .val (.int (own_res p2 ((p3 + u1) - (own_si (decide (¬ z12 = 0 ∨ ¬ z18 = 0)) (own_si true (0 : Int64) p3) (p3 + u1))) z6 p1 ((p3 + u1) - (own_bs (decide (¬ z12 = 0 ∨ ¬ z18 = 0)) z3 z6 (own_bs true (0 : Int32) z3 (0 : Int64) p3) (p3 + u1))))), .val (.int (own_res p2 (((p3 + u1) + u2) - (own_si (decide (¬ z12 = z15 ∨ ¬ z21 = 0)) (own_si (decide (¬ z12 = 0 ∨ ¬ z18 = 0)) (own_si true (0 : Int64) p3) (p3 + u1)) ((p3 + u1) + u2))) z9 p1 (((p3 + u1) + u2) - (own_bs (decide (¬ z12 = z15 ∨ ¬ z21 = 0)) z6 z9 (own_bs (decide (¬ z12 = 0 ∨ ¬ z18 = 0)) z3 z6 (own_bs true (0 : Int32) z3 (0 : Int64) p3) (p3 + u1)) ((p3 + u1) + u2))))), .val (.int z146), .val (.int z150), .val (.long (0 : Int64)), .second, .val (.long z155), .second, .val (.long z158), .second, .val (.long (0 : Int64)), .second, .val (.long z161), .second, .val (.long z165), .second, .val (.int z169), .val (.int z174), .unset] [(.int z179)])) by
      refine own_lcmp_gt X139 at_478 rfl at_479 (by decide) (pcT := 494) (by decide) rfl (fun hc181 => ?_) (fun hc181 => ?_)
      · skip
        refine own_iconst X139 (1 : Int32) at_494 rfl (by decide) ?_
        refine own_goto X139 at_495 (by decide) (pc' := 499) (by decide) ?_
        exact J499_180 _ (by rw [if_pos hc181])
      · skip
        refine own_iload X139 at_482 rfl rfl ?_
        refine own_if_eq X139 at_484 (by decide) (pcT := 498) (by decide) rfl (fun hc182 => ?_) (fun hc182 => ?_)
        · skip
          refine own_iconst X139 (0 : Int32) at_498 rfl (by decide) ?_
          exact J499_180 _ (by rw [if_neg hc181, if_pos hc182])
        · skip
          refine own_lload X139 at_487 rfl rfl ?_
          refine own_lloadN X139 at_489 rfl rfl ?_
          refine own_lcmp_le X139 at_490 rfl at_491 (by decide) (pcT := 498) (by decide) rfl (fun hc183 => ?_) (fun hc183 => ?_)
          · skip
            refine own_iconst X139 (0 : Int32) at_498 rfl (by decide) ?_
            exact J499_180 _ (by rw [if_neg hc181, if_neg hc182, if_neg hc183])
          · skip
            refine own_iconst X139 (1 : Int32) at_494 rfl (by decide) ?_
            refine own_goto X139 at_495 (by decide) (pc' := 499) (by decide) ?_
            exact J499_180 _ (by rw [if_neg hc181, if_neg hc182, if_pos hc183])
    intro z179 hz179
    refine own_istore X139 (L' := #[.val (.long p1), .second, .val (.long p2), .second, .val (.long p3), .second, .val (.int p4), .val (.int p5), .val (.int p6), .val (.long u1), .second, .val (.long u2), .second, .val (.int z3), .val (.int z6), .val (.int z9), .val (.int z12), .val (.int z15), .val (.int z18), .val (.int z21), .val (.int z24), .val (.ref a33), .val (.ref a44), .val (.ref z50), .val (.ref z53), .val (.int u56), .val (.int z57), .val (.int z60), .val (.long p3), .second, .val (.long (p3 + u1)), .second, .val (.long ((p3 + u1) + u2)), .second, .val (.ref a69), .val (.int (own_res p2 (p3 - (own_si true (0 : Int64) p3)) z3 p1 (p3 - (own_bs true (0 : Int32) z3 (0 : Int64) p3)))), .val (.int (own_res p2 ((p3 + u1) - (own_si (decide (¬ z12 = 0 ∨ ¬ z18 = 0)) (own_si true (0 : Int64) p3) (p3 + u1))) z6 p1 ((p3 + u1) - (own_bs (decide (¬ z12 = 0 ∨ ¬ z18 = 0)) z3 z6 (own_bs true (0 : Int32) z3 (0 : Int64) p3) (p3 + u1))))), .val (.int (own_res p2 (((p3 + u1) + u2) - (own_si (decide (¬ z12 = z15 ∨ ¬ z21 = 0)) (own_si (decide (¬ z12 = 0 ∨ ¬ z18 = 0)) (own_si true (0 : Int64) p3) (p3 + u1)) ((p3 + u1) + u2))) z9 p1 (((p3 + u1) + u2) - (own_bs (decide (¬ z12 = z15 ∨ ¬ z21 = 0)) z6 z9 (own_bs (decide (¬ z12 = 0 ∨ ¬ z18 = 0)) z3 z6 (own_bs true (0 : Int32) z3 (0 : Int64) p3) (p3 + u1)) ((p3 + u1) + u2))))), .val (.int z146), .val (.int z150), .val (.long (0 : Int64)), .second, .val (.long z155), .second, .val (.long z158), .second, .val (.long (0 : Int64)), .second, .val (.long z161), .second, .val (.long z165), .second, .val (.int z169), .val (.int z174), .val (.int z179)]) at_499 rfl rfl ?_
    refine own_iload X139 at_501 rfl rfl ?_
    refine own_iload X139 at_503 rfl rfl ?_
    refine own_icmp_ne X139 at_505 (by decide) (pcT := 526) (by decide) rfl (fun hc => absurd (Eq.trans ((own_r _ _ _ _ _ _ _ (own_e1 _) (fun q => own_e1b q))) hz169.symm) hc) (fun hc => ?_)
    refine own_iload X139 at_508 rfl rfl ?_
    refine own_iload X139 at_510 rfl rfl ?_
    refine own_icmp_ne X139 at_512 (by decide) (pcT := 526) (by decide) rfl (fun hc => absurd (Eq.trans (own_r2 hz146 hz155 hz161) hz174.symm) hc) (fun hc => ?_)
    refine own_iload X139 at_515 rfl rfl ?_
    refine own_iload X139 at_517 rfl rfl ?_
    refine own_icmp_ne X139 at_519 (by decide) (pcT := 526) (by decide) rfl (fun hc => absurd (Eq.trans (own_r3 hc129 hz146 hz155 hz161 hz150 hz158 hz165) hz179.symm) hc) (fun hc => ?_)
    refine own_iconst X139 (1 : Int32) at_522 rfl (by decide) ?_
    refine own_goto X139 at_523 (by decide) (pc' := 527) (by decide) ?_
    exact own_retZ X139 rfl at_527 rfl rfl (by decide) (by decide)
  · skip
    refine own_aload X122 at_285 rfl rfl rfl ?_
    refine own_callV X122 (hw _ (List.mem_of_getElem? (i := 33) rfl)) (hw _ (List.mem_of_getElem? (i := 34) rfl)) (hw _ (List.mem_of_getElem? (i := 36) rfl)) (hw _ (List.mem_of_getElem? (i := 35) rfl)) (hw _ (List.mem_of_getElem? (i := 9) rfl)) (hw _ (List.mem_of_getElem? (i := 37) rfl)) (by decide) (a := a69) (argsL := []) (rest := []) (own_m2 l Z a0 hw [] a69 (.ref z50) z57 (own_si (decide (¬ z12 = 0 ∨ ¬ z18 = 0)) (own_si true (0 : Int64) p3) (p3 + u1)) z6 (own_bs (decide (¬ z12 = 0 ∨ ¬ z18 = 0)) z3 z6 (own_bs true (0 : Int32) z3 (0 : Int64) p3) (p3 + u1)) p1 p2 _ _ Z128 F127 F113 F114 F115 F116 F117 F118 F119 ge_a69) F127 (pd_4) rfl at_287 rfl rfl rfl (W := 0) rfl (by decide) (by decide) (cells' := 3) (slots' := 7) rfl rfl (by decide) (by decide) (fun v T192 h194 X193 q195 => ?_)
    obtain ⟨rfl, K191, F184, F185, F186, F187, F188, F189, F190⟩ := q195
    show own_Fin p e below (own_End s n0 (fun v _ => v = some (.int 1)) room_1.cells room_1.slots) (T192.setTop (mkF m 290 #[.val (.long p1), .second, .val (.long p2), .second, .val (.long p3), .second, .val (.int p4), .val (.int p5), .val (.int p6), .val (.long u1), .second, .val (.long u2), .second, .val (.int z3), .val (.int z6), .val (.int z9), .val (.int z12), .val (.int z15), .val (.int z18), .val (.int z21), .val (.int z24), .val (.ref a33), .val (.ref a44), .val (.ref z50), .val (.ref z53), .val (.int u56), .val (.int z57), .val (.int z60), .val (.long p3), .second, .val (.long (p3 + u1)), .second, .val (.long ((p3 + u1) + u2)), .second, .val (.ref a69), .val (.int (own_res p2 (p3 - (own_si true (0 : Int64) p3)) z3 p1 (p3 - (own_bs true (0 : Int32) z3 (0 : Int64) p3)))), .val (.int (own_res p2 ((p3 + u1) - (own_si (decide (¬ z12 = 0 ∨ ¬ z18 = 0)) (own_si true (0 : Int64) p3) (p3 + u1))) z6 p1 ((p3 + u1) - (own_bs (decide (¬ z12 = 0 ∨ ¬ z18 = 0)) z3 z6 (own_bs true (0 : Int32) z3 (0 : Int64) p3) (p3 + u1))))), .unset, .unset, .unset, .unset, .unset, .unset, .unset, .unset, .unset, .unset, .unset, .unset, .unset, .unset, .unset, .unset, .unset, .unset] []))
    have F196 := (F125.keep K191)
    have F197 := (F126.keep K191)
    have F198 := (F127.keep K191)
    have Z199 : n0 ≤ h194.size := (Nat.le_trans Z128 K191.1)
    refine own_aload X193 at_290 rfl rfl rfl ?_
    refine own_aload X193 at_292 rfl rfl rfl ?_
    refine own_iload X193 at_294 rfl rfl ?_
    refine own_iload X193 at_296 rfl rfl ?_
    refine own_lload X193 at_298 rfl rfl ?_
    refine own_callV X193 (hw _ (List.mem_of_getElem? (i := 18) rfl)) (hw _ (List.mem_of_getElem? (i := 19) rfl)) (hw _ (List.mem_of_getElem? (i := 21) rfl)) (hw _ (List.mem_of_getElem? (i := 20) rfl)) (hw _ (List.mem_of_getElem? (i := 9) rfl)) (hw _ (List.mem_of_getElem? (i := 22) rfl)) (by decide) (a := a69) (argsL := [(.ref z53), (.int z60), (.int z9), (.long ((p3 + u1) + u2))]) (rest := []) (own_m3 l Z a0 hw [] a69 z53 z60 z9 ((p3 + u1) + u2) .null z57 (own_si (decide (¬ z12 = 0 ∨ ¬ z18 = 0)) (own_si true (0 : Int64) p3) (p3 + u1)) z6 (own_bs (decide (¬ z12 = 0 ∨ ¬ z18 = 0)) z3 z6 (own_bs true (0 : Int32) z3 (0 : Int64) p3) (p3 + u1)) p1 p2 true _ _ Z199 F198 F184 F185 F186 F187 F188 F189 F190 ge_a69 rfl (own_b01 hz9).1 (own_b01 hz9).2 (own_nw1 _ _ _)) F198 (pd_3) rfl at_300 rfl rfl rfl (W := 0) rfl (by decide) (by decide) (cells' := 3) (slots' := 7) rfl rfl (by decide) (by decide) (fun v T208 h210 X209 q211 => ?_)
    obtain ⟨rfl, K207, F200, F201, F202, F203, F204, F205, F206⟩ := q211
    show own_Fin p e below (own_End s n0 (fun v _ => v = some (.int 1)) room_1.cells room_1.slots) (T208.setTop (mkF m 303 #[.val (.long p1), .second, .val (.long p2), .second, .val (.long p3), .second, .val (.int p4), .val (.int p5), .val (.int p6), .val (.long u1), .second, .val (.long u2), .second, .val (.int z3), .val (.int z6), .val (.int z9), .val (.int z12), .val (.int z15), .val (.int z18), .val (.int z21), .val (.int z24), .val (.ref a33), .val (.ref a44), .val (.ref z50), .val (.ref z53), .val (.int u56), .val (.int z57), .val (.int z60), .val (.long p3), .second, .val (.long (p3 + u1)), .second, .val (.long ((p3 + u1) + u2)), .second, .val (.ref a69), .val (.int (own_res p2 (p3 - (own_si true (0 : Int64) p3)) z3 p1 (p3 - (own_bs true (0 : Int32) z3 (0 : Int64) p3)))), .val (.int (own_res p2 ((p3 + u1) - (own_si (decide (¬ z12 = 0 ∨ ¬ z18 = 0)) (own_si true (0 : Int64) p3) (p3 + u1))) z6 p1 ((p3 + u1) - (own_bs (decide (¬ z12 = 0 ∨ ¬ z18 = 0)) z3 z6 (own_bs true (0 : Int32) z3 (0 : Int64) p3) (p3 + u1))))), .unset, .unset, .unset, .unset, .unset, .unset, .unset, .unset, .unset, .unset, .unset, .unset, .unset, .unset, .unset, .unset, .unset, .unset] [(.int (own_res p2 (((p3 + u1) + u2) - (own_si true (own_si (decide (¬ z12 = 0 ∨ ¬ z18 = 0)) (own_si true (0 : Int64) p3) (p3 + u1)) ((p3 + u1) + u2))) z9 p1 (((p3 + u1) + u2) - (own_bs true z6 z9 (own_bs (decide (¬ z12 = 0 ∨ ¬ z18 = 0)) z3 z6 (own_bs true (0 : Int32) z3 (0 : Int64) p3) (p3 + u1)) ((p3 + u1) + u2)))))]))
    have F212 := (F196.keep K207)
    have F213 := (F197.keep K207)
    have F214 := (F198.keep K207)
    have Z215 : n0 ≤ h210.size := (Nat.le_trans Z199 K207.1)
    refine own_istore X209 (L' := #[.val (.long p1), .second, .val (.long p2), .second, .val (.long p3), .second, .val (.int p4), .val (.int p5), .val (.int p6), .val (.long u1), .second, .val (.long u2), .second, .val (.int z3), .val (.int z6), .val (.int z9), .val (.int z12), .val (.int z15), .val (.int z18), .val (.int z21), .val (.int z24), .val (.ref a33), .val (.ref a44), .val (.ref z50), .val (.ref z53), .val (.int u56), .val (.int z57), .val (.int z60), .val (.long p3), .second, .val (.long (p3 + u1)), .second, .val (.long ((p3 + u1) + u2)), .second, .val (.ref a69), .val (.int (own_res p2 (p3 - (own_si true (0 : Int64) p3)) z3 p1 (p3 - (own_bs true (0 : Int32) z3 (0 : Int64) p3)))), .val (.int (own_res p2 ((p3 + u1) - (own_si (decide (¬ z12 = 0 ∨ ¬ z18 = 0)) (own_si true (0 : Int64) p3) (p3 + u1))) z6 p1 ((p3 + u1) - (own_bs (decide (¬ z12 = 0 ∨ ¬ z18 = 0)) z3 z6 (own_bs true (0 : Int32) z3 (0 : Int64) p3) (p3 + u1))))), .val (.int (own_res p2 (((p3 + u1) + u2) - (own_si true (own_si (decide (¬ z12 = 0 ∨ ¬ z18 = 0)) (own_si true (0 : Int64) p3) (p3 + u1)) ((p3 + u1) + u2))) z9 p1 (((p3 + u1) + u2) - (own_bs true z6 z9 (own_bs (decide (¬ z12 = 0 ∨ ¬ z18 = 0)) z3 z6 (own_bs true (0 : Int32) z3 (0 : Int64) p3) (p3 + u1)) ((p3 + u1) + u2))))), .unset, .unset, .unset, .unset, .unset, .unset, .unset, .unset, .unset, .unset, .unset, .unset, .unset, .unset, .unset, .unset, .unset]) at_303 rfl rfl ?_
    refine own_iload X209 at_305 rfl rfl ?_
    suffices J320_217 : ∀ (z216 : Int32), z216 = (if z12 = (0 : Int32) then (if z18 = (0 : Int32) then (0 : Int32) else (1 : Int32)) else (1 : Int32)) → own_Fin p e below (own_End s n0 (fun v _ => v = some (.int 1)) room_1.cells room_1.slots) (T208.setTop (mkF m 320 #[.val (.long p1), .second, .val (.long p2), .second, .val (.long p3), .second, .val (.int p4), .val (.int p5), .val (.int p6), .val (.long u1), .second, .val (.long u2), .second, .val (.int z3), .val (.int z6), .val (.int z9), .val (.int z12), .val (.int z15), .val (.int z18), .val (.int z21), .val (.int z24), .val (.ref a33), .val (.ref a44), .val (.ref z50), .val (.ref z53), .val (.int u56), .val (.int z57), .val (.int z60), .val (.long p3), .second, .val (.long (p3 + u1)), .second, .val (.long ((p3 + u1) + u2)), .second, .val (.ref a69), .val (.int (own_res p2 (p3 - (own_si true (0 : Int64) p3)) z3 p1 (p3 - (own_bs true (0 : Int32) z3 (0 : Int64) p3)))), .val (.int (own_res p2 ((p3 + u1) - (own_si (decide (¬ z12 = 0 ∨ ¬ z18 = 0)) (own_si true (0 : Int64) p3) (p3 + u1))) z6 p1 ((p3 + u1) - (own_bs (decide (¬ z12 = 0 ∨ ¬ z18 = 0)) z3 z6 (own_bs true (0 : Int32) z3 (0 : Int64) p3) (p3 + u1))))), .val (.int (own_res p2 (((p3 + u1) + u2) - (own_si true (own_si (decide (¬ z12 = 0 ∨ ¬ z18 = 0)) (own_si true (0 : Int64) p3) (p3 + u1)) ((p3 + u1) + u2))) z9 p1 (((p3 + u1) + u2) - (own_bs true z6 z9 (own_bs (decide (¬ z12 = 0 ∨ ¬ z18 = 0)) z3 z6 (own_bs true (0 : Int32) z3 (0 : Int64) p3) (p3 + u1)) ((p3 + u1) + u2))))), .unset, .unset, .unset, .unset, .unset, .unset, .unset, .unset, .unset, .unset, .unset, .unset, .unset, .unset, .unset, .unset, .unset] [(.int z216)])) by
      refine own_if_ne X209 at_307 (by decide) (pcT := 315) (by decide) rfl (fun hc218 => ?_) (fun hc218 => ?_)
      · skip
        refine own_iconst X209 (1 : Int32) at_315 rfl (by decide) ?_
        refine own_goto X209 at_316 (by decide) (pc' := 320) (by decide) ?_
        exact J320_217 _ (by rw [if_neg hc218])
      · skip
        refine own_iload X209 at_310 rfl rfl ?_
        refine own_if_eq X209 at_312 (by decide) (pcT := 319) (by decide) rfl (fun hc219 => ?_) (fun hc219 => ?_)
        · skip
          refine own_iconst X209 (0 : Int32) at_319 rfl (by decide) ?_
          exact J320_217 _ (by rw [if_pos hc218, if_pos hc219])
        · skip
          refine own_iconst X209 (1 : Int32) at_315 rfl (by decide) ?_
          refine own_goto X209 at_316 (by decide) (pc' := 320) (by decide) ?_
          exact J320_217 _ (by rw [if_pos hc218, if_neg hc219])
    intro z216 hz216
    refine own_istore X209 (L' := #[.val (.long p1), .second, .val (.long p2), .second, .val (.long p3), .second, .val (.int p4), .val (.int p5), .val (.int p6), .val (.long u1), .second, .val (.long u2), .second, .val (.int z3), .val (.int z6), .val (.int z9), .val (.int z12), .val (.int z15), .val (.int z18), .val (.int z21), .val (.int z24), .val (.ref a33), .val (.ref a44), .val (.ref z50), .val (.ref z53), .val (.int u56), .val (.int z57), .val (.int z60), .val (.long p3), .second, .val (.long (p3 + u1)), .second, .val (.long ((p3 + u1) + u2)), .second, .val (.ref a69), .val (.int (own_res p2 (p3 - (own_si true (0 : Int64) p3)) z3 p1 (p3 - (own_bs true (0 : Int32) z3 (0 : Int64) p3)))), .val (.int (own_res p2 ((p3 + u1) - (own_si (decide (¬ z12 = 0 ∨ ¬ z18 = 0)) (own_si true (0 : Int64) p3) (p3 + u1))) z6 p1 ((p3 + u1) - (own_bs (decide (¬ z12 = 0 ∨ ¬ z18 = 0)) z3 z6 (own_bs true (0 : Int32) z3 (0 : Int64) p3) (p3 + u1))))), .val (.int (own_res p2 (((p3 + u1) + u2) - (own_si true (own_si (decide (¬ z12 = 0 ∨ ¬ z18 = 0)) (own_si true (0 : Int64) p3) (p3 + u1)) ((p3 + u1) + u2))) z9 p1 (((p3 + u1) + u2) - (own_bs true z6 z9 (own_bs (decide (¬ z12 = 0 ∨ ¬ z18 = 0)) z3 z6 (own_bs true (0 : Int32) z3 (0 : Int64) p3) (p3 + u1)) ((p3 + u1) + u2))))), .val (.int z216), .unset, .unset, .unset, .unset, .unset, .unset, .unset, .unset, .unset, .unset, .unset, .unset, .unset, .unset, .unset, .unset]) at_320 rfl rfl ?_
    refine own_iload X209 at_322 rfl rfl ?_
    suffices J344_221 : ∀ (z220 : Int32), z220 = (if z24 = (0 : Int32) then (if z12 = z15 then (if z21 = (0 : Int32) then (0 : Int32) else (1 : Int32)) else (1 : Int32)) else (1 : Int32)) → own_Fin p e below (own_End s n0 (fun v _ => v = some (.int 1)) room_1.cells room_1.slots) (T208.setTop (mkF m 344 #[.val (.long p1), .second, .val (.long p2), .second, .val (.long p3), .second, .val (.int p4), .val (.int p5), .val (.int p6), .val (.long u1), .second, .val (.long u2), .second, .val (.int z3), .val (.int z6), .val (.int z9), .val (.int z12), .val (.int z15), .val (.int z18), .val (.int z21), .val (.int z24), .val (.ref a33), .val (.ref a44), .val (.ref z50), .val (.ref z53), .val (.int u56), .val (.int z57), .val (.int z60), .val (.long p3), .second, .val (.long (p3 + u1)), .second, .val (.long ((p3 + u1) + u2)), .second, .val (.ref a69), .val (.int (own_res p2 (p3 - (own_si true (0 : Int64) p3)) z3 p1 (p3 - (own_bs true (0 : Int32) z3 (0 : Int64) p3)))), .val (.int (own_res p2 ((p3 + u1) - (own_si (decide (¬ z12 = 0 ∨ ¬ z18 = 0)) (own_si true (0 : Int64) p3) (p3 + u1))) z6 p1 ((p3 + u1) - (own_bs (decide (¬ z12 = 0 ∨ ¬ z18 = 0)) z3 z6 (own_bs true (0 : Int32) z3 (0 : Int64) p3) (p3 + u1))))), .val (.int (own_res p2 (((p3 + u1) + u2) - (own_si true (own_si (decide (¬ z12 = 0 ∨ ¬ z18 = 0)) (own_si true (0 : Int64) p3) (p3 + u1)) ((p3 + u1) + u2))) z9 p1 (((p3 + u1) + u2) - (own_bs true z6 z9 (own_bs (decide (¬ z12 = 0 ∨ ¬ z18 = 0)) z3 z6 (own_bs true (0 : Int32) z3 (0 : Int64) p3) (p3 + u1)) ((p3 + u1) + u2))))), .val (.int z216), .unset, .unset, .unset, .unset, .unset, .unset, .unset, .unset, .unset, .unset, .unset, .unset, .unset, .unset, .unset, .unset] [(.int z220)])) by
      refine own_if_ne X209 at_324 (by decide) (pcT := 339) (by decide) rfl (fun hc222 => ?_) (fun hc222 => ?_)
      · skip
        refine own_iconst X209 (1 : Int32) at_339 rfl (by decide) ?_
        refine own_goto X209 at_340 (by decide) (pc' := 344) (by decide) ?_
        exact J344_221 _ (by rw [if_neg hc222])
      · skip
        refine own_iload X209 at_327 rfl rfl ?_
        refine own_iload X209 at_329 rfl rfl ?_
        refine own_icmp_ne X209 at_331 (by decide) (pcT := 339) (by decide) rfl (fun hc223 => ?_) (fun hc223 => ?_)
        · skip
          refine own_iconst X209 (1 : Int32) at_339 rfl (by decide) ?_
          refine own_goto X209 at_340 (by decide) (pc' := 344) (by decide) ?_
          exact J344_221 _ (by rw [if_pos hc222, if_neg hc223])
        · skip
          refine own_iload X209 at_334 rfl rfl ?_
          refine own_if_eq X209 at_336 (by decide) (pcT := 343) (by decide) rfl (fun hc224 => ?_) (fun hc224 => ?_)
          · skip
            refine own_iconst X209 (0 : Int32) at_343 rfl (by decide) ?_
            exact J344_221 _ (by rw [if_pos hc222, if_pos hc223, if_pos hc224])
          · skip
            refine own_iconst X209 (1 : Int32) at_339 rfl (by decide) ?_
            refine own_goto X209 at_340 (by decide) (pc' := 344) (by decide) ?_
            exact J344_221 _ (by rw [if_pos hc222, if_pos hc223, if_neg hc224])
    intro z220 hz220
    refine own_istore X209 (L' := #[.val (.long p1), .second, .val (.long p2), .second, .val (.long p3), .second, .val (.int p4), .val (.int p5), .val (.int p6), .val (.long u1), .second, .val (.long u2), .second, .val (.int z3), .val (.int z6), .val (.int z9), .val (.int z12), .val (.int z15), .val (.int z18), .val (.int z21), .val (.int z24), .val (.ref a33), .val (.ref a44), .val (.ref z50), .val (.ref z53), .val (.int u56), .val (.int z57), .val (.int z60), .val (.long p3), .second, .val (.long (p3 + u1)), .second, .val (.long ((p3 + u1) + u2)), .second, .val (.ref a69), .val (.int (own_res p2 (p3 - (own_si true (0 : Int64) p3)) z3 p1 (p3 - (own_bs true (0 : Int32) z3 (0 : Int64) p3)))), .val (.int (own_res p2 ((p3 + u1) - (own_si (decide (¬ z12 = 0 ∨ ¬ z18 = 0)) (own_si true (0 : Int64) p3) (p3 + u1))) z6 p1 ((p3 + u1) - (own_bs (decide (¬ z12 = 0 ∨ ¬ z18 = 0)) z3 z6 (own_bs true (0 : Int32) z3 (0 : Int64) p3) (p3 + u1))))), .val (.int (own_res p2 (((p3 + u1) + u2) - (own_si true (own_si (decide (¬ z12 = 0 ∨ ¬ z18 = 0)) (own_si true (0 : Int64) p3) (p3 + u1)) ((p3 + u1) + u2))) z9 p1 (((p3 + u1) + u2) - (own_bs true z6 z9 (own_bs (decide (¬ z12 = 0 ∨ ¬ z18 = 0)) z3 z6 (own_bs true (0 : Int32) z3 (0 : Int64) p3) (p3 + u1)) ((p3 + u1) + u2))))), .val (.int z216), .val (.int z220), .unset, .unset, .unset, .unset, .unset, .unset, .unset, .unset, .unset, .unset, .unset, .unset, .unset, .unset, .unset]) at_344 rfl rfl ?_
    refine own_lconst X209 (0 : Int64) at_346 rfl (by decide) ?_
    refine own_lstore X209 (L' := #[.val (.long p1), .second, .val (.long p2), .second, .val (.long p3), .second, .val (.int p4), .val (.int p5), .val (.int p6), .val (.long u1), .second, .val (.long u2), .second, .val (.int z3), .val (.int z6), .val (.int z9), .val (.int z12), .val (.int z15), .val (.int z18), .val (.int z21), .val (.int z24), .val (.ref a33), .val (.ref a44), .val (.ref z50), .val (.ref z53), .val (.int u56), .val (.int z57), .val (.int z60), .val (.long p3), .second, .val (.long (p3 + u1)), .second, .val (.long ((p3 + u1) + u2)), .second, .val (.ref a69), .val (.int (own_res p2 (p3 - (own_si true (0 : Int64) p3)) z3 p1 (p3 - (own_bs true (0 : Int32) z3 (0 : Int64) p3)))), .val (.int (own_res p2 ((p3 + u1) - (own_si (decide (¬ z12 = 0 ∨ ¬ z18 = 0)) (own_si true (0 : Int64) p3) (p3 + u1))) z6 p1 ((p3 + u1) - (own_bs (decide (¬ z12 = 0 ∨ ¬ z18 = 0)) z3 z6 (own_bs true (0 : Int32) z3 (0 : Int64) p3) (p3 + u1))))), .val (.int (own_res p2 (((p3 + u1) + u2) - (own_si true (own_si (decide (¬ z12 = 0 ∨ ¬ z18 = 0)) (own_si true (0 : Int64) p3) (p3 + u1)) ((p3 + u1) + u2))) z9 p1 (((p3 + u1) + u2) - (own_bs true z6 z9 (own_bs (decide (¬ z12 = 0 ∨ ¬ z18 = 0)) z3 z6 (own_bs true (0 : Int32) z3 (0 : Int64) p3) (p3 + u1)) ((p3 + u1) + u2))))), .val (.int z216), .val (.int z220), .val (.long (0 : Int64)), .second, .unset, .unset, .unset, .unset, .unset, .unset, .unset, .unset, .unset, .unset, .unset, .unset, .unset]) at_347 rfl rfl ?_
    refine own_iload X209 at_349 rfl rfl ?_
    suffices J360_226 : ∀ (z225 : Int64), z225 = (if z216 = (0 : Int32) then u1 else (0 : Int64)) → own_Fin p e below (own_End s n0 (fun v _ => v = some (.int 1)) room_1.cells room_1.slots) (T208.setTop (mkF m 360 #[.val (.long p1), .second, .val (.long p2), .second, .val (.long p3), .second, .val (.int p4), .val (.int p5), .val (.int p6), .val (.long u1), .second, .val (.long u2), .second, .val (.int z3), .val (.int z6), .val (.int z9), .val (.int z12), .val (.int z15), .val (.int z18), .val (.int z21), .val (.int z24), .val (.ref a33), .val (.ref a44), .val (.ref z50), .val (.ref z53), .val (.int u56), .val (.int z57), .val (.int z60), .val (.long p3), .second, .val (.long (p3 + u1)), .second, .val (.long ((p3 + u1) + u2)), .second, .val (.ref a69), .val (.int (own_res p2 (p3 - (own_si true (0 : Int64) p3)) z3 p1 (p3 - (own_bs true (0 : Int32) z3 (0 : Int64) p3)))), .val (.int (own_res p2 ((p3 + u1) - (own_si (decide (¬ z12 = 0 ∨ ¬ z18 = 0)) (own_si true (0 : Int64) p3) (p3 + u1))) z6 p1 ((p3 + u1) - (own_bs (decide (¬ z12 = 0 ∨ ¬ z18 = 0)) z3 z6 (own_bs true (0 : Int32) z3 (0 : Int64) p3) (p3 + u1))))), .val (.int (own_res p2 (((p3 + u1) + u2) - (own_si true (own_si (decide (¬ z12 = 0 ∨ ¬ z18 = 0)) (own_si true (0 : Int64) p3) (p3 + u1)) ((p3 + u1) + u2))) z9 p1 (((p3 + u1) + u2) - (own_bs true z6 z9 (own_bs (decide (¬ z12 = 0 ∨ ¬ z18 = 0)) z3 z6 (own_bs true (0 : Int32) z3 (0 : Int64) p3) (p3 + u1)) ((p3 + u1) + u2))))), .val (.int z216), .val (.int z220), .val (.long (0 : Int64)), .second, .unset, .unset, .unset, .unset, .unset, .unset, .unset, .unset, .unset, .unset, .unset, .unset, .unset] [(.long z225)])) by
      refine own_if_eq X209 at_351 (by decide) (pcT := 358) (by decide) rfl (fun hc227 => ?_) (fun hc227 => ?_)
      · skip
        refine own_lload X209 at_358 rfl rfl ?_
        exact J360_226 _ (by rw [if_pos hc227])
      · skip
        refine own_lconst X209 (0 : Int64) at_354 rfl (by decide) ?_
        refine own_goto X209 at_355 (by decide) (pc' := 360) (by decide) ?_
        exact J360_226 _ (by rw [if_neg hc227])
    intro z225 hz225
    refine own_lstore X209 (L' := #[.val (.long p1), .second, .val (.long p2), .second, .val (.long p3), .second, .val (.int p4), .val (.int p5), .val (.int p6), .val (.long u1), .second, .val (.long u2), .second, .val (.int z3), .val (.int z6), .val (.int z9), .val (.int z12), .val (.int z15), .val (.int z18), .val (.int z21), .val (.int z24), .val (.ref a33), .val (.ref a44), .val (.ref z50), .val (.ref z53), .val (.int u56), .val (.int z57), .val (.int z60), .val (.long p3), .second, .val (.long (p3 + u1)), .second, .val (.long ((p3 + u1) + u2)), .second, .val (.ref a69), .val (.int (own_res p2 (p3 - (own_si true (0 : Int64) p3)) z3 p1 (p3 - (own_bs true (0 : Int32) z3 (0 : Int64) p3)))), .val (.int (own_res p2 ((p3 + u1) - (own_si (decide (¬ z12 = 0 ∨ ¬ z18 = 0)) (own_si true (0 : Int64) p3) (p3 + u1))) z6 p1 ((p3 + u1) - (own_bs (decide (¬ z12 = 0 ∨ ¬ z18 = 0)) z3 z6 (own_bs true (0 : Int32) z3 (0 : Int64) p3) (p3 + u1))))), .val (.int (own_res p2 (((p3 + u1) + u2) - (own_si true (own_si (decide (¬ z12 = 0 ∨ ¬ z18 = 0)) (own_si true (0 : Int64) p3) (p3 + u1)) ((p3 + u1) + u2))) z9 p1 (((p3 + u1) + u2) - (own_bs true z6 z9 (own_bs (decide (¬ z12 = 0 ∨ ¬ z18 = 0)) z3 z6 (own_bs true (0 : Int32) z3 (0 : Int64) p3) (p3 + u1)) ((p3 + u1) + u2))))), .val (.int z216), .val (.int z220), .val (.long (0 : Int64)), .second, .val (.long z225), .second, .unset, .unset, .unset, .unset, .unset, .unset, .unset, .unset, .unset, .unset, .unset]) at_360 rfl rfl ?_
    refine own_iload X209 at_362 rfl rfl ?_
    suffices J376_229 : ∀ (z228 : Int64), z228 = (if z220 = (0 : Int32) then (z225 + u2) else (0 : Int64)) → own_Fin p e below (own_End s n0 (fun v _ => v = some (.int 1)) room_1.cells room_1.slots) (T208.setTop (mkF m 376 #[.val (.long p1), .second, .val (.long p2), .second, .val (.long p3), .second, .val (.int p4), .val (.int p5), .val (.int p6), .val (.long u1), .second, .val (.long u2), .second, .val (.int z3), .val (.int z6), .val (.int z9), .val (.int z12), .val (.int z15), .val (.int z18), .val (.int z21), .val (.int z24), .val (.ref a33), .val (.ref a44), .val (.ref z50), .val (.ref z53), .val (.int u56), .val (.int z57), .val (.int z60), .val (.long p3), .second, .val (.long (p3 + u1)), .second, .val (.long ((p3 + u1) + u2)), .second, .val (.ref a69), .val (.int (own_res p2 (p3 - (own_si true (0 : Int64) p3)) z3 p1 (p3 - (own_bs true (0 : Int32) z3 (0 : Int64) p3)))), .val (.int (own_res p2 ((p3 + u1) - (own_si (decide (¬ z12 = 0 ∨ ¬ z18 = 0)) (own_si true (0 : Int64) p3) (p3 + u1))) z6 p1 ((p3 + u1) - (own_bs (decide (¬ z12 = 0 ∨ ¬ z18 = 0)) z3 z6 (own_bs true (0 : Int32) z3 (0 : Int64) p3) (p3 + u1))))), .val (.int (own_res p2 (((p3 + u1) + u2) - (own_si true (own_si (decide (¬ z12 = 0 ∨ ¬ z18 = 0)) (own_si true (0 : Int64) p3) (p3 + u1)) ((p3 + u1) + u2))) z9 p1 (((p3 + u1) + u2) - (own_bs true z6 z9 (own_bs (decide (¬ z12 = 0 ∨ ¬ z18 = 0)) z3 z6 (own_bs true (0 : Int32) z3 (0 : Int64) p3) (p3 + u1)) ((p3 + u1) + u2))))), .val (.int z216), .val (.int z220), .val (.long (0 : Int64)), .second, .val (.long z225), .second, .unset, .unset, .unset, .unset, .unset, .unset, .unset, .unset, .unset, .unset, .unset] [(.long z228)])) by
      refine own_if_eq X209 at_364 (by decide) (pcT := 371) (by decide) rfl (fun hc230 => ?_) (fun hc230 => ?_)
      · skip
        refine own_lload X209 at_371 rfl rfl ?_
        refine own_lload X209 at_373 rfl rfl ?_
        refine own_ladd X209 at_375 rfl ?_
        exact J376_229 _ (by rw [if_pos hc230])
      · skip
        refine own_lconst X209 (0 : Int64) at_367 rfl (by decide) ?_
        refine own_goto X209 at_368 (by decide) (pc' := 376) (by decide) ?_
        exact J376_229 _ (by rw [if_neg hc230])
    intro z228 hz228
    refine own_lstore X209 (L' := #[.val (.long p1), .second, .val (.long p2), .second, .val (.long p3), .second, .val (.int p4), .val (.int p5), .val (.int p6), .val (.long u1), .second, .val (.long u2), .second, .val (.int z3), .val (.int z6), .val (.int z9), .val (.int z12), .val (.int z15), .val (.int z18), .val (.int z21), .val (.int z24), .val (.ref a33), .val (.ref a44), .val (.ref z50), .val (.ref z53), .val (.int u56), .val (.int z57), .val (.int z60), .val (.long p3), .second, .val (.long (p3 + u1)), .second, .val (.long ((p3 + u1) + u2)), .second, .val (.ref a69), .val (.int (own_res p2 (p3 - (own_si true (0 : Int64) p3)) z3 p1 (p3 - (own_bs true (0 : Int32) z3 (0 : Int64) p3)))), .val (.int (own_res p2 ((p3 + u1) - (own_si (decide (¬ z12 = 0 ∨ ¬ z18 = 0)) (own_si true (0 : Int64) p3) (p3 + u1))) z6 p1 ((p3 + u1) - (own_bs (decide (¬ z12 = 0 ∨ ¬ z18 = 0)) z3 z6 (own_bs true (0 : Int32) z3 (0 : Int64) p3) (p3 + u1))))), .val (.int (own_res p2 (((p3 + u1) + u2) - (own_si true (own_si (decide (¬ z12 = 0 ∨ ¬ z18 = 0)) (own_si true (0 : Int64) p3) (p3 + u1)) ((p3 + u1) + u2))) z9 p1 (((p3 + u1) + u2) - (own_bs true z6 z9 (own_bs (decide (¬ z12 = 0 ∨ ¬ z18 = 0)) z3 z6 (own_bs true (0 : Int32) z3 (0 : Int64) p3) (p3 + u1)) ((p3 + u1) + u2))))), .val (.int z216), .val (.int z220), .val (.long (0 : Int64)), .second, .val (.long z225), .second, .val (.long z228), .second, .unset, .unset, .unset, .unset, .unset, .unset, .unset, .unset, .unset]) at_376 rfl rfl ?_
    refine own_lconst X209 (0 : Int64) at_378 rfl (by decide) ?_
    refine own_lstore X209 (L' := #[.val (.long p1), .second, .val (.long p2), .second, .val (.long p3), .second, .val (.int p4), .val (.int p5), .val (.int p6), .val (.long u1), .second, .val (.long u2), .second, .val (.int z3), .val (.int z6), .val (.int z9), .val (.int z12), .val (.int z15), .val (.int z18), .val (.int z21), .val (.int z24), .val (.ref a33), .val (.ref a44), .val (.ref z50), .val (.ref z53), .val (.int u56), .val (.int z57), .val (.int z60), .val (.long p3), .second, .val (.long (p3 + u1)), .second, .val (.long ((p3 + u1) + u2)), .second, .val (.ref a69), .val (.int (own_res p2 (p3 - (own_si true (0 : Int64) p3)) z3 p1 (p3 - (own_bs true (0 : Int32) z3 (0 : Int64) p3)))), .val (.int (own_res p2 ((p3 + u1) - (own_si (decide (¬ z12 = 0 ∨ ¬ z18 = 0)) (own_si true (0 : Int64) p3) (p3 + u1))) z6 p1 ((p3 + u1) - (own_bs (decide (¬ z12 = 0 ∨ ¬ z18 = 0)) z3 z6 (own_bs true (0 : Int32) z3 (0 : Int64) p3) (p3 + u1))))), .val (.int (own_res p2 (((p3 + u1) + u2) - (own_si true (own_si (decide (¬ z12 = 0 ∨ ¬ z18 = 0)) (own_si true (0 : Int64) p3) (p3 + u1)) ((p3 + u1) + u2))) z9 p1 (((p3 + u1) + u2) - (own_bs true z6 z9 (own_bs (decide (¬ z12 = 0 ∨ ¬ z18 = 0)) z3 z6 (own_bs true (0 : Int32) z3 (0 : Int64) p3) (p3 + u1)) ((p3 + u1) + u2))))), .val (.int z216), .val (.int z220), .val (.long (0 : Int64)), .second, .val (.long z225), .second, .val (.long z228), .second, .val (.long (0 : Int64)), .second, .unset, .unset, .unset, .unset, .unset, .unset, .unset]) at_379 rfl rfl ?_
    refine own_iload X209 at_381 rfl rfl ?_
    suffices J400_232 : ∀ (z231 : Int64), z231 = (if z3 = (0 : Int32) then (0 : Int64) else (if z216 = (0 : Int32) then ((0 : Int64) + u1) else (0 : Int64))) → own_Fin p e below (own_End s n0 (fun v _ => v = some (.int 1)) room_1.cells room_1.slots) (T208.setTop (mkF m 400 #[.val (.long p1), .second, .val (.long p2), .second, .val (.long p3), .second, .val (.int p4), .val (.int p5), .val (.int p6), .val (.long u1), .second, .val (.long u2), .second, .val (.int z3), .val (.int z6), .val (.int z9), .val (.int z12), .val (.int z15), .val (.int z18), .val (.int z21), .val (.int z24), .val (.ref a33), .val (.ref a44), .val (.ref z50), .val (.ref z53), .val (.int u56), .val (.int z57), .val (.int z60), .val (.long p3), .second, .val (.long (p3 + u1)), .second, .val (.long ((p3 + u1) + u2)), .second, .val (.ref a69), .val (.int (own_res p2 (p3 - (own_si true (0 : Int64) p3)) z3 p1 (p3 - (own_bs true (0 : Int32) z3 (0 : Int64) p3)))), .val (.int (own_res p2 ((p3 + u1) - (own_si (decide (¬ z12 = 0 ∨ ¬ z18 = 0)) (own_si true (0 : Int64) p3) (p3 + u1))) z6 p1 ((p3 + u1) - (own_bs (decide (¬ z12 = 0 ∨ ¬ z18 = 0)) z3 z6 (own_bs true (0 : Int32) z3 (0 : Int64) p3) (p3 + u1))))), .val (.int (own_res p2 (((p3 + u1) + u2) - (own_si true (own_si (decide (¬ z12 = 0 ∨ ¬ z18 = 0)) (own_si true (0 : Int64) p3) (p3 + u1)) ((p3 + u1) + u2))) z9 p1 (((p3 + u1) + u2) - (own_bs true z6 z9 (own_bs (decide (¬ z12 = 0 ∨ ¬ z18 = 0)) z3 z6 (own_bs true (0 : Int32) z3 (0 : Int64) p3) (p3 + u1)) ((p3 + u1) + u2))))), .val (.int z216), .val (.int z220), .val (.long (0 : Int64)), .second, .val (.long z225), .second, .val (.long z228), .second, .val (.long (0 : Int64)), .second, .unset, .unset, .unset, .unset, .unset, .unset, .unset] [(.long z231)])) by
      refine own_if_eq X209 at_383 (by decide) (pcT := 399) (by decide) rfl (fun hc233 => ?_) (fun hc233 => ?_)
      · skip
        refine own_lconst X209 (0 : Int64) at_399 rfl (by decide) ?_
        exact J400_232 _ (by rw [if_pos hc233])
      · skip
        refine own_iload X209 at_386 rfl rfl ?_
        refine own_if_ne X209 at_388 (by decide) (pcT := 399) (by decide) rfl (fun hc234 => ?_) (fun hc234 => ?_)
        · skip
          refine own_lconst X209 (0 : Int64) at_399 rfl (by decide) ?_
          exact J400_232 _ (by rw [if_neg hc233, if_neg hc234])
        · skip
          refine own_lload X209 at_391 rfl rfl ?_
          refine own_lload X209 at_393 rfl rfl ?_
          refine own_ladd X209 at_395 rfl ?_
          refine own_goto X209 at_396 (by decide) (pc' := 400) (by decide) ?_
          exact J400_232 _ (by rw [if_neg hc233, if_pos hc234])
    intro z231 hz231
    refine own_lstore X209 (L' := #[.val (.long p1), .second, .val (.long p2), .second, .val (.long p3), .second, .val (.int p4), .val (.int p5), .val (.int p6), .val (.long u1), .second, .val (.long u2), .second, .val (.int z3), .val (.int z6), .val (.int z9), .val (.int z12), .val (.int z15), .val (.int z18), .val (.int z21), .val (.int z24), .val (.ref a33), .val (.ref a44), .val (.ref z50), .val (.ref z53), .val (.int u56), .val (.int z57), .val (.int z60), .val (.long p3), .second, .val (.long (p3 + u1)), .second, .val (.long ((p3 + u1) + u2)), .second, .val (.ref a69), .val (.int (own_res p2 (p3 - (own_si true (0 : Int64) p3)) z3 p1 (p3 - (own_bs true (0 : Int32) z3 (0 : Int64) p3)))), .val (.int (own_res p2 ((p3 + u1) - (own_si (decide (¬ z12 = 0 ∨ ¬ z18 = 0)) (own_si true (0 : Int64) p3) (p3 + u1))) z6 p1 ((p3 + u1) - (own_bs (decide (¬ z12 = 0 ∨ ¬ z18 = 0)) z3 z6 (own_bs true (0 : Int32) z3 (0 : Int64) p3) (p3 + u1))))), .val (.int (own_res p2 (((p3 + u1) + u2) - (own_si true (own_si (decide (¬ z12 = 0 ∨ ¬ z18 = 0)) (own_si true (0 : Int64) p3) (p3 + u1)) ((p3 + u1) + u2))) z9 p1 (((p3 + u1) + u2) - (own_bs true z6 z9 (own_bs (decide (¬ z12 = 0 ∨ ¬ z18 = 0)) z3 z6 (own_bs true (0 : Int32) z3 (0 : Int64) p3) (p3 + u1)) ((p3 + u1) + u2))))), .val (.int z216), .val (.int z220), .val (.long (0 : Int64)), .second, .val (.long z225), .second, .val (.long z228), .second, .val (.long (0 : Int64)), .second, .val (.long z231), .second, .unset, .unset, .unset, .unset, .unset]) at_400 rfl rfl ?_
    refine own_iload X209 at_402 rfl rfl ?_
    suffices J421_236 : ∀ (z235 : Int64), z235 = (if z6 = (0 : Int32) then (0 : Int64) else (if z220 = (0 : Int32) then (z231 + u2) else (0 : Int64))) → own_Fin p e below (own_End s n0 (fun v _ => v = some (.int 1)) room_1.cells room_1.slots) (T208.setTop (mkF m 421 #[.val (.long p1), .second, .val (.long p2), .second, .val (.long p3), .second, .val (.int p4), .val (.int p5), .val (.int p6), .val (.long u1), .second, .val (.long u2), .second, .val (.int z3), .val (.int z6), .val (.int z9), .val (.int z12), .val (.int z15), .val (.int z18), .val (.int z21), .val (.int z24), .val (.ref a33), .val (.ref a44), .val (.ref z50), .val (.ref z53), .val (.int u56), .val (.int z57), .val (.int z60), .val (.long p3), .second, .val (.long (p3 + u1)), .second, .val (.long ((p3 + u1) + u2)), .second, .val (.ref a69), .val (.int (own_res p2 (p3 - (own_si true (0 : Int64) p3)) z3 p1 (p3 - (own_bs true (0 : Int32) z3 (0 : Int64) p3)))), .val (.int (own_res p2 ((p3 + u1) - (own_si (decide (¬ z12 = 0 ∨ ¬ z18 = 0)) (own_si true (0 : Int64) p3) (p3 + u1))) z6 p1 ((p3 + u1) - (own_bs (decide (¬ z12 = 0 ∨ ¬ z18 = 0)) z3 z6 (own_bs true (0 : Int32) z3 (0 : Int64) p3) (p3 + u1))))), .val (.int (own_res p2 (((p3 + u1) + u2) - (own_si true (own_si (decide (¬ z12 = 0 ∨ ¬ z18 = 0)) (own_si true (0 : Int64) p3) (p3 + u1)) ((p3 + u1) + u2))) z9 p1 (((p3 + u1) + u2) - (own_bs true z6 z9 (own_bs (decide (¬ z12 = 0 ∨ ¬ z18 = 0)) z3 z6 (own_bs true (0 : Int32) z3 (0 : Int64) p3) (p3 + u1)) ((p3 + u1) + u2))))), .val (.int z216), .val (.int z220), .val (.long (0 : Int64)), .second, .val (.long z225), .second, .val (.long z228), .second, .val (.long (0 : Int64)), .second, .val (.long z231), .second, .unset, .unset, .unset, .unset, .unset] [(.long z235)])) by
      refine own_if_eq X209 at_404 (by decide) (pcT := 420) (by decide) rfl (fun hc237 => ?_) (fun hc237 => ?_)
      · skip
        refine own_lconst X209 (0 : Int64) at_420 rfl (by decide) ?_
        exact J421_236 _ (by rw [if_pos hc237])
      · skip
        refine own_iload X209 at_407 rfl rfl ?_
        refine own_if_ne X209 at_409 (by decide) (pcT := 420) (by decide) rfl (fun hc238 => ?_) (fun hc238 => ?_)
        · skip
          refine own_lconst X209 (0 : Int64) at_420 rfl (by decide) ?_
          exact J421_236 _ (by rw [if_neg hc237, if_neg hc238])
        · skip
          refine own_lload X209 at_412 rfl rfl ?_
          refine own_lload X209 at_414 rfl rfl ?_
          refine own_ladd X209 at_416 rfl ?_
          refine own_goto X209 at_417 (by decide) (pc' := 421) (by decide) ?_
          exact J421_236 _ (by rw [if_neg hc237, if_pos hc238])
    intro z235 hz235
    refine own_lstore X209 (L' := #[.val (.long p1), .second, .val (.long p2), .second, .val (.long p3), .second, .val (.int p4), .val (.int p5), .val (.int p6), .val (.long u1), .second, .val (.long u2), .second, .val (.int z3), .val (.int z6), .val (.int z9), .val (.int z12), .val (.int z15), .val (.int z18), .val (.int z21), .val (.int z24), .val (.ref a33), .val (.ref a44), .val (.ref z50), .val (.ref z53), .val (.int u56), .val (.int z57), .val (.int z60), .val (.long p3), .second, .val (.long (p3 + u1)), .second, .val (.long ((p3 + u1) + u2)), .second, .val (.ref a69), .val (.int (own_res p2 (p3 - (own_si true (0 : Int64) p3)) z3 p1 (p3 - (own_bs true (0 : Int32) z3 (0 : Int64) p3)))), .val (.int (own_res p2 ((p3 + u1) - (own_si (decide (¬ z12 = 0 ∨ ¬ z18 = 0)) (own_si true (0 : Int64) p3) (p3 + u1))) z6 p1 ((p3 + u1) - (own_bs (decide (¬ z12 = 0 ∨ ¬ z18 = 0)) z3 z6 (own_bs true (0 : Int32) z3 (0 : Int64) p3) (p3 + u1))))), .val (.int (own_res p2 (((p3 + u1) + u2) - (own_si true (own_si (decide (¬ z12 = 0 ∨ ¬ z18 = 0)) (own_si true (0 : Int64) p3) (p3 + u1)) ((p3 + u1) + u2))) z9 p1 (((p3 + u1) + u2) - (own_bs true z6 z9 (own_bs (decide (¬ z12 = 0 ∨ ¬ z18 = 0)) z3 z6 (own_bs true (0 : Int32) z3 (0 : Int64) p3) (p3 + u1)) ((p3 + u1) + u2))))), .val (.int z216), .val (.int z220), .val (.long (0 : Int64)), .second, .val (.long z225), .second, .val (.long z228), .second, .val (.long (0 : Int64)), .second, .val (.long z231), .second, .val (.long z235), .second, .unset, .unset, .unset]) at_421 rfl rfl ?_
    refine own_lload X209 at_423 rfl rfl ?_
    refine own_lloadN X209 at_425 rfl rfl ?_
    suffices J447_240 : ∀ (z239 : Int32), z239 = (if p2 < (0 : Int64) then (1 : Int32) else (if z3 = (0 : Int32) then (0 : Int32) else (if p1 < (0 : Int64) then (1 : Int32) else (0 : Int32)))) → own_Fin p e below (own_End s n0 (fun v _ => v = some (.int 1)) room_1.cells room_1.slots) (T208.setTop (mkF m 447 #[.val (.long p1), .second, .val (.long p2), .second, .val (.long p3), .second, .val (.int p4), .val (.int p5), .val (.int p6), .val (.long u1), .second, .val (.long u2), .second, .val (.int z3), .val (.int z6), .val (.int z9), .val (.int z12), .val (.int z15), .val (.int z18), .val (.int z21), .val (.int z24), .val (.ref a33), .val (.ref a44), .val (.ref z50), .val (.ref z53), .val (.int u56), .val (.int z57), .val (.int z60), .val (.long p3), .second, .val (.long (p3 + u1)), .second, .val (.long ((p3 + u1) + u2)), .second, .val (.ref a69), .val (.int (own_res p2 (p3 - (own_si true (0 : Int64) p3)) z3 p1 (p3 - (own_bs true (0 : Int32) z3 (0 : Int64) p3)))), .val (.int (own_res p2 ((p3 + u1) - (own_si (decide (¬ z12 = 0 ∨ ¬ z18 = 0)) (own_si true (0 : Int64) p3) (p3 + u1))) z6 p1 ((p3 + u1) - (own_bs (decide (¬ z12 = 0 ∨ ¬ z18 = 0)) z3 z6 (own_bs true (0 : Int32) z3 (0 : Int64) p3) (p3 + u1))))), .val (.int (own_res p2 (((p3 + u1) + u2) - (own_si true (own_si (decide (¬ z12 = 0 ∨ ¬ z18 = 0)) (own_si true (0 : Int64) p3) (p3 + u1)) ((p3 + u1) + u2))) z9 p1 (((p3 + u1) + u2) - (own_bs true z6 z9 (own_bs (decide (¬ z12 = 0 ∨ ¬ z18 = 0)) z3 z6 (own_bs true (0 : Int32) z3 (0 : Int64) p3) (p3 + u1)) ((p3 + u1) + u2))))), .val (.int z216), .val (.int z220), .val (.long (0 : Int64)), .second, .val (.long z225), .second, .val (.long z228), .second, .val (.long (0 : Int64)), .second, .val (.long z231), .second, .val (.long z235), .second, .unset, .unset, .unset] [(.int z239)])) by
      refine own_lcmp_gt X209 at_426 rfl at_427 (by decide) (pcT := 442) (by decide) rfl (fun hc241 => ?_) (fun hc241 => ?_)
      · skip
        refine own_iconst X209 (1 : Int32) at_442 rfl (by decide) ?_
        refine own_goto X209 at_443 (by decide) (pc' := 447) (by decide) ?_
        exact J447_240 _ (by rw [if_pos hc241])
      · skip
        refine own_iload X209 at_430 rfl rfl ?_
        refine own_if_eq X209 at_432 (by decide) (pcT := 446) (by decide) rfl (fun hc242 => ?_) (fun hc242 => ?_)
        · skip
          refine own_iconst X209 (0 : Int32) at_446 rfl (by decide) ?_
          exact J447_240 _ (by rw [if_neg hc241, if_pos hc242])
        · skip
          refine own_lload X209 at_435 rfl rfl ?_
          refine own_lloadN X209 at_437 rfl rfl ?_
          refine own_lcmp_le X209 at_438 rfl at_439 (by decide) (pcT := 446) (by decide) rfl (fun hc243 => ?_) (fun hc243 => ?_)
          · skip
            refine own_iconst X209 (0 : Int32) at_446 rfl (by decide) ?_
            exact J447_240 _ (by rw [if_neg hc241, if_neg hc242, if_neg hc243])
          · skip
            refine own_iconst X209 (1 : Int32) at_442 rfl (by decide) ?_
            refine own_goto X209 at_443 (by decide) (pc' := 447) (by decide) ?_
            exact J447_240 _ (by rw [if_neg hc241, if_neg hc242, if_pos hc243])
    intro z239 hz239
    refine own_istore X209 (L' := #[.val (.long p1), .second, .val (.long p2), .second, .val (.long p3), .second, .val (.int p4), .val (.int p5), .val (.int p6), .val (.long u1), .second, .val (.long u2), .second, .val (.int z3), .val (.int z6), .val (.int z9), .val (.int z12), .val (.int z15), .val (.int z18), .val (.int z21), .val (.int z24), .val (.ref a33), .val (.ref a44), .val (.ref z50), .val (.ref z53), .val (.int u56), .val (.int z57), .val (.int z60), .val (.long p3), .second, .val (.long (p3 + u1)), .second, .val (.long ((p3 + u1) + u2)), .second, .val (.ref a69), .val (.int (own_res p2 (p3 - (own_si true (0 : Int64) p3)) z3 p1 (p3 - (own_bs true (0 : Int32) z3 (0 : Int64) p3)))), .val (.int (own_res p2 ((p3 + u1) - (own_si (decide (¬ z12 = 0 ∨ ¬ z18 = 0)) (own_si true (0 : Int64) p3) (p3 + u1))) z6 p1 ((p3 + u1) - (own_bs (decide (¬ z12 = 0 ∨ ¬ z18 = 0)) z3 z6 (own_bs true (0 : Int32) z3 (0 : Int64) p3) (p3 + u1))))), .val (.int (own_res p2 (((p3 + u1) + u2) - (own_si true (own_si (decide (¬ z12 = 0 ∨ ¬ z18 = 0)) (own_si true (0 : Int64) p3) (p3 + u1)) ((p3 + u1) + u2))) z9 p1 (((p3 + u1) + u2) - (own_bs true z6 z9 (own_bs (decide (¬ z12 = 0 ∨ ¬ z18 = 0)) z3 z6 (own_bs true (0 : Int32) z3 (0 : Int64) p3) (p3 + u1)) ((p3 + u1) + u2))))), .val (.int z216), .val (.int z220), .val (.long (0 : Int64)), .second, .val (.long z225), .second, .val (.long z228), .second, .val (.long (0 : Int64)), .second, .val (.long z231), .second, .val (.long z235), .second, .val (.int z239), .unset, .unset]) at_447 rfl rfl ?_
    refine own_lload X209 at_449 rfl rfl ?_
    refine own_lloadN X209 at_451 rfl rfl ?_
    suffices J473_245 : ∀ (z244 : Int32), z244 = (if p2 < z225 then (1 : Int32) else (if z6 = (0 : Int32) then (0 : Int32) else (if p1 < z231 then (1 : Int32) else (0 : Int32)))) → own_Fin p e below (own_End s n0 (fun v _ => v = some (.int 1)) room_1.cells room_1.slots) (T208.setTop (mkF m 473 #[.val (.long p1), .second, .val (.long p2), .second, .val (.long p3), .second, .val (.int p4), .val (.int p5), .val (.int p6), .val (.long u1), .second, .val (.long u2), .second, .val (.int z3), .val (.int z6), .val (.int z9), .val (.int z12), .val (.int z15), .val (.int z18), .val (.int z21), .val (.int z24), .val (.ref a33), .val (.ref a44), .val (.ref z50), .val (.ref z53), .val (.int u56), .val (.int z57), .val (.int z60), .val (.long p3), .second, .val (.long (p3 + u1)), .second, .val (.long ((p3 + u1) + u2)), .second, .val (.ref a69), .val (.int (own_res p2 (p3 - (own_si true (0 : Int64) p3)) z3 p1 (p3 - (own_bs true (0 : Int32) z3 (0 : Int64) p3)))), .val (.int (own_res p2 ((p3 + u1) - (own_si (decide (¬ z12 = 0 ∨ ¬ z18 = 0)) (own_si true (0 : Int64) p3) (p3 + u1))) z6 p1 ((p3 + u1) - (own_bs (decide (¬ z12 = 0 ∨ ¬ z18 = 0)) z3 z6 (own_bs true (0 : Int32) z3 (0 : Int64) p3) (p3 + u1))))), .val (.int (own_res p2 (((p3 + u1) + u2) - (own_si true (own_si (decide (¬ z12 = 0 ∨ ¬ z18 = 0)) (own_si true (0 : Int64) p3) (p3 + u1)) ((p3 + u1) + u2))) z9 p1 (((p3 + u1) + u2) - (own_bs true z6 z9 (own_bs (decide (¬ z12 = 0 ∨ ¬ z18 = 0)) z3 z6 (own_bs true (0 : Int32) z3 (0 : Int64) p3) (p3 + u1)) ((p3 + u1) + u2))))), .val (.int z216), .val (.int z220), .val (.long (0 : Int64)), .second, .val (.long z225), .second, .val (.long z228), .second, .val (.long (0 : Int64)), .second, .val (.long z231), .second, .val (.long z235), .second, .val (.int z239), .unset, .unset] [(.int z244)])) by
      refine own_lcmp_gt X209 at_452 rfl at_453 (by decide) (pcT := 468) (by decide) rfl (fun hc246 => ?_) (fun hc246 => ?_)
      · skip
        refine own_iconst X209 (1 : Int32) at_468 rfl (by decide) ?_
        refine own_goto X209 at_469 (by decide) (pc' := 473) (by decide) ?_
        exact J473_245 _ (by rw [if_pos hc246])
      · skip
        refine own_iload X209 at_456 rfl rfl ?_
        refine own_if_eq X209 at_458 (by decide) (pcT := 472) (by decide) rfl (fun hc247 => ?_) (fun hc247 => ?_)
        · skip
          refine own_iconst X209 (0 : Int32) at_472 rfl (by decide) ?_
          exact J473_245 _ (by rw [if_neg hc246, if_pos hc247])
        · skip
          refine own_lload X209 at_461 rfl rfl ?_
          refine own_lloadN X209 at_463 rfl rfl ?_
          refine own_lcmp_le X209 at_464 rfl at_465 (by decide) (pcT := 472) (by decide) rfl (fun hc248 => ?_) (fun hc248 => ?_)
          · skip
            refine own_iconst X209 (0 : Int32) at_472 rfl (by decide) ?_
            exact J473_245 _ (by rw [if_neg hc246, if_neg hc247, if_neg hc248])
          · skip
            refine own_iconst X209 (1 : Int32) at_468 rfl (by decide) ?_
            refine own_goto X209 at_469 (by decide) (pc' := 473) (by decide) ?_
            exact J473_245 _ (by rw [if_neg hc246, if_neg hc247, if_pos hc248])
    intro z244 hz244
    refine own_istore X209 (L' := #[.val (.long p1), .second, .val (.long p2), .second, .val (.long p3), .second, .val (.int p4), .val (.int p5), .val (.int p6), .val (.long u1), .second, .val (.long u2), .second, .val (.int z3), .val (.int z6), .val (.int z9), .val (.int z12), .val (.int z15), .val (.int z18), .val (.int z21), .val (.int z24), .val (.ref a33), .val (.ref a44), .val (.ref z50), .val (.ref z53), .val (.int u56), .val (.int z57), .val (.int z60), .val (.long p3), .second, .val (.long (p3 + u1)), .second, .val (.long ((p3 + u1) + u2)), .second, .val (.ref a69), .val (.int (own_res p2 (p3 - (own_si true (0 : Int64) p3)) z3 p1 (p3 - (own_bs true (0 : Int32) z3 (0 : Int64) p3)))), .val (.int (own_res p2 ((p3 + u1) - (own_si (decide (¬ z12 = 0 ∨ ¬ z18 = 0)) (own_si true (0 : Int64) p3) (p3 + u1))) z6 p1 ((p3 + u1) - (own_bs (decide (¬ z12 = 0 ∨ ¬ z18 = 0)) z3 z6 (own_bs true (0 : Int32) z3 (0 : Int64) p3) (p3 + u1))))), .val (.int (own_res p2 (((p3 + u1) + u2) - (own_si true (own_si (decide (¬ z12 = 0 ∨ ¬ z18 = 0)) (own_si true (0 : Int64) p3) (p3 + u1)) ((p3 + u1) + u2))) z9 p1 (((p3 + u1) + u2) - (own_bs true z6 z9 (own_bs (decide (¬ z12 = 0 ∨ ¬ z18 = 0)) z3 z6 (own_bs true (0 : Int32) z3 (0 : Int64) p3) (p3 + u1)) ((p3 + u1) + u2))))), .val (.int z216), .val (.int z220), .val (.long (0 : Int64)), .second, .val (.long z225), .second, .val (.long z228), .second, .val (.long (0 : Int64)), .second, .val (.long z231), .second, .val (.long z235), .second, .val (.int z239), .val (.int z244), .unset]) at_473 rfl rfl ?_
    refine own_lload X209 at_475 rfl rfl ?_
    refine own_lloadN X209 at_477 rfl rfl ?_
    suffices J499_250 : ∀ (z249 : Int32), z249 = (if p2 < z228 then (1 : Int32) else (if z9 = (0 : Int32) then (0 : Int32) else (if p1 < z235 then (1 : Int32) else (0 : Int32)))) → own_Fin p e below (own_End s n0 (fun v _ => v = some (.int 1)) room_1.cells room_1.slots) (T208.setTop (mkF m 499 #[.val (.long p1), .second, .val (.long p2), .second, .val (.long p3), .second, .val (.int p4), .val (.int p5), .val (.int p6), .val (.long u1), .second, .val (.long u2), .second, .val (.int z3), .val (.int z6), .val (.int z9), .val (.int z12), .val (.int z15), .val (.int z18), .val (.int z21), .val (.int z24), .val (.ref a33), .val (.ref a44), .val (.ref z50), .val (.ref z53), .val (.int u56), .val (.int z57), .val (.int z60), .val (.long p3), .second, .val (.long (p3 + u1)), .second, .val (.long ((p3 + u1) + u2)), .second, .val (.ref a69), .val (.int (own_res p2 (p3 - (own_si true (0 : Int64) p3)) z3 p1 (p3 - (own_bs true (0 : Int32) z3 (0 : Int64) p3)))), .val (.int (own_res p2 ((p3 + u1) - (own_si (decide (¬ z12 = 0 ∨ ¬ z18 = 0)) (own_si true (0 : Int64) p3) (p3 + u1))) z6 p1 ((p3 + u1) - (own_bs (decide (¬ z12 = 0 ∨ ¬ z18 = 0)) z3 z6 (own_bs true (0 : Int32) z3 (0 : Int64) p3) (p3 + u1))))), .val (.int (own_res p2 (((p3 + u1) + u2) - (own_si true (own_si (decide (¬ z12 = 0 ∨ ¬ z18 = 0)) (own_si true (0 : Int64) p3) (p3 + u1)) ((p3 + u1) + u2))) z9 p1 (((p3 + u1) + u2) - (own_bs true z6 z9 (own_bs (decide (¬ z12 = 0 ∨ ¬ z18 = 0)) z3 z6 (own_bs true (0 : Int32) z3 (0 : Int64) p3) (p3 + u1)) ((p3 + u1) + u2))))), .val (.int z216), .val (.int z220), .val (.long (0 : Int64)), .second, .val (.long z225), .second, .val (.long z228), .second, .val (.long (0 : Int64)), .second, .val (.long z231), .second, .val (.long z235), .second, .val (.int z239), .val (.int z244), .unset] [(.int z249)])) by
      refine own_lcmp_gt X209 at_478 rfl at_479 (by decide) (pcT := 494) (by decide) rfl (fun hc251 => ?_) (fun hc251 => ?_)
      · skip
        refine own_iconst X209 (1 : Int32) at_494 rfl (by decide) ?_
        refine own_goto X209 at_495 (by decide) (pc' := 499) (by decide) ?_
        exact J499_250 _ (by rw [if_pos hc251])
      · skip
        refine own_iload X209 at_482 rfl rfl ?_
        refine own_if_eq X209 at_484 (by decide) (pcT := 498) (by decide) rfl (fun hc252 => ?_) (fun hc252 => ?_)
        · skip
          refine own_iconst X209 (0 : Int32) at_498 rfl (by decide) ?_
          exact J499_250 _ (by rw [if_neg hc251, if_pos hc252])
        · skip
          refine own_lload X209 at_487 rfl rfl ?_
          refine own_lloadN X209 at_489 rfl rfl ?_
          refine own_lcmp_le X209 at_490 rfl at_491 (by decide) (pcT := 498) (by decide) rfl (fun hc253 => ?_) (fun hc253 => ?_)
          · skip
            refine own_iconst X209 (0 : Int32) at_498 rfl (by decide) ?_
            exact J499_250 _ (by rw [if_neg hc251, if_neg hc252, if_neg hc253])
          · skip
            refine own_iconst X209 (1 : Int32) at_494 rfl (by decide) ?_
            refine own_goto X209 at_495 (by decide) (pc' := 499) (by decide) ?_
            exact J499_250 _ (by rw [if_neg hc251, if_neg hc252, if_pos hc253])
    intro z249 hz249
    refine own_istore X209 (L' := #[.val (.long p1), .second, .val (.long p2), .second, .val (.long p3), .second, .val (.int p4), .val (.int p5), .val (.int p6), .val (.long u1), .second, .val (.long u2), .second, .val (.int z3), .val (.int z6), .val (.int z9), .val (.int z12), .val (.int z15), .val (.int z18), .val (.int z21), .val (.int z24), .val (.ref a33), .val (.ref a44), .val (.ref z50), .val (.ref z53), .val (.int u56), .val (.int z57), .val (.int z60), .val (.long p3), .second, .val (.long (p3 + u1)), .second, .val (.long ((p3 + u1) + u2)), .second, .val (.ref a69), .val (.int (own_res p2 (p3 - (own_si true (0 : Int64) p3)) z3 p1 (p3 - (own_bs true (0 : Int32) z3 (0 : Int64) p3)))), .val (.int (own_res p2 ((p3 + u1) - (own_si (decide (¬ z12 = 0 ∨ ¬ z18 = 0)) (own_si true (0 : Int64) p3) (p3 + u1))) z6 p1 ((p3 + u1) - (own_bs (decide (¬ z12 = 0 ∨ ¬ z18 = 0)) z3 z6 (own_bs true (0 : Int32) z3 (0 : Int64) p3) (p3 + u1))))), .val (.int (own_res p2 (((p3 + u1) + u2) - (own_si true (own_si (decide (¬ z12 = 0 ∨ ¬ z18 = 0)) (own_si true (0 : Int64) p3) (p3 + u1)) ((p3 + u1) + u2))) z9 p1 (((p3 + u1) + u2) - (own_bs true z6 z9 (own_bs (decide (¬ z12 = 0 ∨ ¬ z18 = 0)) z3 z6 (own_bs true (0 : Int32) z3 (0 : Int64) p3) (p3 + u1)) ((p3 + u1) + u2))))), .val (.int z216), .val (.int z220), .val (.long (0 : Int64)), .second, .val (.long z225), .second, .val (.long z228), .second, .val (.long (0 : Int64)), .second, .val (.long z231), .second, .val (.long z235), .second, .val (.int z239), .val (.int z244), .val (.int z249)]) at_499 rfl rfl ?_
    refine own_iload X209 at_501 rfl rfl ?_
    refine own_iload X209 at_503 rfl rfl ?_
    refine own_icmp_ne X209 at_505 (by decide) (pcT := 526) (by decide) rfl (fun hc => absurd (Eq.trans ((own_r _ _ _ _ _ _ _ (own_e1 _) (fun q => own_e1b q))) hz239.symm) hc) (fun hc => ?_)
    refine own_iload X209 at_508 rfl rfl ?_
    refine own_iload X209 at_510 rfl rfl ?_
    refine own_icmp_ne X209 at_512 (by decide) (pcT := 526) (by decide) rfl (fun hc => absurd (Eq.trans (own_r2 hz216 hz225 hz231) hz244.symm) hc) (fun hc => ?_)
    refine own_iload X209 at_515 rfl rfl ?_
    refine own_iload X209 at_517 rfl rfl ?_
    refine own_icmp_ne X209 at_519 (by decide) (pcT := 526) (by decide) rfl (fun hc => absurd (Eq.trans (own_r3f hc129 hz220 hz228 hz235) hz249.symm) hc) (fun hc => ?_)
    refine own_iconst X209 (1 : Int32) at_522 rfl (by decide) ?_
    refine own_goto X209 at_523 (by decide) (pc' := 527) (by decide) ?_
    exact own_retZ X209 rfl at_527 rfl rfl (by decide) (by decide)
set_option maxRecDepth 65536 in
set_option maxHeartbeats 40000000 in
theorem comes_1 {Post : Tables → Env → Array Value → State → Outcome → State → Prop} (hpost : ∀ tb e args s v u, (limb_1_1.after args s (.returned v) u = true ∧ limb_1_2.after args s (.returned v) u = true ∧ True) → FrameEnd s (.returned v) u (Jvm.fieldLocs frame_1_writes args s ++ Jvm.arrayLocs frame_1_arrays args s ++ Jvm.staticLocs frame_1_statics s) 16 128 → Post tb e args s (.returned v) u) :
    ArmFor flags0 classFile x code maxLocals ret World_1 tables_1 room_1 Calls_1 rest_1 Pre_1 Post := by
  intro l hfl _ _ p e ha hc hk s m args below hf hA hF happ hP
  obtain ⟨hcalls, hrest, hpre⟩ := hP
  obtain ⟨-, -, -, hnamed, -, -, -, hat⟩ := (Spec.applies_iff hf).mp happ
  obtain ⟨hg, hn⟩ := and_e (Cond.before_iff.mp (show (Jvm.Cond.and given_1 narrow_1).before args s = true from hpre))
  obtain ⟨h1, g0⟩ := and_e hg
  obtain ⟨g0, g1⟩ := and_e g0
  obtain ⟨g1, g2⟩ := and_e g1
  obtain ⟨g2, g3⟩ := and_e g2
  obtain ⟨g3, g4⟩ := and_e g3
  obtain ⟨g4, g5⟩ := and_e g4
  obtain ⟨w0, w1, w2, w3, w4, w5, rfl⟩ : ∃ w0 w1 w2 w3 w4 w5 : Value, args = #[w0, w1, w2, w3, w4, w5] := by
    have hs : args.size = 6 := by simpa [Cond.value, given_1] using h1
    obtain ⟨L⟩ := args
    match L, hs with
    | [w0, w1, w2, w3, w4, w5], _ => exact ⟨w0, w1, w2, w3, w4, w5, rfl⟩
  have hw := fun d (hd : d ∈ tables_1) => atoms_spec (ws := Jvm.Cond.code x code maxLocals ret :: tables_1) hat d (List.mem_cons_of_mem _ hd)
  obtain ⟨i0, e0⟩ := isL_v g0
  obtain rfl : w0 = (.long i0) := Option.some.inj e0
  obtain ⟨i1, e1⟩ := isL_v g1
  obtain rfl : w1 = (.long i1) := Option.some.inj e1
  obtain ⟨i2, e2⟩ := isL_v g2
  obtain rfl : w2 = (.long i2) := Option.some.inj e2
  obtain ⟨i3, e3⟩ := is_v g3
  obtain rfl : w3 = (.int i3) := Option.some.inj e3
  obtain ⟨i4, e4⟩ := is_v g4
  obtain rfl : w4 = (.int i4) := Option.some.inj e4
  obtain ⟨i5, e5⟩ := is_v g5
  obtain rfl : w5 = (.int i5) := Option.some.inj e5
  obtain ⟨n, o, h1, h2, h3, _, L, rfl, ⟨rfl, N⟩, hq⟩ := own_law l s _ hw tables_1 i0 i1 i2 i3 i4 i5 s.heap s.heap.size (Nat.le_refl _) p e ha hc hk s m _ below hf ((Spec.applies_iff_loose hf).mp happ).1 ⟨rfl, State.Warmed39.refl s, rfl⟩ trivial
  refine ⟨n, _, h1, h2, h3, hpost _ _ _ _ _ _ ⟨Cond.after_iff.mpr rfl, Cond.after_iff.mpr (eq_i res_at (Term.int_eval (1)) rfl), trivial⟩ ⟨hq.1, hq.2.1, (hq.2.2.sift fun y hy => Or.inr (N y hy)).mono (by decide) (by decide)⟩⟩
theorem main_1_1 : Claimed_1_1 := comes_1 fun _ _ _ _ _ _ h hF => ⟨h.1, hF⟩
theorem main_1_2 : Claimed_1_2 := comes_1 fun _ _ _ _ _ _ h hF => ⟨h.2.1, hF⟩
end Jvm.Pilot.@@N@@
namespace Jvm.Pilot.@@N@@
open Jvm Jvm.ClassFile Sem Op Lib Jvm.Free Jvm.Stand Jvm.Pilot.@@N@@.Jvm.D
/-! MADE BY PROGRAM (witnessworld.py) out of the Statement's table words and the real class files: 9 classes; the members and pool entries that the words name. The judged class is class 1, her method 1. -/
namespace start1
open Jvm.ClassFile
def u (s : String) : CpInfo := .utf8 (stringToUtf16 s)
/-- a pool by its gaps: so many unusable entries, then the entry; so many at the end -/
def gap : Nat → List CpInfo → List CpInfo
  | 0, r => r
  | n + 1, r => .unusable :: gap n r
def poolList (es : List (Nat × CpInfo)) (last : Nat) : List CpInfo := es.foldr (fun e r => gap e.1 (e.2 :: r)) (gap last [])
def pool (es : List (Nat × CpInfo)) (last : Nat) : Array CpInfo := ⟨poolList es last⟩
def fileOf (pool : Array CpInfo) (this : Nat) (attrs : Array Attribute := #[]) (ms : Array MethodInfo := #[]) (fl : Nat := 33) (sup : Nat := 0) (ifs : Array Nat := #[]) (fds : Array FieldInfo := #[]) : ClassFile where
  minorVersion := 0
  majorVersion := 65
  constantPool := pool
  accessFlags := fl
  thisClass := this
  superClass := sup
  interfaces := ifs
  fields := fds
  methods := ms
  attributes := attrs
def plain (name : String) (sup : Option ClassId) : Class where
  name := name
  kind := .ordinary
  loader := none
  accessFlags := 33
  super := sup
  interfaces := #[]
  cf := none
  fields := #[]
  methods := #[]
  instanceTypes := #[]
  staticTypes := #[]
  resolved := #[]
  callSites := []
  init := .initialized
  statics := none
  mirror := none

def pool0 : Array CpInfo := pool [(5, u "<init>"), (0, u "()V"), (1, .class_ 10), (1, u "java/lang/Object")] 113

def k0c0 : Code := { maxStack := 0, maxLocals := 1, code := object_method_1_code, exceptionTable := #[], attributes := #[] }
def k0m0 : Method := { name := "<init>", desc := "()V", sig := { parameters := [], returnType := none }, accessFlags := 1, code := some k0c0 }
/-- java/lang/Object -/
def k0 : Class := { plain "java/lang/Object" none with
  accessFlags := 33
  interfaces := #[]
  cf := some (fileOf pool0 8 #[] #[{ accessFlags := 1, nameIndex := 5, descriptorIndex := 6, attributes := #[] }] 33 0 #[] #[])
  fields := #[]
  methods := #[k0m0]
  instanceTypes := #[]
  staticTypes := #[]
  resolved := Array.replicate 124 none
  statics := none }

def pool1 : Array CpInfo := pool [(1, .methodref 2 3), (0, .class_ 4), (0, .nameAndType 5 6), (0, u "java/lang/Object"), (0, u "<init>"), (0, u "()V"), (0, .long 2147483647), (1, .class_ 10), (0, u "com/example/racewright/racewright/scheduler/Watchdog"), (0, .methodref 9 12), (0, .nameAndType 5 13), (0, u "(JJ)V"), (0, .methodref 9 15), (0, .nameAndType 16 17), (0, u "stuck"), (0, u "(Ljava/lang/Object;IZJ)Z"), (0, .methodref 9 19), (0, .nameAndType 20 6), (0, u "forget"), (0, .class_ 22), (0, u "com/example/racewright/racewright/scheduler/WatchdogStuckPinLaw"), (2, u "law"), (0, u "(JJJIII)Z")] 3

def k1m0 : Method := { name := "<init>", desc := "()V", sig := { parameters := [], returnType := none }, accessFlags := 1, code := none }
def k1c1 : Code := { maxStack := 6, maxLocals := 55, code := code, exceptionTable := #[], attributes := #[] }
def k1m1 : Method := { name := "law", desc := "(JJJIII)Z", sig := { parameters := [.long, .long, .long, .int, .int, .int], returnType := some .boolean }, accessFlags := 9, code := some k1c1 }
/-- com/example/racewright/racewright/scheduler/WatchdogStuckPinLaw -/
def k1 : Class := { plain "com/example/racewright/racewright/scheduler/WatchdogStuckPinLaw" (some 0) with
  accessFlags := 49
  interfaces := #[]
  cf := some (fileOf pool1 21 #[] #[{ accessFlags := 1, nameIndex := 5, descriptorIndex := 6, attributes := #[] }, { accessFlags := 9, nameIndex := 25, descriptorIndex := 26, attributes := #[] }] 49 2 #[] #[])
  fields := #[]
  methods := #[k1m0, k1m1]
  instanceTypes := #[]
  staticTypes := #[]
  resolved := Array.replicate 30 none
  statics := none }

def pool2 : Array CpInfo := pool [(1, .methodref 2 3), (0, .class_ 4), (0, .nameAndType 5 6), (0, u "java/lang/Object"), (0, u "<init>"), (0, u "()V"), (0, .fieldref 8 9), (0, .class_ 10), (0, .nameAndType 11 12), (0, u "com/example/racewright/racewright/scheduler/Watchdog"), (0, u "blockedLimit"), (0, u "J"), (0, .fieldref 8 14), (0, .nameAndType 15 12), (0, u "runningLimit"), (0, .fieldref 8 17), (0, .nameAndType 18 19), (0, u "awaited"), (0, u "Ljava/lang/Object;"), (0, .fieldref 8 21), (0, .nameAndType 22 23), (0, u "changesSeen"), (0, u "I"), (0, .fieldref 8 25), (0, .nameAndType 26 12), (0, u "since"), (0, .fieldref 8 28), (0, .nameAndType 29 30), (0, u "wasBlocked"), (0, u "Z"), (0, .fieldref 8 32), (0, .nameAndType 33 12), (0, u "blockedSince"), (0, u "(JJ)V"), (2, u "forget"), (0, u "stuck"), (0, u "(Ljava/lang/Object;IZJ)Z")] 3

def k2c0 : Code := { maxStack := 3, maxLocals := 5, code := prog_169_method_1_code, exceptionTable := #[], attributes := #[] }
def k2m0 : Method := { name := "<init>", desc := "(JJ)V", sig := { parameters := [.long, .long], returnType := none }, accessFlags := 0, code := some k2c0 }
def k2c1 : Code := { maxStack := 2, maxLocals := 1, code := prog_169_method_2_code, exceptionTable := #[], attributes := #[] }
def k2m1 : Method := { name := "forget", desc := "()V", sig := { parameters := [], returnType := none }, accessFlags := 0, code := some k2c1 }
def k2c2 : Code := { maxStack := 4, maxLocals := 6, code := prog_169_method_3_code, exceptionTable := #[], attributes := #[] }
def k2m2 : Method := { name := "stuck", desc := "(Ljava/lang/Object;IZJ)Z", sig := { parameters := [(.object "java/lang/Object"), .int, .boolean, .long], returnType := some .boolean }, accessFlags := 0, code := some k2c2 }
/-- com/example/racewright/racewright/scheduler/Watchdog -/
def k2 : Class := { plain "com/example/racewright/racewright/scheduler/Watchdog" (some 0) with
  accessFlags := 48
  interfaces := #[]
  cf := some (fileOf pool2 8 #[] #[{ accessFlags := 0, nameIndex := 5, descriptorIndex := 34, attributes := #[] }, { accessFlags := 0, nameIndex := 37, descriptorIndex := 6, attributes := #[] }, { accessFlags := 0, nameIndex := 38, descriptorIndex := 39, attributes := #[] }] 48 2 #[] #[{ accessFlags := 18, nameIndex := 11, descriptorIndex := 12, attributes := #[] }, { accessFlags := 18, nameIndex := 15, descriptorIndex := 12, attributes := #[] }, { accessFlags := 2, nameIndex := 18, descriptorIndex := 19, attributes := #[] }, { accessFlags := 2, nameIndex := 22, descriptorIndex := 23, attributes := #[] }, { accessFlags := 2, nameIndex := 26, descriptorIndex := 12, attributes := #[] }, { accessFlags := 2, nameIndex := 29, descriptorIndex := 30, attributes := #[] }, { accessFlags := 2, nameIndex := 33, descriptorIndex := 12, attributes := #[] }])
  fields := #[{ name := "blockedLimit", type := .long, accessFlags := 18, slot := 0, constantValue := 0 }, { name := "runningLimit", type := .long, accessFlags := 18, slot := 1, constantValue := 0 }, { name := "awaited", type := (.object "java/lang/Object"), accessFlags := 2, slot := 2, constantValue := 0 }, { name := "changesSeen", type := .int, accessFlags := 2, slot := 3, constantValue := 0 }, { name := "since", type := .long, accessFlags := 2, slot := 4, constantValue := 0 }, { name := "wasBlocked", type := .boolean, accessFlags := 2, slot := 5, constantValue := 0 }, { name := "blockedSince", type := .long, accessFlags := 2, slot := 6, constantValue := 0 }]
  methods := #[k2m0, k2m1, k2m2]
  instanceTypes := #[.long, .long, (.object "java/lang/Object"), .int, .long, .boolean, .long]
  staticTypes := #[]
  resolved := Array.replicate 43 none
  statics := none }

def pool3 : Array CpInfo := pool [(1, u "java/lang/Cloneable"), (0, .class_ 1), (0, u "java/lang/Object"), (0, .class_ 3)] 3

/-- java/lang/Cloneable -/
def k3 : Class := { plain "java/lang/Cloneable" (some 0) with
  accessFlags := 1537
  interfaces := #[]
  cf := some (fileOf pool3 2 #[] #[] 1537 4 #[] #[])
  fields := #[]
  methods := #[]
  instanceTypes := #[]
  staticTypes := #[]
  resolved := Array.replicate 8 none
  statics := none }

def pool4 : Array CpInfo := pool [(1, u "java/io/Serializable"), (0, .class_ 1), (0, u "java/lang/Object"), (0, .class_ 3)] 3

/-- java/io/Serializable -/
def k4 : Class := { plain "java/io/Serializable" (some 0) with
  accessFlags := 1537
  interfaces := #[]
  cf := some (fileOf pool4 2 #[] #[] 1537 4 #[] #[])
  fields := #[]
  methods := #[]
  instanceTypes := #[]
  staticTypes := #[]
  resolved := Array.replicate 8 none
  statics := none }

/-- the primitive byte -/
def k5 : Class := { plain "byte" none with kind := .primitive 'B', accessFlags := 0x411 }
/-- [B -/
def k6 : Class := { plain "[B" (some 0) with kind := .array 5 .byte, interfaces := #[3, 4], accessFlags := 1041 }

/-- the primitive int -/
def k7 : Class := { plain "int" none with kind := .primitive 'I', accessFlags := 0x411 }
/-- [I -/
def k8 : Class := { plain "[I" (some 0) with kind := .array 7 .int, interfaces := #[3, 4], accessFlags := 1041 }

def heap : Heap := #[]
def classes : Array Class := #[k0, k1, k2, k3, k4, k5, k6, k7, k8]
def interned : List (Array UInt16 × Addr) := []
def slotsUsed : Nat := 0
def theMethod : MethodId := ⟨1, 1⟩
def args0 : Array Value := #[.long 5, .long 6, .long 7, .int 8, .int 9, .int 10]
def aboutOver (below : List Frame) : State where
  vm := { classes := classes, interned := interned.toArray }
  heap := heap
  slotsUsed := slotsUsed
  threads := #[{ frames := .invoking theMethod args0 :: below }]
def below0 : List Frame := [.native { method := ⟨0, 0⟩, args := #[] }]
def about1 : State := aboutOver below0
def p0 : Program := .bare "" "" ""
def e0 : Env := launch0.env 0 0 0
theorem w_frames : about1.frames = Frame.invoking theMethod args0 :: below0 := rfl
set_option maxRecDepth 65536 in
theorem w_args : argsFit about1.vm theMethod args0 = true := by decide +kernel
set_option maxRecDepth 65536 in
theorem w_heap : heapFits about1 = true := by decide +kernel
set_option maxRecDepth 65536 in
theorem w_runnable : about1.curStatus? = some .runnable := by decide +kernel
set_option maxRecDepth 65536 in
theorem w_alone : about1.alone = true := by decide +kernel
set_option maxRecDepth 65536 in
theorem w_named : about1.methodNamed? x = some theMethod := by decide +kernel
set_option maxRecDepth 65536 in
theorem w_hears : about1.hears theMethod below0 = true := by decide +kernel
set_option maxRecDepth 65536 in
theorem w_ripe : about1.ripe theMethod args0 below0 = true := by decide +kernel
theorem w_running : about1.status = .running := rfl
set_option maxRecDepth 65536 in
theorem w_room : about1.hasRoom e0.platform room_1 = true :=
  launch0.hasRoom_least _ room_1 (by decide +kernel) (by decide +kernel) (by decide +kernel) (by decide +kernel) (by decide +kernel) (by decide +kernel)
theorem allAtoms_all (ts : List Jvm.Cond) (a : Array Jvm.Value) (st : Jvm.State) : (allAtoms ts).before a st = ts.all (fun c => c.before a st) := by
  induction ts with
  | nil => rfl
  | cons c t ih =>
    show (Jvm.Cond.and c (allAtoms t)).before a st = _
    rw [Jvm.Cond.before_and, ih, List.all_cons]
def words1 : List Jvm.Cond := Jvm.Cond.code x code maxLocals ret :: tables_1
/-- a 'code' word, met by the world's own term for the bytes: nothing is compared byte by byte -/
theorem code_word {y : MethodName} {bytes : ByteArray} {mx : Nat} {rt : Option FieldType} {a : Array Value} {s : State} {m : MethodId} {meth : Method} {c : Code} (h1 : s.methodNamed? y = some m) (h2 : s.vm.method? m = some meth) (h3 : meth.code = some c) (h4 : c.code = bytes)
    (h5 : (c.maxLocals == mx && c.exceptionTable.isEmpty && decide (c.maxStack ≤ mostOperands) && decide (meth.sig.returnType = rt) && !meth.locks && decide (parseMethodDescriptor y.desc = some meth.sig)) = true) : (Jvm.Cond.code y bytes mx rt).before a s = true := by
  simp only [Bool.and_eq_true, beq_iff_eq, Bool.not_eq_true', decide_eq_true_eq] at h5
  obtain ⟨⟨⟨⟨⟨g1, g2⟩, g3⟩, g4⟩, g5⟩, g6⟩ := h5
  simp [Cond.before, Cond.holds, Cond.value, h1, h2, h3, h4, g1, g2, g3, g4, g5, g6]
def isCode : Jvm.Cond → Bool
  | .code _ _ _ _ => true
  | _ => false
theorem all_split {L : List Jvm.Cond} {P : Jvm.Cond → Bool} (h1 : L.all (fun c => isCode c || P c) = true) (h2 : ∀ c ∈ L.filter isCode, P c = true) : L.all P = true := by
  refine List.all_eq_true.mpr fun c hc => ?_
  have h := List.all_eq_true.mp h1 c hc
  rcases Bool.eq_false_or_eq_true (isCode c) with hi | hi
  · exact h2 c (List.mem_filter.mpr ⟨hc, hi⟩)
  · simpa [hi] using h
set_option maxRecDepth 65536 in
theorem w_c0 : (Jvm.Cond.code x code maxLocals ret).before args0 about1 = true := code_word (m := ⟨1, 1⟩) (meth := k1m1) (c := k1c1) (by decide +kernel) rfl rfl rfl (by decide +kernel)
set_option maxRecDepth 65536 in
theorem w_c1 : (Jvm.Cond.code ({ cls := "java/lang/Object", name := "<init>", desc := "()V" } : Jvm.MethodName) object_method_1_code (1 : Nat) (Option.none : Option Jvm.ClassFile.FieldType)).before args0 about1 = true := code_word (m := ⟨0, 0⟩) (meth := k0m0) (c := k0c0) (by decide +kernel) rfl rfl rfl (by decide +kernel)
set_option maxRecDepth 65536 in
theorem w_c2 : (Jvm.Cond.code ({ cls := "com/example/racewright/racewright/scheduler/Watchdog", name := "<init>", desc := "(JJ)V" } : Jvm.MethodName) prog_169_method_1_code (5 : Nat) (Option.none : Option Jvm.ClassFile.FieldType)).before args0 about1 = true := code_word (m := ⟨2, 0⟩) (meth := k2m0) (c := k2c0) (by decide +kernel) rfl rfl rfl (by decide +kernel)
set_option maxRecDepth 65536 in
theorem w_c3 : (Jvm.Cond.code ({ cls := "com/example/racewright/racewright/scheduler/Watchdog", name := "stuck", desc := "(Ljava/lang/Object;IZJ)Z" } : Jvm.MethodName) prog_169_method_3_code (6 : Nat) (Option.some Jvm.ClassFile.FieldType.boolean)).before args0 about1 = true := code_word (m := ⟨2, 2⟩) (meth := k2m2) (c := k2c2) (by decide +kernel) rfl rfl rfl (by decide +kernel)
set_option maxRecDepth 65536 in
theorem w_c4 : (Jvm.Cond.code ({ cls := "com/example/racewright/racewright/scheduler/Watchdog", name := "forget", desc := "()V" } : Jvm.MethodName) prog_169_method_2_code (1 : Nat) (Option.none : Option Jvm.ClassFile.FieldType)).before args0 about1 = true := code_word (m := ⟨2, 1⟩) (meth := k2m1) (c := k2c1) (by decide +kernel) rfl rfl rfl (by decide +kernel)
def codes1 : List Jvm.Cond := [Jvm.Cond.code x code maxLocals ret, Jvm.Cond.code ({ cls := "java/lang/Object", name := "<init>", desc := "()V" } : Jvm.MethodName) object_method_1_code (1 : Nat) (Option.none : Option Jvm.ClassFile.FieldType), Jvm.Cond.code ({ cls := "com/example/racewright/racewright/scheduler/Watchdog", name := "<init>", desc := "(JJ)V" } : Jvm.MethodName) prog_169_method_1_code (5 : Nat) (Option.none : Option Jvm.ClassFile.FieldType), Jvm.Cond.code ({ cls := "com/example/racewright/racewright/scheduler/Watchdog", name := "stuck", desc := "(Ljava/lang/Object;IZJ)Z" } : Jvm.MethodName) prog_169_method_3_code (6 : Nat) (Option.some Jvm.ClassFile.FieldType.boolean), Jvm.Cond.code ({ cls := "com/example/racewright/racewright/scheduler/Watchdog", name := "forget", desc := "()V" } : Jvm.MethodName) prog_169_method_2_code (1 : Nat) (Option.none : Option Jvm.ClassFile.FieldType)]
set_option maxRecDepth 65536 in
theorem codes_eq : words1.filter isCode = codes1 := rfl
theorem w_codes : ∀ c ∈ words1.filter isCode, c.before args0 about1 = true := by
  rw [codes_eq]
  intro c hc
  simp only [codes1, List.mem_cons, List.not_mem_nil, or_false] at hc
  rcases hc with rfl | rfl | rfl | rfl | rfl
  · exact w_c0
  · exact w_c1
  · exact w_c2
  · exact w_c3
  · exact w_c4
set_option maxRecDepth 65536 in
theorem w_t1 : (words1.take 24).all (fun c => isCode c || c.before args0 about1) = true := by decide +kernel
set_option maxRecDepth 65536 in
theorem w_t2 : (words1.drop 24).all (fun c => isCode c || c.before args0 about1) = true := by decide +kernel
theorem w_tables : (allAtoms (Jvm.Cond.code x code maxLocals ret :: tables_1)).before args0 about1 = true := by
  rw [allAtoms_all]
  show words1.all (fun c => c.before args0 about1) = true
  refine all_split ?_ w_codes
  rw [← List.take_append_drop 24 words1, List.all_append, w_t1, w_t2]
  rfl
set_option maxRecDepth 65536 in
theorem w_case : (Jvm.Cond.and given_1 narrow_1).before args0 about1 = true := by decide +kernel
theorem w_applies : (headSpec (Jvm.Cond.code x code maxLocals ret :: tables_1) room_1).applies x e0.platform about1 = true :=
  (Spec.applies_iff w_frames).mpr ⟨w_running, w_runnable, w_alone, w_named, w_hears, w_ripe, w_room, w_tables⟩
theorem atStart : AtStart classFile x code maxLocals ret World_1 tables_1 room_1 Calls_1 rest_1 Pre_1 launch0 p0 e0 about1 theMethod args0 below0 :=
  ⟨lists_1, trivial, launch0.admits_env _ _ _, launch0.least_env, fairChoices_fair.cas, fairChoices_fair.clock, w_frames, w_args, w_heap, w_applies, trivial, trivial, w_case⟩
end start1
theorem witness_1 : WitnessClaimed_1 := ⟨start1.p0, start1.e0, start1.about1, start1.theMethod, start1.args0, start1.below0, start1.atStart⟩
end Jvm.Pilot.@@N@@
