import JvmDerived
import JvmDerived.Pilot.@@N@@Statement
import JvmDerived.Pilot.@@N@@Code
set_option linter.unusedVariables false
set_option linter.unusedSimpArgs false
namespace Jvm.Pilot.@@N@@
open Jvm Jvm.ClassFile Sem Op Lib Jvm.Free Jvm.Stand Jvm.LawKit Jvm.RoadKit Bundle Jvm.Pilot.@@N@@.Jvm.D
section OwnKit
variable {Z : State} {p : Program} {l : Launch} {e : Env} {R : Room} {s : State} {m : MethodId} {args : Array Value} {below : List Frame} {meth : Method} {c : Code} {n0 : Nat} {own : String} {bytes : ByteArray} {maxL : Nat} {nm : String} {ret : Option FieldType} {T : State} {h : Heap} {cells slots : Nat} {G : Outcome → State → Prop} {L : Array Slot} {st : List Value} {pc pc' : Nat} {a0 : Array Value}
def own_Fin (p : Program) (e : Env) (below : List Frame) (G : Outcome → State → Prop) (t : State) : Prop :=
  ∃ s₂ o, Steps p.tables e below t s₂ ∧ s₂.status = .running ∧ Ended s₂ below o ∧ G o s₂
theorem own_go {a a' : State} (k : ∀ t, Steps p.tables e below a' t → Steps p.tables e below a t) (q : own_Fin p e below G a') : own_Fin p e below G a := by
  obtain ⟨s2, o, h1, h2⟩ := q
  exact ⟨s2, o, k _ h1, h2⟩
def own_Cx (Z : State) (p : Program) (l : Launch) (e : Env) (R : Room) (s : State) (m : MethodId) (args : Array Value) (below : List Frame) (meth : Method) (c : Code) (n0 : Nat) (own : String) (bytes : ByteArray) (maxL : Nat) (nm : String) (ret : Option FieldType) (T : State) (h : Heap) (cells slots : Nat) : Prop :=
  ∃ locs, Stand p l e R s m args below meth c T locs cells slots ∧ Fr n0 locs ∧ T.heap = h ∧ p.tables.exec = Jvm.exec ∧ Z.Warmed39 s.vm ∧ s.vm.findClass own = some m.cls ∧ c.code = bytes ∧ c.maxLocals = maxL ∧ meth.name = nm ∧ meth.sig.returnType = ret ∧ meth.locks = false
def own_End (s : State) (n0 : Nat) (q : Option Value → Heap → Prop) (k n : Nat) (o : Outcome) (U' : State) : Prop :=
  ∃ v L, o = .returned v ∧ (q v U'.heap ∧ Fr n0 L) ∧ FrameEnd s o U' L k n
def own_Met (l : Launch) (Z : State) (y : MethodName) (bytes : ByteArray) (maxL : Nat) (ret : Option FieldType) (ws : List Jvm.Cond) (rm : Room) (as' : Array Value) (h0 : Heap) (n0 : Nat) (q : Option Value → Heap → Prop) : Prop :=
  MetFree l y (head1 (Jvm.Cond.code y bytes maxL ret :: ws) rm) (fun a U => a = as' ∧ Z.Warmed39 U.vm ∧ U.heap = h0) (fun _ _ _ _ _ => True) (fun _ U o U' => own_End U n0 q rm.cells rm.slots o U')
theorem own_enter {y : MethodName} {ws : List Jvm.Cond} {rm : Room} {as' : Array Value} {h0 : Heap} {q : Option Value → Heap → Prop} {L0 : Array Slot} {own nm : String} (ho : y.cls = own) (hnm0 : y.name = nm) (pn : plainFor y = true) (ef : ∀ m, entryFrame m as' maxL = mkF m 0 L0 [])
    (body : ∀ p e s m below meth c T, own_Cx Z p l e rm s m as' below meth c n0 own bytes maxL nm ret T h0 0 0 → own_Fin p e below (own_End s n0 q rm.cells rm.slots) (T.setTop (mkF m 0 L0 []))) :
    own_Met l Z y bytes maxL ret ws rm as' h0 n0 q := by
  subst ho hnm0
  refine MetFree.of_bodySF pn hisR ?_
  intro p e s m args below meth c s₁ Bd hml0 hP hK
  obtain ⟨rfl, hZ, hh⟩ := hP
  have hnm := (name_of_methodNamed Bd.named Bd.method).1
  have e0 : s₁.heap = h0 := by rw [← hh, Bd.state]; rfl
  obtain ⟨s2, o, k1, k2, k3, k4⟩ := body p e s m below meth c s₁ ⟨[], Stand.of_body Bd, Fr.nil _, e0, Bd.exec, hZ, findClass_of_methodNamed Bd.named, Bd.bytes, hml0, hnm, Bd.returns, Bd.notSynchronized⟩
  exact ⟨s2, o, castTop (ef m) k1, k2, k3, k4⟩
theorem own_iload (X : own_Cx Z p l e R s m args below meth c n0 own bytes maxL nm ret T h cells slots) {k : Nat} {v : Int32} (d : decode bytes pc = .ok (.iload k, 2)) (hp : pc + 2 = pc') (hl : L[k]? = some (.val (.int v)))
    (q : own_Fin p e below G (T.setTop (mkF m pc' L ((.int v) :: st)))) : own_Fin p e below G (T.setTop (mkF m pc L (st))) := by
  obtain ⟨locs, X, N, eT, hx, hZ, hown, hby, hml, hnm, hret, hlk⟩ := X
  subst hp
  exact own_go (fun t k => XS.iload X.here hx rfl (hb hby d) hl k) q
theorem own_lload (X : own_Cx Z p l e R s m args below meth c n0 own bytes maxL nm ret T h cells slots) {k : Nat} {v : Int64} (d : decode bytes pc = .ok (.lload k, 2)) (hp : pc + 2 = pc') (hl : L[k]? = some (.val (.long v)))
    (q : own_Fin p e below G (T.setTop (mkF m pc' L ((.long v) :: st)))) : own_Fin p e below G (T.setTop (mkF m pc L (st))) := by
  obtain ⟨locs, X, N, eT, hx, hZ, hown, hby, hml, hnm, hret, hlk⟩ := X
  subst hp
  exact own_go (fun t k => XT.lload X.here hx rfl (hb hby d) hl k) q
theorem own_iloadN (X : own_Cx Z p l e R s m args below meth c n0 own bytes maxL nm ret T h cells slots) {k : Fin 4} {v : Int32} (d : decode bytes pc = .ok (.iload_n k, 1)) (hp : pc + 1 = pc') (hl : L[k.val]? = some (.val (.int v)))
    (q : own_Fin p e below G (T.setTop (mkF m pc' L ((.int v) :: st)))) : own_Fin p e below G (T.setTop (mkF m pc L (st))) := by
  obtain ⟨locs, X, N, eT, hx, hZ, hown, hby, hml, hnm, hret, hlk⟩ := X
  subst hp
  exact own_go (fun t k => XS.iloadN X.here hx rfl (hb hby d) hl k) q
theorem own_lloadN (X : own_Cx Z p l e R s m args below meth c n0 own bytes maxL nm ret T h cells slots) {k : Fin 4} {v : Int64} (d : decode bytes pc = .ok (.lload_n k, 1)) (hp : pc + 1 = pc') (hl : L[k.val]? = some (.val (.long v)))
    (q : own_Fin p e below G (T.setTop (mkF m pc' L ((.long v) :: st)))) : own_Fin p e below G (T.setTop (mkF m pc L (st))) := by
  obtain ⟨locs, X, N, eT, hx, hZ, hown, hby, hml, hnm, hret, hlk⟩ := X
  subst hp
  exact own_go (fun t k => XT.lloadN X.here hx rfl (hb hby d) hl k) q
theorem own_aload (X : own_Cx Z p l e R s m args below meth c n0 own bytes maxL nm ret T h cells slots) {k : Nat} {v : Value} (d : decode bytes pc = .ok (.aload k, 2)) (hp : pc + 2 = pc') (hl : L[k]? = some (.val v)) (hv : v.isRef = true)
    (q : own_Fin p e below G (T.setTop (mkF m pc' L (v :: st)))) : own_Fin p e below G (T.setTop (mkF m pc L (st))) := by
  obtain ⟨locs, X, N, eT, hx, hZ, hown, hby, hml, hnm, hret, hlk⟩ := X
  subst hp
  exact own_go (fun t k => XS.aload X.here hx rfl (hb hby d) hl hv k) q
theorem own_aloadN (X : own_Cx Z p l e R s m args below meth c n0 own bytes maxL nm ret T h cells slots) {k : Fin 4} {v : Value} (d : decode bytes pc = .ok (.aload_n k, 1)) (hp : pc + 1 = pc') (hl : L[k.val]? = some (.val v)) (hv : v.isRef = true)
    (q : own_Fin p e below G (T.setTop (mkF m pc' L (v :: st)))) : own_Fin p e below G (T.setTop (mkF m pc L (st))) := by
  obtain ⟨locs, X, N, eT, hx, hZ, hown, hby, hml, hnm, hret, hlk⟩ := X
  subst hp
  exact own_go (fun t k => XS.aloadN X.here hx rfl (hb hby d) hl hv k) q
theorem own_istore (X : own_Cx Z p l e R s m args below meth c n0 own bytes maxL nm ret T h cells slots) {k : Nat} {v : Int32} {L' : Array Slot} (d : decode bytes pc = .ok (.istore k, 2)) (hp : pc + 2 = pc') (hl : storeLocals L k (.int v) = some L')
    (q : own_Fin p e below G (T.setTop (mkF m pc' L' (st)))) : own_Fin p e below G (T.setTop (mkF m pc L ((.int v) :: st))) := by
  obtain ⟨locs, X, N, eT, hx, hZ, hown, hby, hml, hnm, hret, hlk⟩ := X
  subst hp
  exact own_go (fun t k => XS.istore X.here hx rfl (hb hby d) rfl hl k) q
theorem own_lstore (X : own_Cx Z p l e R s m args below meth c n0 own bytes maxL nm ret T h cells slots) {k : Nat} {v : Int64} {L' : Array Slot} (d : decode bytes pc = .ok (.lstore k, 2)) (hp : pc + 2 = pc') (hl : storeLocals L k (.long v) = some L')
    (q : own_Fin p e below G (T.setTop (mkF m pc' L' (st)))) : own_Fin p e below G (T.setTop (mkF m pc L ((.long v) :: st))) := by
  obtain ⟨locs, X, N, eT, hx, hZ, hown, hby, hml, hnm, hret, hlk⟩ := X
  subst hp
  exact own_go (fun t k => XT.lstore X.here hx rfl (hb hby d) rfl hl k) q
theorem own_istoreN (X : own_Cx Z p l e R s m args below meth c n0 own bytes maxL nm ret T h cells slots) {k : Fin 4} {v : Int32} {L' : Array Slot} (d : decode bytes pc = .ok (.istore_n k, 1)) (hp : pc + 1 = pc') (hl : storeLocals L k.val (.int v) = some L')
    (q : own_Fin p e below G (T.setTop (mkF m pc' L' (st)))) : own_Fin p e below G (T.setTop (mkF m pc L ((.int v) :: st))) := by
  obtain ⟨locs, X, N, eT, hx, hZ, hown, hby, hml, hnm, hret, hlk⟩ := X
  subst hp
  exact own_go (fun t k => XS.istoreN X.here hx rfl (hb hby d) rfl hl k) q
theorem own_lstoreN (X : own_Cx Z p l e R s m args below meth c n0 own bytes maxL nm ret T h cells slots) {k : Fin 4} {v : Int64} {L' : Array Slot} (d : decode bytes pc = .ok (.lstore_n k, 1)) (hp : pc + 1 = pc') (hl : storeLocals L k.val (.long v) = some L')
    (q : own_Fin p e below G (T.setTop (mkF m pc' L' (st)))) : own_Fin p e below G (T.setTop (mkF m pc L ((.long v) :: st))) := by
  obtain ⟨locs, X, N, eT, hx, hZ, hown, hby, hml, hnm, hret, hlk⟩ := X
  subst hp
  exact own_go (fun t k => XT.lstoreN X.here hx rfl (hb hby d) rfl hl k) q
theorem own_astore (X : own_Cx Z p l e R s m args below meth c n0 own bytes maxL nm ret T h cells slots) {k : Nat} {v : Value} {L' : Array Slot} (d : decode bytes pc = .ok (.astore k, 2)) (hp : pc + 2 = pc') (hv : v.isRef = true) (hl : storeLocals L k v = some L')
    (q : own_Fin p e below G (T.setTop (mkF m pc' L' (st)))) : own_Fin p e below G (T.setTop (mkF m pc L (v :: st))) := by
  obtain ⟨locs, X, N, eT, hx, hZ, hown, hby, hml, hnm, hret, hlk⟩ := X
  subst hp
  exact own_go (fun t k => XS.astore X.here hx rfl (hb hby d) rfl hv hl k) q
theorem own_astoreN (X : own_Cx Z p l e R s m args below meth c n0 own bytes maxL nm ret T h cells slots) {k : Fin 4} {v : Value} {L' : Array Slot} (d : decode bytes pc = .ok (.astore_n k, 1)) (hp : pc + 1 = pc') (hv : v.isRef = true) (hl : storeLocals L k.val v = some L')
    (q : own_Fin p e below G (T.setTop (mkF m pc' L' (st)))) : own_Fin p e below G (T.setTop (mkF m pc L (v :: st))) := by
  obtain ⟨locs, X, N, eT, hx, hZ, hown, hby, hml, hnm, hret, hlk⟩ := X
  subst hp
  exact own_go (fun t k => XS.astoreN X.here hx rfl (hb hby d) rfl hv hl k) q
theorem own_iinc (X : own_Cx Z p l e R s m args below meth c n0 own bytes maxL nm ret T h cells slots) {k : Nat} {x : Int32} {i : Int} {L' : Array Slot} (v : Int32) (d : decode bytes pc = .ok (.iinc k i, 3)) (hp : pc + 3 = pc') (hv : Int32.ofInt i = v) (hl : L[k]? = some (.val (.int x))) (hl' : storeLocals L k (.int (x + v)) = some L')
    (q : own_Fin p e below G (T.setTop (mkF m pc' L' (st)))) : own_Fin p e below G (T.setTop (mkF m pc L (st))) := by
  obtain ⟨locs, X, N, eT, hx, hZ, hown, hby, hml, hnm, hret, hlk⟩ := X
  subst hp
  exact own_go (fun t k => XT.iincV X.here hx rfl v (hb hby d) hv hl hl' k) q
theorem own_iconst (X : own_Cx Z p l e R s m args below meth c n0 own bytes maxL nm ret T h cells slots) {i : Int} (v : Int32) (d : decode bytes pc = .ok (.iconst i, 1)) (hp : pc + 1 = pc') (hv : Int32.ofInt i = v)
    (q : own_Fin p e below G (T.setTop (mkF m pc' L ((.int v) :: st)))) : own_Fin p e below G (T.setTop (mkF m pc L (st))) := by
  obtain ⟨locs, X, N, eT, hx, hZ, hown, hby, hml, hnm, hret, hlk⟩ := X
  subst hp
  exact own_go (fun t k => XT.iconstV X.here hx rfl v (hb hby d) hv k) q
theorem own_bipush (X : own_Cx Z p l e R s m args below meth c n0 own bytes maxL nm ret T h cells slots) {i : Int} (v : Int32) (d : decode bytes pc = .ok (.bipush i, 2)) (hp : pc + 2 = pc') (hv : (Int8.ofInt i).toInt32 = v)
    (q : own_Fin p e below G (T.setTop (mkF m pc' L ((.int v) :: st)))) : own_Fin p e below G (T.setTop (mkF m pc L (st))) := by
  obtain ⟨locs, X, N, eT, hx, hZ, hown, hby, hml, hnm, hret, hlk⟩ := X
  subst hp
  exact own_go (fun t k => XT.bipushV X.here hx rfl v (hb hby d) hv k) q
theorem own_sipush (X : own_Cx Z p l e R s m args below meth c n0 own bytes maxL nm ret T h cells slots) {i : Int} (v : Int32) (d : decode bytes pc = .ok (.sipush i, 3)) (hp : pc + 3 = pc') (hv : (Int16.ofInt i).toInt32 = v)
    (q : own_Fin p e below G (T.setTop (mkF m pc' L ((.int v) :: st)))) : own_Fin p e below G (T.setTop (mkF m pc L (st))) := by
  obtain ⟨locs, X, N, eT, hx, hZ, hown, hby, hml, hnm, hret, hlk⟩ := X
  subst hp
  exact own_go (fun t k => XT.sipushV X.here hx rfl v (hb hby d) hv k) q
theorem own_lconst (X : own_Cx Z p l e R s m args below meth c n0 own bytes maxL nm ret T h cells slots) {i : Fin 2} (v : Int64) (d : decode bytes pc = .ok (.lconst i, 1)) (hp : pc + 1 = pc') (hv : Int64.ofNat i = v)
    (q : own_Fin p e below G (T.setTop (mkF m pc' L ((.long v) :: st)))) : own_Fin p e below G (T.setTop (mkF m pc L (st))) := by
  obtain ⟨locs, X, N, eT, hx, hZ, hown, hby, hml, hnm, hret, hlk⟩ := X
  subst hp
  exact own_go (fun t k => XT.lconstV X.here hx rfl v (hb hby d) hv k) q
theorem own_aconst_null (X : own_Cx Z p l e R s m args below meth c n0 own bytes maxL nm ret T h cells slots)  (d : decode bytes pc = .ok (.aconst_null, 1)) (hp : pc + 1 = pc') 
    (q : own_Fin p e below G (T.setTop (mkF m pc' L (.null :: st)))) : own_Fin p e below G (T.setTop (mkF m pc L (st))) := by
  obtain ⟨locs, X, N, eT, hx, hZ, hown, hby, hml, hnm, hret, hlk⟩ := X
  subst hp
  exact own_go (fun t k => XS.aconstNull X.here hx rfl (hb hby d) k) q
theorem own_iadd (X : own_Cx Z p l e R s m args below meth c n0 own bytes maxL nm ret T h cells slots) {x y : Int32} (d : decode bytes pc = .ok (.iadd, 1)) (hp : pc + 1 = pc') 
    (q : own_Fin p e below G (T.setTop (mkF m pc' L ((.int (x + y)) :: st)))) : own_Fin p e below G (T.setTop (mkF m pc L ((.int y) :: (.int x) :: st))) := by
  obtain ⟨locs, X, N, eT, hx, hZ, hown, hby, hml, hnm, hret, hlk⟩ := X
  subst hp
  exact own_go (fun t k => XS.iadd X.here hx rfl (hb hby d) rfl k) q
theorem own_isub (X : own_Cx Z p l e R s m args below meth c n0 own bytes maxL nm ret T h cells slots) {x y : Int32} (d : decode bytes pc = .ok (.isub, 1)) (hp : pc + 1 = pc') 
    (q : own_Fin p e below G (T.setTop (mkF m pc' L ((.int (x - y)) :: st)))) : own_Fin p e below G (T.setTop (mkF m pc L ((.int y) :: (.int x) :: st))) := by
  obtain ⟨locs, X, N, eT, hx, hZ, hown, hby, hml, hnm, hret, hlk⟩ := X
  subst hp
  exact own_go (fun t k => XS.isub X.here hx rfl (hb hby d) rfl k) q
theorem own_iand (X : own_Cx Z p l e R s m args below meth c n0 own bytes maxL nm ret T h cells slots) {x y : Int32} (d : decode bytes pc = .ok (.iand, 1)) (hp : pc + 1 = pc') 
    (q : own_Fin p e below G (T.setTop (mkF m pc' L ((.int (x &&& y)) :: st)))) : own_Fin p e below G (T.setTop (mkF m pc L ((.int y) :: (.int x) :: st))) := by
  obtain ⟨locs, X, N, eT, hx, hZ, hown, hby, hml, hnm, hret, hlk⟩ := X
  subst hp
  exact own_go (fun t k => XS.iand X.here hx rfl (hb hby d) rfl k) q
theorem own_imul (X : own_Cx Z p l e R s m args below meth c n0 own bytes maxL nm ret T h cells slots) {x y : Int32} (d : decode bytes pc = .ok (.imul, 1)) (hp : pc + 1 = pc') 
    (q : own_Fin p e below G (T.setTop (mkF m pc' L ((.int (x * y)) :: st)))) : own_Fin p e below G (T.setTop (mkF m pc L ((.int y) :: (.int x) :: st))) := by
  obtain ⟨locs, X, N, eT, hx, hZ, hown, hby, hml, hnm, hret, hlk⟩ := X
  subst hp
  exact own_go (fun t k => XS.imul X.here hx rfl (hb hby d) rfl k) q
theorem own_irem (X : own_Cx Z p l e R s m args below meth c n0 own bytes maxL nm ret T h cells slots) {x y : Int32} (d : decode bytes pc = .ok (.irem, 1)) (hp : pc + 1 = pc') (hy : y ≠ 0)
    (q : own_Fin p e below G (T.setTop (mkF m pc' L ((.int (x % y)) :: st)))) : own_Fin p e below G (T.setTop (mkF m pc L ((.int y) :: (.int x) :: st))) := by
  obtain ⟨locs, X, N, eT, hx, hZ, hown, hby, hml, hnm, hret, hlk⟩ := X
  subst hp
  exact own_go (fun t k => iremM X hx rfl (hb hby d) rfl hy k) q
theorem own_ixor (X : own_Cx Z p l e R s m args below meth c n0 own bytes maxL nm ret T h cells slots) {x y : Int32} (d : decode bytes pc = .ok (.ixor, 1)) (hp : pc + 1 = pc') 
    (q : own_Fin p e below G (T.setTop (mkF m pc' L ((.int (x ^^^ y)) :: st)))) : own_Fin p e below G (T.setTop (mkF m pc L ((.int y) :: (.int x) :: st))) := by
  obtain ⟨locs, X, N, eT, hx, hZ, hown, hby, hml, hnm, hret, hlk⟩ := X
  subst hp
  exact own_go (fun t k => XT.ixor X.here hx rfl (hb hby d) rfl k) q
theorem own_ior (X : own_Cx Z p l e R s m args below meth c n0 own bytes maxL nm ret T h cells slots) {x y : Int32} (d : decode bytes pc = .ok (.ior, 1)) (hp : pc + 1 = pc') 
    (q : own_Fin p e below G (T.setTop (mkF m pc' L ((.int (x ||| y)) :: st)))) : own_Fin p e below G (T.setTop (mkF m pc L ((.int y) :: (.int x) :: st))) := by
  obtain ⟨locs, X, N, eT, hx, hZ, hown, hby, hml, hnm, hret, hlk⟩ := X
  subst hp
  exact own_go (fun t k => XT.ior X.here hx rfl (hb hby d) rfl k) q
theorem own_ishl (X : own_Cx Z p l e R s m args below meth c n0 own bytes maxL nm ret T h cells slots) {x y : Int32} (d : decode bytes pc = .ok (.ishl, 1)) (hp : pc + 1 = pc') 
    (q : own_Fin p e below G (T.setTop (mkF m pc' L ((.int (x <<< (y &&& 31))) :: st)))) : own_Fin p e below G (T.setTop (mkF m pc L ((.int y) :: (.int x) :: st))) := by
  obtain ⟨locs, X, N, eT, hx, hZ, hown, hby, hml, hnm, hret, hlk⟩ := X
  subst hp
  exact own_go (fun t k => XT.ishl X.here hx rfl (hb hby d) rfl k) q
theorem own_ishr (X : own_Cx Z p l e R s m args below meth c n0 own bytes maxL nm ret T h cells slots) {x y : Int32} (d : decode bytes pc = .ok (.ishr, 1)) (hp : pc + 1 = pc') 
    (q : own_Fin p e below G (T.setTop (mkF m pc' L ((.int (x >>> (y &&& 31))) :: st)))) : own_Fin p e below G (T.setTop (mkF m pc L ((.int y) :: (.int x) :: st))) := by
  obtain ⟨locs, X, N, eT, hx, hZ, hown, hby, hml, hnm, hret, hlk⟩ := X
  subst hp
  exact own_go (fun t k => XT.ishr X.here hx rfl (hb hby d) rfl k) q
theorem own_iushr (X : own_Cx Z p l e R s m args below meth c n0 own bytes maxL nm ret T h cells slots) {x y : Int32} (d : decode bytes pc = .ok (.iushr, 1)) (hp : pc + 1 = pc') 
    (q : own_Fin p e below G (T.setTop (mkF m pc' L ((.int (XT.ushr x y)) :: st)))) : own_Fin p e below G (T.setTop (mkF m pc L ((.int y) :: (.int x) :: st))) := by
  obtain ⟨locs, X, N, eT, hx, hZ, hown, hby, hml, hnm, hret, hlk⟩ := X
  subst hp
  exact own_go (fun t k => XT.iushr X.here hx rfl (hb hby d) rfl k) q
theorem own_ladd (X : own_Cx Z p l e R s m args below meth c n0 own bytes maxL nm ret T h cells slots) {x y : Int64} (d : decode bytes pc = .ok (.ladd, 1)) (hp : pc + 1 = pc') 
    (q : own_Fin p e below G (T.setTop (mkF m pc' L ((.long (x + y)) :: st)))) : own_Fin p e below G (T.setTop (mkF m pc L ((.long y) :: (.long x) :: st))) := by
  obtain ⟨locs, X, N, eT, hx, hZ, hown, hby, hml, hnm, hret, hlk⟩ := X
  subst hp
  exact own_go (fun t k => XT.ladd X.here hx rfl (hb hby d) rfl k) q
theorem own_lsub (X : own_Cx Z p l e R s m args below meth c n0 own bytes maxL nm ret T h cells slots) {x y : Int64} (d : decode bytes pc = .ok (.lsub, 1)) (hp : pc + 1 = pc') 
    (q : own_Fin p e below G (T.setTop (mkF m pc' L ((.long (x - y)) :: st)))) : own_Fin p e below G (T.setTop (mkF m pc L ((.long y) :: (.long x) :: st))) := by
  obtain ⟨locs, X, N, eT, hx, hZ, hown, hby, hml, hnm, hret, hlk⟩ := X
  subst hp
  exact own_go (fun t k => XT.lsub X.here hx rfl (hb hby d) rfl k) q
theorem own_lmul (X : own_Cx Z p l e R s m args below meth c n0 own bytes maxL nm ret T h cells slots) {x y : Int64} (d : decode bytes pc = .ok (.lmul, 1)) (hp : pc + 1 = pc') 
    (q : own_Fin p e below G (T.setTop (mkF m pc' L ((.long (x * y)) :: st)))) : own_Fin p e below G (T.setTop (mkF m pc L ((.long y) :: (.long x) :: st))) := by
  obtain ⟨locs, X, N, eT, hx, hZ, hown, hby, hml, hnm, hret, hlk⟩ := X
  subst hp
  exact own_go (fun t k => XT.lmul X.here hx rfl (hb hby d) rfl k) q
theorem own_land (X : own_Cx Z p l e R s m args below meth c n0 own bytes maxL nm ret T h cells slots) {x y : Int64} (d : decode bytes pc = .ok (.land, 1)) (hp : pc + 1 = pc') 
    (q : own_Fin p e below G (T.setTop (mkF m pc' L ((.long (x &&& y)) :: st)))) : own_Fin p e below G (T.setTop (mkF m pc L ((.long y) :: (.long x) :: st))) := by
  obtain ⟨locs, X, N, eT, hx, hZ, hown, hby, hml, hnm, hret, hlk⟩ := X
  subst hp
  exact own_go (fun t k => XT.land X.here hx rfl (hb hby d) rfl k) q
theorem own_lor (X : own_Cx Z p l e R s m args below meth c n0 own bytes maxL nm ret T h cells slots) {x y : Int64} (d : decode bytes pc = .ok (.lor, 1)) (hp : pc + 1 = pc') 
    (q : own_Fin p e below G (T.setTop (mkF m pc' L ((.long (x ||| y)) :: st)))) : own_Fin p e below G (T.setTop (mkF m pc L ((.long y) :: (.long x) :: st))) := by
  obtain ⟨locs, X, N, eT, hx, hZ, hown, hby, hml, hnm, hret, hlk⟩ := X
  subst hp
  exact own_go (fun t k => XT.lor X.here hx rfl (hb hby d) rfl k) q
theorem own_lxor (X : own_Cx Z p l e R s m args below meth c n0 own bytes maxL nm ret T h cells slots) {x y : Int64} (d : decode bytes pc = .ok (.lxor, 1)) (hp : pc + 1 = pc') 
    (q : own_Fin p e below G (T.setTop (mkF m pc' L ((.long (x ^^^ y)) :: st)))) : own_Fin p e below G (T.setTop (mkF m pc L ((.long y) :: (.long x) :: st))) := by
  obtain ⟨locs, X, N, eT, hx, hZ, hown, hby, hml, hnm, hret, hlk⟩ := X
  subst hp
  exact own_go (fun t k => XT.lxor X.here hx rfl (hb hby d) rfl k) q
theorem own_lshl (X : own_Cx Z p l e R s m args below meth c n0 own bytes maxL nm ret T h cells slots) {x : Int64} {y : Int32} (d : decode bytes pc = .ok (.lshl, 1)) (hp : pc + 1 = pc') 
    (q : own_Fin p e below G (T.setTop (mkF m pc' L ((.long (x <<< (y.toInt64 &&& 63))) :: st)))) : own_Fin p e below G (T.setTop (mkF m pc L ((.int y) :: (.long x) :: st))) := by
  obtain ⟨locs, X, N, eT, hx, hZ, hown, hby, hml, hnm, hret, hlk⟩ := X
  subst hp
  exact own_go (fun t k => XT.lshl X.here hx rfl (hb hby d) rfl k) q
theorem own_lshr (X : own_Cx Z p l e R s m args below meth c n0 own bytes maxL nm ret T h cells slots) {x : Int64} {y : Int32} (d : decode bytes pc = .ok (.lshr, 1)) (hp : pc + 1 = pc') 
    (q : own_Fin p e below G (T.setTop (mkF m pc' L ((.long (x >>> (y.toInt64 &&& 63))) :: st)))) : own_Fin p e below G (T.setTop (mkF m pc L ((.int y) :: (.long x) :: st))) := by
  obtain ⟨locs, X, N, eT, hx, hZ, hown, hby, hml, hnm, hret, hlk⟩ := X
  subst hp
  exact own_go (fun t k => XT.lshr X.here hx rfl (hb hby d) rfl k) q
theorem own_lushr (X : own_Cx Z p l e R s m args below meth c n0 own bytes maxL nm ret T h cells slots) {x : Int64} {y : Int32} (d : decode bytes pc = .ok (.lushr, 1)) (hp : pc + 1 = pc') 
    (q : own_Fin p e below G (T.setTop (mkF m pc' L ((.long (XT.ushrL x y)) :: st)))) : own_Fin p e below G (T.setTop (mkF m pc L ((.int y) :: (.long x) :: st))) := by
  obtain ⟨locs, X, N, eT, hx, hZ, hown, hby, hml, hnm, hret, hlk⟩ := X
  subst hp
  exact own_go (fun t k => XT.lushr X.here hx rfl (hb hby d) rfl k) q
theorem own_lneg (X : own_Cx Z p l e R s m args below meth c n0 own bytes maxL nm ret T h cells slots) {x : Int64} (d : decode bytes pc = .ok (.lneg, 1)) (hp : pc + 1 = pc') 
    (q : own_Fin p e below G (T.setTop (mkF m pc' L ((.long (-x)) :: st)))) : own_Fin p e below G (T.setTop (mkF m pc L ((.long x) :: st))) := by
  obtain ⟨locs, X, N, eT, hx, hZ, hown, hby, hml, hnm, hret, hlk⟩ := X
  subst hp
  exact own_go (fun t k => XT.lneg X.here hx rfl (hb hby d) rfl k) q
theorem own_i2l (X : own_Cx Z p l e R s m args below meth c n0 own bytes maxL nm ret T h cells slots) {x : Int32} (d : decode bytes pc = .ok (.i2l, 1)) (hp : pc + 1 = pc') 
    (q : own_Fin p e below G (T.setTop (mkF m pc' L ((.long x.toInt64) :: st)))) : own_Fin p e below G (T.setTop (mkF m pc L ((.int x) :: st))) := by
  obtain ⟨locs, X, N, eT, hx, hZ, hown, hby, hml, hnm, hret, hlk⟩ := X
  subst hp
  exact own_go (fun t k => XT.i2l X.here hx rfl (hb hby d) rfl k) q
theorem own_l2i (X : own_Cx Z p l e R s m args below meth c n0 own bytes maxL nm ret T h cells slots) {x : Int64} (d : decode bytes pc = .ok (.l2i, 1)) (hp : pc + 1 = pc') 
    (q : own_Fin p e below G (T.setTop (mkF m pc' L ((.int x.toInt32) :: st)))) : own_Fin p e below G (T.setTop (mkF m pc L ((.long x) :: st))) := by
  obtain ⟨locs, X, N, eT, hx, hZ, hown, hby, hml, hnm, hret, hlk⟩ := X
  subst hp
  exact own_go (fun t k => XT.l2i X.here hx rfl (hb hby d) rfl k) q
theorem own_i2c (X : own_Cx Z p l e R s m args below meth c n0 own bytes maxL nm ret T h cells slots) {x : Int32} (d : decode bytes pc = .ok (.i2c, 1)) (hp : pc + 1 = pc') 
    (q : own_Fin p e below G (T.setTop (mkF m pc' L ((.int x.toUInt32.toUInt16.toUInt32.toInt32) :: st)))) : own_Fin p e below G (T.setTop (mkF m pc L ((.int x) :: st))) := by
  obtain ⟨locs, X, N, eT, hx, hZ, hown, hby, hml, hnm, hret, hlk⟩ := X
  subst hp
  exact own_go (fun t k => XT.i2c X.here hx rfl (hb hby d) rfl k) q
theorem own_dup (X : own_Cx Z p l e R s m args below meth c n0 own bytes maxL nm ret T h cells slots) {v : Value} (d : decode bytes pc = .ok (.dup, 1)) (hp : pc + 1 = pc') (hc : v.category = 1)
    (q : own_Fin p e below G (T.setTop (mkF m pc' L (v :: v :: st)))) : own_Fin p e below G (T.setTop (mkF m pc L (v :: st))) := by
  obtain ⟨locs, X, N, eT, hx, hZ, hown, hby, hml, hnm, hret, hlk⟩ := X
  subst hp
  exact own_go (fun t k => XS.dup X.here hx rfl (hb hby d) rfl hc k) q
theorem own_pop (X : own_Cx Z p l e R s m args below meth c n0 own bytes maxL nm ret T h cells slots) {v : Value} (d : decode bytes pc = .ok (.pop, 1)) (hp : pc + 1 = pc') (hc : v.category = 1)
    (q : own_Fin p e below G (T.setTop (mkF m pc' L (st)))) : own_Fin p e below G (T.setTop (mkF m pc L (v :: st))) := by
  obtain ⟨locs, X, N, eT, hx, hZ, hown, hby, hml, hnm, hret, hlk⟩ := X
  subst hp
  exact own_go (fun t k => XT.pop X.here hx rfl (hb hby d) rfl hc k) q
theorem own_ldcI (X : own_Cx Z p l e R s m args below meth c n0 own bytes maxL nm ret T h cells slots) {i : Nat} {v : Int32} (d : decode bytes pc = .ok (.ldc i, 2)) (hp : pc + 2 = pc') (w : (Jvm.Cond.constant own i v).before a0 Z = true)
    (q : own_Fin p e below G (T.setTop (mkF m pc' L ((.int v) :: st)))) : own_Fin p e below G (T.setTop (mkF m pc L (st))) := by
  obtain ⟨locs, X, N, eT, hx, hZ, hown, hby, hml, hnm, hret, hlk⟩ := X
  subst hp
  exact own_go (fun t k => X.ldcInt hx hown (mvT hZ w) (g := mkF m pc L st) rfl (hb hby d) t k) q
theorem own_ldc2J (X : own_Cx Z p l e R s m args below meth c n0 own bytes maxL nm ret T h cells slots) {i : Nat} {v : Int64} (d : decode bytes pc = .ok (.ldc2_w i, 3)) (hp : pc + 3 = pc') (w : (Jvm.Cond.constantLong own i v).before a0 Z = true)
    (q : own_Fin p e below G (T.setTop (mkF m pc' L ((.long v) :: st)))) : own_Fin p e below G (T.setTop (mkF m pc L (st))) := by
  obtain ⟨locs, X, N, eT, hx, hZ, hown, hby, hml, hnm, hret, hlk⟩ := X
  subst hp
  exact own_go (fun t k => X.ldc2Long hx hown (mvT hZ w) (g := mkF m pc L st) rfl (hb hby d) t k) q
theorem own_ldcF (X : own_Cx Z p l e R s m args below meth c n0 own bytes maxL nm ret T h cells slots) {i : Nat} {v : UInt32} (d : decode bytes pc = .ok (.ldc i, 2)) (hp : pc + 2 = pc') (w : (Jvm.Cond.constantFloat own i v).before a0 Z = true)
    (q : own_Fin p e below G (T.setTop (mkF m pc' L ((.float v) :: st)))) : own_Fin p e below G (T.setTop (mkF m pc L (st))) := by
  obtain ⟨locs, X, N, eT, hx, hZ, hown, hby, hml, hnm, hret, hlk⟩ := X
  subst hp
  exact own_go (fun t k => X.ldcFloatC hx hown (mvT hZ w) (g := mkF m pc L st) rfl (hb hby d) t k) q
theorem own_goto (X : own_Cx Z p l e R s m args below meth c n0 own bytes maxL nm ret T h cells slots) {o : Int} (d : decode bytes pc = .ok (.goto o, 3)) (ho : 0 ≤ (pc : Int) + o) (hp : ((pc : Int) + o).toNat = pc')
    (q : own_Fin p e below G (T.setTop (mkF m pc' L (st)))) : own_Fin p e below G (T.setTop (mkF m pc L (st))) := by
  obtain ⟨locs, X, N, eT, hx, hZ, hown, hby, hml, hnm, hret, hlk⟩ := X
  exact own_go (fun t k => XS.goto X.here hx rfl rfl (hb hby d) ho hp k) q
theorem own_icmp_eq (X : own_Cx Z p l e R s m args below meth c n0 own bytes maxL nm ret T h cells slots) {x y : Int32} {o : Int} {pcT pcF : Nat} (d : decode bytes pc = .ok (.if_icmp .eq o, 3)) (ho : 0 ≤ (pc : Int) + o) (hT : ((pc : Int) + o).toNat = pcT) (hF : pc + 3 = pcF)
    (qT : (x = y) → own_Fin p e below G (T.setTop (mkF m pcT L (st)))) (qF : (¬ (x = y)) → own_Fin p e below G (T.setTop (mkF m pcF L (st)))) : own_Fin p e below G (T.setTop (mkF m pc L ((.int y) :: (.int x) :: st))) := by
  obtain ⟨locs, X, N, eT, hx, hZ, hown, hby, hml, hnm, hret, hlk⟩ := X
  subst hF
  by_cases hc : x = y
  · exact own_go (fun t k => XS.icmpYes X.here hx rfl rfl (hb hby d) rfl (XT.ii_eq_t hc) ho hT k) (qT hc)
  · exact own_go (fun t k => XS.icmpNo X.here hx rfl (hb hby d) rfl (XT.ii_eq_f hc) k) (qF hc)
theorem own_if_eq (X : own_Cx Z p l e R s m args below meth c n0 own bytes maxL nm ret T h cells slots) {x : Int32} {o : Int} {pcT pcF : Nat} (d : decode bytes pc = .ok (.ifCond .eq o, 3)) (ho : 0 ≤ (pc : Int) + o) (hT : ((pc : Int) + o).toNat = pcT) (hF : pc + 3 = pcF)
    (qT : (x = 0) → own_Fin p e below G (T.setTop (mkF m pcT L (st)))) (qF : (¬ (x = 0)) → own_Fin p e below G (T.setTop (mkF m pcF L (st)))) : own_Fin p e below G (T.setTop (mkF m pc L ((.int x) :: st))) := by
  obtain ⟨locs, X, N, eT, hx, hZ, hown, hby, hml, hnm, hret, hlk⟩ := X
  subst hF
  by_cases hc : x = 0
  · exact own_go (fun t k => XS.ifYes X.here hx rfl rfl (hb hby d) rfl (XT.i0_eq_t hc) ho hT k) (qT hc)
  · exact own_go (fun t k => XS.ifNo X.here hx rfl (hb hby d) rfl (XT.i0_eq_f hc) k) (qF hc)
theorem own_lcmp_eq (X : own_Cx Z p l e R s m args below meth c n0 own bytes maxL nm ret T h cells slots) {x y : Int64} {pc1 : Nat} {o : Int} {pcT pcF : Nat} (d0 : decode bytes pc = .ok (.lcmp, 1)) (h1 : pc + 1 = pc1) (d : decode bytes pc1 = .ok (.ifCond .eq o, 3)) (ho : 0 ≤ (pc1 : Int) + o) (hT : ((pc1 : Int) + o).toNat = pcT) (hF : pc1 + 3 = pcF)
    (qT : (x = y) → own_Fin p e below G (T.setTop (mkF m pcT L (st)))) (qF : (¬ (x = y)) → own_Fin p e below G (T.setTop (mkF m pcF L (st)))) : own_Fin p e below G (T.setTop (mkF m pc L ((.long y) :: (.long x) :: st))) := by
  obtain ⟨locs, X, N, eT, hx, hZ, hown, hby, hml, hnm, hret, hlk⟩ := X
  subst h1
  subst hF
  by_cases hc : x = y
  · exact own_go (fun t k => XT.lcmp X.here hx rfl (hb hby d0) rfl (XS.ifYes X.here hx rfl rfl (hb hby d) rfl (XT.ll_eq_t hc) ho hT k)) (qT hc)
  · exact own_go (fun t k => XT.lcmp X.here hx rfl (hb hby d0) rfl (XS.ifNo X.here hx rfl (hb hby d) rfl (XT.ll_eq_f hc) k)) (qF hc)
theorem own_icmp_ne (X : own_Cx Z p l e R s m args below meth c n0 own bytes maxL nm ret T h cells slots) {x y : Int32} {o : Int} {pcT pcF : Nat} (d : decode bytes pc = .ok (.if_icmp .ne o, 3)) (ho : 0 ≤ (pc : Int) + o) (hT : ((pc : Int) + o).toNat = pcT) (hF : pc + 3 = pcF)
    (qT : (¬ (x = y)) → own_Fin p e below G (T.setTop (mkF m pcT L (st)))) (qF : (x = y) → own_Fin p e below G (T.setTop (mkF m pcF L (st)))) : own_Fin p e below G (T.setTop (mkF m pc L ((.int y) :: (.int x) :: st))) := by
  obtain ⟨locs, X, N, eT, hx, hZ, hown, hby, hml, hnm, hret, hlk⟩ := X
  subst hF
  by_cases hc : x = y
  · exact own_go (fun t k => XS.icmpNo X.here hx rfl (hb hby d) rfl (XT.ii_ne_f hc) k) (qF hc)
  · exact own_go (fun t k => XS.icmpYes X.here hx rfl rfl (hb hby d) rfl (XT.ii_ne_t hc) ho hT k) (qT hc)
theorem own_if_ne (X : own_Cx Z p l e R s m args below meth c n0 own bytes maxL nm ret T h cells slots) {x : Int32} {o : Int} {pcT pcF : Nat} (d : decode bytes pc = .ok (.ifCond .ne o, 3)) (ho : 0 ≤ (pc : Int) + o) (hT : ((pc : Int) + o).toNat = pcT) (hF : pc + 3 = pcF)
    (qT : (¬ (x = 0)) → own_Fin p e below G (T.setTop (mkF m pcT L (st)))) (qF : (x = 0) → own_Fin p e below G (T.setTop (mkF m pcF L (st)))) : own_Fin p e below G (T.setTop (mkF m pc L ((.int x) :: st))) := by
  obtain ⟨locs, X, N, eT, hx, hZ, hown, hby, hml, hnm, hret, hlk⟩ := X
  subst hF
  by_cases hc : x = 0
  · exact own_go (fun t k => XS.ifNo X.here hx rfl (hb hby d) rfl (XT.i0_ne_f hc) k) (qF hc)
  · exact own_go (fun t k => XS.ifYes X.here hx rfl rfl (hb hby d) rfl (XT.i0_ne_t hc) ho hT k) (qT hc)
theorem own_lcmp_ne (X : own_Cx Z p l e R s m args below meth c n0 own bytes maxL nm ret T h cells slots) {x y : Int64} {pc1 : Nat} {o : Int} {pcT pcF : Nat} (d0 : decode bytes pc = .ok (.lcmp, 1)) (h1 : pc + 1 = pc1) (d : decode bytes pc1 = .ok (.ifCond .ne o, 3)) (ho : 0 ≤ (pc1 : Int) + o) (hT : ((pc1 : Int) + o).toNat = pcT) (hF : pc1 + 3 = pcF)
    (qT : (¬ (x = y)) → own_Fin p e below G (T.setTop (mkF m pcT L (st)))) (qF : (x = y) → own_Fin p e below G (T.setTop (mkF m pcF L (st)))) : own_Fin p e below G (T.setTop (mkF m pc L ((.long y) :: (.long x) :: st))) := by
  obtain ⟨locs, X, N, eT, hx, hZ, hown, hby, hml, hnm, hret, hlk⟩ := X
  subst h1
  subst hF
  by_cases hc : x = y
  · exact own_go (fun t k => XT.lcmp X.here hx rfl (hb hby d0) rfl (XS.ifNo X.here hx rfl (hb hby d) rfl (XT.ll_ne_f hc) k)) (qF hc)
  · exact own_go (fun t k => XT.lcmp X.here hx rfl (hb hby d0) rfl (XS.ifYes X.here hx rfl rfl (hb hby d) rfl (XT.ll_ne_t hc) ho hT k)) (qT hc)
theorem own_icmp_lt (X : own_Cx Z p l e R s m args below meth c n0 own bytes maxL nm ret T h cells slots) {x y : Int32} {o : Int} {pcT pcF : Nat} (d : decode bytes pc = .ok (.if_icmp .lt o, 3)) (ho : 0 ≤ (pc : Int) + o) (hT : ((pc : Int) + o).toNat = pcT) (hF : pc + 3 = pcF)
    (qT : (x < y) → own_Fin p e below G (T.setTop (mkF m pcT L (st)))) (qF : (¬ (x < y)) → own_Fin p e below G (T.setTop (mkF m pcF L (st)))) : own_Fin p e below G (T.setTop (mkF m pc L ((.int y) :: (.int x) :: st))) := by
  obtain ⟨locs, X, N, eT, hx, hZ, hown, hby, hml, hnm, hret, hlk⟩ := X
  subst hF
  by_cases hc : x < y
  · exact own_go (fun t k => XS.icmpYes X.here hx rfl rfl (hb hby d) rfl (XT.ii_lt_t hc) ho hT k) (qT hc)
  · exact own_go (fun t k => XS.icmpNo X.here hx rfl (hb hby d) rfl (XT.ii_lt_f hc) k) (qF hc)
theorem own_if_lt (X : own_Cx Z p l e R s m args below meth c n0 own bytes maxL nm ret T h cells slots) {x : Int32} {o : Int} {pcT pcF : Nat} (d : decode bytes pc = .ok (.ifCond .lt o, 3)) (ho : 0 ≤ (pc : Int) + o) (hT : ((pc : Int) + o).toNat = pcT) (hF : pc + 3 = pcF)
    (qT : (x < 0) → own_Fin p e below G (T.setTop (mkF m pcT L (st)))) (qF : (¬ (x < 0)) → own_Fin p e below G (T.setTop (mkF m pcF L (st)))) : own_Fin p e below G (T.setTop (mkF m pc L ((.int x) :: st))) := by
  obtain ⟨locs, X, N, eT, hx, hZ, hown, hby, hml, hnm, hret, hlk⟩ := X
  subst hF
  by_cases hc : x < 0
  · exact own_go (fun t k => XS.ifYes X.here hx rfl rfl (hb hby d) rfl (XT.i0_lt_t hc) ho hT k) (qT hc)
  · exact own_go (fun t k => XS.ifNo X.here hx rfl (hb hby d) rfl (XT.i0_lt_f hc) k) (qF hc)
theorem own_lcmp_lt (X : own_Cx Z p l e R s m args below meth c n0 own bytes maxL nm ret T h cells slots) {x y : Int64} {pc1 : Nat} {o : Int} {pcT pcF : Nat} (d0 : decode bytes pc = .ok (.lcmp, 1)) (h1 : pc + 1 = pc1) (d : decode bytes pc1 = .ok (.ifCond .lt o, 3)) (ho : 0 ≤ (pc1 : Int) + o) (hT : ((pc1 : Int) + o).toNat = pcT) (hF : pc1 + 3 = pcF)
    (qT : (x < y) → own_Fin p e below G (T.setTop (mkF m pcT L (st)))) (qF : (¬ (x < y)) → own_Fin p e below G (T.setTop (mkF m pcF L (st)))) : own_Fin p e below G (T.setTop (mkF m pc L ((.long y) :: (.long x) :: st))) := by
  obtain ⟨locs, X, N, eT, hx, hZ, hown, hby, hml, hnm, hret, hlk⟩ := X
  subst h1
  subst hF
  by_cases hc : x < y
  · exact own_go (fun t k => XT.lcmp X.here hx rfl (hb hby d0) rfl (XS.ifYes X.here hx rfl rfl (hb hby d) rfl (XT.ll_lt_t hc) ho hT k)) (qT hc)
  · exact own_go (fun t k => XT.lcmp X.here hx rfl (hb hby d0) rfl (XS.ifNo X.here hx rfl (hb hby d) rfl (XT.ll_lt_f hc) k)) (qF hc)
theorem own_icmp_ge (X : own_Cx Z p l e R s m args below meth c n0 own bytes maxL nm ret T h cells slots) {x y : Int32} {o : Int} {pcT pcF : Nat} (d : decode bytes pc = .ok (.if_icmp .ge o, 3)) (ho : 0 ≤ (pc : Int) + o) (hT : ((pc : Int) + o).toNat = pcT) (hF : pc + 3 = pcF)
    (qT : (¬ (x < y)) → own_Fin p e below G (T.setTop (mkF m pcT L (st)))) (qF : (x < y) → own_Fin p e below G (T.setTop (mkF m pcF L (st)))) : own_Fin p e below G (T.setTop (mkF m pc L ((.int y) :: (.int x) :: st))) := by
  obtain ⟨locs, X, N, eT, hx, hZ, hown, hby, hml, hnm, hret, hlk⟩ := X
  subst hF
  by_cases hc : x < y
  · exact own_go (fun t k => XS.icmpNo X.here hx rfl (hb hby d) rfl (XT.ii_ge_f hc) k) (qF hc)
  · exact own_go (fun t k => XS.icmpYes X.here hx rfl rfl (hb hby d) rfl (XT.ii_ge_t hc) ho hT k) (qT hc)
theorem own_if_ge (X : own_Cx Z p l e R s m args below meth c n0 own bytes maxL nm ret T h cells slots) {x : Int32} {o : Int} {pcT pcF : Nat} (d : decode bytes pc = .ok (.ifCond .ge o, 3)) (ho : 0 ≤ (pc : Int) + o) (hT : ((pc : Int) + o).toNat = pcT) (hF : pc + 3 = pcF)
    (qT : (¬ (x < 0)) → own_Fin p e below G (T.setTop (mkF m pcT L (st)))) (qF : (x < 0) → own_Fin p e below G (T.setTop (mkF m pcF L (st)))) : own_Fin p e below G (T.setTop (mkF m pc L ((.int x) :: st))) := by
  obtain ⟨locs, X, N, eT, hx, hZ, hown, hby, hml, hnm, hret, hlk⟩ := X
  subst hF
  by_cases hc : x < 0
  · exact own_go (fun t k => XS.ifNo X.here hx rfl (hb hby d) rfl (XT.i0_ge_f hc) k) (qF hc)
  · exact own_go (fun t k => XS.ifYes X.here hx rfl rfl (hb hby d) rfl (XT.i0_ge_t hc) ho hT k) (qT hc)
theorem own_lcmp_ge (X : own_Cx Z p l e R s m args below meth c n0 own bytes maxL nm ret T h cells slots) {x y : Int64} {pc1 : Nat} {o : Int} {pcT pcF : Nat} (d0 : decode bytes pc = .ok (.lcmp, 1)) (h1 : pc + 1 = pc1) (d : decode bytes pc1 = .ok (.ifCond .ge o, 3)) (ho : 0 ≤ (pc1 : Int) + o) (hT : ((pc1 : Int) + o).toNat = pcT) (hF : pc1 + 3 = pcF)
    (qT : (¬ (x < y)) → own_Fin p e below G (T.setTop (mkF m pcT L (st)))) (qF : (x < y) → own_Fin p e below G (T.setTop (mkF m pcF L (st)))) : own_Fin p e below G (T.setTop (mkF m pc L ((.long y) :: (.long x) :: st))) := by
  obtain ⟨locs, X, N, eT, hx, hZ, hown, hby, hml, hnm, hret, hlk⟩ := X
  subst h1
  subst hF
  by_cases hc : x < y
  · exact own_go (fun t k => XT.lcmp X.here hx rfl (hb hby d0) rfl (XS.ifNo X.here hx rfl (hb hby d) rfl (XT.ll_ge_f hc) k)) (qF hc)
  · exact own_go (fun t k => XT.lcmp X.here hx rfl (hb hby d0) rfl (XS.ifYes X.here hx rfl rfl (hb hby d) rfl (XT.ll_ge_t hc) ho hT k)) (qT hc)
theorem own_icmp_gt (X : own_Cx Z p l e R s m args below meth c n0 own bytes maxL nm ret T h cells slots) {x y : Int32} {o : Int} {pcT pcF : Nat} (d : decode bytes pc = .ok (.if_icmp .gt o, 3)) (ho : 0 ≤ (pc : Int) + o) (hT : ((pc : Int) + o).toNat = pcT) (hF : pc + 3 = pcF)
    (qT : (y < x) → own_Fin p e below G (T.setTop (mkF m pcT L (st)))) (qF : (¬ (y < x)) → own_Fin p e below G (T.setTop (mkF m pcF L (st)))) : own_Fin p e below G (T.setTop (mkF m pc L ((.int y) :: (.int x) :: st))) := by
  obtain ⟨locs, X, N, eT, hx, hZ, hown, hby, hml, hnm, hret, hlk⟩ := X
  subst hF
  by_cases hc : y < x
  · exact own_go (fun t k => XS.icmpYes X.here hx rfl rfl (hb hby d) rfl (XT.ii_gt_t hc) ho hT k) (qT hc)
  · exact own_go (fun t k => XS.icmpNo X.here hx rfl (hb hby d) rfl (XT.ii_gt_f hc) k) (qF hc)
theorem own_if_gt (X : own_Cx Z p l e R s m args below meth c n0 own bytes maxL nm ret T h cells slots) {x : Int32} {o : Int} {pcT pcF : Nat} (d : decode bytes pc = .ok (.ifCond .gt o, 3)) (ho : 0 ≤ (pc : Int) + o) (hT : ((pc : Int) + o).toNat = pcT) (hF : pc + 3 = pcF)
    (qT : (0 < x) → own_Fin p e below G (T.setTop (mkF m pcT L (st)))) (qF : (¬ (0 < x)) → own_Fin p e below G (T.setTop (mkF m pcF L (st)))) : own_Fin p e below G (T.setTop (mkF m pc L ((.int x) :: st))) := by
  obtain ⟨locs, X, N, eT, hx, hZ, hown, hby, hml, hnm, hret, hlk⟩ := X
  subst hF
  by_cases hc : 0 < x
  · exact own_go (fun t k => XS.ifYes X.here hx rfl rfl (hb hby d) rfl (XT.i0_gt_t hc) ho hT k) (qT hc)
  · exact own_go (fun t k => XS.ifNo X.here hx rfl (hb hby d) rfl (XT.i0_gt_f hc) k) (qF hc)
theorem own_lcmp_gt (X : own_Cx Z p l e R s m args below meth c n0 own bytes maxL nm ret T h cells slots) {x y : Int64} {pc1 : Nat} {o : Int} {pcT pcF : Nat} (d0 : decode bytes pc = .ok (.lcmp, 1)) (h1 : pc + 1 = pc1) (d : decode bytes pc1 = .ok (.ifCond .gt o, 3)) (ho : 0 ≤ (pc1 : Int) + o) (hT : ((pc1 : Int) + o).toNat = pcT) (hF : pc1 + 3 = pcF)
    (qT : (y < x) → own_Fin p e below G (T.setTop (mkF m pcT L (st)))) (qF : (¬ (y < x)) → own_Fin p e below G (T.setTop (mkF m pcF L (st)))) : own_Fin p e below G (T.setTop (mkF m pc L ((.long y) :: (.long x) :: st))) := by
  obtain ⟨locs, X, N, eT, hx, hZ, hown, hby, hml, hnm, hret, hlk⟩ := X
  subst h1
  subst hF
  by_cases hc : y < x
  · exact own_go (fun t k => XT.lcmp X.here hx rfl (hb hby d0) rfl (XS.ifYes X.here hx rfl rfl (hb hby d) rfl (XT.ll_gt_t hc) ho hT k)) (qT hc)
  · exact own_go (fun t k => XT.lcmp X.here hx rfl (hb hby d0) rfl (XS.ifNo X.here hx rfl (hb hby d) rfl (XT.ll_gt_f hc) k)) (qF hc)
theorem own_icmp_le (X : own_Cx Z p l e R s m args below meth c n0 own bytes maxL nm ret T h cells slots) {x y : Int32} {o : Int} {pcT pcF : Nat} (d : decode bytes pc = .ok (.if_icmp .le o, 3)) (ho : 0 ≤ (pc : Int) + o) (hT : ((pc : Int) + o).toNat = pcT) (hF : pc + 3 = pcF)
    (qT : (¬ (y < x)) → own_Fin p e below G (T.setTop (mkF m pcT L (st)))) (qF : (y < x) → own_Fin p e below G (T.setTop (mkF m pcF L (st)))) : own_Fin p e below G (T.setTop (mkF m pc L ((.int y) :: (.int x) :: st))) := by
  obtain ⟨locs, X, N, eT, hx, hZ, hown, hby, hml, hnm, hret, hlk⟩ := X
  subst hF
  by_cases hc : y < x
  · exact own_go (fun t k => XS.icmpNo X.here hx rfl (hb hby d) rfl (XT.ii_le_f hc) k) (qF hc)
  · exact own_go (fun t k => XS.icmpYes X.here hx rfl rfl (hb hby d) rfl (XT.ii_le_t hc) ho hT k) (qT hc)
theorem own_if_le (X : own_Cx Z p l e R s m args below meth c n0 own bytes maxL nm ret T h cells slots) {x : Int32} {o : Int} {pcT pcF : Nat} (d : decode bytes pc = .ok (.ifCond .le o, 3)) (ho : 0 ≤ (pc : Int) + o) (hT : ((pc : Int) + o).toNat = pcT) (hF : pc + 3 = pcF)
    (qT : (¬ (0 < x)) → own_Fin p e below G (T.setTop (mkF m pcT L (st)))) (qF : (0 < x) → own_Fin p e below G (T.setTop (mkF m pcF L (st)))) : own_Fin p e below G (T.setTop (mkF m pc L ((.int x) :: st))) := by
  obtain ⟨locs, X, N, eT, hx, hZ, hown, hby, hml, hnm, hret, hlk⟩ := X
  subst hF
  by_cases hc : 0 < x
  · exact own_go (fun t k => XS.ifNo X.here hx rfl (hb hby d) rfl (XT.i0_le_f hc) k) (qF hc)
  · exact own_go (fun t k => XS.ifYes X.here hx rfl rfl (hb hby d) rfl (XT.i0_le_t hc) ho hT k) (qT hc)
theorem own_lcmp_le (X : own_Cx Z p l e R s m args below meth c n0 own bytes maxL nm ret T h cells slots) {x y : Int64} {pc1 : Nat} {o : Int} {pcT pcF : Nat} (d0 : decode bytes pc = .ok (.lcmp, 1)) (h1 : pc + 1 = pc1) (d : decode bytes pc1 = .ok (.ifCond .le o, 3)) (ho : 0 ≤ (pc1 : Int) + o) (hT : ((pc1 : Int) + o).toNat = pcT) (hF : pc1 + 3 = pcF)
    (qT : (¬ (y < x)) → own_Fin p e below G (T.setTop (mkF m pcT L (st)))) (qF : (y < x) → own_Fin p e below G (T.setTop (mkF m pcF L (st)))) : own_Fin p e below G (T.setTop (mkF m pc L ((.long y) :: (.long x) :: st))) := by
  obtain ⟨locs, X, N, eT, hx, hZ, hown, hby, hml, hnm, hret, hlk⟩ := X
  subst h1
  subst hF
  by_cases hc : y < x
  · exact own_go (fun t k => XT.lcmp X.here hx rfl (hb hby d0) rfl (XS.ifNo X.here hx rfl (hb hby d) rfl (XT.ll_le_f hc) k)) (qF hc)
  · exact own_go (fun t k => XT.lcmp X.here hx rfl (hb hby d0) rfl (XS.ifYes X.here hx rfl rfl (hb hby d) rfl (XT.ll_le_t hc) ho hT k)) (qT hc)
theorem own_acmp_eq (X : own_Cx Z p l e R s m args below meth c n0 own bytes maxL nm ret T h cells slots) {x y : Value} {o : Int} {pcT pcF : Nat} (d : decode bytes pc = .ok (.if_acmp .eq o, 3)) (hx1 : x.isRef = true) (hy1 : y.isRef = true) (ho : 0 ≤ (pc : Int) + o) (hT : ((pc : Int) + o).toNat = pcT) (hF : pc + 3 = pcF)
    (qT : (x = y) → own_Fin p e below G (T.setTop (mkF m pcT L (st)))) (qF : (¬ (x = y)) → own_Fin p e below G (T.setTop (mkF m pcF L (st)))) : own_Fin p e below G (T.setTop (mkF m pc L (y :: x :: st))) := by
  obtain ⟨locs, X, N, eT, hx, hZ, hown, hby, hml, hnm, hret, hlk⟩ := X
  subst hF
  by_cases hc : x = y
  · exact own_go (fun t k => XT.acmpYes X.here hx rfl rfl (hb hby d) rfl hx1 hy1 (XT.aa_eq_t hc) ho hT k) (qT hc)
  · exact own_go (fun t k => XT.acmpNo X.here hx rfl (hb hby d) rfl hx1 hy1 (XT.aa_eq_f hc) k) (qF hc)
theorem own_acmp_ne (X : own_Cx Z p l e R s m args below meth c n0 own bytes maxL nm ret T h cells slots) {x y : Value} {o : Int} {pcT pcF : Nat} (d : decode bytes pc = .ok (.if_acmp .ne o, 3)) (hx1 : x.isRef = true) (hy1 : y.isRef = true) (ho : 0 ≤ (pc : Int) + o) (hT : ((pc : Int) + o).toNat = pcT) (hF : pc + 3 = pcF)
    (qT : (¬ (x = y)) → own_Fin p e below G (T.setTop (mkF m pcT L (st)))) (qF : (x = y) → own_Fin p e below G (T.setTop (mkF m pcF L (st)))) : own_Fin p e below G (T.setTop (mkF m pc L (y :: x :: st))) := by
  obtain ⟨locs, X, N, eT, hx, hZ, hown, hby, hml, hnm, hret, hlk⟩ := X
  subst hF
  by_cases hc : x = y
  · exact own_go (fun t k => XT.acmpNo X.here hx rfl (hb hby d) rfl hx1 hy1 (XT.aa_ne_f hc) k) (qF hc)
  · exact own_go (fun t k => XT.acmpYes X.here hx rfl rfl (hb hby d) rfl hx1 hy1 (XT.aa_ne_t hc) ho hT k) (qT hc)
theorem own_nonnullN (X : own_Cx Z p l e R s m args below meth c n0 own bytes maxL nm ret T h cells slots) {o : Int} (d : decode bytes pc = .ok (.ifnonnull o, 3)) (hp : pc + 3 = pc') 
    (q : own_Fin p e below G (T.setTop (mkF m pc' L (st)))) : own_Fin p e below G (T.setTop (mkF m pc L (.null :: st))) := by
  obtain ⟨locs, X, N, eT, hx, hZ, hown, hby, hml, hnm, hret, hlk⟩ := X
  subst hp
  exact own_go (fun t k => XT.nonnullNo X.here hx rfl (hb hby d) rfl rfl k) q
theorem own_more (X : own_Cx Z p l e R s m args below meth c n0 own bytes maxL nm ret T h cells slots) {cells' slots' : Nat} (h1 : cells ≤ cells') (h2 : slots ≤ slots') : own_Cx Z p l e R s m args below meth c n0 own bytes maxL nm ret T h cells' slots' := by
  obtain ⟨locs, X, N, eT, hx, hZ, hown, hby, hml, hnm, hret, hlk⟩ := X
  exact ⟨locs, X.more h1 h2, N, eT, hx, hZ, hown, hby, hml, hnm, hret, hlk⟩
theorem own_nar {ty : FieldType} {z : Value} (h : ty.isReference = true) : narrow ty z = z := by cases ty <;> first | rfl | (cases h; done)
theorem own_retI (X : own_Cx Z p l e R s m args below meth c n0 own bytes maxL nm ret T h cells slots) {z : Int32} {q : Option Value → Heap → Prop} {k n : Nat} (hr0 : ret = some .int) (d : decode bytes pc = .ok (.ireturn, 1)) (hq : q (some (.int z)) h) (hc : cells ≤ k) (hs : slots ≤ n) :
    own_Fin p e below (own_End s n0 q k n) (T.setTop (mkF m pc L ((.int z) :: st))) := by
  obtain ⟨locs, X, N, eT, hx, hZ, hown, hby, hml, hnm, hret, hlk⟩ := X
  obtain ⟨fs, hr, hrun, hended, hW, hsame⟩ := X.leave (v := some (.int z)) (fun h => by first | rfl | (rw [hret, hr0] at h; cases h)) hlk
  refine ⟨_, _, retOut X hx (hret.trans hr0) rfl (Or.inl ⟨rfl, Or.inl rfl, _, rfl⟩) (hb hby d) hr, hrun, hended, _, _, rfl, ⟨?_, N⟩, ⟨_, rfl⟩, hW, hsame.mono hc hs⟩
  show q _ T.heap
  rw [eT]
  exact hq
theorem own_retJ (X : own_Cx Z p l e R s m args below meth c n0 own bytes maxL nm ret T h cells slots) {z : Int64} {q : Option Value → Heap → Prop} {k n : Nat} (hr0 : ret = some .long) (d : decode bytes pc = .ok (.lreturn, 1)) (hq : q (some (.long z)) h) (hc : cells ≤ k) (hs : slots ≤ n) :
    own_Fin p e below (own_End s n0 q k n) (T.setTop (mkF m pc L ((.long z) :: st))) := by
  obtain ⟨locs, X, N, eT, hx, hZ, hown, hby, hml, hnm, hret, hlk⟩ := X
  obtain ⟨fs, hr, hrun, hended, hW, hsame⟩ := X.leave (v := some (.long z)) (fun h => by first | rfl | (rw [hret, hr0] at h; cases h)) hlk
  refine ⟨_, _, retOut X hx (hret.trans hr0) rfl (Or.inr (Or.inl ⟨rfl, rfl, _, rfl⟩)) (hb hby d) hr, hrun, hended, _, _, rfl, ⟨?_, N⟩, ⟨_, rfl⟩, hW, hsame.mono hc hs⟩
  show q _ T.heap
  rw [eT]
  exact hq
theorem own_retZ (X : own_Cx Z p l e R s m args below meth c n0 own bytes maxL nm ret T h cells slots) {z : Int32} {q : Option Value → Heap → Prop} {k n : Nat} (hr0 : ret = some .boolean) (d : decode bytes pc = .ok (.ireturn, 1)) (hz : narrow .boolean (.int z) = .int z) (hq : q (some (.int z)) h) (hc : cells ≤ k) (hs : slots ≤ n) :
    own_Fin p e below (own_End s n0 q k n) (T.setTop (mkF m pc L ((.int z) :: st))) := by
  obtain ⟨locs, X, N, eT, hx, hZ, hown, hby, hml, hnm, hret, hlk⟩ := X
  obtain ⟨fs, hr, hrun, hended, hW, hsame⟩ := X.leave (v := some (.int z)) (fun h => by first | rfl | (rw [hret, hr0] at h; cases h)) hlk
  refine ⟨_, _, retOut X hx (hret.trans hr0) hz (Or.inl ⟨rfl, Or.inr (Or.inl rfl), _, rfl⟩) (hb hby d) hr, hrun, hended, _, _, rfl, ⟨?_, N⟩, ⟨_, rfl⟩, hW, hsame.mono hc hs⟩
  show q _ T.heap
  rw [eT]
  exact hq
theorem own_retC (X : own_Cx Z p l e R s m args below meth c n0 own bytes maxL nm ret T h cells slots) {z : Int32} {q : Option Value → Heap → Prop} {k n : Nat} (hr0 : ret = some .char) (d : decode bytes pc = .ok (.ireturn, 1)) (hz : narrow .char (.int z) = .int z) (hq : q (some (.int z)) h) (hc : cells ≤ k) (hs : slots ≤ n) :
    own_Fin p e below (own_End s n0 q k n) (T.setTop (mkF m pc L ((.int z) :: st))) := by
  obtain ⟨locs, X, N, eT, hx, hZ, hown, hby, hml, hnm, hret, hlk⟩ := X
  obtain ⟨fs, hr, hrun, hended, hW, hsame⟩ := X.leave (v := some (.int z)) (fun h => by first | rfl | (rw [hret, hr0] at h; cases h)) hlk
  refine ⟨_, _, retOut X hx (hret.trans hr0) hz (Or.inl ⟨rfl, Or.inr (Or.inr (Or.inr (Or.inl rfl))), _, rfl⟩) (hb hby d) hr, hrun, hended, _, _, rfl, ⟨?_, N⟩, ⟨_, rfl⟩, hW, hsame.mono hc hs⟩
  show q _ T.heap
  rw [eT]
  exact hq
theorem own_retA (X : own_Cx Z p l e R s m args below meth c n0 own bytes maxL nm ret T h cells slots) {z : Value} {ty : FieldType} {q : Option Value → Heap → Prop} {k n : Nat} (hr0 : ret = some ty) (hty : ty.isReference = true) (hz : z.isRef = true) (d : decode bytes pc = .ok (.areturn, 1)) (hq : q (some z) h) (hc : cells ≤ k) (hs : slots ≤ n) :
    own_Fin p e below (own_End s n0 q k n) (T.setTop (mkF m pc L (z :: st))) := by
  obtain ⟨locs, X, N, eT, hx, hZ, hown, hby, hml, hnm, hret, hlk⟩ := X
  obtain ⟨fs, hr, hrun, hended, hW, hsame⟩ := X.leave (v := some z) (fun h => by first | rfl | (rw [hret, hr0] at h; cases h)) hlk
  refine ⟨_, _, retOut X hx (hret.trans hr0) (own_nar hty) (Or.inr (Or.inr (Or.inr (Or.inr ⟨rfl, hty, hz⟩)))) (hb hby d) hr, hrun, hended, _, _, rfl, ⟨?_, N⟩, ⟨_, rfl⟩, hW, hsame.mono hc hs⟩
  show q _ T.heap
  rw [eT]
  exact hq
theorem own_retV (X : own_Cx Z p l e R s m args below meth c n0 own bytes maxL nm ret T h cells slots)  {q : Option Value → Heap → Prop} {k n : Nat} (hr0 : ret = none) (d : decode bytes pc = .ok (.return_, 1)) (hq : q (none) h) (hc : cells ≤ k) (hs : slots ≤ n) :
    own_Fin p e below (own_End s n0 q k n) (T.setTop (mkF m pc L ([]))) := by
  obtain ⟨locs, X, N, eT, hx, hZ, hown, hby, hml, hnm, hret, hlk⟩ := X
  obtain ⟨fs, hr, hrun, hended, hW, hsame⟩ := X.leave (v := none) (fun h => by first | rfl | (rw [hret, hr0] at h; cases h)) hlk
  refine ⟨_, _, X.returnOut hx (hret.trans hr0) (hb hby d) hr, hrun, hended, _, _, rfl, ⟨?_, N⟩, ⟨_, rfl⟩, hW, hsame.mono hc hs⟩
  show q _ T.heap
  rw [eT]
  exact hq
theorem own_eqF {a : Addr} {C n d : String} {v w : Value} (F : Fld Z h a C n d v) (e : v = w) : Fld Z h a C n d w := e ▸ F
theorem own_getf (X : own_Cx Z p l e R s m args below meth c n0 own bytes maxL nm ret T h cells slots) {R0 n d0 : String} {i : Nat} {a : Addr} {v : Value} (w : (Jvm.Cond.fieldLink own i R0 n d0).before a0 Z = true) (F : Fld Z h a R0 n d0 v) (d : decode bytes pc = .ok (.getfield i, 3)) (hp : pc + 3 = pc')
    (q : ∀ T', own_Cx Z p l e R s m args below meth c n0 own bytes maxL nm ret T' h cells slots → own_Fin p e below G (T'.setTop (mkF m pc' L (v :: st)))) : own_Fin p e below G (T.setTop (mkF m pc L ((.ref a) :: st))) := by
  obtain ⟨locs, X, N, eT, hx, hZ, hown, hby, hml, hnm, hret, hlk⟩ := X
  subst hp
  obtain ⟨T1, X1, e1, st1⟩ := getF X hx hZ hown (host := "") (Or.inl w) Via.refl eT F (g := mkF m pc L ((.ref a) :: st)) rfl rfl (hb hby d)
  exact own_go st1 (q T1 ⟨locs, X1, N, e1, hx, hZ, hown, hby, hml, hnm, hret, hlk⟩)
theorem own_gets (X : own_Cx Z p l e R s m args below meth c n0 own bytes maxL nm ret T h cells slots) {R0 n d0 : String} {i : Nat} {v : Value} (w : (Jvm.Cond.fieldLink own i R0 n d0).before a0 Z = true) (F : Sta Z h R0 n d0 v) (d : decode bytes pc = .ok (.getstatic i, 3)) (hp : pc + 3 = pc')
    (q : ∀ T', own_Cx Z p l e R s m args below meth c n0 own bytes maxL nm ret T' h cells slots → own_Fin p e below G (T'.setTop (mkF m pc' L (v :: st)))) : own_Fin p e below G (T.setTop (mkF m pc L (st))) := by
  obtain ⟨locs, X, N, eT, hx, hZ, hown, hby, hml, hnm, hret, hlk⟩ := X
  subst hp
  obtain ⟨T1, X1, e1, st1⟩ := getS X hx hZ hown (host := "") w Via.refl eT F (g := mkF m pc L st) rfl (hb hby d)
  exact own_go st1 (q T1 ⟨locs, X1, N, e1, hx, hZ, hown, hby, hml, hnm, hret, hlk⟩)
theorem own_putf (X : own_Cx Z p l e R s m args below meth c n0 own bytes maxL nm ret T h cells slots) {R0 n d0 C : String} {i kk : Nat} {a : Addr} {v old : Value} {ty : FieldType} (w : (Jvm.Cond.fieldLink own i R0 n d0).before a0 Z = true) (F : Fld Z h a R0 n d0 old) (E : Exa Z h a C) (Ly : (Jvm.Cond.lays C R0 n d0).before a0 Z = true ∨ ((Jvm.Cond.laysFinal C R0 n d0).before a0 Z = true ∧ own = R0 ∧ nm = "<init>")) (wi : (Jvm.Cond.instantiable C kk).before a0 Z = true) (hty : parseFieldDescriptor d0 = some ty) (hn : narrow ty v = v) (hf : fits ty v = true) (hge : n0 ≤ a) (d : decode bytes pc = .ok (.putfield i, 3)) (hp : pc + 3 = pc')
    (q : ∀ T' h', own_Cx Z p l e R s m args below meth c n0 own bytes maxL nm ret T' h' cells slots → Wr h h' a (Jvm.RoadKit.slotOf Z R0 n d0) v → own_Fin p e below G (T'.setTop (mkF m pc' L (st)))) : own_Fin p e below G (T.setTop (mkF m pc L (v :: (.ref a) :: st))) := by
  obtain ⟨locs, X, N, eT, hx, hZ, hown, hby, hml, hnm, hret, hlk⟩ := X
  subst hp
  have Ly' : (Jvm.Cond.lays C R0 n d0).before a0 Z = true ∨ ((Jvm.Cond.laysFinal C R0 n d0).before a0 Z = true ∧ own = R0 ∧ meth.name = "<init>") := by
    rcases Ly with q | ⟨q1, q2, q3⟩
    · exact Or.inl q
    · exact Or.inr ⟨q1, q2, hnm.trans q3⟩
  obtain ⟨T1, h1, X1, e1, W1, st1⟩ := putF X hx hZ hown (host := "") (Or.inl w) Via.refl eT F E Ly' wi hty hn hf (g := mkF m pc L (v :: (.ref a) :: st)) rfl rfl (hb hby d)
  exact own_go st1 (q T1 h1 ⟨_, X1, Fr.snoc X1 N hge, e1, hx, hZ, hown, hby, hml, hnm, hret, hlk⟩ W1)
theorem own_new (X : own_Cx Z p l e R s m args below meth c n0 own bytes maxL nm ret T h cells slots) {C : String} {i n : Nat} (w : (Jvm.Cond.classLink own i C).before a0 Z = true) (wi : (Jvm.Cond.instantiable C n).before a0 Z = true) (wz : (Jvm.Cond.initialized C).before a0 Z = true) (d : decode bytes pc = .ok (.new i, 3)) (hp : pc + 3 = pc') {cells' slots' : Nat} (ec : cells + 1 = cells') (es : slots + n = slots') (hc : cells' ≤ R.cells) (hl : slots' ≤ R.slots)
    (q : ∀ T' h' a, a = h.size → own_Cx Z p l e R s m args below meth c n0 own bytes maxL nm ret T' h' cells' slots' → Ext h h' → Exa Z h' a C → (∀ {O nm d : String} {ty : FieldType}, Laid Z a0 C O nm d → parseFieldDescriptor d = some ty → Fld Z h' a O nm d (defaultValue ty)) → own_Fin p e below G (T'.setTop (mkF m pc' L ((.ref a) :: st)))) : own_Fin p e below G (T.setTop (mkF m pc L (st))) := by
  obtain ⟨locs, X, N, eT, hx, hZ, hown, hby, hml, hnm, hret, hlk⟩ := X
  subst hp ec es
  obtain ⟨T1, h1, X1, e1, E1, A1, D1, -, st1⟩ := newO X hx hZ hown w wi wz eT (g := mkF m pc L st) rfl (hb hby d) hc hl
  exact own_go st1 (q T1 h1 _ rfl ⟨_, X1, N, e1, hx, hZ, hown, hby, hml, hnm, hret, hlk⟩ E1 A1 D1)
theorem own_newarray (X : own_Cx Z p l e R s m args below meth c n0 own bytes maxL nm ret T h cells slots) {aty : ArrayType} (w : (Jvm.Cond.arrayClass (newarray.typeOf aty)).before a0 Z = true) {n : Int32} (cap : Nat) (hn : ¬ n < 0) (hcap : n.toNatClampNeg ≤ cap) (hb8 : cap * 8 ≤ 536870912) (d : decode bytes pc = .ok (.newarray aty, 2)) (hp : pc + 2 = pc') {cells' slots' : Nat} (ec : cells + 1 = cells') (es : slots + cap = slots') (hc : cells' ≤ R.cells) (hl : slots' ≤ R.slots)
    (q : ∀ T' h' cA a, a = h.size → own_Cx Z p l e R s m args below meth c n0 own bytes maxL nm ret T' h' cells' slots' → Ext h h' → Arr Z h' a (newA cA (newarray.typeOf aty) n) (newarray.typeOf aty) → own_Fin p e below G (T'.setTop (mkF m pc' L ((.ref a) :: st)))) : own_Fin p e below G (T.setTop (mkF m pc L ((.int n) :: st))) := by
  obtain ⟨locs, X, N, eT, hx, hZ, hown, hby, hml, hnm, hret, hlk⟩ := X
  subst hp ec es
  obtain ⟨T1, h1, cA, X1, e1, E1, A1, st1⟩ := newP X hx hZ w eT (g := mkF m pc L ((.int n) :: st)) rfl (hb hby d) rfl hn hcap hb8 hc hl
  exact own_go st1 (q T1 h1 cA _ rfl ⟨_, X1, N, e1, hx, hZ, hown, hby, hml, hnm, hret, hlk⟩ E1 A1)
theorem own_anewarray (X : own_Cx Z p l e R s m args below meth c n0 own bytes maxL nm ret T h cells slots) {C : String} {i : Nat} (w : (Jvm.Cond.classLink own i C).before a0 Z = true) (w2 : (Jvm.Cond.arrayOver (.object C)).before a0 Z = true) {n : Int32} (cap : Nat) (hn : ¬ n < 0) (hcap : n.toNatClampNeg ≤ cap) (hb8 : cap * 8 ≤ 536870912) (d : decode bytes pc = .ok (.anewarray i, 3)) (hp : pc + 3 = pc') {cells' slots' : Nat} (ec : cells + 1 = cells') (es : slots + cap = slots') (hc : cells' ≤ R.cells) (hl : slots' ≤ R.slots)
    (q : ∀ T' h' cA a, a = h.size → own_Cx Z p l e R s m args below meth c n0 own bytes maxL nm ret T' h' cells' slots' → Ext h h' → Arr Z h' a (newA cA (.object C) n) (.object C) → own_Fin p e below G (T'.setTop (mkF m pc' L ((.ref a) :: st)))) : own_Fin p e below G (T.setTop (mkF m pc L ((.int n) :: st))) := by
  obtain ⟨locs, X, N, eT, hx, hZ, hown, hby, hml, hnm, hret, hlk⟩ := X
  subst hp ec es
  obtain ⟨T1, h1, cA, X1, e1, E1, A1, -, st1⟩ := newR X hx hZ hown w w2 eT (g := mkF m pc L ((.int n) :: st)) rfl (hb hby d) rfl hn hcap hb8 hc hl
  exact own_go st1 (q T1 h1 cA _ rfl ⟨_, X1, N, e1, hx, hZ, hown, hby, hml, hnm, hret, hlk⟩ E1 A1)
theorem own_iaload (X : own_Cx Z p l e R s m args below meth c n0 own bytes maxL nm ret T h cells slots) {a : Addr} {cl : Cell} {j : Int32} {v : Value} (A : Arr Z h a cl .int) (hj : ¬ (j < 0 ∨ cl.slots.size ≤ j.toNatClampNeg)) (hv : cl.slots[j.toNatClampNeg]? = some v) (d : decode bytes pc = .ok (.iaload, 1)) (hp : pc + 1 = pc')
    (q : own_Fin p e below G (T.setTop (mkF m pc' L (v :: st)))) : own_Fin p e below G (T.setTop (mkF m pc L ((.int j) :: (.ref a) :: st))) := by
  obtain ⟨locs, X, N, eT, hx, hZ, hown, hby, hml, hnm, hret, hlk⟩ := X
  subst hp
  exact own_go (fun t k => X.iaload hx (by rw [eT]; exact A.1) (State.isArrayOf_alike hZ.alike A.2.1) A.2.2 hj hv (g := mkF m pc L ((.int j) :: (.ref a) :: st)) rfl rfl (hb hby d) t k) q
theorem own_laload (X : own_Cx Z p l e R s m args below meth c n0 own bytes maxL nm ret T h cells slots) {a : Addr} {cl : Cell} {j : Int32} {v : Value} (A : Arr Z h a cl .long) (hj : ¬ (j < 0 ∨ cl.slots.size ≤ j.toNatClampNeg)) (hv : cl.slots[j.toNatClampNeg]? = some v) (d : decode bytes pc = .ok (.laload, 1)) (hp : pc + 1 = pc')
    (q : own_Fin p e below G (T.setTop (mkF m pc' L (v :: st)))) : own_Fin p e below G (T.setTop (mkF m pc L ((.int j) :: (.ref a) :: st))) := by
  obtain ⟨locs, X, N, eT, hx, hZ, hown, hby, hml, hnm, hret, hlk⟩ := X
  subst hp
  exact own_go (fun t k => X.laload hx (by rw [eT]; exact A.1) (State.isArrayOf_alike hZ.alike A.2.1) A.2.2 hj hv (g := mkF m pc L ((.int j) :: (.ref a) :: st)) rfl rfl (hb hby d) t k) q
theorem own_baload (X : own_Cx Z p l e R s m args below meth c n0 own bytes maxL nm ret T h cells slots) {a : Addr} {cl : Cell} {j : Int32} {v : Value} (A : Arr Z h a cl .byte) (hj : ¬ (j < 0 ∨ cl.slots.size ≤ j.toNatClampNeg)) (hv : cl.slots[j.toNatClampNeg]? = some v) (d : decode bytes pc = .ok (.baload, 1)) (hp : pc + 1 = pc')
    (q : own_Fin p e below G (T.setTop (mkF m pc' L (v :: st)))) : own_Fin p e below G (T.setTop (mkF m pc L ((.int j) :: (.ref a) :: st))) := by
  obtain ⟨locs, X, N, eT, hx, hZ, hown, hby, hml, hnm, hret, hlk⟩ := X
  subst hp
  exact own_go (fun t k => X.baloadBytes hx (by rw [eT]; exact A.1) (State.isArrayOf_alike hZ.alike A.2.1) A.2.2 hj hv (g := mkF m pc L ((.int j) :: (.ref a) :: st)) rfl rfl (hb hby d) t k) q
theorem own_arraylength (X : own_Cx Z p l e R s m args below meth c n0 own bytes maxL nm ret T h cells slots) {a : Addr} {cl : Cell} {ty : FieldType} {z : Int32} (A : Arr Z h a cl ty) (hz : cl.slots.size.toInt32 = z) (d : decode bytes pc = .ok (.arraylength, 1)) (hp : pc + 1 = pc')
    (q : own_Fin p e below G (T.setTop (mkF m pc' L ((.int z) :: st)))) : own_Fin p e below G (T.setTop (mkF m pc L ((.ref a) :: st))) := by
  obtain ⟨locs, X, N, eT, hx, hZ, hown, hby, hml, hnm, hret, hlk⟩ := X
  subst hp hz
  exact own_go (fun t k => X.arraylength hx (by rw [eT]; exact A.1) (State.isArrayOf_alike hZ.alike A.2.1) (g := mkF m pc L ((.ref a) :: st)) rfl rfl (hb hby d) t k) q
theorem own_iastore (X : own_Cx Z p l e R s m args below meth c n0 own bytes maxL nm ret T h cells slots) {a : Addr} {cl : Cell} {j : Int32} {x : Int32} (A : Arr Z h a cl .int) (hj : ¬ (j < 0 ∨ cl.slots.size ≤ j.toNatClampNeg)) (hge : n0 ≤ a) (d : decode bytes pc = .ok (.iastore, 1)) (hp : pc + 1 = pc')
    (q : ∀ T' h', own_Cx Z p l e R s m args below meth c n0 own bytes maxL nm ret T' h' cells slots → Wr h h' a j.toNatClampNeg (.int x) → own_Fin p e below G (T'.setTop (mkF m pc' L (st)))) : own_Fin p e below G (T.setTop (mkF m pc L ((.int x) :: (.int j) :: (.ref a) :: st))) := by
  obtain ⟨locs, X, N, eT, hx, hZ, hown, hby, hml, hnm, hret, hlk⟩ := X
  subst hp
  obtain ⟨T1, h1, X1, e1, W1, st1⟩ := stI X hx hZ eT A hj (g := mkF m pc L ((.int x) :: (.int j) :: (.ref a) :: st)) rfl rfl (hb hby d)
  exact own_go st1 (q T1 h1 ⟨_, X1, Fr.snoc X1 N hge, e1, hx, hZ, hown, hby, hml, hnm, hret, hlk⟩ W1)
theorem own_lastore (X : own_Cx Z p l e R s m args below meth c n0 own bytes maxL nm ret T h cells slots) {a : Addr} {cl : Cell} {j : Int32} {x : Int64} (A : Arr Z h a cl .long) (hj : ¬ (j < 0 ∨ cl.slots.size ≤ j.toNatClampNeg)) (hge : n0 ≤ a) (d : decode bytes pc = .ok (.lastore, 1)) (hp : pc + 1 = pc')
    (q : ∀ T' h', own_Cx Z p l e R s m args below meth c n0 own bytes maxL nm ret T' h' cells slots → Wr h h' a j.toNatClampNeg (.long x) → own_Fin p e below G (T'.setTop (mkF m pc' L (st)))) : own_Fin p e below G (T.setTop (mkF m pc L ((.long x) :: (.int j) :: (.ref a) :: st))) := by
  obtain ⟨locs, X, N, eT, hx, hZ, hown, hby, hml, hnm, hret, hlk⟩ := X
  subst hp
  obtain ⟨T1, h1, X1, e1, W1, st1⟩ := stJ X hx hZ eT A hj (g := mkF m pc L ((.long x) :: (.int j) :: (.ref a) :: st)) rfl rfl (hb hby d)
  exact own_go st1 (q T1 h1 ⟨_, X1, Fr.snoc X1 N hge, e1, hx, hZ, hown, hby, hml, hnm, hret, hlk⟩ W1)
theorem own_initO (X : own_Cx Z p l e R s m args below meth c n0 own bytes maxL nm ret T h cells slots) {i : Nat} {a : Addr} (w1 : (Jvm.Cond.methodLink own i Lib.objectInit).before a0 Z = true) (w2 : (Jvm.Cond.instanceMethod Lib.objectInit).before a0 Z = true) (w3 : (Jvm.Cond.code Lib.objectInit ⟨#[0xb1]⟩ 1 none).before a0 Z = true) (d : decode bytes pc = .ok (.invokespecial i, 3)) (hp : pc + 3 = pc') (hsz : L.size = maxL) (hf : 1 ≤ R.frames) {W : Nat} (hW : (st.map fun v => v.category).sum = W) (hl : W + 12 ≤ R.locals)
    (q : ∀ T', own_Cx Z p l e R s m args below meth c n0 own bytes maxL nm ret T' h cells slots → own_Fin p e below G (T'.setTop (mkF m pc' L (st)))) : own_Fin p e below G (T.setTop (mkF m pc L ((.ref a) :: st))) := by
  obtain ⟨locs, X, N, eT, hx, hZ, hown, hby, hml, hnm, hret, hlk⟩ := X
  subst hp
  obtain ⟨T1, X1, e1, st1⟩ := initO X hx hZ hown w1 w2 w3 eT (g := mkF m pc L ((.ref a) :: st)) rfl (hsz.trans hml.symm) rfl (hb hby d) hf (W := W) (by show 2 * 0 + _ ≤ _; omega) hl
  exact own_go st1 (q T1 ⟨locs, X1, N, e1, hx, hZ, hown, hby, hml, hnm, hret, hlk⟩)
theorem own_callS (X : own_Cx Z p l e R s m args below meth c n0 own bytes maxL nm ret T h cells slots) {y : MethodName} {yb : ByteArray} {ymax : Nat} {yr : Option FieldType} {i : Nat} (w1 : (Jvm.Cond.methodLink own i y).before a0 Z = true) (w2 : (Jvm.Cond.static y).before a0 Z = true) (w3 : (Jvm.Cond.initialized y.cls).before a0 Z = true) (w4 : (Jvm.Cond.code y yb ymax yr).before a0 Z = true) (hy : y.cls ≠ "java/lang/invoke/MethodHandle" ∧ y.cls ≠ "java/lang/invoke/VarHandle")
    {rm : Room} {argsL rest : List Value} {q : Option Value → Heap → Prop} (hM : own_Met l Z y yb ymax yr [] rm argsL.toArray h n0 q) {ps : List FieldType} {r : Option FieldType} (pd : parseMethodDescriptor y.desc = some ⟨ps, r⟩) (hlen : argsL.length = ps.length) (d : decode bytes pc = .ok (.invokestatic i, 3)) (hp : pc + 3 = pc') (hsz : L.size = maxL) (hst : st = argsL.reverse ++ rest) {W : Nat} (hW : (rest.map fun v => v.category).sum = W) (hfr : rm.frames + 1 ≤ R.frames) (hlo : W + (ymax + 11) + rm.locals ≤ R.locals) {cells' slots' : Nat} (ec : cells + rm.cells = cells') (es : slots + rm.slots = slots') (hc : cells' ≤ R.cells) (hs : slots' ≤ R.slots)
    (k : ∀ v T' h', own_Cx Z p l e R s m args below meth c n0 own bytes maxL nm ret T' h' cells' slots' → q v h' → own_Fin p e below G (T'.setTop (mkF m pc' L (v.toList ++ rest)))) : own_Fin p e below G (T.setTop (mkF m pc L st)) := by
  obtain ⟨locs, X, N, eT, hx, hZ, hown, hby, hml, hnm, hret, hlk⟩ := X
  subst hp ec es
  obtain ⟨v, _, ⟨T1, L1, k1, n1⟩, -, X1, ⟨Lc, hQ, l1, y1, z1⟩, st1⟩ := Jvm.LawKit.callS X hx (y := y) hown (mvT hZ w1) (mvT hZ w2) (mvT hZ w3) (mvT hZ w4) hy (backOf (W := W) (Q := fun v h L => q v h ∧ Fr n0 L) hM hZ w4 w3 hfr hlo) (g := mkF m pc L st) rfl (hsz.trans hml.symm) (argsL := argsL) (rest := rest) (lenOf pd hlen) hst (by show 2 * 0 + _ ≤ _; omega) (hb hby d) (fun _ _ => ⟨rfl, eT, hc, hs⟩)
  dsimp only [Pt.U, Pt.locs, Pt.cells, Pt.slots] at X1 l1 y1 z1 st1 hQ
  subst l1 y1 z1
  exact own_go st1 (k v T1 _ ⟨_, X1, Fr.app N hQ.2, rfl, hx, hZ, hown, hby, hml, hnm, hret, hlk⟩ hQ.1)
theorem own_callI (X : own_Cx Z p l e R s m args below meth c n0 own bytes maxL nm ret T h cells slots) {y : MethodName} {yb : ByteArray} {ymax : Nat} {i : Nat} (hi : y.name = "<init>") (w1 : (Jvm.Cond.methodLink own i y).before a0 Z = true) (w2 : (Jvm.Cond.instanceMethod y).before a0 Z = true) (w3 : (Jvm.Cond.initialized y.cls).before a0 Z = true) (w4 : (Jvm.Cond.code y yb ymax none).before a0 Z = true) (hy : y.cls ≠ "java/lang/invoke/MethodHandle" ∧ y.cls ≠ "java/lang/invoke/VarHandle")
    {rm : Room} {a : Addr} {argsL rest : List Value} {q : Option Value → Heap → Prop} (hM : own_Met l Z y yb ymax none [] rm (Value.ref a :: argsL).toArray h n0 q) {ps : List FieldType} {r : Option FieldType} (pd : parseMethodDescriptor y.desc = some ⟨ps, r⟩) (hlen : argsL.length = ps.length) (d : decode bytes pc = .ok (.invokespecial i, 3)) (hp : pc + 3 = pc') (hsz : L.size = maxL) (hst : st = argsL.reverse ++ .ref a :: rest) {W : Nat} (hW : (rest.map fun v => v.category).sum = W) (hfr : rm.frames + 1 ≤ R.frames) (hlo : W + (ymax + 11) + rm.locals ≤ R.locals) {cells' slots' : Nat} (ec : cells + rm.cells = cells') (es : slots + rm.slots = slots') (hc : cells' ≤ R.cells) (hs : slots' ≤ R.slots)
    (k : ∀ v T' h', own_Cx Z p l e R s m args below meth c n0 own bytes maxL nm ret T' h' cells' slots' → q v h' → own_Fin p e below G (T'.setTop (mkF m pc' L (v.toList ++ rest)))) : own_Fin p e below G (T.setTop (mkF m pc L st)) := by
  obtain ⟨locs, X, N, eT, hx, hZ, hown, hby, hml, hnm, hret, hlk⟩ := X
  subst hp ec es
  obtain ⟨v, _, ⟨T1, L1, k1, n1⟩, -, X1, ⟨Lc, hQ, l1, y1, z1⟩, st1⟩ := X.specialBack hx (y := y) hi hown (mvT hZ w1) (mvT hZ w2) (mvT hZ w4) hy (backOf (W := W) (Q := fun v h L => q v h ∧ Fr n0 L) hM hZ w4 w3 hfr hlo) (g := mkF m pc L st) rfl (hsz.trans hml.symm) (Steps.refl _) (a := a) (argsL := argsL) (rest := rest) (lenOf pd hlen) hst (by show 2 * 0 + _ ≤ _; omega) (hb hby d) (fun _ _ => ⟨rfl, eT, hc, hs⟩)
  dsimp only [Pt.U, Pt.locs, Pt.cells, Pt.slots] at X1 l1 y1 z1 st1 hQ
  subst l1 y1 z1
  exact own_go (fun t k => st1.trans k) (k v T1 _ ⟨_, X1, Fr.app N hQ.2, rfl, hx, hZ, hown, hby, hml, hnm, hret, hlk⟩ hQ.1)
theorem own_callV (X : own_Cx Z p l e R s m args below meth c n0 own bytes maxL nm ret T h cells slots) {y : MethodName} {yb : ByteArray} {ymax : Nat} {yr : Option FieldType} {i : Nat} {C : String} (w1 : (Jvm.Cond.methodLink own i y).before a0 Z = true) (w2 : (Jvm.Cond.declares y).before a0 Z = true) (w5 : (Jvm.Cond.selects C y y).before a0 Z = true) (w6 : (Jvm.Cond.instanceMethod y).before a0 Z = true) (w3 : (Jvm.Cond.initialized y.cls).before a0 Z = true) (w4 : (Jvm.Cond.code y yb ymax yr).before a0 Z = true) (hy : y.cls ≠ "java/lang/invoke/MethodHandle" ∧ y.cls ≠ "java/lang/invoke/VarHandle")
    {rm : Room} {a : Addr} {argsL rest : List Value} {q : Option Value → Heap → Prop} (hM : own_Met l Z y yb ymax yr [] rm (Value.ref a :: argsL).toArray h n0 q) (E : Exa Z h a C) {ps : List FieldType} {r : Option FieldType} (pd : parseMethodDescriptor y.desc = some ⟨ps, r⟩) (hlen : argsL.length = ps.length) (d : decode bytes pc = .ok (.invokevirtual i, 3)) (hp : pc + 3 = pc') (hsz : L.size = maxL) (hst : st = argsL.reverse ++ .ref a :: rest) {W : Nat} (hW : (rest.map fun v => v.category).sum = W) (hfr : rm.frames + 1 ≤ R.frames) (hlo : W + (ymax + 11) + rm.locals ≤ R.locals) {cells' slots' : Nat} (ec : cells + rm.cells = cells') (es : slots + rm.slots = slots') (hc : cells' ≤ R.cells) (hs : slots' ≤ R.slots)
    (k : ∀ v T' h', own_Cx Z p l e R s m args below meth c n0 own bytes maxL nm ret T' h' cells' slots' → q v h' → own_Fin p e below G (T'.setTop (mkF m pc' L (v.toList ++ rest)))) : own_Fin p e below G (T.setTop (mkF m pc L st)) := by
  obtain ⟨locs, X, N, eT, hx, hZ, hown, hby, hml, hnm, hret, hlk⟩ := X
  subst hp ec es
  obtain ⟨cq, kq, qa, qb, qc⟩ := isOf (T := T) hZ eT E
  obtain ⟨v, _, ⟨T1, L1, k1, n1⟩, -, X1, ⟨Lc, hQ, l1, y1, z1⟩, st1⟩ := X.virtualBack hx (y := y) (z := y) hown (mvT hZ w1) (mvT hZ w2) (notFace_of_selects (args := #[]) (mvT hZ w5)) (mvT hZ w5) (mvT hZ w6) hy (backOf (W := W) (Q := fun v h L => q v h ∧ Fr n0 L) hM hZ w4 w3 hfr hlo) qa qc (g := mkF m pc L st) rfl (hsz.trans hml.symm) (Steps.refl _) (argsL := argsL) (rest := rest) (lenOf pd hlen) hst (by show 2 * 0 + _ ≤ _; omega) (hb hby d) (fun _ _ => ⟨rfl, eT, hc, hs⟩)
  dsimp only [Pt.U, Pt.locs, Pt.cells, Pt.slots] at X1 l1 y1 z1 st1 hQ
  subst l1 y1 z1
  exact own_go (fun t k => st1.trans k) (k v T1 _ ⟨_, X1, Fr.app N hQ.2, rfl, hx, hZ, hown, hby, hml, hnm, hret, hlk⟩ hQ.1)
end OwnKit
theorem pd_1 : parseMethodDescriptor "()V" = some ⟨[], none⟩ := by decide +kernel
theorem pd_3 : parseMethodDescriptor "()V" = some ⟨[], none⟩ := by decide +kernel
theorem pd_4 : parseMethodDescriptor "(ILcom/example/racewright/racewright/happensbefore/VectorClock;Z)V" = some ⟨[.int, (.object "com/example/racewright/racewright/happensbefore/VectorClock"), .boolean], none⟩ := by decide +kernel
theorem pd_5 : parseMethodDescriptor "()V" = some ⟨[], none⟩ := by decide +kernel
theorem pd_6 : parseMethodDescriptor "()V" = some ⟨[], none⟩ := by decide +kernel
theorem pd_7 : parseMethodDescriptor "()V" = some ⟨[], none⟩ := by decide +kernel
theorem pd_8 : parseMethodDescriptor "()V" = some ⟨[], none⟩ := by decide +kernel
theorem pd_9 : parseMethodDescriptor "()V" = some ⟨[], none⟩ := by decide +kernel
theorem pd_10 : parseMethodDescriptor "(II)V" = some ⟨[.int, .int], none⟩ := by decide +kernel
theorem pd_11 : parseMethodDescriptor "([III)[I" = some ⟨[(.array .int), .int, .int], some (.array .int)⟩ := by decide +kernel
theorem pd_13 : parseMethodDescriptor "([II)[I" = some ⟨[(.array .int), .int], some (.array .int)⟩ := by decide +kernel
theorem pd_15 : parseMethodDescriptor "(IZ)Z" = some ⟨[.int, .boolean], some .boolean⟩ := by decide +kernel
theorem pd_16 : parseMethodDescriptor "(Lcom/example/racewright/racewright/happensbefore/ThreadState;Ljava/lang/String;Lcom/example/racewright/racewright/report/SourceLine;I)V" = some ⟨[(.object "com/example/racewright/racewright/happensbefore/ThreadState"), (.object "java/lang/String"), (.object "com/example/racewright/racewright/report/SourceLine"), .int], none⟩ := by decide +kernel
theorem pd_17 : parseMethodDescriptor "()I" = some ⟨[], some .int⟩ := by decide +kernel
theorem pd_18 : parseMethodDescriptor "(I)I" = some ⟨[.int], some .int⟩ := by decide +kernel
theorem pd_19 : parseMethodDescriptor "(IILjava/lang/String;Lcom/example/racewright/racewright/report/SourceLine;ILjava/lang/Object;)V" = some ⟨[.int, .int, (.object "java/lang/String"), (.object "com/example/racewright/racewright/report/SourceLine"), .int, (.object "java/lang/Object")], none⟩ := by decide +kernel
theorem pd_20 : parseMethodDescriptor "()V" = some ⟨[], none⟩ := by decide +kernel
theorem pd_21 : parseMethodDescriptor "(Lcom/example/racewright/racewright/happensbefore/ThreadState;)V" = some ⟨[(.object "com/example/racewright/racewright/happensbefore/ThreadState")], none⟩ := by decide +kernel

section OwnIA
variable {Z : State} {p : Program} {l : Launch} {e : Env} {R : Room} {s : State} {m : MethodId} {args : Array Value} {below : List Frame} {meth : Method} {c : Code} {n0 : Nat} {own : String} {bytes : ByteArray} {maxL : Nat} {nm : String} {ret : Option FieldType} {T : State} {h h' : Heap} {cells slots : Nat} {G : Outcome → State → Prop} {L : Array Slot} {st : List Value} {pc pc' : Nat} {a0 : Array Value} {a b : Addr} {n n2 : Nat} {sl : Nat} {v : Value} {ws : List Addr}
theorem own_i32 {n : Nat} (h : n < 2 ^ 31) : n.toInt32.toInt = n := len_toInt h
theorem own_nat {n : Nat} (h : n < 2 ^ 31) : n.toInt32.toNatClampNeg = n := by simp only [Int32.toNatClampNeg, own_i32 h]; omega
theorem own_nneg {n : Nat} (h : n < 2 ^ 31) : ¬ n.toInt32 < 0 := by rw [Int32.lt_iff_toInt_lt, own_i32 h]; show ¬ (n : Int) < 0; omega
def own_IA (Z : State) (h : Heap) (a : Addr) (n : Nat) : Prop := n < 2 ^ 31 ∧ ∃ (k : ClassId) (vs : List Value), vs.length = n ∧ Arv Z h a k .int n.toInt32 vs (.int 0)
theorem own_IA.lt (F : own_IA Z h a n) : a < h.size := by obtain ⟨_, _, _, _, V⟩ := F; exact V.lt
theorem own_IA.ext (F : own_IA Z h a n) (E : Ext h h') : own_IA Z h' a n := by obtain ⟨q, k, vs, hl, V⟩ := F; exact ⟨q, k, vs, hl, V.ext E⟩
theorem own_IA.other (F : own_IA Z h a n) (W : Wr h h' b sl v) (q : a ≠ b) : own_IA Z h' a n := by obtain ⟨q0, k, vs, hl, V⟩ := F; exact ⟨q0, k, vs, hl, V.other W q⟩
theorem own_IA.keep (F : own_IA Z h a n) (K : Keep h h' ws) (q : a ∉ ws) : own_IA Z h' a n := by obtain ⟨q0, k, vs, hl, V⟩ := F; exact ⟨q0, k, vs, hl, V.keep K q⟩
theorem own_IA_new {cA : ClassId} {z : Int32} (A : Arr Z h a (newA cA .int z) .int) (hz : z = n.toInt32) (hn : n < 2 ^ 31) : own_IA Z h a n := by
  subst hz
  refine ⟨hn, cA, [] ++ List.replicate n (.int 0), by simp, ?_⟩
  exact (Arv.new A (own_nneg hn)).pad (pad_rep _ _ _)
theorem own_alenI (X : own_Cx Z p l e R s m args below meth c n0 own bytes maxL nm ret T h cells slots) (A : own_IA Z h a n) (d : decode bytes pc = .ok (.arraylength, 1)) (hp : pc + 1 = pc')
    (q : own_Fin p e below G (T.setTop (mkF m pc' L ((.int n.toInt32) :: st)))) : own_Fin p e below G (T.setTop (mkF m pc L ((.ref a) :: st))) := by
  obtain ⟨q0, k, vs, hl, cl, A, -, S, M, -⟩ := A
  exact own_arraylength X A (len_of S M) d hp q
theorem own_iastoreI (X : own_Cx Z p l e R s m args below meth c n0 own bytes maxL nm ret T h cells slots) {x : Int32} {j : Nat} (A : own_IA Z h a n) (hj : j < n) (hge : n0 ≤ a) (d : decode bytes pc = .ok (.iastore, 1)) (hp : pc + 1 = pc')
    (q : ∀ T' h', own_Cx Z p l e R s m args below meth c n0 own bytes maxL nm ret T' h' cells slots → Wr h h' a j (.int x) → own_IA Z h' a n → own_Fin p e below G (T'.setTop (mkF m pc' L st))) : own_Fin p e below G (T.setTop (mkF m pc L ((.int x) :: (.int j.toInt32) :: (.ref a) :: st))) := by
  obtain ⟨q0, k, vs, hl, cl, A, kk, S, M, H, G0⟩ := A
  have ej : j.toInt32.toNatClampNeg = j := own_nat (by omega)
  have hin : ¬ (j.toInt32 < 0 ∨ cl.slots.size ≤ j.toInt32.toNatClampNeg) := by
    rw [ej, S, own_nat q0]
    exact fun z => z.elim (own_nneg (by omega)) (by omega)
  refine own_iastore X A hin hge d hp (fun T' h' X' W => ?_)
  have V := Arv.set A kk S M H G0 (v := .int x) rfl W j ej (by omega)
  rw [ej] at W
  exact q T' h' X' W ⟨q0, k, _, by simp [hl], V⟩
theorem own_ialoadI (X : own_Cx Z p l e R s m args below meth c n0 own bytes maxL nm ret T h cells slots) {j : Nat} (A : own_IA Z h a n) (hj : j < n) (d : decode bytes pc = .ok (.iaload, 1)) (hp : pc + 1 = pc')
    (q : ∀ y : Int32, own_Fin p e below G (T.setTop (mkF m pc' L ((.int y) :: st)))) : own_Fin p e below G (T.setTop (mkF m pc L ((.int j.toInt32) :: (.ref a) :: st))) := by
  obtain ⟨q0, k, vs, hl, cl, A, kk, S, M, H, G0⟩ := A
  have ej : j.toInt32.toNatClampNeg = j := own_nat (by omega)
  have hs : cl.slots.size = n := by rw [S, own_nat q0]
  obtain ⟨y, hy⟩ := fit_I (G0 j (by omega)) (Or.inl rfl)
  refine own_iaload X A (v := .int y) ?_ ?_ d hp (q y)
  · rw [ej, hs]; exact fun z => z.elim (own_nneg (by omega)) (by omega)
  · rw [ej, H j (by omega), hy]
theorem own_cpI (X : own_Cx Z p l e R s m args below meth c n0 own bytes maxL nm ret T h cells slots) {i k : Nat} (w1 : (Jvm.Cond.methodLink own i Jvm.Stand.acN).before a0 Z = true) (w2 : (Jvm.Cond.native Jvm.Stand.acN).before a0 Z = true) (w3 : (Jvm.Cond.static Jvm.Stand.acN).before a0 Z = true) (w4 : (Jvm.Cond.initialized "java/lang/System").before a0 Z = true)
    (A : own_IA Z h a n) (B : own_IA Z h b n2) (h1 : k ≤ n) (h2 : k ≤ n2) (hge : n0 ≤ b) (d : decode bytes pc = .ok (.invokestatic i, 3)) (hp : pc + 3 = pc') (hsz : L.size = maxL) (hf : 1 ≤ R.frames) {W : Nat} (hW : (st.map fun v => v.category).sum = W) (hlo : W + (nativeFrameWords "java/lang/System" "arraycopy" 5 + 11) ≤ R.locals)
    (q : ∀ T' h', own_Cx Z p l e R s m args below meth c n0 own bytes maxL nm ret T' h' cells slots → Keep h h' [b] → own_IA Z h' b n2 → own_Fin p e below G (T'.setTop (mkF m pc' L st))) : own_Fin p e below G (T.setTop (mkF m pc L ((.int k.toInt32) :: (.int 0) :: (.ref b) :: (.int 0) :: (.ref a) :: st))) := by
  obtain ⟨q0, ka, vs, hl, V⟩ := A
  obtain ⟨q2, kb, vd, hd2, V2⟩ := B
  obtain ⟨locs, X, N, eT, hx, hZ, hown, hby, hml, hnm, hret, hlk⟩ := X
  subst hp
  have ek : k.toInt32.toNatClampNeg = k := own_nat (by omega)
  obtain ⟨T1, h1', L1, X1, e1, N1, K1, V1, st1⟩ := cpA X hx hZ hown w1 w2 w3 w4 eT (sp := 0) (dp := 0) (nn := k.toInt32) V V2 (Or.inl ⟨rfl, rfl⟩) (by decide) (by decide) (own_nneg (by omega)) (by rw [ek, own_nat q0]; show 0 + k ≤ n; omega) (by rw [ek, own_nat q2]; show 0 + k ≤ n2; omega) rfl (by rw [ek, hd2]; show 0 + k ≤ n2; omega) N hge (g := mkF m pc L ((.int k.toInt32) :: (.int 0) :: (.ref b) :: (.int 0) :: (.ref a) :: st)) rfl (hsz.trans hml.symm) rfl (hb hby d) hf (W := W) (by show 2 * 0 + _ ≤ _; omega) hlo
  refine own_go st1 (q T1 h1' ⟨_, X1, N1, e1, hx, hZ, hown, hby, hml, hnm, hret, hlk⟩ K1 ⟨q2, kb, _, ?_, V1⟩)
  have z0 : (0 : Int32).toNatClampNeg = 0 := rfl
  simp only [z0, ek]
  simp
  omega
end OwnIA
theorem d12_0 : decode jdk_29_method_65_code 0 = .ok (.iload_n 0, 1) := by decide +kernel
theorem d12_1 : decode jdk_29_method_65_code 1 = .ok (.iload_n 1, 1) := by decide +kernel
theorem d12_2 : decode jdk_29_method_65_code 2 = .ok (.if_icmp .lt 7, 3) := by decide +kernel
theorem d12_5 : decode jdk_29_method_65_code 5 = .ok (.iload_n 0, 1) := by decide +kernel
theorem d12_6 : decode jdk_29_method_65_code 6 = .ok (.goto 4, 3) := by decide +kernel
theorem d12_9 : decode jdk_29_method_65_code 9 = .ok (.iload_n 1, 1) := by decide +kernel
theorem d12_10 : decode jdk_29_method_65_code 10 = .ok (.ireturn, 1) := by decide +kernel
theorem own_pnmx : plainFor (⟨"java/lang/Math", "max", "(II)I"⟩ : MethodName) = true := by first | exact plainFor_of_name (by first | (simp [plainName, overriddenIn, x]; done) | decide +kernel) | decide +kernel
theorem own_efmx (p1 : Int32) (p2 : Int32) (m : MethodId) : entryFrame m #[(.int p1), (.int p2)] 2 = mkF m 0 #[.val (.int p1), .val (.int p2)] [] := by
  first | (simp [entryFrame, mkF, argsToLocals, Value.category]; done) | rfl
theorem own_pdmx : parseMethodDescriptor "(II)I" = some ⟨[.int, .int], some .int⟩ := by decide +kernel
def own_fmx (p1 : Int32) (p2 : Int32) : Int32 := (if p1 < p2 then p2 else p1)
set_option maxRecDepth 65536 in
set_option maxHeartbeats 40000000 in
theorem own_mmx (l : Launch) (Z : State) (a0 : Array Value) (hw : ∀ d ∈ tables_1, d.before a0 Z = true) (ws : List Jvm.Cond) (p1 : Int32) (p2 : Int32) (h0 : Heap) (n0 : Nat) :
    own_Met l Z (⟨"java/lang/Math", "max", "(II)I"⟩ : MethodName) jdk_29_method_65_code 2 (some .int) ws ({ frames := 0, cells := 0, slots := 0, locals := 0 } : Room) #[(.int p1), (.int p2)] h0 n0 (fun v h => v = some (.int (own_fmx p1 p2)) ∧ h0 = h) := by
  refine own_enter (own := "java/lang/Math") (nm := "max") rfl rfl own_pnmx (own_efmx p1 p2) ?_
  intro p e s m below meth c T0 X0
  refine own_iloadN X0 d12_0 rfl rfl ?_
  refine own_iloadN X0 d12_1 rfl rfl ?_
  refine own_icmp_lt X0 d12_2 (by decide) (pcT := 9) (by decide) rfl (fun hc1 => ?_) (fun hc1 => ?_)
  · skip
    refine own_iloadN X0 d12_9 rfl rfl ?_
    exact own_retI X0 rfl d12_10 ⟨by rw [own_fmx, if_pos hc1], rfl⟩ (Nat.le_refl _) (Nat.le_refl _)
  · skip
    refine own_iloadN X0 d12_5 rfl rfl ?_
    refine own_goto X0 d12_6 (by decide) (pc' := 10) (by decide) ?_
    exact own_retI X0 rfl d12_10 ⟨by rw [own_fmx, if_neg hc1], rfl⟩ (Nat.le_refl _) (Nat.le_refl _)
theorem d14_0 : decode jdk_29_method_69_code 0 = .ok (.iload_n 0, 1) := by decide +kernel
theorem d14_1 : decode jdk_29_method_69_code 1 = .ok (.iload_n 1, 1) := by decide +kernel
theorem d14_2 : decode jdk_29_method_69_code 2 = .ok (.if_icmp .gt 7, 3) := by decide +kernel
theorem d14_5 : decode jdk_29_method_69_code 5 = .ok (.iload_n 0, 1) := by decide +kernel
theorem d14_6 : decode jdk_29_method_69_code 6 = .ok (.goto 4, 3) := by decide +kernel
theorem d14_9 : decode jdk_29_method_69_code 9 = .ok (.iload_n 1, 1) := by decide +kernel
theorem d14_10 : decode jdk_29_method_69_code 10 = .ok (.ireturn, 1) := by decide +kernel
theorem own_pnmn : plainFor (⟨"java/lang/Math", "min", "(II)I"⟩ : MethodName) = true := by first | exact plainFor_of_name (by first | (simp [plainName, overriddenIn, x]; done) | decide +kernel) | decide +kernel
theorem own_efmn (p1 : Int32) (p2 : Int32) (m : MethodId) : entryFrame m #[(.int p1), (.int p2)] 2 = mkF m 0 #[.val (.int p1), .val (.int p2)] [] := by
  first | (simp [entryFrame, mkF, argsToLocals, Value.category]; done) | rfl
theorem own_pdmn : parseMethodDescriptor "(II)I" = some ⟨[.int, .int], some .int⟩ := by decide +kernel
def own_fmn (p1 : Int32) (p2 : Int32) : Int32 := (if p2 < p1 then p2 else p1)
set_option maxRecDepth 65536 in
set_option maxHeartbeats 40000000 in
theorem own_mmn (l : Launch) (Z : State) (a0 : Array Value) (hw : ∀ d ∈ tables_1, d.before a0 Z = true) (ws : List Jvm.Cond) (p1 : Int32) (p2 : Int32) (h0 : Heap) (n0 : Nat) :
    own_Met l Z (⟨"java/lang/Math", "min", "(II)I"⟩ : MethodName) jdk_29_method_69_code 2 (some .int) ws ({ frames := 0, cells := 0, slots := 0, locals := 0 } : Room) #[(.int p1), (.int p2)] h0 n0 (fun v h => v = some (.int (own_fmn p1 p2)) ∧ h0 = h) := by
  refine own_enter (own := "java/lang/Math") (nm := "min") rfl rfl own_pnmn (own_efmn p1 p2) ?_
  intro p e s m below meth c T0 X0
  refine own_iloadN X0 d14_0 rfl rfl ?_
  refine own_iloadN X0 d14_1 rfl rfl ?_
  refine own_icmp_gt X0 d14_2 (by decide) (pcT := 9) (by decide) rfl (fun hc1 => ?_) (fun hc1 => ?_)
  · skip
    refine own_iloadN X0 d14_9 rfl rfl ?_
    exact own_retI X0 rfl d14_10 ⟨by rw [own_fmn, if_pos hc1], rfl⟩ (Nat.le_refl _) (Nat.le_refl _)
  · skip
    refine own_iloadN X0 d14_5 rfl rfl ?_
    refine own_goto X0 d14_6 (by decide) (pc' := 10) (by decide) ?_
    exact own_retI X0 rfl d14_10 ⟨by rw [own_fmn, if_neg hc1], rfl⟩ (Nat.le_refl _) (Nat.le_refl _)

def own_len (i n : Nat) : Nat := if i < n then n else max (i + 1) (2 * n)
theorem own_len_hi (i n : Nat) : i < own_len i n := by unfold own_len; split <;> omega
theorem own_len_8 {i n : Nat} (h1 : i < 8) (h2 : n ≤ i → 2 * n ≤ 8) (h3 : n ≤ 8) : own_len i n ≤ 8 := by unfold own_len; split <;> omega
theorem own_len_6 {i n : Nat} (h1 : i ≤ 3) (h2 : n ≤ 6) : own_len i n ≤ 6 := by unfold own_len; split <;> omega
theorem own_lt32 {i n : Nat} (hi : i < 2 ^ 31) (hn : n < 2 ^ 31) : i.toInt32 < n.toInt32 ↔ i < n := by rw [Int32.lt_iff_toInt_lt, own_i32 hi, own_i32 hn]; omega
theorem own_mxN {i n : Nat} (h1 : i < 8) (h2 : ¬ i < n) : own_fmx (i.toInt32 + (1 : Int32)) (n.toInt32 * (2 : Int32)) = (own_len i n).toInt32 := by
  have e1 : (i.toInt32 + (1 : Int32)).toInt = (i + 1 : Nat) := by
    have h := own_i32 (n := i) (by omega)
    rw [XT.add32, h]
    · rfl
    · rw [h]; exact ⟨by show _ ≤ (i : Int) + 1; omega, by show (i : Int) + 1 < _; omega⟩
  have e2 : (n.toInt32 * (2 : Int32)).toInt = (2 * n : Nat) := by
    have h := own_i32 (n := n) (by omega)
    rw [XT.mul32, h]
    · show (n : Int) * 2 = _; omega
    · rw [h]; exact ⟨by show _ ≤ (n : Int) * 2; omega, by show (n : Int) * 2 < _; omega⟩
  have e3 : (own_len i n).toInt32.toInt = (own_len i n : Nat) := own_i32 (by unfold own_len; split <;> omega)
  rw [← Int32.toInt_inj, e3]
  unfold own_fmx own_len
  rw [if_neg h2]
  by_cases q : (i.toInt32 + (1 : Int32)) < (n.toInt32 * (2 : Int32))
  · rw [if_pos q, e2]; rw [Int32.lt_iff_toInt_lt, e1, e2] at q; omega
  · rw [if_neg q, e1]; rw [Int32.lt_iff_toInt_lt, e1, e2] at q; omega
theorem own_mnN {n N : Nat} (h1 : n < N) (h2 : N ≤ 8) : own_fmn n.toInt32 N.toInt32 = n.toInt32 := by
  unfold own_fmn
  rw [if_neg (fun z => by rw [own_lt32 (by omega) (by omega)] at z; omega)]
theorem d13_0 : decode jdk_65_method_123_code 0 = .ok (.iload_n 1, 1) := by decide +kernel
theorem d13_1 : decode jdk_65_method_123_code 1 = .ok (.aload_n 0, 1) := by decide +kernel
theorem d13_2 : decode jdk_65_method_123_code 2 = .ok (.arraylength, 1) := by decide +kernel
theorem d13_3 : decode jdk_65_method_123_code 3 = .ok (.if_icmp .ne 11, 3) := by decide +kernel
theorem d13_14 : decode jdk_65_method_123_code 14 = .ok (.iload_n 1, 1) := by decide +kernel
theorem d13_15 : decode jdk_65_method_123_code 15 = .ok (.newarray .int, 2) := by decide +kernel
theorem d13_17 : decode jdk_65_method_123_code 17 = .ok (.astore_n 2, 1) := by decide +kernel
theorem d13_18 : decode jdk_65_method_123_code 18 = .ok (.aload_n 0, 1) := by decide +kernel
theorem d13_19 : decode jdk_65_method_123_code 19 = .ok (.iconst 0, 1) := by decide +kernel
theorem d13_20 : decode jdk_65_method_123_code 20 = .ok (.aload_n 2, 1) := by decide +kernel
theorem d13_21 : decode jdk_65_method_123_code 21 = .ok (.iconst 0, 1) := by decide +kernel
theorem d13_22 : decode jdk_65_method_123_code 22 = .ok (.aload_n 0, 1) := by decide +kernel
theorem d13_23 : decode jdk_65_method_123_code 23 = .ok (.arraylength, 1) := by decide +kernel
theorem d13_24 : decode jdk_65_method_123_code 24 = .ok (.iload_n 1, 1) := by decide +kernel
theorem d13_25 : decode jdk_65_method_123_code 25 = .ok (.invokestatic 304, 3) := by decide +kernel
theorem d13_28 : decode jdk_65_method_123_code 28 = .ok (.invokestatic 150, 3) := by decide +kernel
theorem d13_31 : decode jdk_65_method_123_code 31 = .ok (.aload_n 2, 1) := by decide +kernel
theorem d13_32 : decode jdk_65_method_123_code 32 = .ok (.areturn, 1) := by decide +kernel
theorem own_pncp : plainFor (⟨"java/util/Arrays", "copyOf", "([II)[I"⟩ : MethodName) = true := by first | exact plainFor_of_name (by first | (simp [plainName, overriddenIn, x]; done) | decide +kernel) | decide +kernel
theorem own_efcp (t_ : Addr) (z_ : Int32) (m : MethodId) : entryFrame m #[(.ref t_), (.int z_)] 3 = mkF m 0 #[.val (.ref t_), .val (.int z_), .unset] [] := by
  first | (simp [entryFrame, mkF, argsToLocals, Value.category]; done) | rfl
def own_qcp (t_ : Addr) (z_ : Int32) (n : Nat) (N : Nat) (Z : State) (h0 : Heap) (v : Option Value) (h : Heap) : Prop := ∃ (r_ : Addr), v = some (.ref r_) ∧ Keep h0 h [] ∧ own_IA Z h r_ N ∧ h0.size ≤ r_
set_option maxRecDepth 65536 in
set_option maxHeartbeats 40000000 in
theorem own_mcp (l : Launch) (Z : State) (a0 : Array Value) (hw : ∀ d ∈ tables_1, d.before a0 Z = true) (ws : List Jvm.Cond) (t_ : Addr) (z_ : Int32) (n : Nat) (N : Nat) (h0 : Heap) (n0 : Nat) (Z0 : n0 ≤ h0.size) (F1 : own_IA Z h0 t_ n) (hz : z_ = N.toInt32) (hnN : n < N) (hN : N ≤ 8) :
    own_Met l Z (⟨"java/util/Arrays", "copyOf", "([II)[I"⟩ : MethodName) jdk_65_method_123_code 3 (some (.array .int)) ws ({ frames := 1, cells := 1, slots := 8, locals := 24 } : Room) #[(.ref t_), (.int z_)] h0 n0 (own_qcp t_ z_ n N Z h0) := by
  refine own_enter (own := "java/util/Arrays") (nm := "copyOf") rfl rfl own_pncp (own_efcp t_ z_) ?_
  intro p e s m below meth c T0 X0
  have K2 := (Keep.refl h0 [])
  subst hz
  refine own_iloadN X0 d13_0 rfl rfl ?_
  refine own_aloadN X0 d13_1 rfl rfl rfl ?_
  refine own_alenI X0 F1 d13_2 rfl ?_
  refine own_icmp_ne X0 d13_3 (by decide) (pcT := 14) (by decide) rfl (fun hc => ?_) (fun hc => absurd hc (fun z => absurd (congrArg Int32.toInt z) (by rw [own_i32 (by omega), own_i32 (by omega)]; omega)))
  refine own_iloadN X0 d13_14 rfl rfl ?_
  refine own_newarray X0 (hw _ (List.mem_of_getElem? (i := 21) rfl)) (n := N.toInt32) 8 (own_nneg (by omega)) (by rw [own_nat (by omega)]; exact hN) (by decide) d13_15 rfl (cells' := 1) (slots' := 8) rfl rfl (by decide) (by decide) (fun T3 h5 cA10 a8 g9 X4 E6 A7 => ?_)
  have ge_a8 : n0 ≤ a8 := Nat.le_trans Z0 (Nat.le_of_eq g9.symm)
  have ne_t__a8 : t_ ≠ a8 := Nat.ne_of_lt (g9 ▸ F1.lt)
  have fr_a8 : h0.size ≤ a8 := Nat.le_trans K2.1 (Nat.le_of_eq g9.symm)
  have F11 := own_IA_new (n := N) A7 rfl (by omega)
  have F12 := (F1.ext E6)
  have Z13 : n0 ≤ h5.size := (Nat.le_trans Z0 E6.1)
  have K14 := (K2.ext E6)
  refine own_astoreN X4 (L' := #[.val (.ref t_), .val (.int N.toInt32), .val (.ref a8)]) d13_17 rfl rfl rfl ?_
  refine own_aloadN X4 d13_18 rfl rfl rfl ?_
  refine own_iconst X4 (0 : Int32) d13_19 rfl (by decide) ?_
  refine own_aloadN X4 d13_20 rfl rfl rfl ?_
  refine own_iconst X4 (0 : Int32) d13_21 rfl (by decide) ?_
  refine own_aloadN X4 d13_22 rfl rfl rfl ?_
  refine own_alenI X4 F12 d13_23 rfl ?_
  refine own_iloadN X4 d13_24 rfl rfl ?_
  refine own_callS X4 (hw _ (List.mem_of_getElem? (i := 90) rfl)) (hw _ (List.mem_of_getElem? (i := 91) rfl)) (hw _ (List.mem_of_getElem? (i := 84) rfl)) (hw _ (List.mem_of_getElem? (i := 92) rfl)) (by decide) (argsL := [(.int n.toInt32), (.int N.toInt32)]) (rest := [(.int (0 : Int32)), (.ref a8), (.int (0 : Int32)), (.ref t_)]) (own_mmn l Z a0 hw [] n.toInt32 N.toInt32 _ _) own_pdmn rfl d13_25 rfl rfl rfl (W := 4) rfl (by decide) (by decide) (cells' := 1) (slots' := 8) rfl rfl (by decide) (by decide) (fun v T15 h17 X16 q18 => ?_)
  obtain ⟨rfl, rfl⟩ := q18
  show own_Fin p e below (own_End s n0 (own_qcp t_ (N.toInt32) n N Z h0) ({ frames := 1, cells := 1, slots := 8, locals := 24 } : Room).cells ({ frames := 1, cells := 1, slots := 8, locals := 24 } : Room).slots) (T15.setTop (mkF m 28 #[.val (.ref t_), .val (.int N.toInt32), .val (.ref a8)] [(.int (own_fmn n.toInt32 N.toInt32)), (.int (0 : Int32)), (.ref a8), (.int (0 : Int32)), (.ref t_)]))
  rw [own_mnN hnN hN]
  show own_Fin p e below (own_End s n0 (own_qcp t_ (N.toInt32) n N Z h0) ({ frames := 1, cells := 1, slots := 8, locals := 24 } : Room).cells ({ frames := 1, cells := 1, slots := 8, locals := 24 } : Room).slots) (T15.setTop (mkF m 28 #[.val (.ref t_), .val (.int N.toInt32), .val (.ref a8)] [(.int n.toInt32), (.int (0 : Int32)), (.ref a8), (.int (0 : Int32)), (.ref t_)]))
  refine own_cpI X16 (k := n) (hw _ (List.mem_of_getElem? (i := 93) rfl)) (hw _ (List.mem_of_getElem? (i := 96) rfl)) (hw _ (List.mem_of_getElem? (i := 94) rfl)) (hw _ (List.mem_of_getElem? (i := 95) rfl)) F12 F11 (Nat.le_refl _) (Nat.le_of_lt hnN) ge_a8 d13_28 rfl rfl (by decide) (W := 0) rfl (by decide) (fun T19 h21 X20 K22 F23 => ?_)
  have F24 := (F12.keep K22 (ninS ne_t__a8 nin0))
  have Z25 : n0 ≤ h21.size := (Nat.le_trans Z13 K22.1)
  have K26 := (K14.trans K22 (allS (P := fun x => x ∈ _ ∨ _ ≤ x) (Or.inr fr_a8) all0))
  refine own_aloadN X20 d13_31 rfl rfl rfl ?_
  exact own_retA X20 rfl rfl rfl d13_32 ⟨_, rfl, K26, F23, fr_a8⟩ (by decide) (by decide)
theorem d11_0 : decode prog_63_method_10_code 0 = .ok (.iload_n 1, 1) := by decide +kernel
theorem d11_1 : decode prog_63_method_10_code 1 = .ok (.aload_n 0, 1) := by decide +kernel
theorem d11_2 : decode prog_63_method_10_code 2 = .ok (.arraylength, 1) := by decide +kernel
theorem d11_3 : decode prog_63_method_10_code 3 = .ok (.if_icmp .ge 7, 3) := by decide +kernel
theorem d11_6 : decode prog_63_method_10_code 6 = .ok (.aload_n 0, 1) := by decide +kernel
theorem d11_7 : decode prog_63_method_10_code 7 = .ok (.goto 17, 3) := by decide +kernel
theorem d11_10 : decode prog_63_method_10_code 10 = .ok (.aload_n 0, 1) := by decide +kernel
theorem d11_11 : decode prog_63_method_10_code 11 = .ok (.iload_n 1, 1) := by decide +kernel
theorem d11_12 : decode prog_63_method_10_code 12 = .ok (.iconst 1, 1) := by decide +kernel
theorem d11_13 : decode prog_63_method_10_code 13 = .ok (.iadd, 1) := by decide +kernel
theorem d11_14 : decode prog_63_method_10_code 14 = .ok (.aload_n 0, 1) := by decide +kernel
theorem d11_15 : decode prog_63_method_10_code 15 = .ok (.arraylength, 1) := by decide +kernel
theorem d11_16 : decode prog_63_method_10_code 16 = .ok (.iconst 2, 1) := by decide +kernel
theorem d11_17 : decode prog_63_method_10_code 17 = .ok (.imul, 1) := by decide +kernel
theorem d11_18 : decode prog_63_method_10_code 18 = .ok (.invokestatic 45, 3) := by decide +kernel
theorem d11_21 : decode prog_63_method_10_code 21 = .ok (.invokestatic 51, 3) := by decide +kernel
theorem d11_24 : decode prog_63_method_10_code 24 = .ok (.astore_n 3, 1) := by decide +kernel
theorem d11_25 : decode prog_63_method_10_code 25 = .ok (.aload_n 3, 1) := by decide +kernel
theorem d11_26 : decode prog_63_method_10_code 26 = .ok (.iload_n 1, 1) := by decide +kernel
theorem d11_27 : decode prog_63_method_10_code 27 = .ok (.iload_n 2, 1) := by decide +kernel
theorem d11_28 : decode prog_63_method_10_code 28 = .ok (.iastore, 1) := by decide +kernel
theorem d11_29 : decode prog_63_method_10_code 29 = .ok (.aload_n 3, 1) := by decide +kernel
theorem d11_30 : decode prog_63_method_10_code 30 = .ok (.areturn, 1) := by decide +kernel
theorem own_pnsa : plainFor (⟨"com/example/racewright/racewright/happensbefore/VectorClock", "set", "([III)[I"⟩ : MethodName) = true := by first | exact plainFor_of_name (by first | (simp [plainName, overriddenIn, x]; done) | decide +kernel) | decide +kernel
theorem own_efsa (t_ : Addr) (ni : Nat) (v_ : Int32) (m : MethodId) : entryFrame m #[(.ref t_), (.int ni.toInt32), (.int v_)] 4 = mkF m 0 #[.val (.ref t_), .val (.int ni.toInt32), .val (.int v_), .unset] [] := by
  first | (simp [entryFrame, mkF, argsToLocals, Value.category]; done) | rfl
def own_qsa (t_ : Addr) (ni : Nat) (v_ : Int32) (n : Nat) (Z : State) (h0 : Heap) (v : Option Value) (h : Heap) : Prop := ∃ (r_ : Addr), v = some (.ref r_) ∧ Keep h0 h [t_] ∧ own_IA Z h r_ (own_len ni n) ∧ (r_ = t_ ∨ h0.size ≤ r_)
set_option maxRecDepth 65536 in
set_option maxHeartbeats 40000000 in
theorem own_msa (l : Launch) (Z : State) (a0 : Array Value) (hw : ∀ d ∈ tables_1, d.before a0 Z = true) (ws : List Jvm.Cond) (t_ : Addr) (ni : Nat) (v_ : Int32) (n : Nat) (h0 : Heap) (n0 : Nat) (Z0 : n0 ≤ h0.size) (F1 : own_IA Z h0 t_ n) (ge_t_ : n0 ≤ t_) (hni : ni < 8) (hn : n ≤ ni → 2 * n ≤ 8) (hn8 : n ≤ 8) :
    own_Met l Z (⟨"com/example/racewright/racewright/happensbefore/VectorClock", "set", "([III)[I"⟩ : MethodName) prog_63_method_10_code 4 (some (.array .int)) ws ({ frames := 2, cells := 1, slots := 8, locals := 38 } : Room) #[(.ref t_), (.int ni.toInt32), (.int v_)] h0 n0 (own_qsa t_ ni v_ n Z h0) := by
  refine own_enter (own := "com/example/racewright/racewright/happensbefore/VectorClock") (nm := "set") rfl rfl own_pnsa (own_efsa t_ ni v_) ?_
  intro p e s m below meth c T0 X0
  have K2 := (Keep.refl h0 [t_])
  refine own_iloadN X0 d11_0 rfl rfl ?_
  refine own_aloadN X0 d11_1 rfl rfl rfl ?_
  refine own_alenI X0 F1 d11_2 rfl ?_
  refine own_icmp_ge X0 d11_3 (by decide) (pcT := 10) (by decide) rfl (fun hc3 => ?_) (fun hc3 => ?_)
  · skip
    refine own_aloadN X0 d11_10 rfl rfl rfl ?_
    refine own_iloadN X0 d11_11 rfl rfl ?_
    refine own_iconst X0 (1 : Int32) d11_12 rfl (by decide) ?_
    refine own_iadd X0 d11_13 rfl ?_
    refine own_aloadN X0 d11_14 rfl rfl rfl ?_
    refine own_alenI X0 F1 d11_15 rfl ?_
    refine own_iconst X0 (2 : Int32) d11_16 rfl (by decide) ?_
    refine own_imul X0 d11_17 rfl ?_
    refine own_callS X0 (hw _ (List.mem_of_getElem? (i := 82) rfl)) (hw _ (List.mem_of_getElem? (i := 83) rfl)) (hw _ (List.mem_of_getElem? (i := 84) rfl)) (hw _ (List.mem_of_getElem? (i := 85) rfl)) (by decide) (argsL := [(.int (ni.toInt32 + (1 : Int32))), (.int (n.toInt32 * (2 : Int32)))]) (rest := [(.ref t_)]) (own_mmx l Z a0 hw [] (ni.toInt32 + (1 : Int32)) (n.toInt32 * (2 : Int32)) _ _) own_pdmx rfl d11_18 rfl rfl rfl (W := 1) rfl (by decide) (by decide) (cells' := 0) (slots' := 0) rfl rfl (by decide) (by decide) (fun v T4 h6 X5 q7 => ?_)
    obtain ⟨rfl, rfl⟩ := q7
    show own_Fin p e below (own_End s n0 (own_qsa t_ ni v_ n Z h0) ({ frames := 2, cells := 1, slots := 8, locals := 38 } : Room).cells ({ frames := 2, cells := 1, slots := 8, locals := 38 } : Room).slots) (T4.setTop (mkF m 21 #[.val (.ref t_), .val (.int ni.toInt32), .val (.int v_), .unset] [(.int (own_fmx (ni.toInt32 + (1 : Int32)) (n.toInt32 * (2 : Int32)))), (.ref t_)]))
    refine own_callS X5 (hw _ (List.mem_of_getElem? (i := 86) rfl)) (hw _ (List.mem_of_getElem? (i := 87) rfl)) (hw _ (List.mem_of_getElem? (i := 88) rfl)) (hw _ (List.mem_of_getElem? (i := 89) rfl)) (by decide) (argsL := [(.ref t_), (.int (own_fmx (ni.toInt32 + (1 : Int32)) (n.toInt32 * (2 : Int32))))]) (rest := []) (own_mcp l Z a0 hw [] t_ (own_fmx (ni.toInt32 + (1 : Int32)) (n.toInt32 * (2 : Int32))) n (own_len ni n) _ _ Z0 F1 (own_mxN hni (fun z => hc3 ((own_lt32 (by omega) (by omega)).mpr z))) (Nat.lt_of_le_of_lt (Nat.le_of_not_lt fun z => hc3 ((own_lt32 (by omega) (by omega)).mpr z)) (own_len_hi ni n)) (own_len_8 hni hn hn8)) (pd_13) rfl d11_21 rfl rfl rfl (W := 0) rfl (by decide) (by decide) (cells' := 1) (slots' := 8) rfl rfl (by decide) (by decide) (fun v T12 h14 X13 q15 => ?_)
    obtain ⟨r8, rfl, K11, F9, F10⟩ := q15
    show own_Fin p e below (own_End s n0 (own_qsa t_ ni v_ n Z h0) ({ frames := 2, cells := 1, slots := 8, locals := 38 } : Room).cells ({ frames := 2, cells := 1, slots := 8, locals := 38 } : Room).slots) (T12.setTop (mkF m 24 #[.val (.ref t_), .val (.int ni.toInt32), .val (.int v_), .unset] [(.ref r8)]))
    have F16 := (F1.keep K11 nin0)
    have Z17 : n0 ≤ h14.size := (Nat.le_trans Z0 K11.1)
    have K18 := (K2.trans K11 all0)
    have ge_r8 : n0 ≤ r8 := Nat.le_trans Z0 F10
    have ne_t__r8 : t_ ≠ r8 := (fun q => Nat.ne_of_lt (Nat.lt_of_lt_of_le F1.lt q)) F10
    have fr_r8 : h0.size ≤ r8 := Nat.le_trans K2.1 F10
    refine own_astoreN X13 (L' := #[.val (.ref t_), .val (.int ni.toInt32), .val (.int v_), .val (.ref r8)]) d11_24 rfl rfl rfl ?_
    refine own_aloadN X13 d11_25 rfl rfl rfl ?_
    refine own_iloadN X13 d11_26 rfl rfl ?_
    refine own_iloadN X13 d11_27 rfl rfl ?_
    refine own_iastoreI X13 F9 (own_len_hi ni n) ge_r8 d11_28 rfl (fun T19 h21 X20 W22 F23 => ?_)
    have F24 := (F16.other W22 ne_t__r8)
    have Z25 : n0 ≤ h21.size := (Nat.le_trans Z17 (Nat.le_of_eq W22.size.symm))
    have K26 := (K18.wr W22 (Or.inr fr_r8))
    refine own_aloadN X20 d11_29 rfl rfl rfl ?_
    exact own_retA X20 rfl rfl rfl d11_30 ⟨r8, rfl, K26, F23, (Or.inr fr_r8)⟩ (by decide) (by decide)
  · skip
    refine own_aloadN X0 d11_6 rfl rfl rfl ?_
    refine own_goto X0 d11_7 (by decide) (pc' := 24) (by decide) ?_
    refine own_astoreN X0 (L' := #[.val (.ref t_), .val (.int ni.toInt32), .val (.int v_), .val (.ref t_)]) d11_24 rfl rfl rfl ?_
    refine own_aloadN X0 d11_25 rfl rfl rfl ?_
    refine own_iloadN X0 d11_26 rfl rfl ?_
    refine own_iloadN X0 d11_27 rfl rfl ?_
    refine own_iastoreI X0 F1 ((own_lt32 (by omega) (by omega)).mp hc3) ge_t_ d11_28 rfl (fun T27 h29 X28 W30 F31 => ?_)
    have Z32 : n0 ≤ h29.size := (Nat.le_trans Z0 (Nat.le_of_eq W30.size.symm))
    have K33 := (K2.wr W30 (Or.inl (List.mem_of_getElem? (i := 0) rfl)))
    have el : n = own_len ni n := by rw [own_len, if_pos ((own_lt32 (by omega) (by omega)).mp hc3)]
    refine own_aloadN X28 d11_29 rfl rfl rfl ?_
    exact own_retA X28 rfl rfl rfl d11_30 ⟨t_, rfl, K33, (el ▸ F31), (Or.inl rfl)⟩ (by decide) (by decide)
theorem d10_0 : decode prog_63_method_4_code 0 = .ok (.aload_n 0, 1) := by decide +kernel
theorem d10_1 : decode prog_63_method_4_code 1 = .ok (.aload_n 0, 1) := by decide +kernel
theorem d10_2 : decode prog_63_method_4_code 2 = .ok (.getfield 7, 3) := by decide +kernel
theorem d10_5 : decode prog_63_method_4_code 5 = .ok (.iload_n 1, 1) := by decide +kernel
theorem d10_6 : decode prog_63_method_4_code 6 = .ok (.iload_n 2, 1) := by decide +kernel
theorem d10_7 : decode prog_63_method_4_code 7 = .ok (.invokestatic 16, 3) := by decide +kernel
theorem d10_10 : decode prog_63_method_4_code 10 = .ok (.putfield 7, 3) := by decide +kernel
theorem d10_13 : decode prog_63_method_4_code 13 = .ok (.aload_n 0, 1) := by decide +kernel
theorem d10_14 : decode prog_63_method_4_code 14 = .ok (.aload_n 0, 1) := by decide +kernel
theorem d10_15 : decode prog_63_method_4_code 15 = .ok (.getfield 13, 3) := by decide +kernel
theorem d10_18 : decode prog_63_method_4_code 18 = .ok (.iload_n 1, 1) := by decide +kernel
theorem d10_19 : decode prog_63_method_4_code 19 = .ok (.iload_n 2, 1) := by decide +kernel
theorem d10_20 : decode prog_63_method_4_code 20 = .ok (.invokestatic 16, 3) := by decide +kernel
theorem d10_23 : decode prog_63_method_4_code 23 = .ok (.putfield 13, 3) := by decide +kernel
theorem d10_26 : decode prog_63_method_4_code 26 = .ok (.return_, 1) := by decide +kernel
theorem own_pnsv : plainFor (⟨"com/example/racewright/racewright/happensbefore/VectorClock", "set", "(II)V"⟩ : MethodName) = true := by first | exact plainFor_of_name (by first | (simp [plainName, overriddenIn, x]; done) | decide +kernel) | decide +kernel
theorem own_efsv (a0_ : Addr) (ni : Nat) (v_ : Int32) (m : MethodId) : entryFrame m #[(.ref a0_), (.int ni.toInt32), (.int v_)] 3 = mkF m 0 #[.val (.ref a0_), .val (.int ni.toInt32), .val (.int v_)] [] := by
  first | (simp [entryFrame, mkF, argsToLocals, Value.category]; done) | rfl
def own_qsv (a0_ : Addr) (ni : Nat) (v_ : Int32) (t_ : Addr) (u_ : Addr) (n : Nat) (k : Nat) (Z : State) (h0 : Heap) (v : Option Value) (h : Heap) : Prop := ∃ (t2_ : Addr) (u2_ : Addr), v = none ∧ Keep h0 h [a0_, t_, u_] ∧ Fld Z h a0_ "com/example/racewright/racewright/happensbefore/VectorClock" "ticks" "[I" (.ref t2_) ∧ Fld Z h a0_ "com/example/racewright/racewright/happensbefore/VectorClock" "apart" "[I" (.ref u2_) ∧ own_IA Z h t2_ (own_len ni n) ∧ own_IA Z h u2_ (own_len ni k) ∧ (t2_ = t_ ∨ h0.size ≤ t2_) ∧ (u2_ = u_ ∨ h0.size ≤ u2_) ∧ t2_ ≠ u2_
set_option maxRecDepth 65536 in
set_option maxHeartbeats 40000000 in
theorem own_msv (l : Launch) (Z : State) (a0 : Array Value) (hw : ∀ d ∈ tables_1, d.before a0 Z = true) (ws : List Jvm.Cond) (a0_ : Addr) (ni : Nat) (v_ : Int32) (t_ : Addr) (u_ : Addr) (n : Nat) (k : Nat) (h0 : Heap) (n0 : Nat) (Z0 : n0 ≤ h0.size) (F1 : Exa Z h0 a0_ "com/example/racewright/racewright/happensbefore/VectorClock") (F2 : Fld Z h0 a0_ "com/example/racewright/racewright/happensbefore/VectorClock" "ticks" "[I" (.ref t_)) (F3 : Fld Z h0 a0_ "com/example/racewright/racewright/happensbefore/VectorClock" "apart" "[I" (.ref u_)) (F4 : own_IA Z h0 t_ n) (F5 : own_IA Z h0 u_ k) (ge_a0_ : n0 ≤ a0_) (ge_t_ : n0 ≤ t_) (ge_u_ : n0 ≤ u_) (ne_a0__t_ : a0_ ≠ t_) (ne_a0__u_ : a0_ ≠ u_) (ne_t__u_ : t_ ≠ u_) (hni : ni < 8) (hn : n ≤ ni → 2 * n ≤ 8) (hn8 : n ≤ 8) (hk : k ≤ ni → 2 * k ≤ 8) (hk8 : k ≤ 8) :
    own_Met l Z (⟨"com/example/racewright/racewright/happensbefore/VectorClock", "set", "(II)V"⟩ : MethodName) prog_63_method_4_code 3 none ws ({ frames := 3, cells := 2, slots := 16, locals := 54 } : Room) #[(.ref a0_), (.int ni.toInt32), (.int v_)] h0 n0 (own_qsv a0_ ni v_ t_ u_ n k Z h0) := by
  refine own_enter (own := "com/example/racewright/racewright/happensbefore/VectorClock") (nm := "set") rfl rfl own_pnsv (own_efsv a0_ ni v_) ?_
  intro p e s m below meth c T0 X0
  have K6 := (Keep.refl h0 [a0_, t_, u_])
  refine own_aloadN X0 d10_0 rfl rfl rfl ?_
  refine own_aloadN X0 d10_1 rfl rfl rfl ?_
  refine own_getf X0 (hw _ (List.mem_of_getElem? (i := 22) rfl)) F2 d10_2 rfl (fun T7 X8 => ?_)
  refine own_iloadN X8 d10_5 rfl rfl ?_
  refine own_iloadN X8 d10_6 rfl rfl ?_
  refine own_callS X8 (hw _ (List.mem_of_getElem? (i := 79) rfl)) (hw _ (List.mem_of_getElem? (i := 80) rfl)) (hw _ (List.mem_of_getElem? (i := 16) rfl)) (hw _ (List.mem_of_getElem? (i := 81) rfl)) (by decide) (argsL := [(.ref t_), (.int ni.toInt32), (.int v_)]) (rest := [(.ref a0_)]) (own_msa l Z a0 hw [] t_ ni v_ n _ _ Z0 F4 ge_t_ hni hn hn8) (pd_11) rfl d10_7 rfl rfl rfl (W := 1) rfl (by decide) (by decide) (cells' := 1) (slots' := 8) rfl rfl (by decide) (by decide) (fun v T13 h15 X14 q16 => ?_)
  obtain ⟨r9, rfl, K12, F10, F11⟩ := q16
  show own_Fin p e below (own_End s n0 (own_qsv a0_ ni v_ t_ u_ n k Z h0) ({ frames := 3, cells := 2, slots := 16, locals := 54 } : Room).cells ({ frames := 3, cells := 2, slots := 16, locals := 54 } : Room).slots) (T13.setTop (mkF m 10 #[.val (.ref a0_), .val (.int ni.toInt32), .val (.int v_)] [(.ref r9), (.ref a0_)]))
  have F17 := (F1.keep K12)
  have F18 := (F2.keep K12 (ninS ne_a0__t_ nin0))
  have F19 := (F3.keep K12 (ninS ne_a0__t_ nin0))
  have F20 := (F5.keep K12 (ninS (Ne.symm ne_t__u_) nin0))
  have Z21 : n0 ≤ h15.size := (Nat.le_trans Z0 K12.1)
  have K22 := (K6.trans K12 (allS (P := fun x => x ∈ _ ∨ _ ≤ x) (Or.inl (List.mem_of_getElem? (i := 1) rfl)) all0))
  have ge_r9 : n0 ≤ r9 := F11.elim (fun q => q ▸ ge_t_) (fun q => Nat.le_trans Z0 q)
  have ne_a0__r9 : a0_ ≠ r9 := F11.elim (fun q => q ▸ ne_a0__t_) (fun q => Nat.ne_of_lt (Nat.lt_of_lt_of_le F1.lt q))
  have ne_u__r9 : u_ ≠ r9 := F11.elim (fun q => q ▸ (Ne.symm ne_t__u_)) (fun q => Nat.ne_of_lt (Nat.lt_of_lt_of_le F5.lt q))
  have pt : r9 = t_ ∨ h0.size ≤ r9 := F11.imp id (fun q => Nat.le_trans K6.1 q)
  refine own_putf X14 (hw _ (List.mem_of_getElem? (i := 22) rfl)) F18 F17 (Or.inl (hw _ (List.mem_of_getElem? (i := 23) rfl))) (hw _ (List.mem_of_getElem? (i := 15) rfl)) (ty := (.array .int)) (by decide) rfl rfl ge_a0_ d10_10 rfl (fun T23 h25 X24 W26 => ?_)
  have F27 := (F17.wr W26)
  have F28 := (F18.same W26)
  have F29 := (F19.other W26 (Or.inr (slot_ne (Or.inl (hw _ (List.mem_of_getElem? (i := 25) rfl))) (Or.inl (hw _ (List.mem_of_getElem? (i := 23) rfl))) (by decide) (t := (.array .int)) (t' := (.array .int)) (by decide) (by decide))))
  have F30 := (F20.other W26 (Ne.symm ne_a0__u_))
  have F31 := (F10.other W26 (Ne.symm ne_a0__r9))
  have Z32 : n0 ≤ h25.size := (Nat.le_trans Z21 (Nat.le_of_eq W26.size.symm))
  have K33 := (K22.wr W26 (Or.inl (List.mem_of_getElem? (i := 0) rfl)))
  refine own_aloadN X24 d10_13 rfl rfl rfl ?_
  refine own_aloadN X24 d10_14 rfl rfl rfl ?_
  refine own_getf X24 (hw _ (List.mem_of_getElem? (i := 24) rfl)) F29 d10_15 rfl (fun T34 X35 => ?_)
  refine own_iloadN X35 d10_18 rfl rfl ?_
  refine own_iloadN X35 d10_19 rfl rfl ?_
  refine own_callS X35 (hw _ (List.mem_of_getElem? (i := 79) rfl)) (hw _ (List.mem_of_getElem? (i := 80) rfl)) (hw _ (List.mem_of_getElem? (i := 16) rfl)) (hw _ (List.mem_of_getElem? (i := 81) rfl)) (by decide) (argsL := [(.ref u_), (.int ni.toInt32), (.int v_)]) (rest := [(.ref a0_)]) (own_msa l Z a0 hw [] u_ ni v_ k _ _ Z32 F30 ge_u_ hni hk hk8) (pd_11) rfl d10_20 rfl rfl rfl (W := 1) rfl (by decide) (by decide) (cells' := 2) (slots' := 16) rfl rfl (by decide) (by decide) (fun v T40 h42 X41 q43 => ?_)
  obtain ⟨r36, rfl, K39, F37, F38⟩ := q43
  show own_Fin p e below (own_End s n0 (own_qsv a0_ ni v_ t_ u_ n k Z h0) ({ frames := 3, cells := 2, slots := 16, locals := 54 } : Room).cells ({ frames := 3, cells := 2, slots := 16, locals := 54 } : Room).slots) (T40.setTop (mkF m 23 #[.val (.ref a0_), .val (.int ni.toInt32), .val (.int v_)] [(.ref r36), (.ref a0_)]))
  have F44 := (F27.keep K39)
  have F45 := (F28.keep K39 (ninS ne_a0__u_ nin0))
  have F46 := (F29.keep K39 (ninS ne_a0__u_ nin0))
  have F47 := (F31.keep K39 (ninS (Ne.symm ne_u__r9) nin0))
  have Z48 : n0 ≤ h42.size := (Nat.le_trans Z32 K39.1)
  have K49 := (K33.trans K39 (allS (P := fun x => x ∈ _ ∨ _ ≤ x) (Or.inl (List.mem_of_getElem? (i := 2) rfl)) all0))
  have ge_r36 : n0 ≤ r36 := F38.elim (fun q => q ▸ ge_u_) (fun q => Nat.le_trans Z32 q)
  have ne_a0__r36 : a0_ ≠ r36 := F38.elim (fun q => q ▸ ne_a0__u_) (fun q => Nat.ne_of_lt (Nat.lt_of_lt_of_le F27.lt q))
  have ne_r9_r36 : r9 ≠ r36 := F38.elim (fun q => q ▸ (Ne.symm ne_u__r9)) (fun q => Nat.ne_of_lt (Nat.lt_of_lt_of_le F31.lt q))
  have pu : r36 = u_ ∨ h0.size ≤ r36 := F38.imp id (fun q => Nat.le_trans K33.1 q)
  refine own_putf X41 (hw _ (List.mem_of_getElem? (i := 24) rfl)) F46 F44 (Or.inl (hw _ (List.mem_of_getElem? (i := 25) rfl))) (hw _ (List.mem_of_getElem? (i := 15) rfl)) (ty := (.array .int)) (by decide) rfl rfl ge_a0_ d10_23 rfl (fun T50 h52 X51 W53 => ?_)
  have F54 := (F44.wr W53)
  have F55 := (F45.other W53 (Or.inr (slot_ne (Or.inl (hw _ (List.mem_of_getElem? (i := 23) rfl))) (Or.inl (hw _ (List.mem_of_getElem? (i := 25) rfl))) (by decide) (t := (.array .int)) (t' := (.array .int)) (by decide) (by decide))))
  have F56 := (F46.same W53)
  have F57 := (F47.other W53 (Ne.symm ne_a0__r9))
  have F58 := (F37.other W53 (Ne.symm ne_a0__r36))
  have Z59 : n0 ≤ h52.size := (Nat.le_trans Z48 (Nat.le_of_eq W53.size.symm))
  have K60 := (K49.wr W53 (Or.inl (List.mem_of_getElem? (i := 0) rfl)))
  exact own_retV X51 rfl d10_26 ⟨r9, r36, rfl, K60, F55, F56, F57, F58, pt, pu, ne_r9_r36⟩ (by decide) (by decide)
theorem d3_0 : decode prog_63_method_1_code 0 = .ok (.aload_n 0, 1) := by decide +kernel
theorem d3_1 : decode prog_63_method_1_code 1 = .ok (.invokespecial 1, 3) := by decide +kernel
theorem d3_4 : decode prog_63_method_1_code 4 = .ok (.aload_n 0, 1) := by decide +kernel
theorem d3_5 : decode prog_63_method_1_code 5 = .ok (.iconst 0, 1) := by decide +kernel
theorem d3_6 : decode prog_63_method_1_code 6 = .ok (.newarray .int, 2) := by decide +kernel
theorem d3_8 : decode prog_63_method_1_code 8 = .ok (.putfield 7, 3) := by decide +kernel
theorem d3_11 : decode prog_63_method_1_code 11 = .ok (.aload_n 0, 1) := by decide +kernel
theorem d3_12 : decode prog_63_method_1_code 12 = .ok (.iconst 0, 1) := by decide +kernel
theorem d3_13 : decode prog_63_method_1_code 13 = .ok (.newarray .int, 2) := by decide +kernel
theorem d3_15 : decode prog_63_method_1_code 15 = .ok (.putfield 13, 3) := by decide +kernel
theorem d3_18 : decode prog_63_method_1_code 18 = .ok (.return_, 1) := by decide +kernel
theorem own_pnvi : plainFor (⟨"com/example/racewright/racewright/happensbefore/VectorClock", "<init>", "()V"⟩ : MethodName) = true := by first | exact plainFor_of_name (by first | (simp [plainName, overriddenIn, x]; done) | decide +kernel) | decide +kernel
theorem own_efvi (a0_ : Addr) (m : MethodId) : entryFrame m #[(.ref a0_)] 1 = mkF m 0 #[.val (.ref a0_)] [] := by
  first | (simp [entryFrame, mkF, argsToLocals, Value.category]; done) | rfl
def own_qvi (a0_ : Addr) (Z : State) (h0 : Heap) (v : Option Value) (h : Heap) : Prop := ∃ (t_ : Addr) (u_ : Addr), v = none ∧ Keep h0 h [a0_] ∧ Fld Z h a0_ "com/example/racewright/racewright/happensbefore/VectorClock" "ticks" "[I" (.ref t_) ∧ Fld Z h a0_ "com/example/racewright/racewright/happensbefore/VectorClock" "apart" "[I" (.ref u_) ∧ own_IA Z h t_ 0 ∧ own_IA Z h u_ 0 ∧ h0.size ≤ t_ ∧ h0.size ≤ u_ ∧ t_ ≠ u_
set_option maxRecDepth 65536 in
set_option maxHeartbeats 40000000 in
theorem own_mvi (l : Launch) (Z : State) (a0 : Array Value) (hw : ∀ d ∈ tables_1, d.before a0 Z = true) (ws : List Jvm.Cond) (a0_ : Addr) (h0 : Heap) (n0 : Nat) (Z0 : n0 ≤ h0.size) (F1 : Exa Z h0 a0_ "com/example/racewright/racewright/happensbefore/VectorClock") (F2 : Fld Z h0 a0_ "com/example/racewright/racewright/happensbefore/VectorClock" "ticks" "[I" (.null)) (F3 : Fld Z h0 a0_ "com/example/racewright/racewright/happensbefore/VectorClock" "apart" "[I" (.null)) (ge_a0_ : n0 ≤ a0_) :
    own_Met l Z (⟨"com/example/racewright/racewright/happensbefore/VectorClock", "<init>", "()V"⟩ : MethodName) prog_63_method_1_code 1 none ws ({ frames := 1, cells := 2, slots := 0, locals := 12 } : Room) #[(.ref a0_)] h0 n0 (own_qvi a0_ Z h0) := by
  refine own_enter (own := "com/example/racewright/racewright/happensbefore/VectorClock") (nm := "<init>") rfl rfl own_pnvi (own_efvi a0_) ?_
  intro p e s m below meth c T0 X0
  have K4 := (Keep.refl h0 [a0_])
  refine own_aloadN X0 d3_0 rfl rfl rfl ?_
  refine own_initO X0 (hw _ (List.mem_of_getElem? (i := 20) rfl)) (hw _ (List.mem_of_getElem? (i := 7) rfl)) (hw _ (List.mem_of_getElem? (i := 8) rfl)) d3_1 rfl rfl (by decide) (W := 0) rfl (by decide) (fun T5 X6 => ?_)
  refine own_aloadN X6 d3_4 rfl rfl rfl ?_
  refine own_iconst X6 (0 : Int32) d3_5 rfl (by decide) ?_
  refine own_newarray X6 (hw _ (List.mem_of_getElem? (i := 21) rfl)) (n := (0 : Int32)) 0 (by decide) (by decide) (by decide) d3_6 rfl (cells' := 1) (slots' := 0) rfl rfl (by decide) (by decide) (fun T7 h9 cA14 a12 g13 X8 E10 A11 => ?_)
  have ge_a12 : n0 ≤ a12 := Nat.le_trans Z0 (Nat.le_of_eq g13.symm)
  have ne_a0__a12 : a0_ ≠ a12 := Nat.ne_of_lt (g13 ▸ F1.lt)
  have fr_a12 : h0.size ≤ a12 := Nat.le_trans K4.1 (Nat.le_of_eq g13.symm)
  have F15 := (F1.ext E10)
  have F16 := (F2.ext E10)
  have F17 := (F3.ext E10)
  have Z18 : n0 ≤ h9.size := (Nat.le_trans Z0 E10.1)
  have K19 := (K4.ext E10)
  have F20 := own_IA_new (n := 0) A11 (by decide) (by decide)
  refine own_putf X8 (hw _ (List.mem_of_getElem? (i := 22) rfl)) F16 F15 (Or.inl (hw _ (List.mem_of_getElem? (i := 23) rfl))) (hw _ (List.mem_of_getElem? (i := 15) rfl)) (ty := (.array .int)) (by decide) rfl rfl ge_a0_ d3_8 rfl (fun T21 h23 X22 W24 => ?_)
  have F25 := (F15.wr W24)
  have F26 := (F16.same W24)
  have F27 := (F17.other W24 (Or.inr (slot_ne (Or.inl (hw _ (List.mem_of_getElem? (i := 25) rfl))) (Or.inl (hw _ (List.mem_of_getElem? (i := 23) rfl))) (by decide) (t := (.array .int)) (t' := (.array .int)) (by decide) (by decide))))
  have F28 := (F20.other W24 (Ne.symm ne_a0__a12))
  have Z29 : n0 ≤ h23.size := (Nat.le_trans Z18 (Nat.le_of_eq W24.size.symm))
  have K30 := (K19.wr W24 (Or.inl (List.mem_of_getElem? (i := 0) rfl)))
  refine own_aloadN X22 d3_11 rfl rfl rfl ?_
  refine own_iconst X22 (0 : Int32) d3_12 rfl (by decide) ?_
  refine own_newarray X22 (hw _ (List.mem_of_getElem? (i := 21) rfl)) (n := (0 : Int32)) 0 (by decide) (by decide) (by decide) d3_13 rfl (cells' := 2) (slots' := 0) rfl rfl (by decide) (by decide) (fun T31 h33 cA38 a36 g37 X32 E34 A35 => ?_)
  have ge_a36 : n0 ≤ a36 := Nat.le_trans Z29 (Nat.le_of_eq g37.symm)
  have ne_a0__a36 : a0_ ≠ a36 := Nat.ne_of_lt (g37 ▸ F25.lt)
  have ne_a12_a36 : a12 ≠ a36 := Nat.ne_of_lt (g37 ▸ F28.lt)
  have fr_a36 : h0.size ≤ a36 := Nat.le_trans K30.1 (Nat.le_of_eq g37.symm)
  have F39 := (F25.ext E34)
  have F40 := (F26.ext E34)
  have F41 := (F27.ext E34)
  have F42 := (F28.ext E34)
  have Z43 : n0 ≤ h33.size := (Nat.le_trans Z29 E34.1)
  have K44 := (K30.ext E34)
  have F45 := own_IA_new (n := 0) A35 (by decide) (by decide)
  refine own_putf X32 (hw _ (List.mem_of_getElem? (i := 24) rfl)) F41 F39 (Or.inl (hw _ (List.mem_of_getElem? (i := 25) rfl))) (hw _ (List.mem_of_getElem? (i := 15) rfl)) (ty := (.array .int)) (by decide) rfl rfl ge_a0_ d3_15 rfl (fun T46 h48 X47 W49 => ?_)
  have F50 := (F39.wr W49)
  have F51 := (F40.other W49 (Or.inr (slot_ne (Or.inl (hw _ (List.mem_of_getElem? (i := 23) rfl))) (Or.inl (hw _ (List.mem_of_getElem? (i := 25) rfl))) (by decide) (t := (.array .int)) (t' := (.array .int)) (by decide) (by decide))))
  have F52 := (F41.same W49)
  have F53 := (F42.other W49 (Ne.symm ne_a0__a12))
  have F54 := (F45.other W49 (Ne.symm ne_a0__a36))
  have Z55 : n0 ≤ h48.size := (Nat.le_trans Z43 (Nat.le_of_eq W49.size.symm))
  have K56 := (K44.wr W49 (Or.inl (List.mem_of_getElem? (i := 0) rfl)))
  exact own_retV X47 rfl d3_18 ⟨a12, a36, rfl, K56, F51, F52, F53, F54, fr_a12, fr_a36, ne_a12_a36⟩ (by decide) (by decide)
theorem d7_0 : decode jdk_22_method_1_code 0 = .ok (.aload_n 0, 1) := by decide +kernel
theorem d7_1 : decode jdk_22_method_1_code 1 = .ok (.invokespecial 1, 3) := by decide +kernel
theorem d7_4 : decode jdk_22_method_1_code 4 = .ok (.return_, 1) := by decide +kernel
theorem own_pnac : plainFor (⟨"java/util/AbstractCollection", "<init>", "()V"⟩ : MethodName) = true := by first | exact plainFor_of_name (by first | (simp [plainName, overriddenIn, x]; done) | decide +kernel) | decide +kernel
theorem own_efac (a0_ : Addr) (m : MethodId) : entryFrame m #[(.ref a0_)] 1 = mkF m 0 #[.val (.ref a0_)] [] := by
  first | (simp [entryFrame, mkF, argsToLocals, Value.category]; done) | rfl
def own_qac (a0_ : Addr) (Z : State) (h0 : Heap) (v : Option Value) (h : Heap) : Prop := v = none ∧ h0 = h
set_option maxRecDepth 65536 in
set_option maxHeartbeats 40000000 in
theorem own_mac (l : Launch) (Z : State) (a0 : Array Value) (hw : ∀ d ∈ tables_1, d.before a0 Z = true) (ws : List Jvm.Cond) (a0_ : Addr) (h0 : Heap) (n0 : Nat) (Z0 : n0 ≤ h0.size)  :
    own_Met l Z (⟨"java/util/AbstractCollection", "<init>", "()V"⟩ : MethodName) jdk_22_method_1_code 1 none ws ({ frames := 1, cells := 0, slots := 0, locals := 12 } : Room) #[(.ref a0_)] h0 n0 (own_qac a0_ Z h0) := by
  refine own_enter (own := "java/util/AbstractCollection") (nm := "<init>") rfl rfl own_pnac (own_efac a0_) ?_
  intro p e s m below meth c T0 X0
  refine own_aloadN X0 d7_0 rfl rfl rfl ?_
  refine own_initO X0 (hw _ (List.mem_of_getElem? (i := 48) rfl)) (hw _ (List.mem_of_getElem? (i := 7) rfl)) (hw _ (List.mem_of_getElem? (i := 8) rfl)) d7_1 rfl rfl (by decide) (W := 0) rfl (by decide) (fun T1 X2 => ?_)
  exact own_retV X2 rfl d7_4 ⟨rfl, rfl⟩ (by decide) (by decide)
theorem d6_0 : decode jdk_91_method_1_code 0 = .ok (.aload_n 0, 1) := by decide +kernel
theorem d6_1 : decode jdk_91_method_1_code 1 = .ok (.invokespecial 1, 3) := by decide +kernel
theorem d6_4 : decode jdk_91_method_1_code 4 = .ok (.return_, 1) := by decide +kernel
theorem own_pnas : plainFor (⟨"java/util/AbstractSet", "<init>", "()V"⟩ : MethodName) = true := by first | exact plainFor_of_name (by first | (simp [plainName, overriddenIn, x]; done) | decide +kernel) | decide +kernel
theorem own_efas (a0_ : Addr) (m : MethodId) : entryFrame m #[(.ref a0_)] 1 = mkF m 0 #[.val (.ref a0_)] [] := by
  first | (simp [entryFrame, mkF, argsToLocals, Value.category]; done) | rfl
def own_qas (a0_ : Addr) (Z : State) (h0 : Heap) (v : Option Value) (h : Heap) : Prop := v = none ∧ h0 = h
set_option maxRecDepth 65536 in
set_option maxHeartbeats 40000000 in
theorem own_mas (l : Launch) (Z : State) (a0 : Array Value) (hw : ∀ d ∈ tables_1, d.before a0 Z = true) (ws : List Jvm.Cond) (a0_ : Addr) (h0 : Heap) (n0 : Nat) (Z0 : n0 ≤ h0.size)  :
    own_Met l Z (⟨"java/util/AbstractSet", "<init>", "()V"⟩ : MethodName) jdk_91_method_1_code 1 none ws ({ frames := 2, cells := 0, slots := 0, locals := 24 } : Room) #[(.ref a0_)] h0 n0 (own_qas a0_ Z h0) := by
  refine own_enter (own := "java/util/AbstractSet") (nm := "<init>") rfl rfl own_pnas (own_efas a0_) ?_
  intro p e s m below meth c T0 X0
  refine own_aloadN X0 d6_0 rfl rfl rfl ?_
  refine own_callI X0 rfl (hw _ (List.mem_of_getElem? (i := 42) rfl)) (hw _ (List.mem_of_getElem? (i := 43) rfl)) (hw _ (List.mem_of_getElem? (i := 46) rfl)) (hw _ (List.mem_of_getElem? (i := 47) rfl)) (by decide) (a := a0_) (argsL := []) (rest := []) (own_mac l Z a0 hw [] a0_ _ _ Z0 ) (pd_7) rfl d6_1 rfl rfl rfl (W := 0) rfl (by decide) (by decide) (cells' := 0) (slots' := 0) rfl rfl (by decide) (by decide) (fun v T2 h4 X3 q5 => ?_)
  obtain ⟨rfl, rfl⟩ := q5
  show own_Fin p e below (own_End s n0 (own_qas a0_ Z h0) ({ frames := 2, cells := 0, slots := 0, locals := 24 } : Room).cells ({ frames := 2, cells := 0, slots := 0, locals := 24 } : Room).slots) (T2.setTop (mkF m 4 #[.val (.ref a0_)] []))
  exact own_retV X3 rfl d6_4 ⟨rfl, rfl⟩ (by decide) (by decide)
theorem d9_0 : decode jdk_71_method_1_code 0 = .ok (.aload_n 0, 1) := by decide +kernel
theorem d9_1 : decode jdk_71_method_1_code 1 = .ok (.invokespecial 1, 3) := by decide +kernel
theorem d9_4 : decode jdk_71_method_1_code 4 = .ok (.return_, 1) := by decide +kernel
theorem own_pnam : plainFor (⟨"java/util/AbstractMap", "<init>", "()V"⟩ : MethodName) = true := by first | exact plainFor_of_name (by first | (simp [plainName, overriddenIn, x]; done) | decide +kernel) | decide +kernel
theorem own_efam (a0_ : Addr) (m : MethodId) : entryFrame m #[(.ref a0_)] 1 = mkF m 0 #[.val (.ref a0_)] [] := by
  first | (simp [entryFrame, mkF, argsToLocals, Value.category]; done) | rfl
def own_qam (a0_ : Addr) (Z : State) (h0 : Heap) (v : Option Value) (h : Heap) : Prop := v = none ∧ h0 = h
set_option maxRecDepth 65536 in
set_option maxHeartbeats 40000000 in
theorem own_mam (l : Launch) (Z : State) (a0 : Array Value) (hw : ∀ d ∈ tables_1, d.before a0 Z = true) (ws : List Jvm.Cond) (a0_ : Addr) (h0 : Heap) (n0 : Nat) (Z0 : n0 ≤ h0.size)  :
    own_Met l Z (⟨"java/util/AbstractMap", "<init>", "()V"⟩ : MethodName) jdk_71_method_1_code 1 none ws ({ frames := 1, cells := 0, slots := 0, locals := 12 } : Room) #[(.ref a0_)] h0 n0 (own_qam a0_ Z h0) := by
  refine own_enter (own := "java/util/AbstractMap") (nm := "<init>") rfl rfl own_pnam (own_efam a0_) ?_
  intro p e s m below meth c T0 X0
  refine own_aloadN X0 d9_0 rfl rfl rfl ?_
  refine own_initO X0 (hw _ (List.mem_of_getElem? (i := 62) rfl)) (hw _ (List.mem_of_getElem? (i := 7) rfl)) (hw _ (List.mem_of_getElem? (i := 8) rfl)) d9_1 rfl rfl (by decide) (W := 0) rfl (by decide) (fun T1 X2 => ?_)
  exact own_retV X2 rfl d9_4 ⟨rfl, rfl⟩ (by decide) (by decide)
theorem d8_0 : decode jdk_69_method_7_code 0 = .ok (.aload_n 0, 1) := by decide +kernel
theorem d8_1 : decode jdk_69_method_7_code 1 = .ok (.invokespecial 43, 3) := by decide +kernel
theorem d8_4 : decode jdk_69_method_7_code 4 = .ok (.aload_n 0, 1) := by decide +kernel
theorem d8_5 : decode jdk_69_method_7_code 5 = .ok (.ldc 92, 2) := by decide +kernel
theorem d8_7 : decode jdk_69_method_7_code 7 = .ok (.putfield 81, 3) := by decide +kernel
theorem d8_10 : decode jdk_69_method_7_code 10 = .ok (.return_, 1) := by decide +kernel
theorem own_pnhm : plainFor (⟨"java/util/HashMap", "<init>", "()V"⟩ : MethodName) = true := by first | exact plainFor_of_name (by first | (simp [plainName, overriddenIn, x]; done) | decide +kernel) | decide +kernel
theorem own_efhm (a0_ : Addr) (m : MethodId) : entryFrame m #[(.ref a0_)] 1 = mkF m 0 #[.val (.ref a0_)] [] := by
  first | (simp [entryFrame, mkF, argsToLocals, Value.category]; done) | rfl
def own_qhm (a0_ : Addr) (Z : State) (h0 : Heap) (v : Option Value) (h : Heap) : Prop := v = none ∧ Keep h0 h [a0_]
set_option maxRecDepth 65536 in
set_option maxHeartbeats 40000000 in
theorem own_mhm (l : Launch) (Z : State) (a0 : Array Value) (hw : ∀ d ∈ tables_1, d.before a0 Z = true) (ws : List Jvm.Cond) (a0_ : Addr) (h0 : Heap) (n0 : Nat) (Z0 : n0 ≤ h0.size) (F1 : Exa Z h0 a0_ "java/util/HashMap") (F2 : Fld Z h0 a0_ "java/util/HashMap" "loadFactor" "F" (.float 0)) (ge_a0_ : n0 ≤ a0_) :
    own_Met l Z (⟨"java/util/HashMap", "<init>", "()V"⟩ : MethodName) jdk_69_method_7_code 1 none ws ({ frames := 2, cells := 0, slots := 0, locals := 24 } : Room) #[(.ref a0_)] h0 n0 (own_qhm a0_ Z h0) := by
  refine own_enter (own := "java/util/HashMap") (nm := "<init>") rfl rfl own_pnhm (own_efhm a0_) ?_
  intro p e s m below meth c T0 X0
  have K3 := (Keep.refl h0 [a0_])
  refine own_aloadN X0 d8_0 rfl rfl rfl ?_
  refine own_callI X0 rfl (hw _ (List.mem_of_getElem? (i := 56) rfl)) (hw _ (List.mem_of_getElem? (i := 57) rfl)) (hw _ (List.mem_of_getElem? (i := 60) rfl)) (hw _ (List.mem_of_getElem? (i := 61) rfl)) (by decide) (a := a0_) (argsL := []) (rest := []) (own_mam l Z a0 hw [] a0_ _ _ Z0 ) (pd_9) rfl d8_1 rfl rfl rfl (W := 0) rfl (by decide) (by decide) (cells' := 0) (slots' := 0) rfl rfl (by decide) (by decide) (fun v T5 h7 X6 q8 => ?_)
  obtain ⟨rfl, rfl⟩ := q8
  show own_Fin p e below (own_End s n0 (own_qhm a0_ Z h0) ({ frames := 2, cells := 0, slots := 0, locals := 24 } : Room).cells ({ frames := 2, cells := 0, slots := 0, locals := 24 } : Room).slots) (T5.setTop (mkF m 4 #[.val (.ref a0_)] []))
  refine own_aloadN X6 d8_4 rfl rfl rfl ?_
  refine own_ldcF X6 (v := (1061158912 : UInt32)) d8_5 rfl (hw _ (List.mem_of_getElem? (i := 63) rfl)) ?_
  refine own_putf X6 (hw _ (List.mem_of_getElem? (i := 64) rfl)) F2 F1 (Or.inr ⟨(hw _ (List.mem_of_getElem? (i := 65) rfl)), rfl, rfl⟩) (hw _ (List.mem_of_getElem? (i := 50) rfl)) (ty := .float) (by decide) rfl rfl ge_a0_ d8_7 rfl (fun T9 h11 X10 W12 => ?_)
  have F13 := (F1.wr W12)
  have F14 := (F2.same W12)
  have Z15 : n0 ≤ h11.size := (Nat.le_trans Z0 (Nat.le_of_eq W12.size.symm))
  have K16 := (K3.wr W12 (Or.inl (List.mem_of_getElem? (i := 0) rfl)))
  exact own_retV X10 rfl d8_10 ⟨rfl, K16⟩ (by decide) (by decide)
theorem d5_0 : decode jdk_93_method_1_code 0 = .ok (.aload_n 0, 1) := by decide +kernel
theorem d5_1 : decode jdk_93_method_1_code 1 = .ok (.invokespecial 1, 3) := by decide +kernel
theorem d5_4 : decode jdk_93_method_1_code 4 = .ok (.aload_n 0, 1) := by decide +kernel
theorem d5_5 : decode jdk_93_method_1_code 5 = .ok (.new 7, 3) := by decide +kernel
theorem d5_8 : decode jdk_93_method_1_code 8 = .ok (.dup, 1) := by decide +kernel
theorem d5_9 : decode jdk_93_method_1_code 9 = .ok (.invokespecial 9, 3) := by decide +kernel
theorem d5_12 : decode jdk_93_method_1_code 12 = .ok (.putfield 10, 3) := by decide +kernel
theorem d5_15 : decode jdk_93_method_1_code 15 = .ok (.return_, 1) := by decide +kernel
theorem own_pnhs : plainFor (⟨"java/util/HashSet", "<init>", "()V"⟩ : MethodName) = true := by first | exact plainFor_of_name (by first | (simp [plainName, overriddenIn, x]; done) | decide +kernel) | decide +kernel
theorem own_efhs (a0_ : Addr) (m : MethodId) : entryFrame m #[(.ref a0_)] 1 = mkF m 0 #[.val (.ref a0_)] [] := by
  first | (simp [entryFrame, mkF, argsToLocals, Value.category]; done) | rfl
def own_qhs (a0_ : Addr) (Z : State) (h0 : Heap) (v : Option Value) (h : Heap) : Prop := v = none ∧ Keep h0 h [a0_]
set_option maxRecDepth 65536 in
set_option maxHeartbeats 40000000 in
theorem own_mhs (l : Launch) (Z : State) (a0 : Array Value) (hw : ∀ d ∈ tables_1, d.before a0 Z = true) (ws : List Jvm.Cond) (a0_ : Addr) (h0 : Heap) (n0 : Nat) (Z0 : n0 ≤ h0.size) (F1 : Exa Z h0 a0_ "java/util/HashSet") (F2 : Fld Z h0 a0_ "java/util/HashSet" "map" "Ljava/util/HashMap;" (.null)) (ge_a0_ : n0 ≤ a0_) :
    own_Met l Z (⟨"java/util/HashSet", "<init>", "()V"⟩ : MethodName) jdk_93_method_1_code 1 none ws ({ frames := 3, cells := 1, slots := 8, locals := 38 } : Room) #[(.ref a0_)] h0 n0 (own_qhs a0_ Z h0) := by
  refine own_enter (own := "java/util/HashSet") (nm := "<init>") rfl rfl own_pnhs (own_efhs a0_) ?_
  intro p e s m below meth c T0 X0
  have K3 := (Keep.refl h0 [a0_])
  refine own_aloadN X0 d5_0 rfl rfl rfl ?_
  refine own_callI X0 rfl (hw _ (List.mem_of_getElem? (i := 36) rfl)) (hw _ (List.mem_of_getElem? (i := 37) rfl)) (hw _ (List.mem_of_getElem? (i := 40) rfl)) (hw _ (List.mem_of_getElem? (i := 41) rfl)) (by decide) (a := a0_) (argsL := []) (rest := []) (own_mas l Z a0 hw [] a0_ _ _ Z0 ) (pd_6) rfl d5_1 rfl rfl rfl (W := 0) rfl (by decide) (by decide) (cells' := 0) (slots' := 0) rfl rfl (by decide) (by decide) (fun v T5 h7 X6 q8 => ?_)
  obtain ⟨rfl, rfl⟩ := q8
  show own_Fin p e below (own_End s n0 (own_qhs a0_ Z h0) ({ frames := 3, cells := 1, slots := 8, locals := 38 } : Room).cells ({ frames := 3, cells := 1, slots := 8, locals := 38 } : Room).slots) (T5.setTop (mkF m 4 #[.val (.ref a0_)] []))
  refine own_aloadN X6 d5_4 rfl rfl rfl ?_
  refine own_new X6 (hw _ (List.mem_of_getElem? (i := 49) rfl)) (hw _ (List.mem_of_getElem? (i := 50) rfl)) (hw _ (List.mem_of_getElem? (i := 51) rfl)) d5_5 rfl (cells' := 1) (slots' := 8) rfl rfl (by decide) (by decide) (fun T9 h11 a15 g16 X10 E12 A13 D14 => ?_)
  have ge_a15 : n0 ≤ a15 := Nat.le_trans Z0 (Nat.le_of_eq g16.symm)
  have ne_a0__a15 : a0_ ≠ a15 := Nat.ne_of_lt (g16 ▸ F1.lt)
  have fr_a15 : h0.size ≤ a15 := Nat.le_trans K3.1 (Nat.le_of_eq g16.symm)
  have F17 := D14 (Or.inr (hw _ (List.mem_of_getElem? (i := 65) rfl))) (ty := .float) (by decide)
  replace F17 : Fld Z h11 a15 "java/util/HashMap" "loadFactor" "F" (.float 0) := F17
  have F18 := (F1.ext E12)
  have F19 := (F2.ext E12)
  have Z20 : n0 ≤ h11.size := (Nat.le_trans Z0 E12.1)
  have K21 := (K3.ext E12)
  refine own_dup X10 d5_8 rfl rfl ?_
  refine own_callI X10 rfl (hw _ (List.mem_of_getElem? (i := 52) rfl)) (hw _ (List.mem_of_getElem? (i := 53) rfl)) (hw _ (List.mem_of_getElem? (i := 51) rfl)) (hw _ (List.mem_of_getElem? (i := 55) rfl)) (by decide) (a := a15) (argsL := []) (rest := [(.ref a15), (.ref a0_)]) (own_mhm l Z a0 hw [] a15 _ _ Z20 A13 F17 ge_a15) (pd_8) rfl d5_9 rfl rfl rfl (W := 2) rfl (by decide) (by decide) (cells' := 1) (slots' := 8) rfl rfl (by decide) (by decide) (fun v T23 h25 X24 q26 => ?_)
  obtain ⟨rfl, K22⟩ := q26
  show own_Fin p e below (own_End s n0 (own_qhs a0_ Z h0) ({ frames := 3, cells := 1, slots := 8, locals := 38 } : Room).cells ({ frames := 3, cells := 1, slots := 8, locals := 38 } : Room).slots) (T23.setTop (mkF m 12 #[.val (.ref a0_)] [(.ref a15), (.ref a0_)]))
  have F27 := (F18.keep K22)
  have F28 := (F19.keep K22 (ninS ne_a0__a15 nin0))
  have F29 := (A13.keep K22)
  have Z30 : n0 ≤ h25.size := (Nat.le_trans Z20 K22.1)
  have K31 := (K21.trans K22 (allS (P := fun x => x ∈ _ ∨ _ ≤ x) (Or.inr fr_a15) all0))
  refine own_putf X24 (hw _ (List.mem_of_getElem? (i := 66) rfl)) F28 F27 (Or.inl (hw _ (List.mem_of_getElem? (i := 67) rfl))) (hw _ (List.mem_of_getElem? (i := 31) rfl)) (ty := (.object "java/util/HashMap")) (by decide) rfl rfl ge_a0_ d5_12 rfl (fun T32 h34 X33 W35 => ?_)
  have F36 := (F27.wr W35)
  have F37 := (F28.same W35)
  have F38 := (F29.wr W35)
  have Z39 : n0 ≤ h34.size := (Nat.le_trans Z30 (Nat.le_of_eq W35.size.symm))
  have K40 := (K31.wr W35 (Or.inl (List.mem_of_getElem? (i := 0) rfl)))
  exact own_retV X33 rfl d5_15 ⟨rfl, K40⟩ (by decide) (by decide)
theorem d4_0 : decode prog_61_method_1_code 0 = .ok (.aload_n 0, 1) := by decide +kernel
theorem d4_1 : decode prog_61_method_1_code 1 = .ok (.invokespecial 1, 3) := by decide +kernel
theorem d4_4 : decode prog_61_method_1_code 4 = .ok (.aload_n 0, 1) := by decide +kernel
theorem d4_5 : decode prog_61_method_1_code 5 = .ok (.new 7, 3) := by decide +kernel
theorem d4_8 : decode prog_61_method_1_code 8 = .ok (.dup, 1) := by decide +kernel
theorem d4_9 : decode prog_61_method_1_code 9 = .ok (.invokespecial 9, 3) := by decide +kernel
theorem d4_12 : decode prog_61_method_1_code 12 = .ok (.putfield 10, 3) := by decide +kernel
theorem d4_15 : decode prog_61_method_1_code 15 = .ok (.aload_n 0, 1) := by decide +kernel
theorem d4_16 : decode prog_61_method_1_code 16 = .ok (.iload_n 1, 1) := by decide +kernel
theorem d4_17 : decode prog_61_method_1_code 17 = .ok (.putfield 16, 3) := by decide +kernel
theorem d4_20 : decode prog_61_method_1_code 20 = .ok (.aload_n 0, 1) := by decide +kernel
theorem d4_21 : decode prog_61_method_1_code 21 = .ok (.aload_n 2, 1) := by decide +kernel
theorem d4_22 : decode prog_61_method_1_code 22 = .ok (.putfield 20, 3) := by decide +kernel
theorem d4_25 : decode prog_61_method_1_code 25 = .ok (.aload_n 0, 1) := by decide +kernel
theorem d4_26 : decode prog_61_method_1_code 26 = .ok (.getfield 20, 3) := by decide +kernel
theorem d4_29 : decode prog_61_method_1_code 29 = .ok (.iload_n 1, 1) := by decide +kernel
theorem d4_30 : decode prog_61_method_1_code 30 = .ok (.iconst 1, 1) := by decide +kernel
theorem d4_31 : decode prog_61_method_1_code 31 = .ok (.invokevirtual 24, 3) := by decide +kernel
theorem d4_34 : decode prog_61_method_1_code 34 = .ok (.aload_n 0, 1) := by decide +kernel
theorem d4_35 : decode prog_61_method_1_code 35 = .ok (.iload_n 3, 1) := by decide +kernel
theorem d4_36 : decode prog_61_method_1_code 36 = .ok (.ifCond .eq 13, 3) := by decide +kernel
theorem d4_49 : decode prog_61_method_1_code 49 = .ok (.aconst_null, 1) := by decide +kernel
theorem d4_50 : decode prog_61_method_1_code 50 = .ok (.putfield 33, 3) := by decide +kernel
theorem d4_53 : decode prog_61_method_1_code 53 = .ok (.aload_n 0, 1) := by decide +kernel
theorem d4_54 : decode prog_61_method_1_code 54 = .ok (.iload_n 3, 1) := by decide +kernel
theorem d4_55 : decode prog_61_method_1_code 55 = .ok (.ifCond .eq 13, 3) := by decide +kernel
theorem d4_68 : decode prog_61_method_1_code 68 = .ok (.aconst_null, 1) := by decide +kernel
theorem d4_69 : decode prog_61_method_1_code 69 = .ok (.putfield 41, 3) := by decide +kernel
theorem d4_72 : decode prog_61_method_1_code 72 = .ok (.return_, 1) := by decide +kernel
theorem own_pnts : plainFor (⟨"com/example/racewright/racewright/happensbefore/ThreadState", "<init>", "(ILcom/example/racewright/racewright/happensbefore/VectorClock;Z)V"⟩ : MethodName) = true := by first | exact plainFor_of_name (by first | (simp [plainName, overriddenIn, x]; done) | decide +kernel) | decide +kernel
theorem own_efts (a0_ : Addr) (ni : Nat) (c_ : Addr) (m : MethodId) : entryFrame m #[(.ref a0_), (.int ni.toInt32), (.ref c_), (.int (0 : Int32))] 4 = mkF m 0 #[.val (.ref a0_), .val (.int ni.toInt32), .val (.ref c_), .val (.int (0 : Int32))] [] := by
  first | (simp [entryFrame, mkF, argsToLocals, Value.category]; done) | rfl
def own_qts (a0_ : Addr) (ni : Nat) (c_ : Addr) (t_ : Addr) (u_ : Addr) (n : Nat) (k : Nat) (Z : State) (h0 : Heap) (v : Option Value) (h : Heap) : Prop := ∃ (t2_ : Addr) (u2_ : Addr), v = none ∧ Keep h0 h [a0_, c_, t_, u_] ∧ Fld Z h a0_ "com/example/racewright/racewright/happensbefore/ThreadState" "id" "I" (.int ni.toInt32) ∧ Fld Z h a0_ "com/example/racewright/racewright/happensbefore/ThreadState" "clock" "Lcom/example/racewright/racewright/happensbefore/VectorClock;" (.ref c_) ∧ Fld Z h a0_ "com/example/racewright/racewright/happensbefore/ThreadState" "unscheduled" "Z" (.int (0 : Int32)) ∧ Fld Z h a0_ "com/example/racewright/racewright/happensbefore/ThreadState" "additions" "Ljava/lang/Object;" (.null) ∧ Fld Z h c_ "com/example/racewright/racewright/happensbefore/VectorClock" "ticks" "[I" (.ref t2_) ∧ Fld Z h c_ "com/example/racewright/racewright/happensbefore/VectorClock" "apart" "[I" (.ref u2_) ∧ own_IA Z h t2_ (own_len ni n) ∧ own_IA Z h u2_ (own_len ni k) ∧ (t2_ = t_ ∨ h0.size ≤ t2_) ∧ (u2_ = u_ ∨ h0.size ≤ u2_) ∧ t2_ ≠ u2_
set_option maxRecDepth 65536 in
set_option maxHeartbeats 40000000 in
theorem own_mts (l : Launch) (Z : State) (a0 : Array Value) (hw : ∀ d ∈ tables_1, d.before a0 Z = true) (ws : List Jvm.Cond) (a0_ : Addr) (ni : Nat) (c_ : Addr) (t_ : Addr) (u_ : Addr) (n : Nat) (k : Nat) (h0 : Heap) (n0 : Nat) (Z0 : n0 ≤ h0.size) (F1 : Exa Z h0 a0_ "com/example/racewright/racewright/happensbefore/ThreadState") (F2 : Fld Z h0 a0_ "com/example/racewright/racewright/happensbefore/ThreadState" "usedClasses" "Ljava/util/Set;" (.null)) (F3 : Fld Z h0 a0_ "com/example/racewright/racewright/happensbefore/ThreadState" "id" "I" (.int (0 : Int32))) (F4 : Fld Z h0 a0_ "com/example/racewright/racewright/happensbefore/ThreadState" "clock" "Lcom/example/racewright/racewright/happensbefore/VectorClock;" (.null)) (F5 : Fld Z h0 a0_ "com/example/racewright/racewright/happensbefore/ThreadState" "acquisitions" "Ljava/util/List;" (.null)) (F6 : Fld Z h0 a0_ "com/example/racewright/racewright/happensbefore/ThreadState" "started" "Lcom/example/racewright/racewright/happensbefore/VectorClock;" (.null)) (F7 : Fld Z h0 a0_ "com/example/racewright/racewright/happensbefore/ThreadState" "unscheduled" "Z" (.int (0 : Int32))) (F8 : Fld Z h0 a0_ "com/example/racewright/racewright/happensbefore/ThreadState" "additions" "Ljava/lang/Object;" (.null)) (F9 : Exa Z h0 c_ "com/example/racewright/racewright/happensbefore/VectorClock") (F10 : Fld Z h0 c_ "com/example/racewright/racewright/happensbefore/VectorClock" "ticks" "[I" (.ref t_)) (F11 : Fld Z h0 c_ "com/example/racewright/racewright/happensbefore/VectorClock" "apart" "[I" (.ref u_)) (F12 : own_IA Z h0 t_ n) (F13 : own_IA Z h0 u_ k) (ge_a0_ : n0 ≤ a0_) (ge_c_ : n0 ≤ c_) (ge_t_ : n0 ≤ t_) (ge_u_ : n0 ≤ u_) (ne_a0__c_ : a0_ ≠ c_) (ne_a0__t_ : a0_ ≠ t_) (ne_a0__u_ : a0_ ≠ u_) (ne_c__t_ : c_ ≠ t_) (ne_c__u_ : c_ ≠ u_) (ne_t__u_ : t_ ≠ u_) (hni : ni < 8) (hn : n ≤ ni → 2 * n ≤ 8) (hn8 : n ≤ 8) (hk : k ≤ ni → 2 * k ≤ 8) (hk8 : k ≤ 8) :
    own_Met l Z (⟨"com/example/racewright/racewright/happensbefore/ThreadState", "<init>", "(ILcom/example/racewright/racewright/happensbefore/VectorClock;Z)V"⟩ : MethodName) prog_61_method_1_code 4 none ws ({ frames := 4, cells := 4, slots := 25, locals := 68 } : Room) #[(.ref a0_), (.int ni.toInt32), (.ref c_), (.int (0 : Int32))] h0 n0 (own_qts a0_ ni c_ t_ u_ n k Z h0) := by
  refine own_enter (own := "com/example/racewright/racewright/happensbefore/ThreadState") (nm := "<init>") rfl rfl own_pnts (own_efts a0_ ni c_) ?_
  intro p e s m below meth c T0 X0
  have K14 := (Keep.refl h0 [a0_, c_, t_, u_])
  refine own_aloadN X0 d4_0 rfl rfl rfl ?_
  refine own_initO X0 (hw _ (List.mem_of_getElem? (i := 29) rfl)) (hw _ (List.mem_of_getElem? (i := 7) rfl)) (hw _ (List.mem_of_getElem? (i := 8) rfl)) d4_1 rfl rfl (by decide) (W := 0) rfl (by decide) (fun T15 X16 => ?_)
  refine own_aloadN X16 d4_4 rfl rfl rfl ?_
  refine own_new X16 (hw _ (List.mem_of_getElem? (i := 30) rfl)) (hw _ (List.mem_of_getElem? (i := 31) rfl)) (hw _ (List.mem_of_getElem? (i := 32) rfl)) d4_5 rfl (cells' := 1) (slots' := 1) rfl rfl (by decide) (by decide) (fun T17 h19 a23 g24 X18 E20 A21 D22 => ?_)
  have ge_a23 : n0 ≤ a23 := Nat.le_trans Z0 (Nat.le_of_eq g24.symm)
  have ne_a0__a23 : a0_ ≠ a23 := Nat.ne_of_lt (g24 ▸ F1.lt)
  have ne_c__a23 : c_ ≠ a23 := Nat.ne_of_lt (g24 ▸ F9.lt)
  have ne_t__a23 : t_ ≠ a23 := Nat.ne_of_lt (g24 ▸ F12.lt)
  have ne_u__a23 : u_ ≠ a23 := Nat.ne_of_lt (g24 ▸ F13.lt)
  have fr_a23 : h0.size ≤ a23 := Nat.le_trans K14.1 (Nat.le_of_eq g24.symm)
  have F25 := D22 (Or.inl (hw _ (List.mem_of_getElem? (i := 67) rfl))) (ty := (.object "java/util/HashMap")) (by decide)
  replace F25 : Fld Z h19 a23 "java/util/HashSet" "map" "Ljava/util/HashMap;" (.null) := F25
  have F26 := (F1.ext E20)
  have F27 := (F2.ext E20)
  have F28 := (F3.ext E20)
  have F29 := (F4.ext E20)
  have F30 := (F5.ext E20)
  have F31 := (F6.ext E20)
  have F32 := (F7.ext E20)
  have F33 := (F8.ext E20)
  have F34 := (F9.ext E20)
  have F35 := (F10.ext E20)
  have F36 := (F11.ext E20)
  have F37 := (F12.ext E20)
  have F38 := (F13.ext E20)
  have Z39 : n0 ≤ h19.size := (Nat.le_trans Z0 E20.1)
  have K40 := (K14.ext E20)
  refine own_dup X18 d4_8 rfl rfl ?_
  refine own_callI X18 rfl (hw _ (List.mem_of_getElem? (i := 33) rfl)) (hw _ (List.mem_of_getElem? (i := 34) rfl)) (hw _ (List.mem_of_getElem? (i := 32) rfl)) (hw _ (List.mem_of_getElem? (i := 35) rfl)) (by decide) (a := a23) (argsL := []) (rest := [(.ref a23), (.ref a0_)]) (own_mhs l Z a0 hw [] a23 _ _ Z39 A21 F25 ge_a23) (pd_5) rfl d4_9 rfl rfl rfl (W := 2) rfl (by decide) (by decide) (cells' := 2) (slots' := 9) rfl rfl (by decide) (by decide) (fun v T42 h44 X43 q45 => ?_)
  obtain ⟨rfl, K41⟩ := q45
  show own_Fin p e below (own_End s n0 (own_qts a0_ ni c_ t_ u_ n k Z h0) ({ frames := 4, cells := 4, slots := 25, locals := 68 } : Room).cells ({ frames := 4, cells := 4, slots := 25, locals := 68 } : Room).slots) (T42.setTop (mkF m 12 #[.val (.ref a0_), .val (.int ni.toInt32), .val (.ref c_), .val (.int (0 : Int32))] [(.ref a23), (.ref a0_)]))
  have F46 := (F26.keep K41)
  have F47 := (F27.keep K41 (ninS ne_a0__a23 nin0))
  have F48 := (F28.keep K41 (ninS ne_a0__a23 nin0))
  have F49 := (F29.keep K41 (ninS ne_a0__a23 nin0))
  have F50 := (F30.keep K41 (ninS ne_a0__a23 nin0))
  have F51 := (F31.keep K41 (ninS ne_a0__a23 nin0))
  have F52 := (F32.keep K41 (ninS ne_a0__a23 nin0))
  have F53 := (F33.keep K41 (ninS ne_a0__a23 nin0))
  have F54 := (F34.keep K41)
  have F55 := (F35.keep K41 (ninS ne_c__a23 nin0))
  have F56 := (F36.keep K41 (ninS ne_c__a23 nin0))
  have F57 := (F37.keep K41 (ninS ne_t__a23 nin0))
  have F58 := (F38.keep K41 (ninS ne_u__a23 nin0))
  have F59 := (A21.keep K41)
  have Z60 : n0 ≤ h44.size := (Nat.le_trans Z39 K41.1)
  have K61 := (K40.trans K41 (allS (P := fun x => x ∈ _ ∨ _ ≤ x) (Or.inr fr_a23) all0))
  refine own_putf X43 (hw _ (List.mem_of_getElem? (i := 68) rfl)) F47 F46 (Or.inr ⟨(hw _ (List.mem_of_getElem? (i := 69) rfl)), rfl, rfl⟩) (hw _ (List.mem_of_getElem? (i := 12) rfl)) (ty := (.object "java/util/Set")) (by decide) rfl rfl ge_a0_ d4_12 rfl (fun T62 h64 X63 W65 => ?_)
  have F66 := (F46.wr W65)
  have F67 := (F47.same W65)
  have F68 := (F48.other W65 (Or.inr (slot_ne (Or.inr (hw _ (List.mem_of_getElem? (i := 71) rfl))) (Or.inr (hw _ (List.mem_of_getElem? (i := 69) rfl))) (by decide) (t := .int) (t' := (.object "java/util/Set")) (by decide) (by decide))))
  have F69 := (F49.other W65 (Or.inr (slot_ne (Or.inr (hw _ (List.mem_of_getElem? (i := 73) rfl))) (Or.inr (hw _ (List.mem_of_getElem? (i := 69) rfl))) (by decide) (t := (.object "com/example/racewright/racewright/happensbefore/VectorClock")) (t' := (.object "java/util/Set")) (by decide) (by decide))))
  have F70 := (F50.other W65 (Or.inr (slot_ne (Or.inr (hw _ (List.mem_of_getElem? (i := 98) rfl))) (Or.inr (hw _ (List.mem_of_getElem? (i := 69) rfl))) (by decide) (t := (.object "java/util/List")) (t' := (.object "java/util/Set")) (by decide) (by decide))))
  have F71 := (F51.other W65 (Or.inr (slot_ne (Or.inr (hw _ (List.mem_of_getElem? (i := 100) rfl))) (Or.inr (hw _ (List.mem_of_getElem? (i := 69) rfl))) (by decide) (t := (.object "com/example/racewright/racewright/happensbefore/VectorClock")) (t' := (.object "java/util/Set")) (by decide) (by decide))))
  have F72 := (F52.other W65 (Or.inr (slot_ne (Or.inl (hw _ (List.mem_of_getElem? (i := 102) rfl))) (Or.inr (hw _ (List.mem_of_getElem? (i := 69) rfl))) (by decide) (t := .boolean) (t' := (.object "java/util/Set")) (by decide) (by decide))))
  have F73 := (F53.other W65 (Or.inr (slot_ne (Or.inl (hw _ (List.mem_of_getElem? (i := 114) rfl))) (Or.inr (hw _ (List.mem_of_getElem? (i := 69) rfl))) (by decide) (t := (.object "java/lang/Object")) (t' := (.object "java/util/Set")) (by decide) (by decide))))
  have F74 := (F54.wr W65)
  have F75 := (F55.other W65 (Or.inl (Ne.symm ne_a0__c_)))
  have F76 := (F56.other W65 (Or.inl (Ne.symm ne_a0__c_)))
  have F77 := (F57.other W65 (Ne.symm ne_a0__t_))
  have F78 := (F58.other W65 (Ne.symm ne_a0__u_))
  have F79 := (F59.wr W65)
  have Z80 : n0 ≤ h64.size := (Nat.le_trans Z60 (Nat.le_of_eq W65.size.symm))
  have K81 := (K61.wr W65 (Or.inl (List.mem_of_getElem? (i := 0) rfl)))
  refine own_aloadN X63 d4_15 rfl rfl rfl ?_
  refine own_iloadN X63 d4_16 rfl rfl ?_
  refine own_putf X63 (hw _ (List.mem_of_getElem? (i := 70) rfl)) F68 F66 (Or.inr ⟨(hw _ (List.mem_of_getElem? (i := 71) rfl)), rfl, rfl⟩) (hw _ (List.mem_of_getElem? (i := 12) rfl)) (ty := .int) (by decide) rfl rfl ge_a0_ d4_17 rfl (fun T82 h84 X83 W85 => ?_)
  have F86 := (F66.wr W85)
  have F87 := (F67.other W85 (Or.inr (slot_ne (Or.inr (hw _ (List.mem_of_getElem? (i := 69) rfl))) (Or.inr (hw _ (List.mem_of_getElem? (i := 71) rfl))) (by decide) (t := (.object "java/util/Set")) (t' := .int) (by decide) (by decide))))
  have F88 := (F68.same W85)
  have F89 := (F69.other W85 (Or.inr (slot_ne (Or.inr (hw _ (List.mem_of_getElem? (i := 73) rfl))) (Or.inr (hw _ (List.mem_of_getElem? (i := 71) rfl))) (by decide) (t := (.object "com/example/racewright/racewright/happensbefore/VectorClock")) (t' := .int) (by decide) (by decide))))
  have F90 := (F70.other W85 (Or.inr (slot_ne (Or.inr (hw _ (List.mem_of_getElem? (i := 98) rfl))) (Or.inr (hw _ (List.mem_of_getElem? (i := 71) rfl))) (by decide) (t := (.object "java/util/List")) (t' := .int) (by decide) (by decide))))
  have F91 := (F71.other W85 (Or.inr (slot_ne (Or.inr (hw _ (List.mem_of_getElem? (i := 100) rfl))) (Or.inr (hw _ (List.mem_of_getElem? (i := 71) rfl))) (by decide) (t := (.object "com/example/racewright/racewright/happensbefore/VectorClock")) (t' := .int) (by decide) (by decide))))
  have F92 := (F72.other W85 (Or.inr (slot_ne (Or.inl (hw _ (List.mem_of_getElem? (i := 102) rfl))) (Or.inr (hw _ (List.mem_of_getElem? (i := 71) rfl))) (by decide) (t := .boolean) (t' := .int) (by decide) (by decide))))
  have F93 := (F73.other W85 (Or.inr (slot_ne (Or.inl (hw _ (List.mem_of_getElem? (i := 114) rfl))) (Or.inr (hw _ (List.mem_of_getElem? (i := 71) rfl))) (by decide) (t := (.object "java/lang/Object")) (t' := .int) (by decide) (by decide))))
  have F94 := (F74.wr W85)
  have F95 := (F75.other W85 (Or.inl (Ne.symm ne_a0__c_)))
  have F96 := (F76.other W85 (Or.inl (Ne.symm ne_a0__c_)))
  have F97 := (F77.other W85 (Ne.symm ne_a0__t_))
  have F98 := (F78.other W85 (Ne.symm ne_a0__u_))
  have F99 := (F79.wr W85)
  have Z100 : n0 ≤ h84.size := (Nat.le_trans Z80 (Nat.le_of_eq W85.size.symm))
  have K101 := (K81.wr W85 (Or.inl (List.mem_of_getElem? (i := 0) rfl)))
  refine own_aloadN X83 d4_20 rfl rfl rfl ?_
  refine own_aloadN X83 d4_21 rfl rfl rfl ?_
  refine own_putf X83 (hw _ (List.mem_of_getElem? (i := 72) rfl)) F89 F86 (Or.inr ⟨(hw _ (List.mem_of_getElem? (i := 73) rfl)), rfl, rfl⟩) (hw _ (List.mem_of_getElem? (i := 12) rfl)) (ty := (.object "com/example/racewright/racewright/happensbefore/VectorClock")) (by decide) rfl rfl ge_a0_ d4_22 rfl (fun T102 h104 X103 W105 => ?_)
  have F106 := (F86.wr W105)
  have F107 := (F87.other W105 (Or.inr (slot_ne (Or.inr (hw _ (List.mem_of_getElem? (i := 69) rfl))) (Or.inr (hw _ (List.mem_of_getElem? (i := 73) rfl))) (by decide) (t := (.object "java/util/Set")) (t' := (.object "com/example/racewright/racewright/happensbefore/VectorClock")) (by decide) (by decide))))
  have F108 := (F88.other W105 (Or.inr (slot_ne (Or.inr (hw _ (List.mem_of_getElem? (i := 71) rfl))) (Or.inr (hw _ (List.mem_of_getElem? (i := 73) rfl))) (by decide) (t := .int) (t' := (.object "com/example/racewright/racewright/happensbefore/VectorClock")) (by decide) (by decide))))
  have F109 := (F89.same W105)
  have F110 := (F90.other W105 (Or.inr (slot_ne (Or.inr (hw _ (List.mem_of_getElem? (i := 98) rfl))) (Or.inr (hw _ (List.mem_of_getElem? (i := 73) rfl))) (by decide) (t := (.object "java/util/List")) (t' := (.object "com/example/racewright/racewright/happensbefore/VectorClock")) (by decide) (by decide))))
  have F111 := (F91.other W105 (Or.inr (slot_ne (Or.inr (hw _ (List.mem_of_getElem? (i := 100) rfl))) (Or.inr (hw _ (List.mem_of_getElem? (i := 73) rfl))) (by decide) (t := (.object "com/example/racewright/racewright/happensbefore/VectorClock")) (t' := (.object "com/example/racewright/racewright/happensbefore/VectorClock")) (by decide) (by decide))))
  have F112 := (F92.other W105 (Or.inr (slot_ne (Or.inl (hw _ (List.mem_of_getElem? (i := 102) rfl))) (Or.inr (hw _ (List.mem_of_getElem? (i := 73) rfl))) (by decide) (t := .boolean) (t' := (.object "com/example/racewright/racewright/happensbefore/VectorClock")) (by decide) (by decide))))
  have F113 := (F93.other W105 (Or.inr (slot_ne (Or.inl (hw _ (List.mem_of_getElem? (i := 114) rfl))) (Or.inr (hw _ (List.mem_of_getElem? (i := 73) rfl))) (by decide) (t := (.object "java/lang/Object")) (t' := (.object "com/example/racewright/racewright/happensbefore/VectorClock")) (by decide) (by decide))))
  have F114 := (F94.wr W105)
  have F115 := (F95.other W105 (Or.inl (Ne.symm ne_a0__c_)))
  have F116 := (F96.other W105 (Or.inl (Ne.symm ne_a0__c_)))
  have F117 := (F97.other W105 (Ne.symm ne_a0__t_))
  have F118 := (F98.other W105 (Ne.symm ne_a0__u_))
  have F119 := (F99.wr W105)
  have Z120 : n0 ≤ h104.size := (Nat.le_trans Z100 (Nat.le_of_eq W105.size.symm))
  have K121 := (K101.wr W105 (Or.inl (List.mem_of_getElem? (i := 0) rfl)))
  refine own_aloadN X103 d4_25 rfl rfl rfl ?_
  refine own_getf X103 (hw _ (List.mem_of_getElem? (i := 72) rfl)) F109 d4_26 rfl (fun T122 X123 => ?_)
  refine own_iloadN X123 d4_29 rfl rfl ?_
  refine own_iconst X123 (1 : Int32) d4_30 rfl (by decide) ?_
  refine own_callV X123 (hw _ (List.mem_of_getElem? (i := 74) rfl)) (hw _ (List.mem_of_getElem? (i := 75) rfl)) (hw _ (List.mem_of_getElem? (i := 77) rfl)) (hw _ (List.mem_of_getElem? (i := 76) rfl)) (hw _ (List.mem_of_getElem? (i := 16) rfl)) (hw _ (List.mem_of_getElem? (i := 78) rfl)) (by decide) (a := c_) (argsL := [(.int ni.toInt32), (.int (1 : Int32))]) (rest := []) (own_msv l Z a0 hw [] c_ ni (1 : Int32) t_ u_ n k _ _ Z120 F114 F115 F116 F117 F118 ge_c_ ge_t_ ge_u_ ne_c__t_ ne_c__u_ ne_t__u_ hni hn hn8 hk hk8) F114 (pd_10) rfl d4_31 rfl rfl rfl (W := 0) rfl (by decide) (by decide) (cells' := 4) (slots' := 25) rfl rfl (by decide) (by decide) (fun v T134 h136 X135 q137 => ?_)
  obtain ⟨t2124, u2125, rfl, K133, F126, F127, F128, F129, F130, F131, F132⟩ := q137
  show own_Fin p e below (own_End s n0 (own_qts a0_ ni c_ t_ u_ n k Z h0) ({ frames := 4, cells := 4, slots := 25, locals := 68 } : Room).cells ({ frames := 4, cells := 4, slots := 25, locals := 68 } : Room).slots) (T134.setTop (mkF m 34 #[.val (.ref a0_), .val (.int ni.toInt32), .val (.ref c_), .val (.int (0 : Int32))] []))
  have F138 := (F106.keep K133)
  have F139 := (F107.keep K133 (ninS ne_a0__c_ (ninS ne_a0__t_ (ninS ne_a0__u_ nin0))))
  have F140 := (F108.keep K133 (ninS ne_a0__c_ (ninS ne_a0__t_ (ninS ne_a0__u_ nin0))))
  have F141 := (F109.keep K133 (ninS ne_a0__c_ (ninS ne_a0__t_ (ninS ne_a0__u_ nin0))))
  have F142 := (F110.keep K133 (ninS ne_a0__c_ (ninS ne_a0__t_ (ninS ne_a0__u_ nin0))))
  have F143 := (F111.keep K133 (ninS ne_a0__c_ (ninS ne_a0__t_ (ninS ne_a0__u_ nin0))))
  have F144 := (F112.keep K133 (ninS ne_a0__c_ (ninS ne_a0__t_ (ninS ne_a0__u_ nin0))))
  have F145 := (F113.keep K133 (ninS ne_a0__c_ (ninS ne_a0__t_ (ninS ne_a0__u_ nin0))))
  have F146 := (F114.keep K133)
  have F147 := (F119.keep K133)
  have Z148 : n0 ≤ h136.size := (Nat.le_trans Z120 K133.1)
  have K149 := (K121.trans K133 (allS (P := fun x => x ∈ _ ∨ _ ≤ x) (Or.inl (List.mem_of_getElem? (i := 1) rfl)) (allS (P := fun x => x ∈ _ ∨ _ ≤ x) (Or.inl (List.mem_of_getElem? (i := 2) rfl)) (allS (P := fun x => x ∈ _ ∨ _ ≤ x) (Or.inl (List.mem_of_getElem? (i := 3) rfl)) all0))))
  have ge_t2124 : n0 ≤ t2124 := F130.elim (fun q => q ▸ ge_t_) (fun q => Nat.le_trans Z120 q)
  have ne_a0__t2124 : a0_ ≠ t2124 := F130.elim (fun q => q ▸ ne_a0__t_) (fun q => Nat.ne_of_lt (Nat.lt_of_lt_of_le F106.lt q))
  have ne_c__t2124 : c_ ≠ t2124 := F130.elim (fun q => q ▸ ne_c__t_) (fun q => Nat.ne_of_lt (Nat.lt_of_lt_of_le F114.lt q))
  have ne_u__t2124 : u_ ≠ t2124 := F130.elim (fun q => q ▸ (Ne.symm ne_t__u_)) (fun q => Nat.ne_of_lt (Nat.lt_of_lt_of_le F118.lt q))
  have ne_a23_t2124 : a23 ≠ t2124 := F130.elim (fun q => q ▸ (Ne.symm ne_t__a23)) (fun q => Nat.ne_of_lt (Nat.lt_of_lt_of_le F119.lt q))
  have ge_u2125 : n0 ≤ u2125 := F131.elim (fun q => q ▸ ge_u_) (fun q => Nat.le_trans Z120 q)
  have ne_a0__u2125 : a0_ ≠ u2125 := F131.elim (fun q => q ▸ ne_a0__u_) (fun q => Nat.ne_of_lt (Nat.lt_of_lt_of_le F106.lt q))
  have ne_c__u2125 : c_ ≠ u2125 := F131.elim (fun q => q ▸ ne_c__u_) (fun q => Nat.ne_of_lt (Nat.lt_of_lt_of_le F114.lt q))
  have ne_t__u2125 : t_ ≠ u2125 := F131.elim (fun q => q ▸ ne_t__u_) (fun q => Nat.ne_of_lt (Nat.lt_of_lt_of_le F117.lt q))
  have ne_a23_u2125 : a23 ≠ u2125 := F131.elim (fun q => q ▸ (Ne.symm ne_u__a23)) (fun q => Nat.ne_of_lt (Nat.lt_of_lt_of_le F119.lt q))
  have pt : t2124 = t_ ∨ h0.size ≤ t2124 := F130.imp id (fun q => Nat.le_trans K121.1 q)
  have pu : u2125 = u_ ∨ h0.size ≤ u2125 := F131.imp id (fun q => Nat.le_trans K121.1 q)
  refine own_aloadN X135 d4_34 rfl rfl rfl ?_
  refine own_iloadN X135 d4_35 rfl rfl ?_
  refine own_if_eq X135 d4_36 (by decide) (pcT := 49) (by decide) rfl (fun hc => ?_) (fun hc => absurd hc (by decide))
  refine own_aconst_null X135 d4_49 rfl ?_
  refine own_putf X135 (hw _ (List.mem_of_getElem? (i := 97) rfl)) F142 F138 (Or.inr ⟨(hw _ (List.mem_of_getElem? (i := 98) rfl)), rfl, rfl⟩) (hw _ (List.mem_of_getElem? (i := 12) rfl)) (ty := (.object "java/util/List")) (by decide) rfl rfl ge_a0_ d4_50 rfl (fun T150 h152 X151 W153 => ?_)
  have F154 := (F138.wr W153)
  have F155 := (F139.other W153 (Or.inr (slot_ne (Or.inr (hw _ (List.mem_of_getElem? (i := 69) rfl))) (Or.inr (hw _ (List.mem_of_getElem? (i := 98) rfl))) (by decide) (t := (.object "java/util/Set")) (t' := (.object "java/util/List")) (by decide) (by decide))))
  have F156 := (F140.other W153 (Or.inr (slot_ne (Or.inr (hw _ (List.mem_of_getElem? (i := 71) rfl))) (Or.inr (hw _ (List.mem_of_getElem? (i := 98) rfl))) (by decide) (t := .int) (t' := (.object "java/util/List")) (by decide) (by decide))))
  have F157 := (F141.other W153 (Or.inr (slot_ne (Or.inr (hw _ (List.mem_of_getElem? (i := 73) rfl))) (Or.inr (hw _ (List.mem_of_getElem? (i := 98) rfl))) (by decide) (t := (.object "com/example/racewright/racewright/happensbefore/VectorClock")) (t' := (.object "java/util/List")) (by decide) (by decide))))
  have F158 := (F142.same W153)
  have F159 := (F143.other W153 (Or.inr (slot_ne (Or.inr (hw _ (List.mem_of_getElem? (i := 100) rfl))) (Or.inr (hw _ (List.mem_of_getElem? (i := 98) rfl))) (by decide) (t := (.object "com/example/racewright/racewright/happensbefore/VectorClock")) (t' := (.object "java/util/List")) (by decide) (by decide))))
  have F160 := (F144.other W153 (Or.inr (slot_ne (Or.inl (hw _ (List.mem_of_getElem? (i := 102) rfl))) (Or.inr (hw _ (List.mem_of_getElem? (i := 98) rfl))) (by decide) (t := .boolean) (t' := (.object "java/util/List")) (by decide) (by decide))))
  have F161 := (F145.other W153 (Or.inr (slot_ne (Or.inl (hw _ (List.mem_of_getElem? (i := 114) rfl))) (Or.inr (hw _ (List.mem_of_getElem? (i := 98) rfl))) (by decide) (t := (.object "java/lang/Object")) (t' := (.object "java/util/List")) (by decide) (by decide))))
  have F162 := (F146.wr W153)
  have F163 := (F147.wr W153)
  have F164 := (F126.other W153 (Or.inl (Ne.symm ne_a0__c_)))
  have F165 := (F127.other W153 (Or.inl (Ne.symm ne_a0__c_)))
  have F166 := (F128.other W153 (Ne.symm ne_a0__t2124))
  have F167 := (F129.other W153 (Ne.symm ne_a0__u2125))
  have Z168 : n0 ≤ h152.size := (Nat.le_trans Z148 (Nat.le_of_eq W153.size.symm))
  have K169 := (K149.wr W153 (Or.inl (List.mem_of_getElem? (i := 0) rfl)))
  refine own_aloadN X151 d4_53 rfl rfl rfl ?_
  refine own_iloadN X151 d4_54 rfl rfl ?_
  refine own_if_eq X151 d4_55 (by decide) (pcT := 68) (by decide) rfl (fun hc => ?_) (fun hc => absurd hc (by decide))
  refine own_aconst_null X151 d4_68 rfl ?_
  refine own_putf X151 (hw _ (List.mem_of_getElem? (i := 99) rfl)) F159 F154 (Or.inr ⟨(hw _ (List.mem_of_getElem? (i := 100) rfl)), rfl, rfl⟩) (hw _ (List.mem_of_getElem? (i := 12) rfl)) (ty := (.object "com/example/racewright/racewright/happensbefore/VectorClock")) (by decide) rfl rfl ge_a0_ d4_69 rfl (fun T170 h172 X171 W173 => ?_)
  have F174 := (F154.wr W173)
  have F175 := (F155.other W173 (Or.inr (slot_ne (Or.inr (hw _ (List.mem_of_getElem? (i := 69) rfl))) (Or.inr (hw _ (List.mem_of_getElem? (i := 100) rfl))) (by decide) (t := (.object "java/util/Set")) (t' := (.object "com/example/racewright/racewright/happensbefore/VectorClock")) (by decide) (by decide))))
  have F176 := (F156.other W173 (Or.inr (slot_ne (Or.inr (hw _ (List.mem_of_getElem? (i := 71) rfl))) (Or.inr (hw _ (List.mem_of_getElem? (i := 100) rfl))) (by decide) (t := .int) (t' := (.object "com/example/racewright/racewright/happensbefore/VectorClock")) (by decide) (by decide))))
  have F177 := (F157.other W173 (Or.inr (slot_ne (Or.inr (hw _ (List.mem_of_getElem? (i := 73) rfl))) (Or.inr (hw _ (List.mem_of_getElem? (i := 100) rfl))) (by decide) (t := (.object "com/example/racewright/racewright/happensbefore/VectorClock")) (t' := (.object "com/example/racewright/racewright/happensbefore/VectorClock")) (by decide) (by decide))))
  have F178 := (F158.other W173 (Or.inr (slot_ne (Or.inr (hw _ (List.mem_of_getElem? (i := 98) rfl))) (Or.inr (hw _ (List.mem_of_getElem? (i := 100) rfl))) (by decide) (t := (.object "java/util/List")) (t' := (.object "com/example/racewright/racewright/happensbefore/VectorClock")) (by decide) (by decide))))
  have F179 := (F159.same W173)
  have F180 := (F160.other W173 (Or.inr (slot_ne (Or.inl (hw _ (List.mem_of_getElem? (i := 102) rfl))) (Or.inr (hw _ (List.mem_of_getElem? (i := 100) rfl))) (by decide) (t := .boolean) (t' := (.object "com/example/racewright/racewright/happensbefore/VectorClock")) (by decide) (by decide))))
  have F181 := (F161.other W173 (Or.inr (slot_ne (Or.inl (hw _ (List.mem_of_getElem? (i := 114) rfl))) (Or.inr (hw _ (List.mem_of_getElem? (i := 100) rfl))) (by decide) (t := (.object "java/lang/Object")) (t' := (.object "com/example/racewright/racewright/happensbefore/VectorClock")) (by decide) (by decide))))
  have F182 := (F162.wr W173)
  have F183 := (F163.wr W173)
  have F184 := (F164.other W173 (Or.inl (Ne.symm ne_a0__c_)))
  have F185 := (F165.other W173 (Or.inl (Ne.symm ne_a0__c_)))
  have F186 := (F166.other W173 (Ne.symm ne_a0__t2124))
  have F187 := (F167.other W173 (Ne.symm ne_a0__u2125))
  have Z188 : n0 ≤ h172.size := (Nat.le_trans Z168 (Nat.le_of_eq W173.size.symm))
  have K189 := (K169.wr W173 (Or.inl (List.mem_of_getElem? (i := 0) rfl)))
  exact own_retV X171 rfl d4_72 ⟨t2124, u2125, rfl, K189, F176, F177, F180, F181, F184, F185, F186, F187, pt, pu, F132⟩ (by decide) (by decide)

def own_rs (un rs : Int32) : Int32 := if un = (0 : Int32) then (1 : Int32) else rs
def own_ur (un ur id : Int32) : Int32 := if un = (0 : Int32) then ur else (if ur = ((-1) : Int32) then id else (if ur = id then id else ((-2) : Int32)))
def own_ra (ur rs q un : Int32) : Int32 := if un = (0 : Int32) then (if ur = ((-1) : Int32) then (0 : Int32) else (1 : Int32)) else (if rs = (0 : Int32) then (if ur = ((-1) : Int32) then (0 : Int32) else (if ur = q then (0 : Int32) else (1 : Int32))) else (1 : Int32))
/-- what the location knows: A some scheduled thread has read, B some unscheduled one, O q: one whose number isn't q -/
def own_Inv (rs ur : Int32) (A B : Prop) (O : Int32 → Prop) : Prop := (rs = 0 ↔ ¬ A) ∧ (ur = -1 ↔ ¬ B) ∧ (∀ q : Int32, ¬ q < 0 → ((¬ ur = -1 ∧ ¬ ur = q) ↔ O q))
theorem own_inv0 : own_Inv 0 (-1) False False (fun _ => False) := ⟨by simp, by simp, by simp⟩
theorem own_inv_read {rs ur un id : Int32} {A B : Prop} {O : Int32 → Prop} (h : own_Inv rs ur A B O) (hid : ¬ id < 0) : own_Inv (own_rs un rs) (own_ur un ur id) (A ∨ un = 0) (B ∨ ¬ un = 0) (fun q => O q ∨ (¬ un = 0 ∧ ¬ id = q)) := by
  obtain ⟨h1, h2, h3⟩ := h
  have i1 : ¬ id = -1 := fun z => hid (by rw [z]; decide)
  by_cases q0 : un = 0
  · simp only [own_rs, own_ur, q0, if_true, not_true, or_false, false_and, or_true, not_true]
    exact ⟨by simp, h2, h3⟩
  · simp only [own_rs, own_ur, q0, if_false, not_false_iff, or_false, or_true, true_and, not_true]
    refine ⟨h1, ?_, fun q hq => ?_⟩
    · by_cases q1 : ur = -1
      · simp [q1, i1]
      · by_cases q2 : ur = id
        · simp [q1, q2, i1]
        · simp [q1, q2]
    · have g3 := h3 q hq
      have n2 : ¬ (-2 : Int32) = q := fun z => hq (by rw [← z]; decide)
      by_cases q1 : ur = -1
      · have : ¬ O q := fun z => (g3.mpr z).1 q1
        simp [q1, i1, this]
      · by_cases q2 : ur = id
        · subst q2
          simp only [q1, if_true, if_false, not_false_iff, true_and] at g3 ⊢
          exact ⟨fun z => Or.inr z, fun z => z.elim g3.mpr id⟩
        · simp only [q1, q2, if_false]
          refine ⟨fun _ => ?_, fun _ => ⟨by decide, n2⟩⟩
          by_cases q3 : id = q
          · exact Or.inl (g3.mp ⟨q1, fun z => q2 (z.trans q3.symm)⟩)
          · exact Or.inr q3
theorem own_inv_if {P : Prop} [Decidable P] {rs ur rs' ur' z1 z2 : Int32} {A B A' B' : Prop} {O O' : Int32 → Prop} (h : own_Inv rs ur A B O) (h' : own_Inv rs' ur' A' B' O') (e1 : z1 = if P then rs else rs') (e2 : z2 = if P then ur else ur') :
    own_Inv z1 z2 ((P ∧ A) ∨ (¬ P ∧ A')) ((P ∧ B) ∨ (¬ P ∧ B')) (fun q => (P ∧ O q) ∨ (¬ P ∧ O' q)) := by
  by_cases q : P
  · simp only [q, if_true] at e1 e2
    subst e1 e2
    simpa [q] using h
  · simp only [q, if_false] at e1 e2
    subst e1 e2
    simpa [q] using h'
theorem own_ra1 {rs ur q : Int32} {A B : Prop} {O : Int32 → Prop} (h : own_Inv rs ur A B O) (hq : ¬ q < 0) {un : Int32} (hu : ¬ un = 0) : (own_ra ur rs q un = 1 ∧ (A ∨ O q)) ∨ (own_ra ur rs q un = 0 ∧ ¬ (A ∨ O q)) := by
  obtain ⟨h1, h2, h3⟩ := h
  have g3 := h3 q hq
  unfold own_ra
  simp only [hu, if_false]
  by_cases q1 : rs = 0
  · have : ¬ A := h1.mp q1
    simp only [q1, if_true, this, false_or]
    by_cases q2 : ur = -1
    · refine Or.inr ⟨by simp [q2], fun z => (g3.mpr z).1 q2⟩
    · by_cases q3 : ur = q
      · exact Or.inr ⟨by simp [q2, q3], fun z => (g3.mpr z).2 q3⟩
      · exact Or.inl ⟨by simp [q2, q3], g3.mp ⟨q2, q3⟩⟩
  · have : A := Classical.byContradiction fun z => q1 (h1.mpr z)
    exact Or.inl ⟨by simp [q1], Or.inl this⟩
theorem own_ra0 {rs ur q : Int32} {A B : Prop} {O : Int32 → Prop} (h : own_Inv rs ur A B O) : (own_ra ur rs q 0 = 1 ∧ B) ∨ (own_ra ur rs q 0 = 0 ∧ ¬ B) := by
  obtain ⟨h1, h2, h3⟩ := h
  unfold own_ra
  simp only [if_true]
  by_cases q2 : ur = -1
  · exact Or.inr ⟨by simp [q2], h2.mp q2⟩
  · exact Or.inl ⟨by simp [q2], Classical.byContradiction fun z => q2 (h2.mpr z)⟩
theorem own_b01 {z : Int32} {P : Prop} [Decidable P] (h : z = if P then (0 : Int32) else (1 : Int32)) : narrow .boolean (.int z) = .int z ∧ fits .boolean (.int z) = true := by
  by_cases q : P
  · rw [if_pos q] at h; subst h; exact ⟨rfl, rfl⟩
  · rw [if_neg q] at h; subst h; exact ⟨rfl, rfl⟩
theorem own_mask (x : Int32) (k : Nat) (mk : Int32) (hk : k ≤ 31) (hm : mk.toBitVec.toNat = 2 ^ k - 1) : ∃ n : Nat, n < 2 ^ k ∧ x &&& mk = n.toInt32 := by
  have h1 : (x &&& mk).toBitVec.toNat = x.toBitVec.toNat % 2 ^ k := by
    rw [Int32.toBitVec_and, BitVec.toNat_and, hm]
    exact Nat.and_two_pow_sub_one_eq_mod _ k
  have hp : 2 ^ k ≤ 2 ^ 31 := Nat.pow_le_pow_right (by decide) hk
  have h2 : x.toBitVec.toNat % 2 ^ k < 2 ^ k := Nat.mod_lt _ (Nat.two_pow_pos k)
  refine ⟨x.toBitVec.toNat % 2 ^ k, h2, ?_⟩
  rw [← Int32.toInt_inj, own_i32 (by omega)]
  show (x &&& mk).toBitVec.toInt = _
  rw [BitVec.toInt_eq_toNat_of_lt, h1]
  rw [h1]
  have : (2 : Nat) ^ 31 * 2 = 2 ^ 32 := by decide
  omega
theorem d1_0 : decode prog_47_method_1_code 0 = .ok (.aload_n 0, 1) := by decide +kernel
theorem d1_1 : decode prog_47_method_1_code 1 = .ok (.invokespecial 1, 3) := by decide +kernel
theorem d1_4 : decode prog_47_method_1_code 4 = .ok (.aload_n 0, 1) := by decide +kernel
theorem d1_5 : decode prog_47_method_1_code 5 = .ok (.iconst (-1), 1) := by decide +kernel
theorem d1_6 : decode prog_47_method_1_code 6 = .ok (.putfield 9, 3) := by decide +kernel
theorem d1_9 : decode prog_47_method_1_code 9 = .ok (.return_, 1) := by decide +kernel
theorem own_pnli : plainFor (⟨"com/example/racewright/racewright/happensbefore/Location", "<init>", "()V"⟩ : MethodName) = true := by first | exact plainFor_of_name (by first | (simp [plainName, overriddenIn, x]; done) | decide +kernel) | decide +kernel
theorem own_efli (a0_ : Addr) (m : MethodId) : entryFrame m #[(.ref a0_)] 1 = mkF m 0 #[.val (.ref a0_)] [] := by
  first | (simp [entryFrame, mkF, argsToLocals, Value.category]; done) | rfl
def own_qli (a0_ : Addr) (Z : State) (h0 : Heap) (v : Option Value) (h : Heap) : Prop := v = none ∧ Keep h0 h [a0_] ∧ Fld Z h a0_ "com/example/racewright/racewright/happensbefore/Location" "readScheduled" "Z" (.int (0 : Int32)) ∧ Fld Z h a0_ "com/example/racewright/racewright/happensbefore/Location" "unscheduledReader" "I" (.int ((-1) : Int32)) ∧ Fld Z h a0_ "com/example/racewright/racewright/happensbefore/Location" "beforeAdditions" "Lcom/example/racewright/racewright/happensbefore/Location$Write;" (.null) ∧ Fld Z h a0_ "com/example/racewright/racewright/happensbefore/Location" "lastWrite" "Lcom/example/racewright/racewright/happensbefore/Location$Write;" (.null) ∧ Fld Z h a0_ "com/example/racewright/racewright/happensbefore/Location" "racedWithLastWrite" "Ljava/util/BitSet;" (.null)
set_option maxRecDepth 65536 in
set_option maxHeartbeats 40000000 in
theorem own_mli (l : Launch) (Z : State) (a0 : Array Value) (hw : ∀ d ∈ tables_1, d.before a0 Z = true) (ws : List Jvm.Cond) (a0_ : Addr) (h0 : Heap) (n0 : Nat) (Z0 : n0 ≤ h0.size) (F1 : Exa Z h0 a0_ "com/example/racewright/racewright/happensbefore/Location") (F2 : Fld Z h0 a0_ "com/example/racewright/racewright/happensbefore/Location" "unscheduledReader" "I" (.int (0 : Int32))) (F3 : Fld Z h0 a0_ "com/example/racewright/racewright/happensbefore/Location" "beforeAdditions" "Lcom/example/racewright/racewright/happensbefore/Location$Write;" (.null)) (F4 : Fld Z h0 a0_ "com/example/racewright/racewright/happensbefore/Location" "lastWrite" "Lcom/example/racewright/racewright/happensbefore/Location$Write;" (.null)) (F5 : Fld Z h0 a0_ "com/example/racewright/racewright/happensbefore/Location" "racedWithLastWrite" "Ljava/util/BitSet;" (.null)) (F6 : Fld Z h0 a0_ "com/example/racewright/racewright/happensbefore/Location" "readScheduled" "Z" (.int (0 : Int32))) (ge_a0_ : n0 ≤ a0_) :
    own_Met l Z (⟨"com/example/racewright/racewright/happensbefore/Location", "<init>", "()V"⟩ : MethodName) prog_47_method_1_code 1 none ws ({ frames := 1, cells := 0, slots := 0, locals := 12 } : Room) #[(.ref a0_)] h0 n0 (own_qli a0_ Z h0) := by
  refine own_enter (own := "com/example/racewright/racewright/happensbefore/Location") (nm := "<init>") rfl rfl own_pnli (own_efli a0_) ?_
  intro p e s m below meth c T0 X0
  have K7 := (Keep.refl h0 [a0_])
  refine own_aloadN X0 d1_0 rfl rfl rfl ?_
  refine own_initO X0 (hw _ (List.mem_of_getElem? (i := 6) rfl)) (hw _ (List.mem_of_getElem? (i := 7) rfl)) (hw _ (List.mem_of_getElem? (i := 8) rfl)) d1_1 rfl rfl (by decide) (W := 0) rfl (by decide) (fun T8 X9 => ?_)
  refine own_aloadN X9 d1_4 rfl rfl rfl ?_
  refine own_iconst X9 ((-1) : Int32) d1_5 rfl (by decide) ?_
  refine own_putf X9 (hw _ (List.mem_of_getElem? (i := 9) rfl)) F2 F1 (Or.inl (hw _ (List.mem_of_getElem? (i := 10) rfl))) (hw _ (List.mem_of_getElem? (i := 1) rfl)) (ty := .int) (by decide) rfl rfl ge_a0_ d1_6 rfl (fun T10 h12 X11 W13 => ?_)
  have F14 := (F1.wr W13)
  have F15 := (F2.same W13)
  have F16 := (F3.other W13 (Or.inr (slot_ne (Or.inl (hw _ (List.mem_of_getElem? (i := 116) rfl))) (Or.inl (hw _ (List.mem_of_getElem? (i := 10) rfl))) (by decide) (t := (.object "com/example/racewright/racewright/happensbefore/Location$Write")) (t' := .int) (by decide) (by decide))))
  have F17 := (F4.other W13 (Or.inr (slot_ne (Or.inl (hw _ (List.mem_of_getElem? (i := 153) rfl))) (Or.inl (hw _ (List.mem_of_getElem? (i := 10) rfl))) (by decide) (t := (.object "com/example/racewright/racewright/happensbefore/Location$Write")) (t' := .int) (by decide) (by decide))))
  have F18 := (F5.other W13 (Or.inr (slot_ne (Or.inl (hw _ (List.mem_of_getElem? (i := 155) rfl))) (Or.inl (hw _ (List.mem_of_getElem? (i := 10) rfl))) (by decide) (t := (.object "java/util/BitSet")) (t' := .int) (by decide) (by decide))))
  have F19 := (F6.other W13 (Or.inr (slot_ne (Or.inl (hw _ (List.mem_of_getElem? (i := 157) rfl))) (Or.inl (hw _ (List.mem_of_getElem? (i := 10) rfl))) (by decide) (t := .boolean) (t' := .int) (by decide) (by decide))))
  have Z20 : n0 ≤ h12.size := (Nat.le_trans Z0 (Nat.le_of_eq W13.size.symm))
  have K21 := (K7.wr W13 (Or.inl (List.mem_of_getElem? (i := 0) rfl)))
  exact own_retV X11 rfl d1_9 ⟨rfl, K21, F19, F15, F16, F17, F18⟩ (by decide) (by decide)
theorem d21_0 : decode prog_47_method_5_code 0 = .ok (.aload_n 1, 1) := by decide +kernel
theorem d21_1 : decode prog_47_method_5_code 1 = .ok (.getfield 94, 3) := by decide +kernel
theorem d21_4 : decode prog_47_method_5_code 4 = .ok (.ifCond .ne 11, 3) := by decide +kernel
theorem d21_7 : decode prog_47_method_5_code 7 = .ok (.aload_n 0, 1) := by decide +kernel
theorem d21_8 : decode prog_47_method_5_code 8 = .ok (.iconst 1, 1) := by decide +kernel
theorem d21_9 : decode prog_47_method_5_code 9 = .ok (.putfield 90, 3) := by decide +kernel
theorem d21_12 : decode prog_47_method_5_code 12 = .ok (.goto 39, 3) := by decide +kernel
theorem d21_15 : decode prog_47_method_5_code 15 = .ok (.aload_n 0, 1) := by decide +kernel
theorem d21_16 : decode prog_47_method_5_code 16 = .ok (.getfield 9, 3) := by decide +kernel
theorem d21_19 : decode prog_47_method_5_code 19 = .ok (.iconst (-1), 1) := by decide +kernel
theorem d21_20 : decode prog_47_method_5_code 20 = .ok (.if_icmp .eq 14, 3) := by decide +kernel
theorem d21_23 : decode prog_47_method_5_code 23 = .ok (.aload_n 0, 1) := by decide +kernel
theorem d21_24 : decode prog_47_method_5_code 24 = .ok (.getfield 9, 3) := by decide +kernel
theorem d21_27 : decode prog_47_method_5_code 27 = .ok (.aload_n 1, 1) := by decide +kernel
theorem d21_28 : decode prog_47_method_5_code 28 = .ok (.getfield 30, 3) := by decide +kernel
theorem d21_31 : decode prog_47_method_5_code 31 = .ok (.if_icmp .ne 14, 3) := by decide +kernel
theorem d21_34 : decode prog_47_method_5_code 34 = .ok (.aload_n 0, 1) := by decide +kernel
theorem d21_35 : decode prog_47_method_5_code 35 = .ok (.aload_n 1, 1) := by decide +kernel
theorem d21_36 : decode prog_47_method_5_code 36 = .ok (.getfield 30, 3) := by decide +kernel
theorem d21_39 : decode prog_47_method_5_code 39 = .ok (.putfield 9, 3) := by decide +kernel
theorem d21_42 : decode prog_47_method_5_code 42 = .ok (.goto 9, 3) := by decide +kernel
theorem d21_45 : decode prog_47_method_5_code 45 = .ok (.aload_n 0, 1) := by decide +kernel
theorem d21_46 : decode prog_47_method_5_code 46 = .ok (.bipush (-2), 2) := by decide +kernel
theorem d21_48 : decode prog_47_method_5_code 48 = .ok (.putfield 9, 3) := by decide +kernel
theorem d21_51 : decode prog_47_method_5_code 51 = .ok (.return_, 1) := by decide +kernel
theorem own_pnrd : plainFor (⟨"com/example/racewright/racewright/happensbefore/Location", "read", "(Lcom/example/racewright/racewright/happensbefore/ThreadState;)V"⟩ : MethodName) = true := by first | exact plainFor_of_name (by first | (simp [plainName, overriddenIn, x]; done) | decide +kernel) | decide +kernel
theorem own_efrd (a0_ : Addr) (th : Addr) (m : MethodId) : entryFrame m #[(.ref a0_), (.ref th)] 2 = mkF m 0 #[.val (.ref a0_), .val (.ref th)] [] := by
  first | (simp [entryFrame, mkF, argsToLocals, Value.category]; done) | rfl
def own_qrd (a0_ : Addr) (th : Addr) (un : Int32) (id : Int32) (rs : Int32) (ur : Int32) (o_beforeAdditions : Value) (o_lastWrite : Value) (o_racedWithLastWrite : Value) (Z : State) (h0 : Heap) (v : Option Value) (h : Heap) : Prop := v = none ∧ Keep h0 h [a0_] ∧ Fld Z h a0_ "com/example/racewright/racewright/happensbefore/Location" "readScheduled" "Z" (.int (own_rs un rs)) ∧ Fld Z h a0_ "com/example/racewright/racewright/happensbefore/Location" "unscheduledReader" "I" (.int (own_ur un ur id)) ∧ Fld Z h a0_ "com/example/racewright/racewright/happensbefore/Location" "beforeAdditions" "Lcom/example/racewright/racewright/happensbefore/Location$Write;" (o_beforeAdditions) ∧ Fld Z h a0_ "com/example/racewright/racewright/happensbefore/Location" "lastWrite" "Lcom/example/racewright/racewright/happensbefore/Location$Write;" (o_lastWrite) ∧ Fld Z h a0_ "com/example/racewright/racewright/happensbefore/Location" "racedWithLastWrite" "Ljava/util/BitSet;" (o_racedWithLastWrite)
set_option maxRecDepth 65536 in
set_option maxHeartbeats 40000000 in
theorem own_mrd (l : Launch) (Z : State) (a0 : Array Value) (hw : ∀ d ∈ tables_1, d.before a0 Z = true) (ws : List Jvm.Cond) (a0_ : Addr) (th : Addr) (un : Int32) (id : Int32) (rs : Int32) (ur : Int32) (o_beforeAdditions : Value) (o_lastWrite : Value) (o_racedWithLastWrite : Value) (h0 : Heap) (n0 : Nat) (Z0 : n0 ≤ h0.size) (F1 : Exa Z h0 a0_ "com/example/racewright/racewright/happensbefore/Location") (F2 : Fld Z h0 a0_ "com/example/racewright/racewright/happensbefore/Location" "readScheduled" "Z" (.int rs)) (F3 : Fld Z h0 a0_ "com/example/racewright/racewright/happensbefore/Location" "unscheduledReader" "I" (.int ur)) (F4 : Fld Z h0 a0_ "com/example/racewright/racewright/happensbefore/Location" "beforeAdditions" "Lcom/example/racewright/racewright/happensbefore/Location$Write;" (o_beforeAdditions)) (F5 : Fld Z h0 a0_ "com/example/racewright/racewright/happensbefore/Location" "lastWrite" "Lcom/example/racewright/racewright/happensbefore/Location$Write;" (o_lastWrite)) (F6 : Fld Z h0 a0_ "com/example/racewright/racewright/happensbefore/Location" "racedWithLastWrite" "Ljava/util/BitSet;" (o_racedWithLastWrite)) (F7 : Fld Z h0 th "com/example/racewright/racewright/happensbefore/ThreadState" "unscheduled" "Z" (.int un)) (F8 : Fld Z h0 th "com/example/racewright/racewright/happensbefore/ThreadState" "id" "I" (.int id)) (ge_a0_ : n0 ≤ a0_) (ne_th_a0_ : th ≠ a0_) :
    own_Met l Z (⟨"com/example/racewright/racewright/happensbefore/Location", "read", "(Lcom/example/racewright/racewright/happensbefore/ThreadState;)V"⟩ : MethodName) prog_47_method_5_code 2 none ws ({ frames := 0, cells := 0, slots := 0, locals := 0 } : Room) #[(.ref a0_), (.ref th)] h0 n0 (own_qrd a0_ th un id rs ur o_beforeAdditions o_lastWrite o_racedWithLastWrite Z h0) := by
  refine own_enter (own := "com/example/racewright/racewright/happensbefore/Location") (nm := "read") rfl rfl own_pnrd (own_efrd a0_ th) ?_
  intro p e s m below meth c T0 X0
  have K9 := (Keep.refl h0 [a0_])
  refine own_aloadN X0 d21_0 rfl rfl rfl ?_
  refine own_getf X0 (hw _ (List.mem_of_getElem? (i := 163) rfl)) F7 d21_1 rfl (fun T10 X11 => ?_)
  refine own_if_ne X11 d21_4 (by decide) (pcT := 15) (by decide) rfl (fun hc12 => ?_) (fun hc12 => ?_)
  · skip
    refine own_aloadN X11 d21_15 rfl rfl rfl ?_
    refine own_getf X11 (hw _ (List.mem_of_getElem? (i := 9) rfl)) F3 d21_16 rfl (fun T13 X14 => ?_)
    refine own_iconst X14 ((-1) : Int32) d21_19 rfl (by decide) ?_
    refine own_icmp_eq X14 d21_20 (by decide) (pcT := 34) (by decide) rfl (fun hc15 => ?_) (fun hc15 => ?_)
    · skip
      refine own_aloadN X14 d21_34 rfl rfl rfl ?_
      refine own_aloadN X14 d21_35 rfl rfl rfl ?_
      refine own_getf X14 (hw _ (List.mem_of_getElem? (i := 120) rfl)) F8 d21_36 rfl (fun T16 X17 => ?_)
      refine own_putf X17 (hw _ (List.mem_of_getElem? (i := 9) rfl)) F3 F1 (Or.inl (hw _ (List.mem_of_getElem? (i := 10) rfl))) (hw _ (List.mem_of_getElem? (i := 1) rfl)) (ty := .int) (by decide) rfl rfl ge_a0_ d21_39 rfl (fun T18 h20 X19 W21 => ?_)
      have F22 := (F1.wr W21)
      have F23 := (F2.other W21 (Or.inr (slot_ne (Or.inl (hw _ (List.mem_of_getElem? (i := 157) rfl))) (Or.inl (hw _ (List.mem_of_getElem? (i := 10) rfl))) (by decide) (t := .boolean) (t' := .int) (by decide) (by decide))))
      have F24 := (F3.same W21)
      have F25 := (F4.other W21 (Or.inr (slot_ne (Or.inl (hw _ (List.mem_of_getElem? (i := 116) rfl))) (Or.inl (hw _ (List.mem_of_getElem? (i := 10) rfl))) (by decide) (t := (.object "com/example/racewright/racewright/happensbefore/Location$Write")) (t' := .int) (by decide) (by decide))))
      have F26 := (F5.other W21 (Or.inr (slot_ne (Or.inl (hw _ (List.mem_of_getElem? (i := 153) rfl))) (Or.inl (hw _ (List.mem_of_getElem? (i := 10) rfl))) (by decide) (t := (.object "com/example/racewright/racewright/happensbefore/Location$Write")) (t' := .int) (by decide) (by decide))))
      have F27 := (F6.other W21 (Or.inr (slot_ne (Or.inl (hw _ (List.mem_of_getElem? (i := 155) rfl))) (Or.inl (hw _ (List.mem_of_getElem? (i := 10) rfl))) (by decide) (t := (.object "java/util/BitSet")) (t' := .int) (by decide) (by decide))))
      have F28 := (F7.other W21 (Or.inl ne_th_a0_))
      have F29 := (F8.other W21 (Or.inl ne_th_a0_))
      have Z30 : n0 ≤ h20.size := (Nat.le_trans Z0 (Nat.le_of_eq W21.size.symm))
      have K31 := (K9.wr W21 (Or.inl (List.mem_of_getElem? (i := 0) rfl)))
      refine own_goto X19 d21_42 (by decide) (pc' := 51) (by decide) ?_
      have e32 : own_rs un rs = rs := by rw [own_rs, if_neg hc12]
      have e33 : own_ur un ur id = id := by rw [own_ur, if_neg hc12, if_pos hc15]
      exact own_retV X19 rfl d21_51 ⟨rfl, K31, (own_eqF F23 (congrArg Value.int e32.symm)), (own_eqF F24 (congrArg Value.int e33.symm)), F25, F26, F27⟩ (by decide) (by decide)
    · skip
      refine own_aloadN X14 d21_23 rfl rfl rfl ?_
      refine own_getf X14 (hw _ (List.mem_of_getElem? (i := 9) rfl)) F3 d21_24 rfl (fun T34 X35 => ?_)
      refine own_aloadN X35 d21_27 rfl rfl rfl ?_
      refine own_getf X35 (hw _ (List.mem_of_getElem? (i := 120) rfl)) F8 d21_28 rfl (fun T36 X37 => ?_)
      refine own_icmp_ne X37 d21_31 (by decide) (pcT := 45) (by decide) rfl (fun hc38 => ?_) (fun hc38 => ?_)
      · skip
        refine own_aloadN X37 d21_45 rfl rfl rfl ?_
        refine own_bipush X37 ((-2) : Int32) d21_46 rfl (by decide) ?_
        refine own_putf X37 (hw _ (List.mem_of_getElem? (i := 9) rfl)) F3 F1 (Or.inl (hw _ (List.mem_of_getElem? (i := 10) rfl))) (hw _ (List.mem_of_getElem? (i := 1) rfl)) (ty := .int) (by decide) rfl rfl ge_a0_ d21_48 rfl (fun T39 h41 X40 W42 => ?_)
        have F43 := (F1.wr W42)
        have F44 := (F2.other W42 (Or.inr (slot_ne (Or.inl (hw _ (List.mem_of_getElem? (i := 157) rfl))) (Or.inl (hw _ (List.mem_of_getElem? (i := 10) rfl))) (by decide) (t := .boolean) (t' := .int) (by decide) (by decide))))
        have F45 := (F3.same W42)
        have F46 := (F4.other W42 (Or.inr (slot_ne (Or.inl (hw _ (List.mem_of_getElem? (i := 116) rfl))) (Or.inl (hw _ (List.mem_of_getElem? (i := 10) rfl))) (by decide) (t := (.object "com/example/racewright/racewright/happensbefore/Location$Write")) (t' := .int) (by decide) (by decide))))
        have F47 := (F5.other W42 (Or.inr (slot_ne (Or.inl (hw _ (List.mem_of_getElem? (i := 153) rfl))) (Or.inl (hw _ (List.mem_of_getElem? (i := 10) rfl))) (by decide) (t := (.object "com/example/racewright/racewright/happensbefore/Location$Write")) (t' := .int) (by decide) (by decide))))
        have F48 := (F6.other W42 (Or.inr (slot_ne (Or.inl (hw _ (List.mem_of_getElem? (i := 155) rfl))) (Or.inl (hw _ (List.mem_of_getElem? (i := 10) rfl))) (by decide) (t := (.object "java/util/BitSet")) (t' := .int) (by decide) (by decide))))
        have F49 := (F7.other W42 (Or.inl ne_th_a0_))
        have F50 := (F8.other W42 (Or.inl ne_th_a0_))
        have Z51 : n0 ≤ h41.size := (Nat.le_trans Z0 (Nat.le_of_eq W42.size.symm))
        have K52 := (K9.wr W42 (Or.inl (List.mem_of_getElem? (i := 0) rfl)))
        have e53 : own_rs un rs = rs := by rw [own_rs, if_neg hc12]
        have e54 : own_ur un ur id = ((-2) : Int32) := by rw [own_ur, if_neg hc12, if_neg hc15, if_neg hc38]
        exact own_retV X40 rfl d21_51 ⟨rfl, K52, (own_eqF F44 (congrArg Value.int e53.symm)), (own_eqF F45 (congrArg Value.int e54.symm)), F46, F47, F48⟩ (by decide) (by decide)
      · skip
        refine own_aloadN X37 d21_34 rfl rfl rfl ?_
        refine own_aloadN X37 d21_35 rfl rfl rfl ?_
        refine own_getf X37 (hw _ (List.mem_of_getElem? (i := 120) rfl)) F8 d21_36 rfl (fun T55 X56 => ?_)
        refine own_putf X56 (hw _ (List.mem_of_getElem? (i := 9) rfl)) F3 F1 (Or.inl (hw _ (List.mem_of_getElem? (i := 10) rfl))) (hw _ (List.mem_of_getElem? (i := 1) rfl)) (ty := .int) (by decide) rfl rfl ge_a0_ d21_39 rfl (fun T57 h59 X58 W60 => ?_)
        have F61 := (F1.wr W60)
        have F62 := (F2.other W60 (Or.inr (slot_ne (Or.inl (hw _ (List.mem_of_getElem? (i := 157) rfl))) (Or.inl (hw _ (List.mem_of_getElem? (i := 10) rfl))) (by decide) (t := .boolean) (t' := .int) (by decide) (by decide))))
        have F63 := (F3.same W60)
        have F64 := (F4.other W60 (Or.inr (slot_ne (Or.inl (hw _ (List.mem_of_getElem? (i := 116) rfl))) (Or.inl (hw _ (List.mem_of_getElem? (i := 10) rfl))) (by decide) (t := (.object "com/example/racewright/racewright/happensbefore/Location$Write")) (t' := .int) (by decide) (by decide))))
        have F65 := (F5.other W60 (Or.inr (slot_ne (Or.inl (hw _ (List.mem_of_getElem? (i := 153) rfl))) (Or.inl (hw _ (List.mem_of_getElem? (i := 10) rfl))) (by decide) (t := (.object "com/example/racewright/racewright/happensbefore/Location$Write")) (t' := .int) (by decide) (by decide))))
        have F66 := (F6.other W60 (Or.inr (slot_ne (Or.inl (hw _ (List.mem_of_getElem? (i := 155) rfl))) (Or.inl (hw _ (List.mem_of_getElem? (i := 10) rfl))) (by decide) (t := (.object "java/util/BitSet")) (t' := .int) (by decide) (by decide))))
        have F67 := (F7.other W60 (Or.inl ne_th_a0_))
        have F68 := (F8.other W60 (Or.inl ne_th_a0_))
        have Z69 : n0 ≤ h59.size := (Nat.le_trans Z0 (Nat.le_of_eq W60.size.symm))
        have K70 := (K9.wr W60 (Or.inl (List.mem_of_getElem? (i := 0) rfl)))
        refine own_goto X58 d21_42 (by decide) (pc' := 51) (by decide) ?_
        have e71 : own_rs un rs = rs := by rw [own_rs, if_neg hc12]
        have e72 : own_ur un ur id = id := by rw [own_ur, if_neg hc12, if_neg hc15, if_pos hc38]
        exact own_retV X58 rfl d21_51 ⟨rfl, K70, (own_eqF F62 (congrArg Value.int e71.symm)), (own_eqF F63 (congrArg Value.int e72.symm)), F64, F65, F66⟩ (by decide) (by decide)
  · skip
    refine own_aloadN X11 d21_7 rfl rfl rfl ?_
    refine own_iconst X11 (1 : Int32) d21_8 rfl (by decide) ?_
    refine own_putf X11 (hw _ (List.mem_of_getElem? (i := 156) rfl)) F2 F1 (Or.inl (hw _ (List.mem_of_getElem? (i := 157) rfl))) (hw _ (List.mem_of_getElem? (i := 1) rfl)) (ty := .boolean) (by decide) rfl rfl ge_a0_ d21_9 rfl (fun T73 h75 X74 W76 => ?_)
    have F77 := (F1.wr W76)
    have F78 := (F2.same W76)
    have F79 := (F3.other W76 (Or.inr (slot_ne (Or.inl (hw _ (List.mem_of_getElem? (i := 10) rfl))) (Or.inl (hw _ (List.mem_of_getElem? (i := 157) rfl))) (by decide) (t := .int) (t' := .boolean) (by decide) (by decide))))
    have F80 := (F4.other W76 (Or.inr (slot_ne (Or.inl (hw _ (List.mem_of_getElem? (i := 116) rfl))) (Or.inl (hw _ (List.mem_of_getElem? (i := 157) rfl))) (by decide) (t := (.object "com/example/racewright/racewright/happensbefore/Location$Write")) (t' := .boolean) (by decide) (by decide))))
    have F81 := (F5.other W76 (Or.inr (slot_ne (Or.inl (hw _ (List.mem_of_getElem? (i := 153) rfl))) (Or.inl (hw _ (List.mem_of_getElem? (i := 157) rfl))) (by decide) (t := (.object "com/example/racewright/racewright/happensbefore/Location$Write")) (t' := .boolean) (by decide) (by decide))))
    have F82 := (F6.other W76 (Or.inr (slot_ne (Or.inl (hw _ (List.mem_of_getElem? (i := 155) rfl))) (Or.inl (hw _ (List.mem_of_getElem? (i := 157) rfl))) (by decide) (t := (.object "java/util/BitSet")) (t' := .boolean) (by decide) (by decide))))
    have F83 := (F7.other W76 (Or.inl ne_th_a0_))
    have F84 := (F8.other W76 (Or.inl ne_th_a0_))
    have Z85 : n0 ≤ h75.size := (Nat.le_trans Z0 (Nat.le_of_eq W76.size.symm))
    have K86 := (K9.wr W76 (Or.inl (List.mem_of_getElem? (i := 0) rfl)))
    refine own_goto X74 d21_12 (by decide) (pc' := 51) (by decide) ?_
    have e87 : own_rs un rs = (1 : Int32) := by rw [own_rs, if_pos hc12]
    have e88 : own_ur un ur id = ur := by rw [own_ur, if_pos hc12]
    exact own_retV X74 rfl d21_51 ⟨rfl, K86, (own_eqF F78 (congrArg Value.int e87.symm)), (own_eqF F79 (congrArg Value.int e88.symm)), F80, F81, F82⟩ (by decide) (by decide)
theorem d15_0 : decode prog_47_method_6_code 0 = .ok (.aload_n 0, 1) := by decide +kernel
theorem d15_1 : decode prog_47_method_6_code 1 = .ok (.getfield 9, 3) := by decide +kernel
theorem d15_4 : decode prog_47_method_6_code 4 = .ok (.iconst (-1), 1) := by decide +kernel
theorem d15_5 : decode prog_47_method_6_code 5 = .ok (.if_icmp .eq 15, 3) := by decide +kernel
theorem d15_8 : decode prog_47_method_6_code 8 = .ok (.aload_n 0, 1) := by decide +kernel
theorem d15_9 : decode prog_47_method_6_code 9 = .ok (.getfield 9, 3) := by decide +kernel
theorem d15_12 : decode prog_47_method_6_code 12 = .ok (.iload_n 1, 1) := by decide +kernel
theorem d15_13 : decode prog_47_method_6_code 13 = .ok (.if_icmp .eq 7, 3) := by decide +kernel
theorem d15_16 : decode prog_47_method_6_code 16 = .ok (.iconst 1, 1) := by decide +kernel
theorem d15_17 : decode prog_47_method_6_code 17 = .ok (.goto 4, 3) := by decide +kernel
theorem d15_20 : decode prog_47_method_6_code 20 = .ok (.iconst 0, 1) := by decide +kernel
theorem d15_21 : decode prog_47_method_6_code 21 = .ok (.istore_n 3, 1) := by decide +kernel
theorem d15_22 : decode prog_47_method_6_code 22 = .ok (.iload_n 2, 1) := by decide +kernel
theorem d15_23 : decode prog_47_method_6_code 23 = .ok (.ifCond .eq 22, 3) := by decide +kernel
theorem d15_26 : decode prog_47_method_6_code 26 = .ok (.aload_n 0, 1) := by decide +kernel
theorem d15_27 : decode prog_47_method_6_code 27 = .ok (.getfield 90, 3) := by decide +kernel
theorem d15_30 : decode prog_47_method_6_code 30 = .ok (.ifCond .ne 7, 3) := by decide +kernel
theorem d15_33 : decode prog_47_method_6_code 33 = .ok (.iload_n 3, 1) := by decide +kernel
theorem d15_34 : decode prog_47_method_6_code 34 = .ok (.ifCond .eq 7, 3) := by decide +kernel
theorem d15_37 : decode prog_47_method_6_code 37 = .ok (.iconst 1, 1) := by decide +kernel
theorem d15_38 : decode prog_47_method_6_code 38 = .ok (.goto 20, 3) := by decide +kernel
theorem d15_41 : decode prog_47_method_6_code 41 = .ok (.iconst 0, 1) := by decide +kernel
theorem d15_42 : decode prog_47_method_6_code 42 = .ok (.goto 16, 3) := by decide +kernel
theorem d15_45 : decode prog_47_method_6_code 45 = .ok (.aload_n 0, 1) := by decide +kernel
theorem d15_46 : decode prog_47_method_6_code 46 = .ok (.getfield 9, 3) := by decide +kernel
theorem d15_49 : decode prog_47_method_6_code 49 = .ok (.iconst (-1), 1) := by decide +kernel
theorem d15_50 : decode prog_47_method_6_code 50 = .ok (.if_icmp .eq 7, 3) := by decide +kernel
theorem d15_53 : decode prog_47_method_6_code 53 = .ok (.iconst 1, 1) := by decide +kernel
theorem d15_54 : decode prog_47_method_6_code 54 = .ok (.goto 4, 3) := by decide +kernel
theorem d15_57 : decode prog_47_method_6_code 57 = .ok (.iconst 0, 1) := by decide +kernel
theorem d15_58 : decode prog_47_method_6_code 58 = .ok (.ireturn, 1) := by decide +kernel
theorem own_pnra : plainFor (⟨"com/example/racewright/racewright/happensbefore/Location", "readAcross", "(IZ)Z"⟩ : MethodName) = true := by first | exact plainFor_of_name (by first | (simp [plainName, overriddenIn, x]; done) | decide +kernel) | decide +kernel
theorem own_efra (a0_ : Addr) (q_ : Int32) (un : Int32) (m : MethodId) : entryFrame m #[(.ref a0_), (.int q_), (.int un)] 4 = mkF m 0 #[.val (.ref a0_), .val (.int q_), .val (.int un), .unset] [] := by
  first | (simp [entryFrame, mkF, argsToLocals, Value.category]; done) | rfl
def own_qra (a0_ : Addr) (q_ : Int32) (un : Int32) (rs : Int32) (ur : Int32) (Z : State) (h0 : Heap) (v : Option Value) (h : Heap) : Prop := v = some (.int (own_ra ur rs q_ un)) ∧ h0 = h
set_option maxRecDepth 65536 in
set_option maxHeartbeats 40000000 in
theorem own_mra (l : Launch) (Z : State) (a0 : Array Value) (hw : ∀ d ∈ tables_1, d.before a0 Z = true) (ws : List Jvm.Cond) (a0_ : Addr) (q_ : Int32) (un : Int32) (rs : Int32) (ur : Int32) (h0 : Heap) (n0 : Nat) (Z0 : n0 ≤ h0.size) (F1 : Fld Z h0 a0_ "com/example/racewright/racewright/happensbefore/Location" "readScheduled" "Z" (.int rs)) (F2 : Fld Z h0 a0_ "com/example/racewright/racewright/happensbefore/Location" "unscheduledReader" "I" (.int ur)) :
    own_Met l Z (⟨"com/example/racewright/racewright/happensbefore/Location", "readAcross", "(IZ)Z"⟩ : MethodName) prog_47_method_6_code 4 (some .boolean) ws ({ frames := 0, cells := 0, slots := 0, locals := 0 } : Room) #[(.ref a0_), (.int q_), (.int un)] h0 n0 (own_qra a0_ q_ un rs ur Z h0) := by
  refine own_enter (own := "com/example/racewright/racewright/happensbefore/Location") (nm := "readAcross") rfl rfl own_pnra (own_efra a0_ q_ un) ?_
  intro p e s m below meth c T0 X0
  refine own_aloadN X0 d15_0 rfl rfl rfl ?_
  refine own_getf X0 (hw _ (List.mem_of_getElem? (i := 9) rfl)) F2 d15_1 rfl (fun T3 X4 => ?_)
  refine own_iconst X4 ((-1) : Int32) d15_4 rfl (by decide) ?_
  refine own_icmp_eq X4 d15_5 (by decide) (pcT := 20) (by decide) rfl (fun hc5 => ?_) (fun hc5 => ?_)
  · skip
    refine own_iconst X4 (0 : Int32) d15_20 rfl (by decide) ?_
    refine own_istoreN X4 (L' := #[.val (.ref a0_), .val (.int q_), .val (.int un), .val (.int (0 : Int32))]) d15_21 rfl rfl ?_
    refine own_iloadN X4 d15_22 rfl rfl ?_
    refine own_if_eq X4 d15_23 (by decide) (pcT := 45) (by decide) rfl (fun hc6 => ?_) (fun hc6 => ?_)
    · skip
      refine own_aloadN X4 d15_45 rfl rfl rfl ?_
      refine own_getf X4 (hw _ (List.mem_of_getElem? (i := 9) rfl)) F2 d15_46 rfl (fun T7 X8 => ?_)
      refine own_iconst X8 ((-1) : Int32) d15_49 rfl (by decide) ?_
      refine own_icmp_eq X8 d15_50 (by decide) (pcT := 57) (by decide) rfl (fun hc => ?_) (fun hc => absurd hc5 hc)
      refine own_iconst X8 (0 : Int32) d15_57 rfl (by decide) ?_
      exact own_retZ X8 rfl d15_58 rfl ⟨by rw [own_ra, if_pos hc6, if_pos hc5], rfl⟩ (by decide) (by decide)
    · skip
      refine own_aloadN X4 d15_26 rfl rfl rfl ?_
      refine own_getf X4 (hw _ (List.mem_of_getElem? (i := 156) rfl)) F1 d15_27 rfl (fun T9 X10 => ?_)
      refine own_if_ne X10 d15_30 (by decide) (pcT := 37) (by decide) rfl (fun hc11 => ?_) (fun hc11 => ?_)
      · skip
        refine own_iconst X10 (1 : Int32) d15_37 rfl (by decide) ?_
        refine own_goto X10 d15_38 (by decide) (pc' := 58) (by decide) ?_
        exact own_retZ X10 rfl d15_58 rfl ⟨by rw [own_ra, if_neg hc6, if_neg hc11], rfl⟩ (by decide) (by decide)
      · skip
        refine own_iloadN X10 d15_33 rfl rfl ?_
        refine own_if_eq X10 d15_34 (by decide) (pcT := 41) (by decide) rfl (fun hc => ?_) (fun hc => absurd hc (by decide))
        refine own_iconst X10 (0 : Int32) d15_41 rfl (by decide) ?_
        refine own_goto X10 d15_42 (by decide) (pc' := 58) (by decide) ?_
        exact own_retZ X10 rfl d15_58 rfl ⟨by rw [own_ra, if_neg hc6, if_pos hc11, if_pos hc5], rfl⟩ (by decide) (by decide)
  · skip
    refine own_aloadN X4 d15_8 rfl rfl rfl ?_
    refine own_getf X4 (hw _ (List.mem_of_getElem? (i := 9) rfl)) F2 d15_9 rfl (fun T12 X13 => ?_)
    refine own_iloadN X13 d15_12 rfl rfl ?_
    refine own_icmp_eq X13 d15_13 (by decide) (pcT := 20) (by decide) rfl (fun hc14 => ?_) (fun hc14 => ?_)
    · skip
      refine own_iconst X13 (0 : Int32) d15_20 rfl (by decide) ?_
      refine own_istoreN X13 (L' := #[.val (.ref a0_), .val (.int q_), .val (.int un), .val (.int (0 : Int32))]) d15_21 rfl rfl ?_
      refine own_iloadN X13 d15_22 rfl rfl ?_
      refine own_if_eq X13 d15_23 (by decide) (pcT := 45) (by decide) rfl (fun hc15 => ?_) (fun hc15 => ?_)
      · skip
        refine own_aloadN X13 d15_45 rfl rfl rfl ?_
        refine own_getf X13 (hw _ (List.mem_of_getElem? (i := 9) rfl)) F2 d15_46 rfl (fun T16 X17 => ?_)
        refine own_iconst X17 ((-1) : Int32) d15_49 rfl (by decide) ?_
        refine own_icmp_eq X17 d15_50 (by decide) (pcT := 57) (by decide) rfl (fun hc => absurd hc hc5) (fun hc => ?_)
        refine own_iconst X17 (1 : Int32) d15_53 rfl (by decide) ?_
        refine own_goto X17 d15_54 (by decide) (pc' := 58) (by decide) ?_
        exact own_retZ X17 rfl d15_58 rfl ⟨by rw [own_ra, if_pos hc15, if_neg hc5], rfl⟩ (by decide) (by decide)
      · skip
        refine own_aloadN X13 d15_26 rfl rfl rfl ?_
        refine own_getf X13 (hw _ (List.mem_of_getElem? (i := 156) rfl)) F1 d15_27 rfl (fun T18 X19 => ?_)
        refine own_if_ne X19 d15_30 (by decide) (pcT := 37) (by decide) rfl (fun hc20 => ?_) (fun hc20 => ?_)
        · skip
          refine own_iconst X19 (1 : Int32) d15_37 rfl (by decide) ?_
          refine own_goto X19 d15_38 (by decide) (pc' := 58) (by decide) ?_
          exact own_retZ X19 rfl d15_58 rfl ⟨by rw [own_ra, if_neg hc15, if_neg hc20], rfl⟩ (by decide) (by decide)
        · skip
          refine own_iloadN X19 d15_33 rfl rfl ?_
          refine own_if_eq X19 d15_34 (by decide) (pcT := 41) (by decide) rfl (fun hc => ?_) (fun hc => absurd hc (by decide))
          refine own_iconst X19 (0 : Int32) d15_41 rfl (by decide) ?_
          refine own_goto X19 d15_42 (by decide) (pc' := 58) (by decide) ?_
          exact own_retZ X19 rfl d15_58 rfl ⟨by rw [own_ra, if_neg hc15, if_pos hc20, if_neg hc5, if_pos hc14], rfl⟩ (by decide) (by decide)
    · skip
      refine own_iconst X13 (1 : Int32) d15_16 rfl (by decide) ?_
      refine own_goto X13 d15_17 (by decide) (pc' := 21) (by decide) ?_
      refine own_istoreN X13 (L' := #[.val (.ref a0_), .val (.int q_), .val (.int un), .val (.int (1 : Int32))]) d15_21 rfl rfl ?_
      refine own_iloadN X13 d15_22 rfl rfl ?_
      refine own_if_eq X13 d15_23 (by decide) (pcT := 45) (by decide) rfl (fun hc21 => ?_) (fun hc21 => ?_)
      · skip
        refine own_aloadN X13 d15_45 rfl rfl rfl ?_
        refine own_getf X13 (hw _ (List.mem_of_getElem? (i := 9) rfl)) F2 d15_46 rfl (fun T22 X23 => ?_)
        refine own_iconst X23 ((-1) : Int32) d15_49 rfl (by decide) ?_
        refine own_icmp_eq X23 d15_50 (by decide) (pcT := 57) (by decide) rfl (fun hc => absurd hc hc5) (fun hc => ?_)
        refine own_iconst X23 (1 : Int32) d15_53 rfl (by decide) ?_
        refine own_goto X23 d15_54 (by decide) (pc' := 58) (by decide) ?_
        exact own_retZ X23 rfl d15_58 rfl ⟨by rw [own_ra, if_pos hc21, if_neg hc5], rfl⟩ (by decide) (by decide)
      · skip
        refine own_aloadN X13 d15_26 rfl rfl rfl ?_
        refine own_getf X13 (hw _ (List.mem_of_getElem? (i := 156) rfl)) F1 d15_27 rfl (fun T24 X25 => ?_)
        refine own_if_ne X25 d15_30 (by decide) (pcT := 37) (by decide) rfl (fun hc26 => ?_) (fun hc26 => ?_)
        · skip
          refine own_iconst X25 (1 : Int32) d15_37 rfl (by decide) ?_
          refine own_goto X25 d15_38 (by decide) (pc' := 58) (by decide) ?_
          exact own_retZ X25 rfl d15_58 rfl ⟨by rw [own_ra, if_neg hc21, if_neg hc26], rfl⟩ (by decide) (by decide)
        · skip
          refine own_iloadN X25 d15_33 rfl rfl ?_
          refine own_if_eq X25 d15_34 (by decide) (pcT := 41) (by decide) rfl (fun hc => absurd hc (by decide)) (fun hc => ?_)
          refine own_iconst X25 (1 : Int32) d15_37 rfl (by decide) ?_
          refine own_goto X25 d15_38 (by decide) (pc' := 58) (by decide) ?_
          exact own_retZ X25 rfl d15_58 rfl ⟨by rw [own_ra, if_neg hc21, if_pos hc26, if_neg hc5, if_neg hc14], rfl⟩ (by decide) (by decide)
theorem d18_0 : decode prog_63_method_2_code 0 = .ok (.iload_n 1, 1) := by decide +kernel
theorem d18_1 : decode prog_63_method_2_code 1 = .ok (.aload_n 0, 1) := by decide +kernel
theorem d18_2 : decode prog_63_method_2_code 2 = .ok (.getfield 7, 3) := by decide +kernel
theorem d18_5 : decode prog_63_method_2_code 5 = .ok (.arraylength, 1) := by decide +kernel
theorem d18_6 : decode prog_63_method_2_code 6 = .ok (.if_icmp .ge 12, 3) := by decide +kernel
theorem d18_9 : decode prog_63_method_2_code 9 = .ok (.aload_n 0, 1) := by decide +kernel
theorem d18_10 : decode prog_63_method_2_code 10 = .ok (.getfield 7, 3) := by decide +kernel
theorem d18_13 : decode prog_63_method_2_code 13 = .ok (.iload_n 1, 1) := by decide +kernel
theorem d18_14 : decode prog_63_method_2_code 14 = .ok (.iaload, 1) := by decide +kernel
theorem d18_15 : decode prog_63_method_2_code 15 = .ok (.goto 4, 3) := by decide +kernel
theorem d18_18 : decode prog_63_method_2_code 18 = .ok (.iconst 0, 1) := by decide +kernel
theorem d18_19 : decode prog_63_method_2_code 19 = .ok (.ireturn, 1) := by decide +kernel
theorem own_pngt : plainFor (⟨"com/example/racewright/racewright/happensbefore/VectorClock", "get", "(I)I"⟩ : MethodName) = true := by first | exact plainFor_of_name (by first | (simp [plainName, overriddenIn, x]; done) | decide +kernel) | decide +kernel
theorem own_efgt (a0_ : Addr) (ni : Nat) (m : MethodId) : entryFrame m #[(.ref a0_), (.int ni.toInt32)] 2 = mkF m 0 #[.val (.ref a0_), .val (.int ni.toInt32)] [] := by
  first | (simp [entryFrame, mkF, argsToLocals, Value.category]; done) | rfl
def own_qgt (a0_ : Addr) (ni : Nat) (t_ : Addr) (n : Nat) (Z : State) (h0 : Heap) (v : Option Value) (h : Heap) : Prop := ∃ (y_ : Int32), v = some (.int y_) ∧ h0 = h
set_option maxRecDepth 65536 in
set_option maxHeartbeats 40000000 in
theorem own_mgt (l : Launch) (Z : State) (a0 : Array Value) (hw : ∀ d ∈ tables_1, d.before a0 Z = true) (ws : List Jvm.Cond) (a0_ : Addr) (ni : Nat) (t_ : Addr) (n : Nat) (h0 : Heap) (n0 : Nat) (Z0 : n0 ≤ h0.size) (F1 : Fld Z h0 a0_ "com/example/racewright/racewright/happensbefore/VectorClock" "ticks" "[I" (.ref t_)) (F2 : own_IA Z h0 t_ n) (hni : ni < 8) (hn8 : n ≤ 8) :
    own_Met l Z (⟨"com/example/racewright/racewright/happensbefore/VectorClock", "get", "(I)I"⟩ : MethodName) prog_63_method_2_code 2 (some .int) ws ({ frames := 0, cells := 0, slots := 0, locals := 0 } : Room) #[(.ref a0_), (.int ni.toInt32)] h0 n0 (own_qgt a0_ ni t_ n Z h0) := by
  refine own_enter (own := "com/example/racewright/racewright/happensbefore/VectorClock") (nm := "get") rfl rfl own_pngt (own_efgt a0_ ni) ?_
  intro p e s m below meth c T0 X0
  refine own_iloadN X0 d18_0 rfl rfl ?_
  refine own_aloadN X0 d18_1 rfl rfl rfl ?_
  refine own_getf X0 (hw _ (List.mem_of_getElem? (i := 22) rfl)) F1 d18_2 rfl (fun T3 X4 => ?_)
  refine own_alenI X4 F2 d18_5 rfl ?_
  refine own_icmp_ge X4 d18_6 (by decide) (pcT := 18) (by decide) rfl (fun hc5 => ?_) (fun hc5 => ?_)
  · skip
    refine own_iconst X4 (0 : Int32) d18_18 rfl (by decide) ?_
    exact own_retI X4 rfl d18_19 ⟨_, rfl, rfl⟩ (by decide) (by decide)
  · skip
    refine own_aloadN X4 d18_9 rfl rfl rfl ?_
    refine own_getf X4 (hw _ (List.mem_of_getElem? (i := 22) rfl)) F1 d18_10 rfl (fun T6 X7 => ?_)
    refine own_iloadN X7 d18_13 rfl rfl ?_
    refine own_ialoadI X7 F2 ((own_lt32 (by omega) (by omega)).mp hc5) d18_14 rfl (fun y8 => ?_)
    refine own_goto X7 d18_15 (by decide) (pc' := 19) (by decide) ?_
    exact own_retI X7 rfl d18_19 ⟨_, rfl, rfl⟩ (by decide) (by decide)
theorem d17_0 : decode prog_61_method_2_code 0 = .ok (.aload_n 0, 1) := by decide +kernel
theorem d17_1 : decode prog_61_method_2_code 1 = .ok (.getfield 20, 3) := by decide +kernel
theorem d17_4 : decode prog_61_method_2_code 4 = .ok (.aload_n 0, 1) := by decide +kernel
theorem d17_5 : decode prog_61_method_2_code 5 = .ok (.getfield 16, 3) := by decide +kernel
theorem d17_8 : decode prog_61_method_2_code 8 = .ok (.invokevirtual 44, 3) := by decide +kernel
theorem d17_11 : decode prog_61_method_2_code 11 = .ok (.ireturn, 1) := by decide +kernel
theorem own_pnnw : plainFor (⟨"com/example/racewright/racewright/happensbefore/ThreadState", "now", "()I"⟩ : MethodName) = true := by first | exact plainFor_of_name (by first | (simp [plainName, overriddenIn, x]; done) | decide +kernel) | decide +kernel
theorem own_efnw (a0_ : Addr) (m : MethodId) : entryFrame m #[(.ref a0_)] 1 = mkF m 0 #[.val (.ref a0_)] [] := by
  first | (simp [entryFrame, mkF, argsToLocals, Value.category]; done) | rfl
def own_qnw (a0_ : Addr) (ni : Nat) (c_ : Addr) (t_ : Addr) (n : Nat) (Z : State) (h0 : Heap) (v : Option Value) (h : Heap) : Prop := ∃ (y_ : Int32), v = some (.int y_) ∧ h0 = h
set_option maxRecDepth 65536 in
set_option maxHeartbeats 40000000 in
theorem own_mnw (l : Launch) (Z : State) (a0 : Array Value) (hw : ∀ d ∈ tables_1, d.before a0 Z = true) (ws : List Jvm.Cond) (a0_ : Addr) (ni : Nat) (c_ : Addr) (t_ : Addr) (n : Nat) (h0 : Heap) (n0 : Nat) (Z0 : n0 ≤ h0.size) (F1 : Fld Z h0 a0_ "com/example/racewright/racewright/happensbefore/ThreadState" "clock" "Lcom/example/racewright/racewright/happensbefore/VectorClock;" (.ref c_)) (F2 : Fld Z h0 a0_ "com/example/racewright/racewright/happensbefore/ThreadState" "id" "I" (.int ni.toInt32)) (F3 : Exa Z h0 c_ "com/example/racewright/racewright/happensbefore/VectorClock") (F4 : Fld Z h0 c_ "com/example/racewright/racewright/happensbefore/VectorClock" "ticks" "[I" (.ref t_)) (F5 : own_IA Z h0 t_ n) (hni : ni < 8) (hn8 : n ≤ 8) :
    own_Met l Z (⟨"com/example/racewright/racewright/happensbefore/ThreadState", "now", "()I"⟩ : MethodName) prog_61_method_2_code 1 (some .int) ws ({ frames := 1, cells := 0, slots := 0, locals := 13 } : Room) #[(.ref a0_)] h0 n0 (own_qnw a0_ ni c_ t_ n Z h0) := by
  refine own_enter (own := "com/example/racewright/racewright/happensbefore/ThreadState") (nm := "now") rfl rfl own_pnnw (own_efnw a0_) ?_
  intro p e s m below meth c T0 X0
  refine own_aloadN X0 d17_0 rfl rfl rfl ?_
  refine own_getf X0 (hw _ (List.mem_of_getElem? (i := 72) rfl)) F1 d17_1 rfl (fun T6 X7 => ?_)
  refine own_aloadN X7 d17_4 rfl rfl rfl ?_
  refine own_getf X7 (hw _ (List.mem_of_getElem? (i := 70) rfl)) F2 d17_5 rfl (fun T8 X9 => ?_)
  refine own_callV X9 (hw _ (List.mem_of_getElem? (i := 126) rfl)) (hw _ (List.mem_of_getElem? (i := 127) rfl)) (hw _ (List.mem_of_getElem? (i := 129) rfl)) (hw _ (List.mem_of_getElem? (i := 128) rfl)) (hw _ (List.mem_of_getElem? (i := 16) rfl)) (hw _ (List.mem_of_getElem? (i := 130) rfl)) (by decide) (a := c_) (argsL := [(.int ni.toInt32)]) (rest := []) (own_mgt l Z a0 hw [] c_ ni t_ n _ _ Z0 F4 F5 hni hn8) F3 (pd_18) rfl d17_8 rfl rfl rfl (W := 0) rfl (by decide) (by decide) (cells' := 0) (slots' := 0) rfl rfl (by decide) (by decide) (fun v T12 h14 X13 q15 => ?_)
  obtain ⟨y10, rfl, rfl⟩ := q15
  show own_Fin p e below (own_End s n0 (own_qnw a0_ ni c_ t_ n Z h0) ({ frames := 1, cells := 0, slots := 0, locals := 13 } : Room).cells ({ frames := 1, cells := 0, slots := 0, locals := 13 } : Room).slots) (T12.setTop (mkF m 11 #[.val (.ref a0_)] [(.int y10)]))
  exact own_retI X13 rfl d17_11 ⟨_, rfl, rfl⟩ (by decide) (by decide)
theorem d20_0 : decode jdk_30_method_1_code 0 = .ok (.aload_n 0, 1) := by decide +kernel
theorem d20_1 : decode jdk_30_method_1_code 1 = .ok (.invokespecial 1, 3) := by decide +kernel
theorem d20_4 : decode jdk_30_method_1_code 4 = .ok (.return_, 1) := by decide +kernel
theorem own_pnrc : plainFor (⟨"java/lang/Record", "<init>", "()V"⟩ : MethodName) = true := by first | exact plainFor_of_name (by first | (simp [plainName, overriddenIn, x]; done) | decide +kernel) | decide +kernel
theorem own_efrc (a0_ : Addr) (m : MethodId) : entryFrame m #[(.ref a0_)] 1 = mkF m 0 #[.val (.ref a0_)] [] := by
  first | (simp [entryFrame, mkF, argsToLocals, Value.category]; done) | rfl
def own_qrc (a0_ : Addr) (Z : State) (h0 : Heap) (v : Option Value) (h : Heap) : Prop := v = none ∧ h0 = h
set_option maxRecDepth 65536 in
set_option maxHeartbeats 40000000 in
theorem own_mrc (l : Launch) (Z : State) (a0 : Array Value) (hw : ∀ d ∈ tables_1, d.before a0 Z = true) (ws : List Jvm.Cond) (a0_ : Addr) (h0 : Heap) (n0 : Nat) (Z0 : n0 ≤ h0.size)  :
    own_Met l Z (⟨"java/lang/Record", "<init>", "()V"⟩ : MethodName) jdk_30_method_1_code 1 none ws ({ frames := 1, cells := 0, slots := 0, locals := 12 } : Room) #[(.ref a0_)] h0 n0 (own_qrc a0_ Z h0) := by
  refine own_enter (own := "java/lang/Record") (nm := "<init>") rfl rfl own_pnrc (own_efrc a0_) ?_
  intro p e s m below meth c T0 X0
  refine own_aloadN X0 d20_0 rfl rfl rfl ?_
  refine own_initO X0 (hw _ (List.mem_of_getElem? (i := 139) rfl)) (hw _ (List.mem_of_getElem? (i := 7) rfl)) (hw _ (List.mem_of_getElem? (i := 8) rfl)) d20_1 rfl rfl (by decide) (W := 0) rfl (by decide) (fun T1 X2 => ?_)
  exact own_retV X2 rfl d20_4 ⟨rfl, rfl⟩ (by decide) (by decide)
theorem d19_0 : decode prog_48_method_1_code 0 = .ok (.aload_n 0, 1) := by decide +kernel
theorem d19_1 : decode prog_48_method_1_code 1 = .ok (.invokespecial 1, 3) := by decide +kernel
theorem d19_4 : decode prog_48_method_1_code 4 = .ok (.aload_n 0, 1) := by decide +kernel
theorem d19_5 : decode prog_48_method_1_code 5 = .ok (.iload_n 1, 1) := by decide +kernel
theorem d19_6 : decode prog_48_method_1_code 6 = .ok (.putfield 7, 3) := by decide +kernel
theorem d19_9 : decode prog_48_method_1_code 9 = .ok (.aload_n 0, 1) := by decide +kernel
theorem d19_10 : decode prog_48_method_1_code 10 = .ok (.iload_n 2, 1) := by decide +kernel
theorem d19_11 : decode prog_48_method_1_code 11 = .ok (.putfield 13, 3) := by decide +kernel
theorem d19_14 : decode prog_48_method_1_code 14 = .ok (.aload_n 0, 1) := by decide +kernel
theorem d19_15 : decode prog_48_method_1_code 15 = .ok (.aload_n 3, 1) := by decide +kernel
theorem d19_16 : decode prog_48_method_1_code 16 = .ok (.putfield 16, 3) := by decide +kernel
theorem d19_19 : decode prog_48_method_1_code 19 = .ok (.aload_n 0, 1) := by decide +kernel
theorem d19_20 : decode prog_48_method_1_code 20 = .ok (.aload 4, 2) := by decide +kernel
theorem d19_22 : decode prog_48_method_1_code 22 = .ok (.putfield 20, 3) := by decide +kernel
theorem d19_25 : decode prog_48_method_1_code 25 = .ok (.aload_n 0, 1) := by decide +kernel
theorem d19_26 : decode prog_48_method_1_code 26 = .ok (.iload 5, 2) := by decide +kernel
theorem d19_28 : decode prog_48_method_1_code 28 = .ok (.putfield 24, 3) := by decide +kernel
theorem d19_31 : decode prog_48_method_1_code 31 = .ok (.aload_n 0, 1) := by decide +kernel
theorem d19_32 : decode prog_48_method_1_code 32 = .ok (.aload 6, 2) := by decide +kernel
theorem d19_34 : decode prog_48_method_1_code 34 = .ok (.putfield 27, 3) := by decide +kernel
theorem d19_37 : decode prog_48_method_1_code 37 = .ok (.return_, 1) := by decide +kernel
theorem own_pnwi : plainFor (⟨"com/example/racewright/racewright/happensbefore/Location$Write", "<init>", "(IILjava/lang/String;Lcom/example/racewright/racewright/report/SourceLine;ILjava/lang/Object;)V"⟩ : MethodName) = true := by first | exact plainFor_of_name (by first | (simp [plainName, overriddenIn, x]; done) | decide +kernel) | decide +kernel
theorem own_efwi (a0_ : Addr) (x1 : Int32) (x2 : Int32) (x5 : Int32) (m : MethodId) : entryFrame m #[(.ref a0_), (.int x1), (.int x2), (.null), (.null), (.int x5), (.null)] 7 = mkF m 0 #[.val (.ref a0_), .val (.int x1), .val (.int x2), .val (.null), .val (.null), .val (.int x5), .val (.null)] [] := by
  first | (simp [entryFrame, mkF, argsToLocals, Value.category]; done) | rfl
def own_qwi (a0_ : Addr) (x1 : Int32) (x2 : Int32) (x5 : Int32) (Z : State) (h0 : Heap) (v : Option Value) (h : Heap) : Prop := v = none ∧ Keep h0 h [a0_]
set_option maxRecDepth 65536 in
set_option maxHeartbeats 40000000 in
theorem own_mwi (l : Launch) (Z : State) (a0 : Array Value) (hw : ∀ d ∈ tables_1, d.before a0 Z = true) (ws : List Jvm.Cond) (a0_ : Addr) (x1 : Int32) (x2 : Int32) (x5 : Int32) (h0 : Heap) (n0 : Nat) (Z0 : n0 ≤ h0.size) (F1 : Exa Z h0 a0_ "com/example/racewright/racewright/happensbefore/Location$Write") (F2 : Fld Z h0 a0_ "com/example/racewright/racewright/happensbefore/Location$Write" "thread" "I" (.int (0 : Int32))) (F3 : Fld Z h0 a0_ "com/example/racewright/racewright/happensbefore/Location$Write" "epoch" "I" (.int (0 : Int32))) (F4 : Fld Z h0 a0_ "com/example/racewright/racewright/happensbefore/Location$Write" "threadName" "Ljava/lang/String;" (.null)) (F5 : Fld Z h0 a0_ "com/example/racewright/racewright/happensbefore/Location$Write" "at" "Lcom/example/racewright/racewright/report/SourceLine;" (.null)) (F6 : Fld Z h0 a0_ "com/example/racewright/racewright/happensbefore/Location$Write" "entry" "I" (.int (0 : Int32))) (F7 : Fld Z h0 a0_ "com/example/racewright/racewright/happensbefore/Location$Write" "additions" "Ljava/lang/Object;" (.null)) (ge_a0_ : n0 ≤ a0_) :
    own_Met l Z (⟨"com/example/racewright/racewright/happensbefore/Location$Write", "<init>", "(IILjava/lang/String;Lcom/example/racewright/racewright/report/SourceLine;ILjava/lang/Object;)V"⟩ : MethodName) prog_48_method_1_code 7 none ws ({ frames := 2, cells := 0, slots := 0, locals := 24 } : Room) #[(.ref a0_), (.int x1), (.int x2), (.null), (.null), (.int x5), (.null)] h0 n0 (own_qwi a0_ x1 x2 x5 Z h0) := by
  refine own_enter (own := "com/example/racewright/racewright/happensbefore/Location$Write") (nm := "<init>") rfl rfl own_pnwi (own_efwi a0_ x1 x2 x5) ?_
  intro p e s m below meth c T0 X0
  have K8 := (Keep.refl h0 [a0_])
  refine own_aloadN X0 d19_0 rfl rfl rfl ?_
  refine own_callI X0 rfl (hw _ (List.mem_of_getElem? (i := 134) rfl)) (hw _ (List.mem_of_getElem? (i := 135) rfl)) (hw _ (List.mem_of_getElem? (i := 137) rfl)) (hw _ (List.mem_of_getElem? (i := 138) rfl)) (by decide) (a := a0_) (argsL := []) (rest := []) (own_mrc l Z a0 hw [] a0_ _ _ Z0 ) (pd_20) rfl d19_1 rfl rfl rfl (W := 0) rfl (by decide) (by decide) (cells' := 0) (slots' := 0) rfl rfl (by decide) (by decide) (fun v T10 h12 X11 q13 => ?_)
  obtain ⟨rfl, rfl⟩ := q13
  show own_Fin p e below (own_End s n0 (own_qwi a0_ x1 x2 x5 Z h0) ({ frames := 2, cells := 0, slots := 0, locals := 24 } : Room).cells ({ frames := 2, cells := 0, slots := 0, locals := 24 } : Room).slots) (T10.setTop (mkF m 4 #[.val (.ref a0_), .val (.int x1), .val (.int x2), .val (.null), .val (.null), .val (.int x5), .val (.null)] []))
  refine own_aloadN X11 d19_4 rfl rfl rfl ?_
  refine own_iloadN X11 d19_5 rfl rfl ?_
  refine own_putf X11 (hw _ (List.mem_of_getElem? (i := 140) rfl)) F2 F1 (Or.inr ⟨(hw _ (List.mem_of_getElem? (i := 141) rfl)), rfl, rfl⟩) (hw _ (List.mem_of_getElem? (i := 118) rfl)) (ty := .int) (by decide) rfl rfl ge_a0_ d19_6 rfl (fun T14 h16 X15 W17 => ?_)
  have F18 := (F1.wr W17)
  have F19 := (F2.same W17)
  have F20 := (F3.other W17 (Or.inr (slot_ne (Or.inr (hw _ (List.mem_of_getElem? (i := 143) rfl))) (Or.inr (hw _ (List.mem_of_getElem? (i := 141) rfl))) (by decide) (t := .int) (t' := .int) (by decide) (by decide))))
  have F21 := (F4.other W17 (Or.inr (slot_ne (Or.inr (hw _ (List.mem_of_getElem? (i := 145) rfl))) (Or.inr (hw _ (List.mem_of_getElem? (i := 141) rfl))) (by decide) (t := (.object "java/lang/String")) (t' := .int) (by decide) (by decide))))
  have F22 := (F5.other W17 (Or.inr (slot_ne (Or.inr (hw _ (List.mem_of_getElem? (i := 147) rfl))) (Or.inr (hw _ (List.mem_of_getElem? (i := 141) rfl))) (by decide) (t := (.object "com/example/racewright/racewright/report/SourceLine")) (t' := .int) (by decide) (by decide))))
  have F23 := (F6.other W17 (Or.inr (slot_ne (Or.inr (hw _ (List.mem_of_getElem? (i := 149) rfl))) (Or.inr (hw _ (List.mem_of_getElem? (i := 141) rfl))) (by decide) (t := .int) (t' := .int) (by decide) (by decide))))
  have F24 := (F7.other W17 (Or.inr (slot_ne (Or.inr (hw _ (List.mem_of_getElem? (i := 151) rfl))) (Or.inr (hw _ (List.mem_of_getElem? (i := 141) rfl))) (by decide) (t := (.object "java/lang/Object")) (t' := .int) (by decide) (by decide))))
  have Z25 : n0 ≤ h16.size := (Nat.le_trans Z0 (Nat.le_of_eq W17.size.symm))
  have K26 := (K8.wr W17 (Or.inl (List.mem_of_getElem? (i := 0) rfl)))
  refine own_aloadN X15 d19_9 rfl rfl rfl ?_
  refine own_iloadN X15 d19_10 rfl rfl ?_
  refine own_putf X15 (hw _ (List.mem_of_getElem? (i := 142) rfl)) F20 F18 (Or.inr ⟨(hw _ (List.mem_of_getElem? (i := 143) rfl)), rfl, rfl⟩) (hw _ (List.mem_of_getElem? (i := 118) rfl)) (ty := .int) (by decide) rfl rfl ge_a0_ d19_11 rfl (fun T27 h29 X28 W30 => ?_)
  have F31 := (F18.wr W30)
  have F32 := (F19.other W30 (Or.inr (slot_ne (Or.inr (hw _ (List.mem_of_getElem? (i := 141) rfl))) (Or.inr (hw _ (List.mem_of_getElem? (i := 143) rfl))) (by decide) (t := .int) (t' := .int) (by decide) (by decide))))
  have F33 := (F20.same W30)
  have F34 := (F21.other W30 (Or.inr (slot_ne (Or.inr (hw _ (List.mem_of_getElem? (i := 145) rfl))) (Or.inr (hw _ (List.mem_of_getElem? (i := 143) rfl))) (by decide) (t := (.object "java/lang/String")) (t' := .int) (by decide) (by decide))))
  have F35 := (F22.other W30 (Or.inr (slot_ne (Or.inr (hw _ (List.mem_of_getElem? (i := 147) rfl))) (Or.inr (hw _ (List.mem_of_getElem? (i := 143) rfl))) (by decide) (t := (.object "com/example/racewright/racewright/report/SourceLine")) (t' := .int) (by decide) (by decide))))
  have F36 := (F23.other W30 (Or.inr (slot_ne (Or.inr (hw _ (List.mem_of_getElem? (i := 149) rfl))) (Or.inr (hw _ (List.mem_of_getElem? (i := 143) rfl))) (by decide) (t := .int) (t' := .int) (by decide) (by decide))))
  have F37 := (F24.other W30 (Or.inr (slot_ne (Or.inr (hw _ (List.mem_of_getElem? (i := 151) rfl))) (Or.inr (hw _ (List.mem_of_getElem? (i := 143) rfl))) (by decide) (t := (.object "java/lang/Object")) (t' := .int) (by decide) (by decide))))
  have Z38 : n0 ≤ h29.size := (Nat.le_trans Z25 (Nat.le_of_eq W30.size.symm))
  have K39 := (K26.wr W30 (Or.inl (List.mem_of_getElem? (i := 0) rfl)))
  refine own_aloadN X28 d19_14 rfl rfl rfl ?_
  refine own_aloadN X28 d19_15 rfl rfl rfl ?_
  refine own_putf X28 (hw _ (List.mem_of_getElem? (i := 144) rfl)) F34 F31 (Or.inr ⟨(hw _ (List.mem_of_getElem? (i := 145) rfl)), rfl, rfl⟩) (hw _ (List.mem_of_getElem? (i := 118) rfl)) (ty := (.object "java/lang/String")) (by decide) rfl rfl ge_a0_ d19_16 rfl (fun T40 h42 X41 W43 => ?_)
  have F44 := (F31.wr W43)
  have F45 := (F32.other W43 (Or.inr (slot_ne (Or.inr (hw _ (List.mem_of_getElem? (i := 141) rfl))) (Or.inr (hw _ (List.mem_of_getElem? (i := 145) rfl))) (by decide) (t := .int) (t' := (.object "java/lang/String")) (by decide) (by decide))))
  have F46 := (F33.other W43 (Or.inr (slot_ne (Or.inr (hw _ (List.mem_of_getElem? (i := 143) rfl))) (Or.inr (hw _ (List.mem_of_getElem? (i := 145) rfl))) (by decide) (t := .int) (t' := (.object "java/lang/String")) (by decide) (by decide))))
  have F47 := (F34.same W43)
  have F48 := (F35.other W43 (Or.inr (slot_ne (Or.inr (hw _ (List.mem_of_getElem? (i := 147) rfl))) (Or.inr (hw _ (List.mem_of_getElem? (i := 145) rfl))) (by decide) (t := (.object "com/example/racewright/racewright/report/SourceLine")) (t' := (.object "java/lang/String")) (by decide) (by decide))))
  have F49 := (F36.other W43 (Or.inr (slot_ne (Or.inr (hw _ (List.mem_of_getElem? (i := 149) rfl))) (Or.inr (hw _ (List.mem_of_getElem? (i := 145) rfl))) (by decide) (t := .int) (t' := (.object "java/lang/String")) (by decide) (by decide))))
  have F50 := (F37.other W43 (Or.inr (slot_ne (Or.inr (hw _ (List.mem_of_getElem? (i := 151) rfl))) (Or.inr (hw _ (List.mem_of_getElem? (i := 145) rfl))) (by decide) (t := (.object "java/lang/Object")) (t' := (.object "java/lang/String")) (by decide) (by decide))))
  have Z51 : n0 ≤ h42.size := (Nat.le_trans Z38 (Nat.le_of_eq W43.size.symm))
  have K52 := (K39.wr W43 (Or.inl (List.mem_of_getElem? (i := 0) rfl)))
  refine own_aloadN X41 d19_19 rfl rfl rfl ?_
  refine own_aload X41 d19_20 rfl rfl rfl ?_
  refine own_putf X41 (hw _ (List.mem_of_getElem? (i := 146) rfl)) F48 F44 (Or.inr ⟨(hw _ (List.mem_of_getElem? (i := 147) rfl)), rfl, rfl⟩) (hw _ (List.mem_of_getElem? (i := 118) rfl)) (ty := (.object "com/example/racewright/racewright/report/SourceLine")) (by decide) rfl rfl ge_a0_ d19_22 rfl (fun T53 h55 X54 W56 => ?_)
  have F57 := (F44.wr W56)
  have F58 := (F45.other W56 (Or.inr (slot_ne (Or.inr (hw _ (List.mem_of_getElem? (i := 141) rfl))) (Or.inr (hw _ (List.mem_of_getElem? (i := 147) rfl))) (by decide) (t := .int) (t' := (.object "com/example/racewright/racewright/report/SourceLine")) (by decide) (by decide))))
  have F59 := (F46.other W56 (Or.inr (slot_ne (Or.inr (hw _ (List.mem_of_getElem? (i := 143) rfl))) (Or.inr (hw _ (List.mem_of_getElem? (i := 147) rfl))) (by decide) (t := .int) (t' := (.object "com/example/racewright/racewright/report/SourceLine")) (by decide) (by decide))))
  have F60 := (F47.other W56 (Or.inr (slot_ne (Or.inr (hw _ (List.mem_of_getElem? (i := 145) rfl))) (Or.inr (hw _ (List.mem_of_getElem? (i := 147) rfl))) (by decide) (t := (.object "java/lang/String")) (t' := (.object "com/example/racewright/racewright/report/SourceLine")) (by decide) (by decide))))
  have F61 := (F48.same W56)
  have F62 := (F49.other W56 (Or.inr (slot_ne (Or.inr (hw _ (List.mem_of_getElem? (i := 149) rfl))) (Or.inr (hw _ (List.mem_of_getElem? (i := 147) rfl))) (by decide) (t := .int) (t' := (.object "com/example/racewright/racewright/report/SourceLine")) (by decide) (by decide))))
  have F63 := (F50.other W56 (Or.inr (slot_ne (Or.inr (hw _ (List.mem_of_getElem? (i := 151) rfl))) (Or.inr (hw _ (List.mem_of_getElem? (i := 147) rfl))) (by decide) (t := (.object "java/lang/Object")) (t' := (.object "com/example/racewright/racewright/report/SourceLine")) (by decide) (by decide))))
  have Z64 : n0 ≤ h55.size := (Nat.le_trans Z51 (Nat.le_of_eq W56.size.symm))
  have K65 := (K52.wr W56 (Or.inl (List.mem_of_getElem? (i := 0) rfl)))
  refine own_aloadN X54 d19_25 rfl rfl rfl ?_
  refine own_iload X54 d19_26 rfl rfl ?_
  refine own_putf X54 (hw _ (List.mem_of_getElem? (i := 148) rfl)) F62 F57 (Or.inr ⟨(hw _ (List.mem_of_getElem? (i := 149) rfl)), rfl, rfl⟩) (hw _ (List.mem_of_getElem? (i := 118) rfl)) (ty := .int) (by decide) rfl rfl ge_a0_ d19_28 rfl (fun T66 h68 X67 W69 => ?_)
  have F70 := (F57.wr W69)
  have F71 := (F58.other W69 (Or.inr (slot_ne (Or.inr (hw _ (List.mem_of_getElem? (i := 141) rfl))) (Or.inr (hw _ (List.mem_of_getElem? (i := 149) rfl))) (by decide) (t := .int) (t' := .int) (by decide) (by decide))))
  have F72 := (F59.other W69 (Or.inr (slot_ne (Or.inr (hw _ (List.mem_of_getElem? (i := 143) rfl))) (Or.inr (hw _ (List.mem_of_getElem? (i := 149) rfl))) (by decide) (t := .int) (t' := .int) (by decide) (by decide))))
  have F73 := (F60.other W69 (Or.inr (slot_ne (Or.inr (hw _ (List.mem_of_getElem? (i := 145) rfl))) (Or.inr (hw _ (List.mem_of_getElem? (i := 149) rfl))) (by decide) (t := (.object "java/lang/String")) (t' := .int) (by decide) (by decide))))
  have F74 := (F61.other W69 (Or.inr (slot_ne (Or.inr (hw _ (List.mem_of_getElem? (i := 147) rfl))) (Or.inr (hw _ (List.mem_of_getElem? (i := 149) rfl))) (by decide) (t := (.object "com/example/racewright/racewright/report/SourceLine")) (t' := .int) (by decide) (by decide))))
  have F75 := (F62.same W69)
  have F76 := (F63.other W69 (Or.inr (slot_ne (Or.inr (hw _ (List.mem_of_getElem? (i := 151) rfl))) (Or.inr (hw _ (List.mem_of_getElem? (i := 149) rfl))) (by decide) (t := (.object "java/lang/Object")) (t' := .int) (by decide) (by decide))))
  have Z77 : n0 ≤ h68.size := (Nat.le_trans Z64 (Nat.le_of_eq W69.size.symm))
  have K78 := (K65.wr W69 (Or.inl (List.mem_of_getElem? (i := 0) rfl)))
  refine own_aloadN X67 d19_31 rfl rfl rfl ?_
  refine own_aload X67 d19_32 rfl rfl rfl ?_
  refine own_putf X67 (hw _ (List.mem_of_getElem? (i := 150) rfl)) F76 F70 (Or.inr ⟨(hw _ (List.mem_of_getElem? (i := 151) rfl)), rfl, rfl⟩) (hw _ (List.mem_of_getElem? (i := 118) rfl)) (ty := (.object "java/lang/Object")) (by decide) rfl rfl ge_a0_ d19_34 rfl (fun T79 h81 X80 W82 => ?_)
  have F83 := (F70.wr W82)
  have F84 := (F71.other W82 (Or.inr (slot_ne (Or.inr (hw _ (List.mem_of_getElem? (i := 141) rfl))) (Or.inr (hw _ (List.mem_of_getElem? (i := 151) rfl))) (by decide) (t := .int) (t' := (.object "java/lang/Object")) (by decide) (by decide))))
  have F85 := (F72.other W82 (Or.inr (slot_ne (Or.inr (hw _ (List.mem_of_getElem? (i := 143) rfl))) (Or.inr (hw _ (List.mem_of_getElem? (i := 151) rfl))) (by decide) (t := .int) (t' := (.object "java/lang/Object")) (by decide) (by decide))))
  have F86 := (F73.other W82 (Or.inr (slot_ne (Or.inr (hw _ (List.mem_of_getElem? (i := 145) rfl))) (Or.inr (hw _ (List.mem_of_getElem? (i := 151) rfl))) (by decide) (t := (.object "java/lang/String")) (t' := (.object "java/lang/Object")) (by decide) (by decide))))
  have F87 := (F74.other W82 (Or.inr (slot_ne (Or.inr (hw _ (List.mem_of_getElem? (i := 147) rfl))) (Or.inr (hw _ (List.mem_of_getElem? (i := 151) rfl))) (by decide) (t := (.object "com/example/racewright/racewright/report/SourceLine")) (t' := (.object "java/lang/Object")) (by decide) (by decide))))
  have F88 := (F75.other W82 (Or.inr (slot_ne (Or.inr (hw _ (List.mem_of_getElem? (i := 149) rfl))) (Or.inr (hw _ (List.mem_of_getElem? (i := 151) rfl))) (by decide) (t := .int) (t' := (.object "java/lang/Object")) (by decide) (by decide))))
  have F89 := (F76.same W82)
  have Z90 : n0 ≤ h81.size := (Nat.le_trans Z77 (Nat.le_of_eq W82.size.symm))
  have K91 := (K78.wr W82 (Or.inl (List.mem_of_getElem? (i := 0) rfl)))
  exact own_retV X80 rfl d19_37 ⟨rfl, K91⟩ (by decide) (by decide)
theorem d16_0 : decode prog_47_method_4_code 0 = .ok (.aload_n 1, 1) := by decide +kernel
theorem d16_1 : decode prog_47_method_4_code 1 = .ok (.getfield 74, 3) := by decide +kernel
theorem d16_4 : decode prog_47_method_4_code 4 = .ok (.ifnonnull 11, 3) := by decide +kernel
theorem d16_7 : decode prog_47_method_4_code 7 = .ok (.aload_n 0, 1) := by decide +kernel
theorem d16_8 : decode prog_47_method_4_code 8 = .ok (.aconst_null, 1) := by decide +kernel
theorem d16_9 : decode prog_47_method_4_code 9 = .ok (.putfield 78, 3) := by decide +kernel
theorem d16_12 : decode prog_47_method_4_code 12 = .ok (.goto 32, 3) := by decide +kernel
theorem d16_44 : decode prog_47_method_4_code 44 = .ok (.aload_n 0, 1) := by decide +kernel
theorem d16_45 : decode prog_47_method_4_code 45 = .ok (.new 47, 3) := by decide +kernel
theorem d16_48 : decode prog_47_method_4_code 48 = .ok (.dup, 1) := by decide +kernel
theorem d16_49 : decode prog_47_method_4_code 49 = .ok (.aload_n 1, 1) := by decide +kernel
theorem d16_50 : decode prog_47_method_4_code 50 = .ok (.getfield 30, 3) := by decide +kernel
theorem d16_53 : decode prog_47_method_4_code 53 = .ok (.aload_n 1, 1) := by decide +kernel
theorem d16_54 : decode prog_47_method_4_code 54 = .ok (.invokevirtual 84, 3) := by decide +kernel
theorem d16_57 : decode prog_47_method_4_code 57 = .ok (.aload_n 2, 1) := by decide +kernel
theorem d16_58 : decode prog_47_method_4_code 58 = .ok (.aload_n 3, 1) := by decide +kernel
theorem d16_59 : decode prog_47_method_4_code 59 = .ok (.iload 4, 2) := by decide +kernel
theorem d16_61 : decode prog_47_method_4_code 61 = .ok (.aload_n 1, 1) := by decide +kernel
theorem d16_62 : decode prog_47_method_4_code 62 = .ok (.getfield 74, 3) := by decide +kernel
theorem d16_65 : decode prog_47_method_4_code 65 = .ok (.invokespecial 87, 3) := by decide +kernel
theorem d16_68 : decode prog_47_method_4_code 68 = .ok (.putfield 39, 3) := by decide +kernel
theorem d16_71 : decode prog_47_method_4_code 71 = .ok (.aload_n 0, 1) := by decide +kernel
theorem d16_72 : decode prog_47_method_4_code 72 = .ok (.aconst_null, 1) := by decide +kernel
theorem d16_73 : decode prog_47_method_4_code 73 = .ok (.putfield 23, 3) := by decide +kernel
theorem d16_76 : decode prog_47_method_4_code 76 = .ok (.aload_n 0, 1) := by decide +kernel
theorem d16_77 : decode prog_47_method_4_code 77 = .ok (.iconst 0, 1) := by decide +kernel
theorem d16_78 : decode prog_47_method_4_code 78 = .ok (.putfield 90, 3) := by decide +kernel
theorem d16_81 : decode prog_47_method_4_code 81 = .ok (.aload_n 0, 1) := by decide +kernel
theorem d16_82 : decode prog_47_method_4_code 82 = .ok (.iconst (-1), 1) := by decide +kernel
theorem d16_83 : decode prog_47_method_4_code 83 = .ok (.putfield 9, 3) := by decide +kernel
theorem d16_86 : decode prog_47_method_4_code 86 = .ok (.return_, 1) := by decide +kernel
theorem own_pnwr : plainFor (⟨"com/example/racewright/racewright/happensbefore/Location", "written", "(Lcom/example/racewright/racewright/happensbefore/ThreadState;Ljava/lang/String;Lcom/example/racewright/racewright/report/SourceLine;I)V"⟩ : MethodName) = true := by first | exact plainFor_of_name (by first | (simp [plainName, overriddenIn, x]; done) | decide +kernel) | decide +kernel
theorem own_efwr (a0_ : Addr) (th : Addr) (m : MethodId) : entryFrame m #[(.ref a0_), (.ref th), (.null), (.null), (.int ((-1) : Int32))] 5 = mkF m 0 #[.val (.ref a0_), .val (.ref th), .val (.null), .val (.null), .val (.int ((-1) : Int32))] [] := by
  first | (simp [entryFrame, mkF, argsToLocals, Value.category]; done) | rfl
def own_qwr (a0_ : Addr) (th : Addr) (rs : Int32) (ur : Int32) (o_beforeAdditions : Value) (o_lastWrite : Value) (o_racedWithLastWrite : Value) (ni : Nat) (c_ : Addr) (t_ : Addr) (n : Nat) (Z : State) (h0 : Heap) (v : Option Value) (h : Heap) : Prop := ∃ (w_beforeAdditions : Value) (w_lastWrite : Value) (w_racedWithLastWrite : Value), v = none ∧ Keep h0 h [a0_] ∧ Fld Z h a0_ "com/example/racewright/racewright/happensbefore/Location" "readScheduled" "Z" (.int (0 : Int32)) ∧ Fld Z h a0_ "com/example/racewright/racewright/happensbefore/Location" "unscheduledReader" "I" (.int ((-1) : Int32)) ∧ Fld Z h a0_ "com/example/racewright/racewright/happensbefore/Location" "beforeAdditions" "Lcom/example/racewright/racewright/happensbefore/Location$Write;" (w_beforeAdditions) ∧ Fld Z h a0_ "com/example/racewright/racewright/happensbefore/Location" "lastWrite" "Lcom/example/racewright/racewright/happensbefore/Location$Write;" (w_lastWrite) ∧ Fld Z h a0_ "com/example/racewright/racewright/happensbefore/Location" "racedWithLastWrite" "Ljava/util/BitSet;" (w_racedWithLastWrite)
set_option maxRecDepth 65536 in
set_option maxHeartbeats 40000000 in
theorem own_mwr (l : Launch) (Z : State) (a0 : Array Value) (hw : ∀ d ∈ tables_1, d.before a0 Z = true) (ws : List Jvm.Cond) (a0_ : Addr) (th : Addr) (rs : Int32) (ur : Int32) (o_beforeAdditions : Value) (o_lastWrite : Value) (o_racedWithLastWrite : Value) (ni : Nat) (c_ : Addr) (t_ : Addr) (n : Nat) (h0 : Heap) (n0 : Nat) (Z0 : n0 ≤ h0.size) (F1 : Exa Z h0 a0_ "com/example/racewright/racewright/happensbefore/Location") (F2 : Fld Z h0 a0_ "com/example/racewright/racewright/happensbefore/Location" "readScheduled" "Z" (.int rs)) (F3 : Fld Z h0 a0_ "com/example/racewright/racewright/happensbefore/Location" "unscheduledReader" "I" (.int ur)) (F4 : Fld Z h0 a0_ "com/example/racewright/racewright/happensbefore/Location" "beforeAdditions" "Lcom/example/racewright/racewright/happensbefore/Location$Write;" (o_beforeAdditions)) (F5 : Fld Z h0 a0_ "com/example/racewright/racewright/happensbefore/Location" "lastWrite" "Lcom/example/racewright/racewright/happensbefore/Location$Write;" (o_lastWrite)) (F6 : Fld Z h0 a0_ "com/example/racewright/racewright/happensbefore/Location" "racedWithLastWrite" "Ljava/util/BitSet;" (o_racedWithLastWrite)) (F7 : Exa Z h0 th "com/example/racewright/racewright/happensbefore/ThreadState") (F8 : Fld Z h0 th "com/example/racewright/racewright/happensbefore/ThreadState" "additions" "Ljava/lang/Object;" (.null)) (F9 : Fld Z h0 th "com/example/racewright/racewright/happensbefore/ThreadState" "id" "I" (.int ni.toInt32)) (F10 : Fld Z h0 th "com/example/racewright/racewright/happensbefore/ThreadState" "clock" "Lcom/example/racewright/racewright/happensbefore/VectorClock;" (.ref c_)) (F11 : Exa Z h0 c_ "com/example/racewright/racewright/happensbefore/VectorClock") (F12 : Fld Z h0 c_ "com/example/racewright/racewright/happensbefore/VectorClock" "ticks" "[I" (.ref t_)) (F13 : own_IA Z h0 t_ n) (ge_a0_ : n0 ≤ a0_) (ne_th_a0_ : th ≠ a0_) (ne_c__a0_ : c_ ≠ a0_) (ne_t__a0_ : t_ ≠ a0_) (hni : ni < 8) (hn8 : n ≤ 8) :
    own_Met l Z (⟨"com/example/racewright/racewright/happensbefore/Location", "written", "(Lcom/example/racewright/racewright/happensbefore/ThreadState;Ljava/lang/String;Lcom/example/racewright/racewright/report/SourceLine;I)V"⟩ : MethodName) prog_47_method_4_code 5 none ws ({ frames := 3, cells := 1, slots := 6, locals := 44 } : Room) #[(.ref a0_), (.ref th), (.null), (.null), (.int ((-1) : Int32))] h0 n0 (own_qwr a0_ th rs ur o_beforeAdditions o_lastWrite o_racedWithLastWrite ni c_ t_ n Z h0) := by
  refine own_enter (own := "com/example/racewright/racewright/happensbefore/Location") (nm := "written") rfl rfl own_pnwr (own_efwr a0_ th) ?_
  intro p e s m below meth c T0 X0
  have K14 := (Keep.refl h0 [a0_])
  refine own_aloadN X0 d16_0 rfl rfl rfl ?_
  refine own_getf X0 (hw _ (List.mem_of_getElem? (i := 113) rfl)) F8 d16_1 rfl (fun T15 X16 => ?_)
  refine own_nonnullN X16 d16_4 rfl ?_
  refine own_aloadN X16 d16_7 rfl rfl rfl ?_
  refine own_aconst_null X16 d16_8 rfl ?_
  refine own_putf X16 (hw _ (List.mem_of_getElem? (i := 115) rfl)) F4 F1 (Or.inl (hw _ (List.mem_of_getElem? (i := 116) rfl))) (hw _ (List.mem_of_getElem? (i := 1) rfl)) (ty := (.object "com/example/racewright/racewright/happensbefore/Location$Write")) (by decide) rfl rfl ge_a0_ d16_9 rfl (fun T17 h19 X18 W20 => ?_)
  have F21 := (F1.wr W20)
  have F22 := (F2.other W20 (Or.inr (slot_ne (Or.inl (hw _ (List.mem_of_getElem? (i := 157) rfl))) (Or.inl (hw _ (List.mem_of_getElem? (i := 116) rfl))) (by decide) (t := .boolean) (t' := (.object "com/example/racewright/racewright/happensbefore/Location$Write")) (by decide) (by decide))))
  have F23 := (F3.other W20 (Or.inr (slot_ne (Or.inl (hw _ (List.mem_of_getElem? (i := 10) rfl))) (Or.inl (hw _ (List.mem_of_getElem? (i := 116) rfl))) (by decide) (t := .int) (t' := (.object "com/example/racewright/racewright/happensbefore/Location$Write")) (by decide) (by decide))))
  have F24 := (F4.same W20)
  have F25 := (F5.other W20 (Or.inr (slot_ne (Or.inl (hw _ (List.mem_of_getElem? (i := 153) rfl))) (Or.inl (hw _ (List.mem_of_getElem? (i := 116) rfl))) (by decide) (t := (.object "com/example/racewright/racewright/happensbefore/Location$Write")) (t' := (.object "com/example/racewright/racewright/happensbefore/Location$Write")) (by decide) (by decide))))
  have F26 := (F6.other W20 (Or.inr (slot_ne (Or.inl (hw _ (List.mem_of_getElem? (i := 155) rfl))) (Or.inl (hw _ (List.mem_of_getElem? (i := 116) rfl))) (by decide) (t := (.object "java/util/BitSet")) (t' := (.object "com/example/racewright/racewright/happensbefore/Location$Write")) (by decide) (by decide))))
  have F27 := (F7.wr W20)
  have F28 := (F8.other W20 (Or.inl ne_th_a0_))
  have F29 := (F9.other W20 (Or.inl ne_th_a0_))
  have F30 := (F10.other W20 (Or.inl ne_th_a0_))
  have F31 := (F11.wr W20)
  have F32 := (F12.other W20 (Or.inl ne_c__a0_))
  have F33 := (F13.other W20 ne_t__a0_)
  have Z34 : n0 ≤ h19.size := (Nat.le_trans Z0 (Nat.le_of_eq W20.size.symm))
  have K35 := (K14.wr W20 (Or.inl (List.mem_of_getElem? (i := 0) rfl)))
  refine own_goto X18 d16_12 (by decide) (pc' := 44) (by decide) ?_
  refine own_aloadN X18 d16_44 rfl rfl rfl ?_
  refine own_new X18 (hw _ (List.mem_of_getElem? (i := 117) rfl)) (hw _ (List.mem_of_getElem? (i := 118) rfl)) (hw _ (List.mem_of_getElem? (i := 119) rfl)) d16_45 rfl (cells' := 1) (slots' := 6) rfl rfl (by decide) (by decide) (fun T36 h38 a42 g43 X37 E39 A40 D41 => ?_)
  have ge_a42 : n0 ≤ a42 := Nat.le_trans Z34 (Nat.le_of_eq g43.symm)
  have ne_a0__a42 : a0_ ≠ a42 := Nat.ne_of_lt (g43 ▸ F21.lt)
  have ne_th_a42 : th ≠ a42 := Nat.ne_of_lt (g43 ▸ F27.lt)
  have ne_c__a42 : c_ ≠ a42 := Nat.ne_of_lt (g43 ▸ F31.lt)
  have ne_t__a42 : t_ ≠ a42 := Nat.ne_of_lt (g43 ▸ F33.lt)
  have fr_a42 : h0.size ≤ a42 := Nat.le_trans K35.1 (Nat.le_of_eq g43.symm)
  have F44 := D41 (Or.inr (hw _ (List.mem_of_getElem? (i := 141) rfl))) (ty := .int) (by decide)
  replace F44 : Fld Z h38 a42 "com/example/racewright/racewright/happensbefore/Location$Write" "thread" "I" (.int (0 : Int32)) := F44
  have F45 := D41 (Or.inr (hw _ (List.mem_of_getElem? (i := 143) rfl))) (ty := .int) (by decide)
  replace F45 : Fld Z h38 a42 "com/example/racewright/racewright/happensbefore/Location$Write" "epoch" "I" (.int (0 : Int32)) := F45
  have F46 := D41 (Or.inr (hw _ (List.mem_of_getElem? (i := 145) rfl))) (ty := (.object "java/lang/String")) (by decide)
  replace F46 : Fld Z h38 a42 "com/example/racewright/racewright/happensbefore/Location$Write" "threadName" "Ljava/lang/String;" (.null) := F46
  have F47 := D41 (Or.inr (hw _ (List.mem_of_getElem? (i := 147) rfl))) (ty := (.object "com/example/racewright/racewright/report/SourceLine")) (by decide)
  replace F47 : Fld Z h38 a42 "com/example/racewright/racewright/happensbefore/Location$Write" "at" "Lcom/example/racewright/racewright/report/SourceLine;" (.null) := F47
  have F48 := D41 (Or.inr (hw _ (List.mem_of_getElem? (i := 149) rfl))) (ty := .int) (by decide)
  replace F48 : Fld Z h38 a42 "com/example/racewright/racewright/happensbefore/Location$Write" "entry" "I" (.int (0 : Int32)) := F48
  have F49 := D41 (Or.inr (hw _ (List.mem_of_getElem? (i := 151) rfl))) (ty := (.object "java/lang/Object")) (by decide)
  replace F49 : Fld Z h38 a42 "com/example/racewright/racewright/happensbefore/Location$Write" "additions" "Ljava/lang/Object;" (.null) := F49
  have F50 := (F21.ext E39)
  have F51 := (F22.ext E39)
  have F52 := (F23.ext E39)
  have F53 := (F24.ext E39)
  have F54 := (F25.ext E39)
  have F55 := (F26.ext E39)
  have F56 := (F27.ext E39)
  have F57 := (F28.ext E39)
  have F58 := (F29.ext E39)
  have F59 := (F30.ext E39)
  have F60 := (F31.ext E39)
  have F61 := (F32.ext E39)
  have F62 := (F33.ext E39)
  have Z63 : n0 ≤ h38.size := (Nat.le_trans Z34 E39.1)
  have K64 := (K35.ext E39)
  refine own_dup X37 d16_48 rfl rfl ?_
  refine own_aloadN X37 d16_49 rfl rfl rfl ?_
  refine own_getf X37 (hw _ (List.mem_of_getElem? (i := 120) rfl)) F58 d16_50 rfl (fun T65 X66 => ?_)
  refine own_aloadN X66 d16_53 rfl rfl rfl ?_
  refine own_callV X66 (hw _ (List.mem_of_getElem? (i := 121) rfl)) (hw _ (List.mem_of_getElem? (i := 122) rfl)) (hw _ (List.mem_of_getElem? (i := 124) rfl)) (hw _ (List.mem_of_getElem? (i := 123) rfl)) (hw _ (List.mem_of_getElem? (i := 13) rfl)) (hw _ (List.mem_of_getElem? (i := 125) rfl)) (by decide) (a := th) (argsL := []) (rest := [(.int ni.toInt32), (.ref a42), (.ref a42), (.ref a0_)]) (own_mnw l Z a0 hw [] th ni c_ t_ n _ _ Z63 F59 F58 F60 F61 F62 hni hn8) F56 (pd_17) rfl d16_54 rfl rfl rfl (W := 4) rfl (by decide) (by decide) (cells' := 1) (slots' := 6) rfl rfl (by decide) (by decide) (fun v T69 h71 X70 q72 => ?_)
  obtain ⟨y67, rfl, rfl⟩ := q72
  show own_Fin p e below (own_End s n0 (own_qwr a0_ th rs ur o_beforeAdditions o_lastWrite o_racedWithLastWrite ni c_ t_ n Z h0) ({ frames := 3, cells := 1, slots := 6, locals := 44 } : Room).cells ({ frames := 3, cells := 1, slots := 6, locals := 44 } : Room).slots) (T69.setTop (mkF m 57 #[.val (.ref a0_), .val (.ref th), .val (.null), .val (.null), .val (.int ((-1) : Int32))] [(.int y67), (.int ni.toInt32), (.ref a42), (.ref a42), (.ref a0_)]))
  refine own_aloadN X70 d16_57 rfl rfl rfl ?_
  refine own_aloadN X70 d16_58 rfl rfl rfl ?_
  refine own_iload X70 d16_59 rfl rfl ?_
  refine own_aloadN X70 d16_61 rfl rfl rfl ?_
  refine own_getf X70 (hw _ (List.mem_of_getElem? (i := 113) rfl)) F57 d16_62 rfl (fun T73 X74 => ?_)
  refine own_callI X74 rfl (hw _ (List.mem_of_getElem? (i := 131) rfl)) (hw _ (List.mem_of_getElem? (i := 132) rfl)) (hw _ (List.mem_of_getElem? (i := 119) rfl)) (hw _ (List.mem_of_getElem? (i := 133) rfl)) (by decide) (a := a42) (argsL := [(.int ni.toInt32), (.int y67), (.null), (.null), (.int ((-1) : Int32)), (.null)]) (rest := [(.ref a42), (.ref a0_)]) (own_mwi l Z a0 hw [] a42 ni.toInt32 y67 ((-1) : Int32) _ _ Z63 A40 F44 F45 F46 F47 F48 F49 ge_a42) (pd_19) rfl d16_65 rfl rfl rfl (W := 2) rfl (by decide) (by decide) (cells' := 1) (slots' := 6) rfl rfl (by decide) (by decide) (fun v T76 h78 X77 q79 => ?_)
  obtain ⟨rfl, K75⟩ := q79
  show own_Fin p e below (own_End s n0 (own_qwr a0_ th rs ur o_beforeAdditions o_lastWrite o_racedWithLastWrite ni c_ t_ n Z h0) ({ frames := 3, cells := 1, slots := 6, locals := 44 } : Room).cells ({ frames := 3, cells := 1, slots := 6, locals := 44 } : Room).slots) (T76.setTop (mkF m 68 #[.val (.ref a0_), .val (.ref th), .val (.null), .val (.null), .val (.int ((-1) : Int32))] [(.ref a42), (.ref a0_)]))
  have F80 := (F50.keep K75)
  have F81 := (F51.keep K75 (ninS ne_a0__a42 nin0))
  have F82 := (F52.keep K75 (ninS ne_a0__a42 nin0))
  have F83 := (F53.keep K75 (ninS ne_a0__a42 nin0))
  have F84 := (F54.keep K75 (ninS ne_a0__a42 nin0))
  have F85 := (F55.keep K75 (ninS ne_a0__a42 nin0))
  have F86 := (F56.keep K75)
  have F87 := (F57.keep K75 (ninS ne_th_a42 nin0))
  have F88 := (F58.keep K75 (ninS ne_th_a42 nin0))
  have F89 := (F59.keep K75 (ninS ne_th_a42 nin0))
  have F90 := (F60.keep K75)
  have F91 := (F61.keep K75 (ninS ne_c__a42 nin0))
  have F92 := (F62.keep K75 (ninS ne_t__a42 nin0))
  have F93 := (A40.keep K75)
  have Z94 : n0 ≤ h78.size := (Nat.le_trans Z63 K75.1)
  have K95 := (K64.trans K75 (allS (P := fun x => x ∈ _ ∨ _ ≤ x) (Or.inr fr_a42) all0))
  refine own_putf X77 (hw _ (List.mem_of_getElem? (i := 152) rfl)) F84 F80 (Or.inl (hw _ (List.mem_of_getElem? (i := 153) rfl))) (hw _ (List.mem_of_getElem? (i := 1) rfl)) (ty := (.object "com/example/racewright/racewright/happensbefore/Location$Write")) (by decide) rfl rfl ge_a0_ d16_68 rfl (fun T96 h98 X97 W99 => ?_)
  have F100 := (F80.wr W99)
  have F101 := (F81.other W99 (Or.inr (slot_ne (Or.inl (hw _ (List.mem_of_getElem? (i := 157) rfl))) (Or.inl (hw _ (List.mem_of_getElem? (i := 153) rfl))) (by decide) (t := .boolean) (t' := (.object "com/example/racewright/racewright/happensbefore/Location$Write")) (by decide) (by decide))))
  have F102 := (F82.other W99 (Or.inr (slot_ne (Or.inl (hw _ (List.mem_of_getElem? (i := 10) rfl))) (Or.inl (hw _ (List.mem_of_getElem? (i := 153) rfl))) (by decide) (t := .int) (t' := (.object "com/example/racewright/racewright/happensbefore/Location$Write")) (by decide) (by decide))))
  have F103 := (F83.other W99 (Or.inr (slot_ne (Or.inl (hw _ (List.mem_of_getElem? (i := 116) rfl))) (Or.inl (hw _ (List.mem_of_getElem? (i := 153) rfl))) (by decide) (t := (.object "com/example/racewright/racewright/happensbefore/Location$Write")) (t' := (.object "com/example/racewright/racewright/happensbefore/Location$Write")) (by decide) (by decide))))
  have F104 := (F84.same W99)
  have F105 := (F85.other W99 (Or.inr (slot_ne (Or.inl (hw _ (List.mem_of_getElem? (i := 155) rfl))) (Or.inl (hw _ (List.mem_of_getElem? (i := 153) rfl))) (by decide) (t := (.object "java/util/BitSet")) (t' := (.object "com/example/racewright/racewright/happensbefore/Location$Write")) (by decide) (by decide))))
  have F106 := (F86.wr W99)
  have F107 := (F87.other W99 (Or.inl ne_th_a0_))
  have F108 := (F88.other W99 (Or.inl ne_th_a0_))
  have F109 := (F89.other W99 (Or.inl ne_th_a0_))
  have F110 := (F90.wr W99)
  have F111 := (F91.other W99 (Or.inl ne_c__a0_))
  have F112 := (F92.other W99 ne_t__a0_)
  have F113 := (F93.wr W99)
  have Z114 : n0 ≤ h98.size := (Nat.le_trans Z94 (Nat.le_of_eq W99.size.symm))
  have K115 := (K95.wr W99 (Or.inl (List.mem_of_getElem? (i := 0) rfl)))
  refine own_aloadN X97 d16_71 rfl rfl rfl ?_
  refine own_aconst_null X97 d16_72 rfl ?_
  refine own_putf X97 (hw _ (List.mem_of_getElem? (i := 154) rfl)) F105 F100 (Or.inl (hw _ (List.mem_of_getElem? (i := 155) rfl))) (hw _ (List.mem_of_getElem? (i := 1) rfl)) (ty := (.object "java/util/BitSet")) (by decide) rfl rfl ge_a0_ d16_73 rfl (fun T116 h118 X117 W119 => ?_)
  have F120 := (F100.wr W119)
  have F121 := (F101.other W119 (Or.inr (slot_ne (Or.inl (hw _ (List.mem_of_getElem? (i := 157) rfl))) (Or.inl (hw _ (List.mem_of_getElem? (i := 155) rfl))) (by decide) (t := .boolean) (t' := (.object "java/util/BitSet")) (by decide) (by decide))))
  have F122 := (F102.other W119 (Or.inr (slot_ne (Or.inl (hw _ (List.mem_of_getElem? (i := 10) rfl))) (Or.inl (hw _ (List.mem_of_getElem? (i := 155) rfl))) (by decide) (t := .int) (t' := (.object "java/util/BitSet")) (by decide) (by decide))))
  have F123 := (F103.other W119 (Or.inr (slot_ne (Or.inl (hw _ (List.mem_of_getElem? (i := 116) rfl))) (Or.inl (hw _ (List.mem_of_getElem? (i := 155) rfl))) (by decide) (t := (.object "com/example/racewright/racewright/happensbefore/Location$Write")) (t' := (.object "java/util/BitSet")) (by decide) (by decide))))
  have F124 := (F104.other W119 (Or.inr (slot_ne (Or.inl (hw _ (List.mem_of_getElem? (i := 153) rfl))) (Or.inl (hw _ (List.mem_of_getElem? (i := 155) rfl))) (by decide) (t := (.object "com/example/racewright/racewright/happensbefore/Location$Write")) (t' := (.object "java/util/BitSet")) (by decide) (by decide))))
  have F125 := (F105.same W119)
  have F126 := (F106.wr W119)
  have F127 := (F107.other W119 (Or.inl ne_th_a0_))
  have F128 := (F108.other W119 (Or.inl ne_th_a0_))
  have F129 := (F109.other W119 (Or.inl ne_th_a0_))
  have F130 := (F110.wr W119)
  have F131 := (F111.other W119 (Or.inl ne_c__a0_))
  have F132 := (F112.other W119 ne_t__a0_)
  have F133 := (F113.wr W119)
  have Z134 : n0 ≤ h118.size := (Nat.le_trans Z114 (Nat.le_of_eq W119.size.symm))
  have K135 := (K115.wr W119 (Or.inl (List.mem_of_getElem? (i := 0) rfl)))
  refine own_aloadN X117 d16_76 rfl rfl rfl ?_
  refine own_iconst X117 (0 : Int32) d16_77 rfl (by decide) ?_
  refine own_putf X117 (hw _ (List.mem_of_getElem? (i := 156) rfl)) F121 F120 (Or.inl (hw _ (List.mem_of_getElem? (i := 157) rfl))) (hw _ (List.mem_of_getElem? (i := 1) rfl)) (ty := .boolean) (by decide) rfl rfl ge_a0_ d16_78 rfl (fun T136 h138 X137 W139 => ?_)
  have F140 := (F120.wr W139)
  have F141 := (F121.same W139)
  have F142 := (F122.other W139 (Or.inr (slot_ne (Or.inl (hw _ (List.mem_of_getElem? (i := 10) rfl))) (Or.inl (hw _ (List.mem_of_getElem? (i := 157) rfl))) (by decide) (t := .int) (t' := .boolean) (by decide) (by decide))))
  have F143 := (F123.other W139 (Or.inr (slot_ne (Or.inl (hw _ (List.mem_of_getElem? (i := 116) rfl))) (Or.inl (hw _ (List.mem_of_getElem? (i := 157) rfl))) (by decide) (t := (.object "com/example/racewright/racewright/happensbefore/Location$Write")) (t' := .boolean) (by decide) (by decide))))
  have F144 := (F124.other W139 (Or.inr (slot_ne (Or.inl (hw _ (List.mem_of_getElem? (i := 153) rfl))) (Or.inl (hw _ (List.mem_of_getElem? (i := 157) rfl))) (by decide) (t := (.object "com/example/racewright/racewright/happensbefore/Location$Write")) (t' := .boolean) (by decide) (by decide))))
  have F145 := (F125.other W139 (Or.inr (slot_ne (Or.inl (hw _ (List.mem_of_getElem? (i := 155) rfl))) (Or.inl (hw _ (List.mem_of_getElem? (i := 157) rfl))) (by decide) (t := (.object "java/util/BitSet")) (t' := .boolean) (by decide) (by decide))))
  have F146 := (F126.wr W139)
  have F147 := (F127.other W139 (Or.inl ne_th_a0_))
  have F148 := (F128.other W139 (Or.inl ne_th_a0_))
  have F149 := (F129.other W139 (Or.inl ne_th_a0_))
  have F150 := (F130.wr W139)
  have F151 := (F131.other W139 (Or.inl ne_c__a0_))
  have F152 := (F132.other W139 ne_t__a0_)
  have F153 := (F133.wr W139)
  have Z154 : n0 ≤ h138.size := (Nat.le_trans Z134 (Nat.le_of_eq W139.size.symm))
  have K155 := (K135.wr W139 (Or.inl (List.mem_of_getElem? (i := 0) rfl)))
  refine own_aloadN X137 d16_81 rfl rfl rfl ?_
  refine own_iconst X137 ((-1) : Int32) d16_82 rfl (by decide) ?_
  refine own_putf X137 (hw _ (List.mem_of_getElem? (i := 9) rfl)) F142 F140 (Or.inl (hw _ (List.mem_of_getElem? (i := 10) rfl))) (hw _ (List.mem_of_getElem? (i := 1) rfl)) (ty := .int) (by decide) rfl rfl ge_a0_ d16_83 rfl (fun T156 h158 X157 W159 => ?_)
  have F160 := (F140.wr W159)
  have F161 := (F141.other W159 (Or.inr (slot_ne (Or.inl (hw _ (List.mem_of_getElem? (i := 157) rfl))) (Or.inl (hw _ (List.mem_of_getElem? (i := 10) rfl))) (by decide) (t := .boolean) (t' := .int) (by decide) (by decide))))
  have F162 := (F142.same W159)
  have F163 := (F143.other W159 (Or.inr (slot_ne (Or.inl (hw _ (List.mem_of_getElem? (i := 116) rfl))) (Or.inl (hw _ (List.mem_of_getElem? (i := 10) rfl))) (by decide) (t := (.object "com/example/racewright/racewright/happensbefore/Location$Write")) (t' := .int) (by decide) (by decide))))
  have F164 := (F144.other W159 (Or.inr (slot_ne (Or.inl (hw _ (List.mem_of_getElem? (i := 153) rfl))) (Or.inl (hw _ (List.mem_of_getElem? (i := 10) rfl))) (by decide) (t := (.object "com/example/racewright/racewright/happensbefore/Location$Write")) (t' := .int) (by decide) (by decide))))
  have F165 := (F145.other W159 (Or.inr (slot_ne (Or.inl (hw _ (List.mem_of_getElem? (i := 155) rfl))) (Or.inl (hw _ (List.mem_of_getElem? (i := 10) rfl))) (by decide) (t := (.object "java/util/BitSet")) (t' := .int) (by decide) (by decide))))
  have F166 := (F146.wr W159)
  have F167 := (F147.other W159 (Or.inl ne_th_a0_))
  have F168 := (F148.other W159 (Or.inl ne_th_a0_))
  have F169 := (F149.other W159 (Or.inl ne_th_a0_))
  have F170 := (F150.wr W159)
  have F171 := (F151.other W159 (Or.inl ne_c__a0_))
  have F172 := (F152.other W159 ne_t__a0_)
  have F173 := (F153.wr W159)
  have Z174 : n0 ≤ h158.size := (Nat.le_trans Z154 (Nat.le_of_eq W159.size.symm))
  have K175 := (K155.wr W159 (Or.inl (List.mem_of_getElem? (i := 0) rfl)))
  exact own_retV X157 rfl d16_86 ⟨_, _, _, rfl, K175, F161, F162, F163, F164, F165⟩ (by decide) (by decide)

theorem own_pos (x : Int32) : ¬ (x &&& (2147483647 : Int32)) < 0 := by
  have h1 : 0 ≤ (x &&& (2147483647 : Int32)).toInt := (c_andS x 2147483647).2.2 (by decide)
  rw [Int32.lt_iff_toInt_lt]
  show ¬ _ < (0 : Int)
  omega
theorem own_fin {q ia ib rs ur f6 f7 f8 f9 f10 f11 f12 z19 z20 z21 z22 z23 : Int32}
    (I : own_Inv rs ur ((f11 = (0 : Int32) ∧ ((f9 = (0 : Int32) ∧ ((f8 = (0 : Int32) ∧ ((f6 = (0 : Int32) ∧ False) ∨ (¬ f6 = (0 : Int32) ∧ (False ∨ f7 = 0)))) ∨ (¬ f8 = (0 : Int32) ∧ False))) ∨ (¬ f9 = (0 : Int32) ∧ (((f8 = (0 : Int32) ∧ ((f6 = (0 : Int32) ∧ False) ∨ (¬ f6 = (0 : Int32) ∧ (False ∨ f7 = 0)))) ∨ (¬ f8 = (0 : Int32) ∧ False)) ∨ f10 = 0)))) ∨ (¬ f11 = (0 : Int32) ∧ (((f9 = (0 : Int32) ∧ ((f8 = (0 : Int32) ∧ ((f6 = (0 : Int32) ∧ False) ∨ (¬ f6 = (0 : Int32) ∧ (False ∨ f7 = 0)))) ∨ (¬ f8 = (0 : Int32) ∧ False))) ∨ (¬ f9 = (0 : Int32) ∧ (((f8 = (0 : Int32) ∧ ((f6 = (0 : Int32) ∧ False) ∨ (¬ f6 = (0 : Int32) ∧ (False ∨ f7 = 0)))) ∨ (¬ f8 = (0 : Int32) ∧ False)) ∨ f10 = 0))) ∨ f7 = 0))) ((f11 = (0 : Int32) ∧ ((f9 = (0 : Int32) ∧ ((f8 = (0 : Int32) ∧ ((f6 = (0 : Int32) ∧ False) ∨ (¬ f6 = (0 : Int32) ∧ (False ∨ ¬ f7 = 0)))) ∨ (¬ f8 = (0 : Int32) ∧ False))) ∨ (¬ f9 = (0 : Int32) ∧ (((f8 = (0 : Int32) ∧ ((f6 = (0 : Int32) ∧ False) ∨ (¬ f6 = (0 : Int32) ∧ (False ∨ ¬ f7 = 0)))) ∨ (¬ f8 = (0 : Int32) ∧ False)) ∨ ¬ f10 = 0)))) ∨ (¬ f11 = (0 : Int32) ∧ (((f9 = (0 : Int32) ∧ ((f8 = (0 : Int32) ∧ ((f6 = (0 : Int32) ∧ False) ∨ (¬ f6 = (0 : Int32) ∧ (False ∨ ¬ f7 = 0)))) ∨ (¬ f8 = (0 : Int32) ∧ False))) ∨ (¬ f9 = (0 : Int32) ∧ (((f8 = (0 : Int32) ∧ ((f6 = (0 : Int32) ∧ False) ∨ (¬ f6 = (0 : Int32) ∧ (False ∨ ¬ f7 = 0)))) ∨ (¬ f8 = (0 : Int32) ∧ False)) ∨ ¬ f10 = 0))) ∨ ¬ f7 = 0))) (fun q => ((f11 = (0 : Int32) ∧ ((f9 = (0 : Int32) ∧ ((f8 = (0 : Int32) ∧ ((f6 = (0 : Int32) ∧ False) ∨ (¬ f6 = (0 : Int32) ∧ (False ∨ (¬ f7 = 0 ∧ ¬ ia = q))))) ∨ (¬ f8 = (0 : Int32) ∧ False))) ∨ (¬ f9 = (0 : Int32) ∧ (((f8 = (0 : Int32) ∧ ((f6 = (0 : Int32) ∧ False) ∨ (¬ f6 = (0 : Int32) ∧ (False ∨ (¬ f7 = 0 ∧ ¬ ia = q))))) ∨ (¬ f8 = (0 : Int32) ∧ False)) ∨ (¬ f10 = 0 ∧ ¬ ib = q))))) ∨ (¬ f11 = (0 : Int32) ∧ (((f9 = (0 : Int32) ∧ ((f8 = (0 : Int32) ∧ ((f6 = (0 : Int32) ∧ False) ∨ (¬ f6 = (0 : Int32) ∧ (False ∨ (¬ f7 = 0 ∧ ¬ ia = q))))) ∨ (¬ f8 = (0 : Int32) ∧ False))) ∨ (¬ f9 = (0 : Int32) ∧ (((f8 = (0 : Int32) ∧ ((f6 = (0 : Int32) ∧ False) ∨ (¬ f6 = (0 : Int32) ∧ (False ∨ (¬ f7 = 0 ∧ ¬ ia = q))))) ∨ (¬ f8 = (0 : Int32) ∧ False)) ∨ (¬ f10 = 0 ∧ ¬ ib = q)))) ∨ (¬ f7 = 0 ∧ ¬ ia = q))))))
    (hq : ¬ q < 0) (h19 : z19 = (if f6 = (0 : Int32) then (0 : Int32) else (if f8 = (0 : Int32) then (1 : Int32) else (0 : Int32)))) (h20 : z20 = (if z19 = (0 : Int32) then (if f9 = (0 : Int32) then (if f11 = (0 : Int32) then (0 : Int32) else (if f7 = (0 : Int32) then (1 : Int32) else (0 : Int32))) else (if f10 = (0 : Int32) then (1 : Int32) else (if f11 = (0 : Int32) then (0 : Int32) else (if f7 = (0 : Int32) then (1 : Int32) else (0 : Int32))))) else (if f7 = (0 : Int32) then (1 : Int32) else (if f9 = (0 : Int32) then (if f11 = (0 : Int32) then (0 : Int32) else (if f7 = (0 : Int32) then (1 : Int32) else (0 : Int32))) else (if f10 = (0 : Int32) then (1 : Int32) else (if f11 = (0 : Int32) then (0 : Int32) else (if f7 = (0 : Int32) then (1 : Int32) else (0 : Int32)))))))) (h21 : z21 = (if z19 = (0 : Int32) then (if f9 = (0 : Int32) then (if f11 = (0 : Int32) then (0 : Int32) else (if f7 = (0 : Int32) then (0 : Int32) else (1 : Int32))) else (if f10 = (0 : Int32) then (if f11 = (0 : Int32) then (0 : Int32) else (if f7 = (0 : Int32) then (0 : Int32) else (1 : Int32))) else (1 : Int32))) else (if f7 = (0 : Int32) then (if f9 = (0 : Int32) then (if f11 = (0 : Int32) then (0 : Int32) else (if f7 = (0 : Int32) then (0 : Int32) else (1 : Int32))) else (if f10 = (0 : Int32) then (if f11 = (0 : Int32) then (0 : Int32) else (if f7 = (0 : Int32) then (0 : Int32) else (1 : Int32))) else (1 : Int32))) else (1 : Int32)))) (h22 : z22 = (if z19 = (0 : Int32) then (if f11 = (0 : Int32) then (if f9 = (0 : Int32) then (0 : Int32) else (if f10 = (0 : Int32) then (0 : Int32) else (if ib = q then (0 : Int32) else (1 : Int32)))) else (if f7 = (0 : Int32) then (if f9 = (0 : Int32) then (0 : Int32) else (if f10 = (0 : Int32) then (0 : Int32) else (if ib = q then (0 : Int32) else (1 : Int32)))) else (if ia = q then (if f9 = (0 : Int32) then (0 : Int32) else (if f10 = (0 : Int32) then (0 : Int32) else (if ib = q then (0 : Int32) else (1 : Int32)))) else (1 : Int32)))) else (if f7 = (0 : Int32) then (if f9 = (0 : Int32) then (0 : Int32) else (if f10 = (0 : Int32) then (0 : Int32) else (if ib = q then (0 : Int32) else (1 : Int32)))) else (if ia = q then (if f9 = (0 : Int32) then (0 : Int32) else (if f10 = (0 : Int32) then (0 : Int32) else (if ib = q then (0 : Int32) else (1 : Int32)))) else (1 : Int32))))) (h23 : z23 = (if f12 = (0 : Int32) then z21 else (if z20 = (0 : Int32) then (if z22 = (0 : Int32) then (0 : Int32) else (1 : Int32)) else (1 : Int32)))) : own_ra ur rs q f12 = z23 := by
  by_cases g : f12 = 0
  · subst g
    have k0 := own_ra0 (q := q) I
    clear I
    generalize own_ra ur rs q 0 = y0 at *
    by_cases c6 : f6 = 0 <;> by_cases c7 : f7 = 0 <;> by_cases c8 : f8 = 0 <;> by_cases c9 : f9 = 0 <;> by_cases c10 : f10 = 0 <;> by_cases c11 : f11 = 0 <;> simp_all
  · have k1 := own_ra1 (q := q) I hq g
    clear I
    generalize own_ra ur rs q f12 = y1 at *
    by_cases c6 : f6 = 0 <;> by_cases c7 : f7 = 0 <;> by_cases c8 : f8 = 0 <;> by_cases c9 : f9 = 0 <;> by_cases c10 : f10 = 0 <;> by_cases c11 : f11 = 0 <;> by_cases e1 : ia = q <;> by_cases e2 : ib = q <;> simp_all
theorem own_pnlaw : plainFor x = true := by first | exact plainFor_of_name (by first | (simp [plainName, overriddenIn, x]; done) | decide +kernel) | decide +kernel
theorem own_eflaw (p1 : Int32) (p2 : Int32) (p3 : Int32) (p4 : Int32) (m : MethodId) : entryFrame m #[(.int p1), (.int p2), (.int p3), (.int p4)] maxLocals = mkF m 0 #[.val (.int p1), .val (.int p2), .val (.int p3), .val (.int p4), .unset, .unset, .unset, .unset, .unset, .unset, .unset, .unset, .unset, .unset, .unset, .unset, .unset, .unset, .unset, .unset, .unset, .unset, .unset, .unset] [] := by
  first | (simp [entryFrame, mkF, argsToLocals, Value.category, maxLocals]; done) | rfl
set_option maxRecDepth 65536 in
set_option maxHeartbeats 40000000 in
theorem own_law (l : Launch) (Z : State) (a0 : Array Value) (hw : ∀ d ∈ tables_1, d.before a0 Z = true) (ws : List Jvm.Cond) (p1 : Int32) (p2 : Int32) (p3 : Int32) (p4 : Int32) (h0 : Heap) (n0 : Nat) (Z0 : n0 ≤ h0.size) :
    own_Met l Z x code maxLocals ret ws room_1 #[(.int p1), (.int p2), (.int p3), (.int p4)] h0 n0 (fun v _ => v = some (.int 1)) := by
  refine own_enter (own := "com/example/racewright/racewright/happensbefore/LocationReadAcrossPinLaw") (nm := "law") rfl rfl own_pnlaw (own_eflaw p1 p2 p3 p4) ?_
  intro p e s m below meth c T0 X0
  refine own_iloadN X0 at_0 rfl rfl ?_
  refine own_bipush X0 (7 : Int32) at_1 rfl (by decide) ?_
  refine own_iand X0 at_3 rfl ?_
  refine own_istore X0 (L' := #[.val (.int p1), .val (.int p2), .val (.int p3), .val (.int p4), .val (.int (p2 &&& (7 : Int32))), .unset, .unset, .unset, .unset, .unset, .unset, .unset, .unset, .unset, .unset, .unset, .unset, .unset, .unset, .unset, .unset, .unset, .unset, .unset]) at_4 rfl rfl ?_
  refine own_iloadN X0 at_6 rfl rfl ?_
  refine own_bipush X0 (7 : Int32) at_7 rfl (by decide) ?_
  refine own_iand X0 at_9 rfl ?_
  refine own_istore X0 (L' := #[.val (.int p1), .val (.int p2), .val (.int p3), .val (.int p4), .val (.int (p2 &&& (7 : Int32))), .val (.int (p3 &&& (7 : Int32))), .unset, .unset, .unset, .unset, .unset, .unset, .unset, .unset, .unset, .unset, .unset, .unset, .unset, .unset, .unset, .unset, .unset, .unset]) at_10 rfl rfl ?_
  obtain ⟨k1, hk1, ek1⟩ := own_mask p2 3 (7 : Int32) (by decide) (by decide)
  rw [ek1]
  obtain ⟨k2, hk2, ek2⟩ := own_mask p3 3 (7 : Int32) (by decide) (by decide)
  rw [ek2]
  show own_Fin p e below (own_End s n0 (fun v _ => v = some (.int 1)) room_1.cells room_1.slots) (T0.setTop (mkF m 12 #[.val (.int p1), .val (.int p2), .val (.int p3), .val (.int p4), .val (.int k1.toInt32), .val (.int k2.toInt32), .unset, .unset, .unset, .unset, .unset, .unset, .unset, .unset, .unset, .unset, .unset, .unset, .unset, .unset, .unset, .unset, .unset, .unset] []))
  refine own_iloadN X0 at_12 rfl rfl ?_
  refine own_iconst X0 (1 : Int32) at_13 rfl (by decide) ?_
  refine own_iand X0 at_14 rfl ?_
  suffices J23_4 : ∀ (z3 : Int32), z3 = (if (p1 &&& (1 : Int32)) = (0 : Int32) then (0 : Int32) else (1 : Int32)) → own_Fin p e below (own_End s n0 (fun v _ => v = some (.int 1)) room_1.cells room_1.slots) (T0.setTop (mkF m 23 #[.val (.int p1), .val (.int p2), .val (.int p3), .val (.int p4), .val (.int k1.toInt32), .val (.int k2.toInt32), .unset, .unset, .unset, .unset, .unset, .unset, .unset, .unset, .unset, .unset, .unset, .unset, .unset, .unset, .unset, .unset, .unset, .unset] [(.int z3)])) by
    refine own_if_eq X0 at_15 (by decide) (pcT := 22) (by decide) rfl (fun hc5 => ?_) (fun hc5 => ?_)
    · skip
      refine own_iconst X0 (0 : Int32) at_22 rfl (by decide) ?_
      exact J23_4 _ (by rw [if_pos hc5])
    · skip
      refine own_iconst X0 (1 : Int32) at_18 rfl (by decide) ?_
      refine own_goto X0 at_19 (by decide) (pc' := 23) (by decide) ?_
      exact J23_4 _ (by rw [if_neg hc5])
  intro z3 hz3
  refine own_istore X0 (L' := #[.val (.int p1), .val (.int p2), .val (.int p3), .val (.int p4), .val (.int k1.toInt32), .val (.int k2.toInt32), .val (.int z3), .unset, .unset, .unset, .unset, .unset, .unset, .unset, .unset, .unset, .unset, .unset, .unset, .unset, .unset, .unset, .unset, .unset]) at_23 rfl rfl ?_
  refine own_iloadN X0 at_25 rfl rfl ?_
  refine own_iconst X0 (2 : Int32) at_26 rfl (by decide) ?_
  refine own_iand X0 at_27 rfl ?_
  suffices J36_7 : ∀ (z6 : Int32), z6 = (if (p1 &&& (2 : Int32)) = (0 : Int32) then (0 : Int32) else (1 : Int32)) → own_Fin p e below (own_End s n0 (fun v _ => v = some (.int 1)) room_1.cells room_1.slots) (T0.setTop (mkF m 36 #[.val (.int p1), .val (.int p2), .val (.int p3), .val (.int p4), .val (.int k1.toInt32), .val (.int k2.toInt32), .val (.int z3), .unset, .unset, .unset, .unset, .unset, .unset, .unset, .unset, .unset, .unset, .unset, .unset, .unset, .unset, .unset, .unset, .unset] [(.int z6)])) by
    refine own_if_eq X0 at_28 (by decide) (pcT := 35) (by decide) rfl (fun hc8 => ?_) (fun hc8 => ?_)
    · skip
      refine own_iconst X0 (0 : Int32) at_35 rfl (by decide) ?_
      exact J36_7 _ (by rw [if_pos hc8])
    · skip
      refine own_iconst X0 (1 : Int32) at_31 rfl (by decide) ?_
      refine own_goto X0 at_32 (by decide) (pc' := 36) (by decide) ?_
      exact J36_7 _ (by rw [if_neg hc8])
  intro z6 hz6
  refine own_istore X0 (L' := #[.val (.int p1), .val (.int p2), .val (.int p3), .val (.int p4), .val (.int k1.toInt32), .val (.int k2.toInt32), .val (.int z3), .val (.int z6), .unset, .unset, .unset, .unset, .unset, .unset, .unset, .unset, .unset, .unset, .unset, .unset, .unset, .unset, .unset, .unset]) at_36 rfl rfl ?_
  refine own_iloadN X0 at_38 rfl rfl ?_
  refine own_iconst X0 (4 : Int32) at_39 rfl (by decide) ?_
  refine own_iand X0 at_40 rfl ?_
  suffices J49_10 : ∀ (z9 : Int32), z9 = (if (p1 &&& (4 : Int32)) = (0 : Int32) then (0 : Int32) else (1 : Int32)) → own_Fin p e below (own_End s n0 (fun v _ => v = some (.int 1)) room_1.cells room_1.slots) (T0.setTop (mkF m 49 #[.val (.int p1), .val (.int p2), .val (.int p3), .val (.int p4), .val (.int k1.toInt32), .val (.int k2.toInt32), .val (.int z3), .val (.int z6), .unset, .unset, .unset, .unset, .unset, .unset, .unset, .unset, .unset, .unset, .unset, .unset, .unset, .unset, .unset, .unset] [(.int z9)])) by
    refine own_if_eq X0 at_41 (by decide) (pcT := 48) (by decide) rfl (fun hc11 => ?_) (fun hc11 => ?_)
    · skip
      refine own_iconst X0 (0 : Int32) at_48 rfl (by decide) ?_
      exact J49_10 _ (by rw [if_pos hc11])
    · skip
      refine own_iconst X0 (1 : Int32) at_44 rfl (by decide) ?_
      refine own_goto X0 at_45 (by decide) (pc' := 49) (by decide) ?_
      exact J49_10 _ (by rw [if_neg hc11])
  intro z9 hz9
  refine own_istore X0 (L' := #[.val (.int p1), .val (.int p2), .val (.int p3), .val (.int p4), .val (.int k1.toInt32), .val (.int k2.toInt32), .val (.int z3), .val (.int z6), .val (.int z9), .unset, .unset, .unset, .unset, .unset, .unset, .unset, .unset, .unset, .unset, .unset, .unset, .unset, .unset, .unset]) at_49 rfl rfl ?_
  refine own_iloadN X0 at_51 rfl rfl ?_
  refine own_bipush X0 (8 : Int32) at_52 rfl (by decide) ?_
  refine own_iand X0 at_54 rfl ?_
  suffices J63_13 : ∀ (z12 : Int32), z12 = (if (p1 &&& (8 : Int32)) = (0 : Int32) then (0 : Int32) else (1 : Int32)) → own_Fin p e below (own_End s n0 (fun v _ => v = some (.int 1)) room_1.cells room_1.slots) (T0.setTop (mkF m 63 #[.val (.int p1), .val (.int p2), .val (.int p3), .val (.int p4), .val (.int k1.toInt32), .val (.int k2.toInt32), .val (.int z3), .val (.int z6), .val (.int z9), .unset, .unset, .unset, .unset, .unset, .unset, .unset, .unset, .unset, .unset, .unset, .unset, .unset, .unset, .unset] [(.int z12)])) by
    refine own_if_eq X0 at_55 (by decide) (pcT := 62) (by decide) rfl (fun hc14 => ?_) (fun hc14 => ?_)
    · skip
      refine own_iconst X0 (0 : Int32) at_62 rfl (by decide) ?_
      exact J63_13 _ (by rw [if_pos hc14])
    · skip
      refine own_iconst X0 (1 : Int32) at_58 rfl (by decide) ?_
      refine own_goto X0 at_59 (by decide) (pc' := 63) (by decide) ?_
      exact J63_13 _ (by rw [if_neg hc14])
  intro z12 hz12
  refine own_istore X0 (L' := #[.val (.int p1), .val (.int p2), .val (.int p3), .val (.int p4), .val (.int k1.toInt32), .val (.int k2.toInt32), .val (.int z3), .val (.int z6), .val (.int z9), .val (.int z12), .unset, .unset, .unset, .unset, .unset, .unset, .unset, .unset, .unset, .unset, .unset, .unset, .unset, .unset]) at_63 rfl rfl ?_
  refine own_iloadN X0 at_65 rfl rfl ?_
  refine own_bipush X0 (16 : Int32) at_66 rfl (by decide) ?_
  refine own_iand X0 at_68 rfl ?_
  suffices J77_16 : ∀ (z15 : Int32), z15 = (if (p1 &&& (16 : Int32)) = (0 : Int32) then (0 : Int32) else (1 : Int32)) → own_Fin p e below (own_End s n0 (fun v _ => v = some (.int 1)) room_1.cells room_1.slots) (T0.setTop (mkF m 77 #[.val (.int p1), .val (.int p2), .val (.int p3), .val (.int p4), .val (.int k1.toInt32), .val (.int k2.toInt32), .val (.int z3), .val (.int z6), .val (.int z9), .val (.int z12), .unset, .unset, .unset, .unset, .unset, .unset, .unset, .unset, .unset, .unset, .unset, .unset, .unset, .unset] [(.int z15)])) by
    refine own_if_eq X0 at_69 (by decide) (pcT := 76) (by decide) rfl (fun hc17 => ?_) (fun hc17 => ?_)
    · skip
      refine own_iconst X0 (0 : Int32) at_76 rfl (by decide) ?_
      exact J77_16 _ (by rw [if_pos hc17])
    · skip
      refine own_iconst X0 (1 : Int32) at_72 rfl (by decide) ?_
      refine own_goto X0 at_73 (by decide) (pc' := 77) (by decide) ?_
      exact J77_16 _ (by rw [if_neg hc17])
  intro z15 hz15
  refine own_istore X0 (L' := #[.val (.int p1), .val (.int p2), .val (.int p3), .val (.int p4), .val (.int k1.toInt32), .val (.int k2.toInt32), .val (.int z3), .val (.int z6), .val (.int z9), .val (.int z12), .val (.int z15), .unset, .unset, .unset, .unset, .unset, .unset, .unset, .unset, .unset, .unset, .unset, .unset, .unset]) at_77 rfl rfl ?_
  refine own_iloadN X0 at_79 rfl rfl ?_
  refine own_bipush X0 (32 : Int32) at_80 rfl (by decide) ?_
  refine own_iand X0 at_82 rfl ?_
  suffices J91_19 : ∀ (z18 : Int32), z18 = (if (p1 &&& (32 : Int32)) = (0 : Int32) then (0 : Int32) else (1 : Int32)) → own_Fin p e below (own_End s n0 (fun v _ => v = some (.int 1)) room_1.cells room_1.slots) (T0.setTop (mkF m 91 #[.val (.int p1), .val (.int p2), .val (.int p3), .val (.int p4), .val (.int k1.toInt32), .val (.int k2.toInt32), .val (.int z3), .val (.int z6), .val (.int z9), .val (.int z12), .val (.int z15), .unset, .unset, .unset, .unset, .unset, .unset, .unset, .unset, .unset, .unset, .unset, .unset, .unset] [(.int z18)])) by
    refine own_if_eq X0 at_83 (by decide) (pcT := 90) (by decide) rfl (fun hc20 => ?_) (fun hc20 => ?_)
    · skip
      refine own_iconst X0 (0 : Int32) at_90 rfl (by decide) ?_
      exact J91_19 _ (by rw [if_pos hc20])
    · skip
      refine own_iconst X0 (1 : Int32) at_86 rfl (by decide) ?_
      refine own_goto X0 at_87 (by decide) (pc' := 91) (by decide) ?_
      exact J91_19 _ (by rw [if_neg hc20])
  intro z18 hz18
  refine own_istore X0 (L' := #[.val (.int p1), .val (.int p2), .val (.int p3), .val (.int p4), .val (.int k1.toInt32), .val (.int k2.toInt32), .val (.int z3), .val (.int z6), .val (.int z9), .val (.int z12), .val (.int z15), .val (.int z18), .unset, .unset, .unset, .unset, .unset, .unset, .unset, .unset, .unset, .unset, .unset, .unset]) at_91 rfl rfl ?_
  refine own_iloadN X0 at_93 rfl rfl ?_
  refine own_bipush X0 (64 : Int32) at_94 rfl (by decide) ?_
  refine own_iand X0 at_96 rfl ?_
  suffices J105_22 : ∀ (z21 : Int32), z21 = (if (p1 &&& (64 : Int32)) = (0 : Int32) then (0 : Int32) else (1 : Int32)) → own_Fin p e below (own_End s n0 (fun v _ => v = some (.int 1)) room_1.cells room_1.slots) (T0.setTop (mkF m 105 #[.val (.int p1), .val (.int p2), .val (.int p3), .val (.int p4), .val (.int k1.toInt32), .val (.int k2.toInt32), .val (.int z3), .val (.int z6), .val (.int z9), .val (.int z12), .val (.int z15), .val (.int z18), .unset, .unset, .unset, .unset, .unset, .unset, .unset, .unset, .unset, .unset, .unset, .unset] [(.int z21)])) by
    refine own_if_eq X0 at_97 (by decide) (pcT := 104) (by decide) rfl (fun hc23 => ?_) (fun hc23 => ?_)
    · skip
      refine own_iconst X0 (0 : Int32) at_104 rfl (by decide) ?_
      exact J105_22 _ (by rw [if_pos hc23])
    · skip
      refine own_iconst X0 (1 : Int32) at_100 rfl (by decide) ?_
      refine own_goto X0 at_101 (by decide) (pc' := 105) (by decide) ?_
      exact J105_22 _ (by rw [if_neg hc23])
  intro z21 hz21
  refine own_istore X0 (L' := #[.val (.int p1), .val (.int p2), .val (.int p3), .val (.int p4), .val (.int k1.toInt32), .val (.int k2.toInt32), .val (.int z3), .val (.int z6), .val (.int z9), .val (.int z12), .val (.int z15), .val (.int z18), .val (.int z21), .unset, .unset, .unset, .unset, .unset, .unset, .unset, .unset, .unset, .unset, .unset]) at_105 rfl rfl ?_
  refine own_iloadN X0 at_107 rfl rfl ?_
  refine own_bipush X0 (7 : Int32) at_108 rfl (by decide) ?_
  refine own_iushr X0 at_110 rfl ?_
  refine own_iconst X0 (3 : Int32) at_111 rfl (by decide) ?_
  refine own_iand X0 at_112 rfl ?_
  refine own_istore X0 (L' := #[.val (.int p1), .val (.int p2), .val (.int p3), .val (.int p4), .val (.int k1.toInt32), .val (.int k2.toInt32), .val (.int z3), .val (.int z6), .val (.int z9), .val (.int z12), .val (.int z15), .val (.int z18), .val (.int z21), .val (.int ((XT.ushr p1 (7 : Int32)) &&& (3 : Int32))), .unset, .unset, .unset, .unset, .unset, .unset, .unset, .unset, .unset, .unset]) at_113 rfl rfl ?_
  refine own_iload X0 at_115 rfl rfl ?_
  suffices J140_25 : ∀ (z24 : Int32), z24 = (if ((XT.ushr p1 (7 : Int32)) &&& (3 : Int32)) = (0 : Int32) then k1.toInt32 else (if ((XT.ushr p1 (7 : Int32)) &&& (3 : Int32)) = (1 : Int32) then k2.toInt32 else (p4 &&& (2147483647 : Int32)))) → own_Fin p e below (own_End s n0 (fun v _ => v = some (.int 1)) room_1.cells room_1.slots) (T0.setTop (mkF m 140 #[.val (.int p1), .val (.int p2), .val (.int p3), .val (.int p4), .val (.int k1.toInt32), .val (.int k2.toInt32), .val (.int z3), .val (.int z6), .val (.int z9), .val (.int z12), .val (.int z15), .val (.int z18), .val (.int z21), .val (.int ((XT.ushr p1 (7 : Int32)) &&& (3 : Int32))), .unset, .unset, .unset, .unset, .unset, .unset, .unset, .unset, .unset, .unset] [(.int z24)])) by
    refine own_if_ne X0 at_117 (by decide) (pcT := 125) (by decide) rfl (fun hc26 => ?_) (fun hc26 => ?_)
    · skip
      refine own_iload X0 at_125 rfl rfl ?_
      refine own_iconst X0 (1 : Int32) at_127 rfl (by decide) ?_
      refine own_icmp_ne X0 at_128 (by decide) (pcT := 136) (by decide) rfl (fun hc27 => ?_) (fun hc27 => ?_)
      · skip
        refine own_iloadN X0 at_136 rfl rfl ?_
        refine own_ldcI X0 (v := (2147483647 : Int32)) at_137 rfl (hw _ (List.mem_of_getElem? (i := 164) rfl)) ?_
        refine own_iand X0 at_139 rfl ?_
        exact J140_25 _ (by rw [if_neg hc26, if_neg hc27])
      · skip
        refine own_iload X0 at_131 rfl rfl ?_
        refine own_goto X0 at_133 (by decide) (pc' := 140) (by decide) ?_
        exact J140_25 _ (by rw [if_neg hc26, if_pos hc27])
    · skip
      refine own_iload X0 at_120 rfl rfl ?_
      refine own_goto X0 at_122 (by decide) (pc' := 140) (by decide) ?_
      exact J140_25 _ (by rw [if_pos hc26])
  intro z24 hz24
  refine own_istore X0 (L' := #[.val (.int p1), .val (.int p2), .val (.int p3), .val (.int p4), .val (.int k1.toInt32), .val (.int k2.toInt32), .val (.int z3), .val (.int z6), .val (.int z9), .val (.int z12), .val (.int z15), .val (.int z18), .val (.int z21), .val (.int ((XT.ushr p1 (7 : Int32)) &&& (3 : Int32))), .val (.int z24), .unset, .unset, .unset, .unset, .unset, .unset, .unset, .unset, .unset]) at_140 rfl rfl ?_
  refine own_new X0 (hw _ (List.mem_of_getElem? (i := 0) rfl)) (hw _ (List.mem_of_getElem? (i := 1) rfl)) (hw _ (List.mem_of_getElem? (i := 2) rfl)) at_142 rfl (cells' := 1) (slots' := 7) rfl rfl (by decide) (by decide) (fun T28 h30 a34 g35 X29 E31 A32 D33 => ?_)
  have ge_a34 : n0 ≤ a34 := Nat.le_trans Z0 (Nat.le_of_eq g35.symm)
  have F36 := D33 (Or.inl (hw _ (List.mem_of_getElem? (i := 10) rfl))) (ty := .int) (by decide)
  replace F36 : Fld Z h30 a34 "com/example/racewright/racewright/happensbefore/Location" "unscheduledReader" "I" (.int (0 : Int32)) := F36
  have F37 := D33 (Or.inl (hw _ (List.mem_of_getElem? (i := 116) rfl))) (ty := (.object "com/example/racewright/racewright/happensbefore/Location$Write")) (by decide)
  replace F37 : Fld Z h30 a34 "com/example/racewright/racewright/happensbefore/Location" "beforeAdditions" "Lcom/example/racewright/racewright/happensbefore/Location$Write;" (.null) := F37
  have F38 := D33 (Or.inl (hw _ (List.mem_of_getElem? (i := 153) rfl))) (ty := (.object "com/example/racewright/racewright/happensbefore/Location$Write")) (by decide)
  replace F38 : Fld Z h30 a34 "com/example/racewright/racewright/happensbefore/Location" "lastWrite" "Lcom/example/racewright/racewright/happensbefore/Location$Write;" (.null) := F38
  have F39 := D33 (Or.inl (hw _ (List.mem_of_getElem? (i := 155) rfl))) (ty := (.object "java/util/BitSet")) (by decide)
  replace F39 : Fld Z h30 a34 "com/example/racewright/racewright/happensbefore/Location" "racedWithLastWrite" "Ljava/util/BitSet;" (.null) := F39
  have F40 := D33 (Or.inl (hw _ (List.mem_of_getElem? (i := 157) rfl))) (ty := .boolean) (by decide)
  replace F40 : Fld Z h30 a34 "com/example/racewright/racewright/happensbefore/Location" "readScheduled" "Z" (.int (0 : Int32)) := F40
  have Z41 : n0 ≤ h30.size := (Nat.le_trans Z0 E31.1)
  refine own_dup X29 at_145 rfl rfl ?_
  refine own_callI X29 rfl (hw _ (List.mem_of_getElem? (i := 3) rfl)) (hw _ (List.mem_of_getElem? (i := 4) rfl)) (hw _ (List.mem_of_getElem? (i := 2) rfl)) (hw _ (List.mem_of_getElem? (i := 5) rfl)) (by decide) (a := a34) (argsL := []) (rest := [(.ref a34)]) (own_mli l Z a0 hw [] a34 _ _ Z41 A32 F36 F37 F38 F39 F40 ge_a34) (pd_1) rfl at_146 rfl rfl rfl (W := 1) rfl (by decide) (by decide) (cells' := 1) (slots' := 7) rfl rfl (by decide) (by decide) (fun v T48 h50 X49 q51 => ?_)
  obtain ⟨rfl, K47, F42, F43, F44, F45, F46⟩ := q51
  show own_Fin p e below (own_End s n0 (fun v _ => v = some (.int 1)) room_1.cells room_1.slots) (T48.setTop (mkF m 149 #[.val (.int p1), .val (.int p2), .val (.int p3), .val (.int p4), .val (.int k1.toInt32), .val (.int k2.toInt32), .val (.int z3), .val (.int z6), .val (.int z9), .val (.int z12), .val (.int z15), .val (.int z18), .val (.int z21), .val (.int ((XT.ushr p1 (7 : Int32)) &&& (3 : Int32))), .val (.int z24), .unset, .unset, .unset, .unset, .unset, .unset, .unset, .unset, .unset] [(.ref a34)]))
  have F52 := (A32.keep K47)
  have Z53 : n0 ≤ h50.size := (Nat.le_trans Z41 K47.1)
  refine own_astore X49 (L' := #[.val (.int p1), .val (.int p2), .val (.int p3), .val (.int p4), .val (.int k1.toInt32), .val (.int k2.toInt32), .val (.int z3), .val (.int z6), .val (.int z9), .val (.int z12), .val (.int z15), .val (.int z18), .val (.int z21), .val (.int ((XT.ushr p1 (7 : Int32)) &&& (3 : Int32))), .val (.int z24), .val (.ref a34), .unset, .unset, .unset, .unset, .unset, .unset, .unset, .unset]) at_149 rfl rfl rfl ?_
  refine own_new X49 (hw _ (List.mem_of_getElem? (i := 11) rfl)) (hw _ (List.mem_of_getElem? (i := 12) rfl)) (hw _ (List.mem_of_getElem? (i := 13) rfl)) at_151 rfl (cells' := 2) (slots' := 15) rfl rfl (by decide) (by decide) (fun T54 h56 a60 g61 X55 E57 A58 D59 => ?_)
  have ge_a60 : n0 ≤ a60 := Nat.le_trans Z53 (Nat.le_of_eq g61.symm)
  have ne_a34_a60 : a34 ≠ a60 := Nat.ne_of_lt (g61 ▸ F52.lt)
  have F62 := D59 (Or.inr (hw _ (List.mem_of_getElem? (i := 69) rfl))) (ty := (.object "java/util/Set")) (by decide)
  replace F62 : Fld Z h56 a60 "com/example/racewright/racewright/happensbefore/ThreadState" "usedClasses" "Ljava/util/Set;" (.null) := F62
  have F63 := D59 (Or.inr (hw _ (List.mem_of_getElem? (i := 71) rfl))) (ty := .int) (by decide)
  replace F63 : Fld Z h56 a60 "com/example/racewright/racewright/happensbefore/ThreadState" "id" "I" (.int (0 : Int32)) := F63
  have F64 := D59 (Or.inr (hw _ (List.mem_of_getElem? (i := 73) rfl))) (ty := (.object "com/example/racewright/racewright/happensbefore/VectorClock")) (by decide)
  replace F64 : Fld Z h56 a60 "com/example/racewright/racewright/happensbefore/ThreadState" "clock" "Lcom/example/racewright/racewright/happensbefore/VectorClock;" (.null) := F64
  have F65 := D59 (Or.inr (hw _ (List.mem_of_getElem? (i := 98) rfl))) (ty := (.object "java/util/List")) (by decide)
  replace F65 : Fld Z h56 a60 "com/example/racewright/racewright/happensbefore/ThreadState" "acquisitions" "Ljava/util/List;" (.null) := F65
  have F66 := D59 (Or.inr (hw _ (List.mem_of_getElem? (i := 100) rfl))) (ty := (.object "com/example/racewright/racewright/happensbefore/VectorClock")) (by decide)
  replace F66 : Fld Z h56 a60 "com/example/racewright/racewright/happensbefore/ThreadState" "started" "Lcom/example/racewright/racewright/happensbefore/VectorClock;" (.null) := F66
  have F67 := D59 (Or.inl (hw _ (List.mem_of_getElem? (i := 102) rfl))) (ty := .boolean) (by decide)
  replace F67 : Fld Z h56 a60 "com/example/racewright/racewright/happensbefore/ThreadState" "unscheduled" "Z" (.int (0 : Int32)) := F67
  have F68 := D59 (Or.inl (hw _ (List.mem_of_getElem? (i := 114) rfl))) (ty := (.object "java/lang/Object")) (by decide)
  replace F68 : Fld Z h56 a60 "com/example/racewright/racewright/happensbefore/ThreadState" "additions" "Ljava/lang/Object;" (.null) := F68
  have F69 := (F52.ext E57)
  have F70 := (F42.ext E57)
  have F71 := (F43.ext E57)
  have F72 := (F44.ext E57)
  have F73 := (F45.ext E57)
  have F74 := (F46.ext E57)
  have Z75 : n0 ≤ h56.size := (Nat.le_trans Z53 E57.1)
  refine own_dup X55 at_154 rfl rfl ?_
  refine own_iload X55 at_155 rfl rfl ?_
  refine own_new X55 (hw _ (List.mem_of_getElem? (i := 14) rfl)) (hw _ (List.mem_of_getElem? (i := 15) rfl)) (hw _ (List.mem_of_getElem? (i := 16) rfl)) at_157 rfl (cells' := 3) (slots' := 17) rfl rfl (by decide) (by decide) (fun T76 h78 a82 g83 X77 E79 A80 D81 => ?_)
  have ge_a82 : n0 ≤ a82 := Nat.le_trans Z75 (Nat.le_of_eq g83.symm)
  have ne_a34_a82 : a34 ≠ a82 := Nat.ne_of_lt (g83 ▸ F69.lt)
  have ne_a60_a82 : a60 ≠ a82 := Nat.ne_of_lt (g83 ▸ A58.lt)
  have F84 := D81 (Or.inl (hw _ (List.mem_of_getElem? (i := 23) rfl))) (ty := (.array .int)) (by decide)
  replace F84 : Fld Z h78 a82 "com/example/racewright/racewright/happensbefore/VectorClock" "ticks" "[I" (.null) := F84
  have F85 := D81 (Or.inl (hw _ (List.mem_of_getElem? (i := 25) rfl))) (ty := (.array .int)) (by decide)
  replace F85 : Fld Z h78 a82 "com/example/racewright/racewright/happensbefore/VectorClock" "apart" "[I" (.null) := F85
  have F86 := (F69.ext E79)
  have F87 := (F70.ext E79)
  have F88 := (F71.ext E79)
  have F89 := (F72.ext E79)
  have F90 := (F73.ext E79)
  have F91 := (F74.ext E79)
  have F92 := (A58.ext E79)
  have F93 := (F62.ext E79)
  have F94 := (F63.ext E79)
  have F95 := (F64.ext E79)
  have F96 := (F65.ext E79)
  have F97 := (F66.ext E79)
  have F98 := (F67.ext E79)
  have F99 := (F68.ext E79)
  have Z100 : n0 ≤ h78.size := (Nat.le_trans Z75 E79.1)
  refine own_dup X77 at_160 rfl rfl ?_
  refine own_callI X77 rfl (hw _ (List.mem_of_getElem? (i := 17) rfl)) (hw _ (List.mem_of_getElem? (i := 18) rfl)) (hw _ (List.mem_of_getElem? (i := 16) rfl)) (hw _ (List.mem_of_getElem? (i := 19) rfl)) (by decide) (a := a82) (argsL := []) (rest := [(.ref a82), (.int k1.toInt32), (.ref a60), (.ref a60)]) (own_mvi l Z a0 hw [] a82 _ _ Z100 A80 F84 F85 ge_a82) (pd_3) rfl at_161 rfl rfl rfl (W := 4) rfl (by decide) (by decide) (cells' := 5) (slots' := 17) rfl rfl (by decide) (by decide) (fun v T111 h113 X112 q114 => ?_)
  obtain ⟨t101, u102, rfl, K110, F103, F104, F105, F106, F107, F108, F109⟩ := q114
  show own_Fin p e below (own_End s n0 (fun v _ => v = some (.int 1)) room_1.cells room_1.slots) (T111.setTop (mkF m 164 #[.val (.int p1), .val (.int p2), .val (.int p3), .val (.int p4), .val (.int k1.toInt32), .val (.int k2.toInt32), .val (.int z3), .val (.int z6), .val (.int z9), .val (.int z12), .val (.int z15), .val (.int z18), .val (.int z21), .val (.int ((XT.ushr p1 (7 : Int32)) &&& (3 : Int32))), .val (.int z24), .val (.ref a34), .unset, .unset, .unset, .unset, .unset, .unset, .unset, .unset] [(.ref a82), (.int k1.toInt32), (.ref a60), (.ref a60)]))
  have F115 := (F86.keep K110)
  have F116 := (F87.keep K110 (ninS ne_a34_a82 nin0))
  have F117 := (F88.keep K110 (ninS ne_a34_a82 nin0))
  have F118 := (F89.keep K110 (ninS ne_a34_a82 nin0))
  have F119 := (F90.keep K110 (ninS ne_a34_a82 nin0))
  have F120 := (F91.keep K110 (ninS ne_a34_a82 nin0))
  have F121 := (F92.keep K110)
  have F122 := (F93.keep K110 (ninS ne_a60_a82 nin0))
  have F123 := (F94.keep K110 (ninS ne_a60_a82 nin0))
  have F124 := (F95.keep K110 (ninS ne_a60_a82 nin0))
  have F125 := (F96.keep K110 (ninS ne_a60_a82 nin0))
  have F126 := (F97.keep K110 (ninS ne_a60_a82 nin0))
  have F127 := (F98.keep K110 (ninS ne_a60_a82 nin0))
  have F128 := (F99.keep K110 (ninS ne_a60_a82 nin0))
  have F129 := (A80.keep K110)
  have Z130 : n0 ≤ h113.size := (Nat.le_trans Z100 K110.1)
  have ge_t101 : n0 ≤ t101 := Nat.le_trans Z100 F107
  have ne_a34_t101 : a34 ≠ t101 := (fun q => Nat.ne_of_lt (Nat.lt_of_lt_of_le F86.lt q)) F107
  have ne_a60_t101 : a60 ≠ t101 := (fun q => Nat.ne_of_lt (Nat.lt_of_lt_of_le F92.lt q)) F107
  have ne_a82_t101 : a82 ≠ t101 := (fun q => Nat.ne_of_lt (Nat.lt_of_lt_of_le A80.lt q)) F107
  have ge_u102 : n0 ≤ u102 := Nat.le_trans Z100 F108
  have ne_a34_u102 : a34 ≠ u102 := (fun q => Nat.ne_of_lt (Nat.lt_of_lt_of_le F86.lt q)) F108
  have ne_a60_u102 : a60 ≠ u102 := (fun q => Nat.ne_of_lt (Nat.lt_of_lt_of_le F92.lt q)) F108
  have ne_a82_u102 : a82 ≠ u102 := (fun q => Nat.ne_of_lt (Nat.lt_of_lt_of_le A80.lt q)) F108
  refine own_iconst X112 (0 : Int32) at_164 rfl (by decide) ?_
  refine own_callI X112 rfl (hw _ (List.mem_of_getElem? (i := 26) rfl)) (hw _ (List.mem_of_getElem? (i := 27) rfl)) (hw _ (List.mem_of_getElem? (i := 13) rfl)) (hw _ (List.mem_of_getElem? (i := 28) rfl)) (by decide) (a := a60) (argsL := [(.int k1.toInt32), (.ref a82), (.int (0 : Int32))]) (rest := [(.ref a60)]) (own_mts l Z a0 hw [] a60 k1 a82 t101 u102 0 0 _ _ Z130 F121 F122 F123 F124 F125 F126 F127 F128 F129 F103 F104 F105 F106 ge_a60 ge_a82 ge_t101 ge_u102 ne_a60_a82 ne_a60_t101 ne_a60_u102 ne_a82_t101 ne_a82_u102 F109 (by omega) (fun z => by omega) (by omega) (fun z => by omega) (by omega)) (pd_4) rfl at_165 rfl rfl rfl (W := 1) rfl (by decide) (by decide) (cells' := 9) (slots' := 42) rfl rfl (by decide) (by decide) (fun v T145 h147 X146 q148 => ?_)
  obtain ⟨t2131, u2132, rfl, K144, F133, F134, F135, F136, F137, F138, F139, F140, F141, F142, F143⟩ := q148
  show own_Fin p e below (own_End s n0 (fun v _ => v = some (.int 1)) room_1.cells room_1.slots) (T145.setTop (mkF m 168 #[.val (.int p1), .val (.int p2), .val (.int p3), .val (.int p4), .val (.int k1.toInt32), .val (.int k2.toInt32), .val (.int z3), .val (.int z6), .val (.int z9), .val (.int z12), .val (.int z15), .val (.int z18), .val (.int z21), .val (.int ((XT.ushr p1 (7 : Int32)) &&& (3 : Int32))), .val (.int z24), .val (.ref a34), .unset, .unset, .unset, .unset, .unset, .unset, .unset, .unset] [(.ref a60)]))
  have F149 := (F115.keep K144)
  have F150 := (F116.keep K144 (ninS ne_a34_a60 (ninS ne_a34_a82 (ninS ne_a34_t101 (ninS ne_a34_u102 nin0)))))
  have F151 := (F117.keep K144 (ninS ne_a34_a60 (ninS ne_a34_a82 (ninS ne_a34_t101 (ninS ne_a34_u102 nin0)))))
  have F152 := (F118.keep K144 (ninS ne_a34_a60 (ninS ne_a34_a82 (ninS ne_a34_t101 (ninS ne_a34_u102 nin0)))))
  have F153 := (F119.keep K144 (ninS ne_a34_a60 (ninS ne_a34_a82 (ninS ne_a34_t101 (ninS ne_a34_u102 nin0)))))
  have F154 := (F120.keep K144 (ninS ne_a34_a60 (ninS ne_a34_a82 (ninS ne_a34_t101 (ninS ne_a34_u102 nin0)))))
  have F155 := (F121.keep K144)
  have F156 := (F129.keep K144)
  have Z157 : n0 ≤ h147.size := (Nat.le_trans Z130 K144.1)
  have ge_t2131 : n0 ≤ t2131 := F141.elim (fun q => q ▸ ge_t101) (fun q => Nat.le_trans Z130 q)
  have ne_a34_t2131 : a34 ≠ t2131 := F141.elim (fun q => q ▸ ne_a34_t101) (fun q => Nat.ne_of_lt (Nat.lt_of_lt_of_le F115.lt q))
  have ne_a60_t2131 : a60 ≠ t2131 := F141.elim (fun q => q ▸ ne_a60_t101) (fun q => Nat.ne_of_lt (Nat.lt_of_lt_of_le F121.lt q))
  have ne_a82_t2131 : a82 ≠ t2131 := F141.elim (fun q => q ▸ ne_a82_t101) (fun q => Nat.ne_of_lt (Nat.lt_of_lt_of_le F129.lt q))
  have ne_u102_t2131 : u102 ≠ t2131 := F141.elim (fun q => q ▸ (Ne.symm F109)) (fun q => Nat.ne_of_lt (Nat.lt_of_lt_of_le F106.lt q))
  have ge_u2132 : n0 ≤ u2132 := F142.elim (fun q => q ▸ ge_u102) (fun q => Nat.le_trans Z130 q)
  have ne_a34_u2132 : a34 ≠ u2132 := F142.elim (fun q => q ▸ ne_a34_u102) (fun q => Nat.ne_of_lt (Nat.lt_of_lt_of_le F115.lt q))
  have ne_a60_u2132 : a60 ≠ u2132 := F142.elim (fun q => q ▸ ne_a60_u102) (fun q => Nat.ne_of_lt (Nat.lt_of_lt_of_le F121.lt q))
  have ne_a82_u2132 : a82 ≠ u2132 := F142.elim (fun q => q ▸ ne_a82_u102) (fun q => Nat.ne_of_lt (Nat.lt_of_lt_of_le F129.lt q))
  have ne_t101_u2132 : t101 ≠ u2132 := F142.elim (fun q => q ▸ F109) (fun q => Nat.ne_of_lt (Nat.lt_of_lt_of_le F105.lt q))
  refine own_astore X146 (L' := #[.val (.int p1), .val (.int p2), .val (.int p3), .val (.int p4), .val (.int k1.toInt32), .val (.int k2.toInt32), .val (.int z3), .val (.int z6), .val (.int z9), .val (.int z12), .val (.int z15), .val (.int z18), .val (.int z21), .val (.int ((XT.ushr p1 (7 : Int32)) &&& (3 : Int32))), .val (.int z24), .val (.ref a34), .val (.ref a60), .unset, .unset, .unset, .unset, .unset, .unset, .unset]) at_168 rfl rfl rfl ?_
  refine own_new X146 (hw _ (List.mem_of_getElem? (i := 11) rfl)) (hw _ (List.mem_of_getElem? (i := 12) rfl)) (hw _ (List.mem_of_getElem? (i := 13) rfl)) at_170 rfl (cells' := 10) (slots' := 50) rfl rfl (by decide) (by decide) (fun T158 h160 a164 g165 X159 E161 A162 D163 => ?_)
  have ge_a164 : n0 ≤ a164 := Nat.le_trans Z157 (Nat.le_of_eq g165.symm)
  have ne_a34_a164 : a34 ≠ a164 := Nat.ne_of_lt (g165 ▸ F149.lt)
  have ne_a60_a164 : a60 ≠ a164 := Nat.ne_of_lt (g165 ▸ F155.lt)
  have ne_a82_a164 : a82 ≠ a164 := Nat.ne_of_lt (g165 ▸ F156.lt)
  have ne_t2131_a164 : t2131 ≠ a164 := Nat.ne_of_lt (g165 ▸ F139.lt)
  have ne_u2132_a164 : u2132 ≠ a164 := Nat.ne_of_lt (g165 ▸ F140.lt)
  have F166 := D163 (Or.inr (hw _ (List.mem_of_getElem? (i := 69) rfl))) (ty := (.object "java/util/Set")) (by decide)
  replace F166 : Fld Z h160 a164 "com/example/racewright/racewright/happensbefore/ThreadState" "usedClasses" "Ljava/util/Set;" (.null) := F166
  have F167 := D163 (Or.inr (hw _ (List.mem_of_getElem? (i := 71) rfl))) (ty := .int) (by decide)
  replace F167 : Fld Z h160 a164 "com/example/racewright/racewright/happensbefore/ThreadState" "id" "I" (.int (0 : Int32)) := F167
  have F168 := D163 (Or.inr (hw _ (List.mem_of_getElem? (i := 73) rfl))) (ty := (.object "com/example/racewright/racewright/happensbefore/VectorClock")) (by decide)
  replace F168 : Fld Z h160 a164 "com/example/racewright/racewright/happensbefore/ThreadState" "clock" "Lcom/example/racewright/racewright/happensbefore/VectorClock;" (.null) := F168
  have F169 := D163 (Or.inr (hw _ (List.mem_of_getElem? (i := 98) rfl))) (ty := (.object "java/util/List")) (by decide)
  replace F169 : Fld Z h160 a164 "com/example/racewright/racewright/happensbefore/ThreadState" "acquisitions" "Ljava/util/List;" (.null) := F169
  have F170 := D163 (Or.inr (hw _ (List.mem_of_getElem? (i := 100) rfl))) (ty := (.object "com/example/racewright/racewright/happensbefore/VectorClock")) (by decide)
  replace F170 : Fld Z h160 a164 "com/example/racewright/racewright/happensbefore/ThreadState" "started" "Lcom/example/racewright/racewright/happensbefore/VectorClock;" (.null) := F170
  have F171 := D163 (Or.inl (hw _ (List.mem_of_getElem? (i := 102) rfl))) (ty := .boolean) (by decide)
  replace F171 : Fld Z h160 a164 "com/example/racewright/racewright/happensbefore/ThreadState" "unscheduled" "Z" (.int (0 : Int32)) := F171
  have F172 := D163 (Or.inl (hw _ (List.mem_of_getElem? (i := 114) rfl))) (ty := (.object "java/lang/Object")) (by decide)
  replace F172 : Fld Z h160 a164 "com/example/racewright/racewright/happensbefore/ThreadState" "additions" "Ljava/lang/Object;" (.null) := F172
  have F173 := (F149.ext E161)
  have F174 := (F150.ext E161)
  have F175 := (F151.ext E161)
  have F176 := (F152.ext E161)
  have F177 := (F153.ext E161)
  have F178 := (F154.ext E161)
  have F179 := (F155.ext E161)
  have F180 := (F156.ext E161)
  have F181 := (F133.ext E161)
  have F182 := (F134.ext E161)
  have F183 := (F135.ext E161)
  have F184 := (F136.ext E161)
  have F185 := (F137.ext E161)
  have F186 := (F138.ext E161)
  have F187 := (F139.ext E161)
  have F188 := (F140.ext E161)
  have Z189 : n0 ≤ h160.size := (Nat.le_trans Z157 E161.1)
  refine own_dup X159 at_173 rfl rfl ?_
  refine own_iload X159 at_174 rfl rfl ?_
  refine own_new X159 (hw _ (List.mem_of_getElem? (i := 14) rfl)) (hw _ (List.mem_of_getElem? (i := 15) rfl)) (hw _ (List.mem_of_getElem? (i := 16) rfl)) at_176 rfl (cells' := 11) (slots' := 52) rfl rfl (by decide) (by decide) (fun T190 h192 a196 g197 X191 E193 A194 D195 => ?_)
  have ge_a196 : n0 ≤ a196 := Nat.le_trans Z189 (Nat.le_of_eq g197.symm)
  have ne_a34_a196 : a34 ≠ a196 := Nat.ne_of_lt (g197 ▸ F173.lt)
  have ne_a60_a196 : a60 ≠ a196 := Nat.ne_of_lt (g197 ▸ F179.lt)
  have ne_a82_a196 : a82 ≠ a196 := Nat.ne_of_lt (g197 ▸ F180.lt)
  have ne_t2131_a196 : t2131 ≠ a196 := Nat.ne_of_lt (g197 ▸ F187.lt)
  have ne_u2132_a196 : u2132 ≠ a196 := Nat.ne_of_lt (g197 ▸ F188.lt)
  have ne_a164_a196 : a164 ≠ a196 := Nat.ne_of_lt (g197 ▸ A162.lt)
  have F198 := D195 (Or.inl (hw _ (List.mem_of_getElem? (i := 23) rfl))) (ty := (.array .int)) (by decide)
  replace F198 : Fld Z h192 a196 "com/example/racewright/racewright/happensbefore/VectorClock" "ticks" "[I" (.null) := F198
  have F199 := D195 (Or.inl (hw _ (List.mem_of_getElem? (i := 25) rfl))) (ty := (.array .int)) (by decide)
  replace F199 : Fld Z h192 a196 "com/example/racewright/racewright/happensbefore/VectorClock" "apart" "[I" (.null) := F199
  have F200 := (F173.ext E193)
  have F201 := (F174.ext E193)
  have F202 := (F175.ext E193)
  have F203 := (F176.ext E193)
  have F204 := (F177.ext E193)
  have F205 := (F178.ext E193)
  have F206 := (F179.ext E193)
  have F207 := (F180.ext E193)
  have F208 := (F181.ext E193)
  have F209 := (F182.ext E193)
  have F210 := (F183.ext E193)
  have F211 := (F184.ext E193)
  have F212 := (F185.ext E193)
  have F213 := (F186.ext E193)
  have F214 := (F187.ext E193)
  have F215 := (F188.ext E193)
  have F216 := (A162.ext E193)
  have F217 := (F166.ext E193)
  have F218 := (F167.ext E193)
  have F219 := (F168.ext E193)
  have F220 := (F169.ext E193)
  have F221 := (F170.ext E193)
  have F222 := (F171.ext E193)
  have F223 := (F172.ext E193)
  have Z224 : n0 ≤ h192.size := (Nat.le_trans Z189 E193.1)
  refine own_dup X191 at_179 rfl rfl ?_
  refine own_callI X191 rfl (hw _ (List.mem_of_getElem? (i := 17) rfl)) (hw _ (List.mem_of_getElem? (i := 18) rfl)) (hw _ (List.mem_of_getElem? (i := 16) rfl)) (hw _ (List.mem_of_getElem? (i := 19) rfl)) (by decide) (a := a196) (argsL := []) (rest := [(.ref a196), (.int k2.toInt32), (.ref a164), (.ref a164)]) (own_mvi l Z a0 hw [] a196 _ _ Z224 A194 F198 F199 ge_a196) (pd_3) rfl at_180 rfl rfl rfl (W := 4) rfl (by decide) (by decide) (cells' := 13) (slots' := 52) rfl rfl (by decide) (by decide) (fun v T235 h237 X236 q238 => ?_)
  obtain ⟨t225, u226, rfl, K234, F227, F228, F229, F230, F231, F232, F233⟩ := q238
  show own_Fin p e below (own_End s n0 (fun v _ => v = some (.int 1)) room_1.cells room_1.slots) (T235.setTop (mkF m 183 #[.val (.int p1), .val (.int p2), .val (.int p3), .val (.int p4), .val (.int k1.toInt32), .val (.int k2.toInt32), .val (.int z3), .val (.int z6), .val (.int z9), .val (.int z12), .val (.int z15), .val (.int z18), .val (.int z21), .val (.int ((XT.ushr p1 (7 : Int32)) &&& (3 : Int32))), .val (.int z24), .val (.ref a34), .val (.ref a60), .unset, .unset, .unset, .unset, .unset, .unset, .unset] [(.ref a196), (.int k2.toInt32), (.ref a164), (.ref a164)]))
  have F239 := (F200.keep K234)
  have F240 := (F201.keep K234 (ninS ne_a34_a196 nin0))
  have F241 := (F202.keep K234 (ninS ne_a34_a196 nin0))
  have F242 := (F203.keep K234 (ninS ne_a34_a196 nin0))
  have F243 := (F204.keep K234 (ninS ne_a34_a196 nin0))
  have F244 := (F205.keep K234 (ninS ne_a34_a196 nin0))
  have F245 := (F206.keep K234)
  have F246 := (F207.keep K234)
  have F247 := (F208.keep K234 (ninS ne_a60_a196 nin0))
  have F248 := (F209.keep K234 (ninS ne_a60_a196 nin0))
  have F249 := (F210.keep K234 (ninS ne_a60_a196 nin0))
  have F250 := (F211.keep K234 (ninS ne_a60_a196 nin0))
  have F251 := (F212.keep K234 (ninS ne_a82_a196 nin0))
  have F252 := (F213.keep K234 (ninS ne_a82_a196 nin0))
  have F253 := (F214.keep K234 (ninS ne_t2131_a196 nin0))
  have F254 := (F215.keep K234 (ninS ne_u2132_a196 nin0))
  have F255 := (F216.keep K234)
  have F256 := (F217.keep K234 (ninS ne_a164_a196 nin0))
  have F257 := (F218.keep K234 (ninS ne_a164_a196 nin0))
  have F258 := (F219.keep K234 (ninS ne_a164_a196 nin0))
  have F259 := (F220.keep K234 (ninS ne_a164_a196 nin0))
  have F260 := (F221.keep K234 (ninS ne_a164_a196 nin0))
  have F261 := (F222.keep K234 (ninS ne_a164_a196 nin0))
  have F262 := (F223.keep K234 (ninS ne_a164_a196 nin0))
  have F263 := (A194.keep K234)
  have Z264 : n0 ≤ h237.size := (Nat.le_trans Z224 K234.1)
  have ge_t225 : n0 ≤ t225 := Nat.le_trans Z224 F231
  have ne_a34_t225 : a34 ≠ t225 := (fun q => Nat.ne_of_lt (Nat.lt_of_lt_of_le F200.lt q)) F231
  have ne_a60_t225 : a60 ≠ t225 := (fun q => Nat.ne_of_lt (Nat.lt_of_lt_of_le F206.lt q)) F231
  have ne_a82_t225 : a82 ≠ t225 := (fun q => Nat.ne_of_lt (Nat.lt_of_lt_of_le F207.lt q)) F231
  have ne_t2131_t225 : t2131 ≠ t225 := (fun q => Nat.ne_of_lt (Nat.lt_of_lt_of_le F214.lt q)) F231
  have ne_u2132_t225 : u2132 ≠ t225 := (fun q => Nat.ne_of_lt (Nat.lt_of_lt_of_le F215.lt q)) F231
  have ne_a164_t225 : a164 ≠ t225 := (fun q => Nat.ne_of_lt (Nat.lt_of_lt_of_le F216.lt q)) F231
  have ne_a196_t225 : a196 ≠ t225 := (fun q => Nat.ne_of_lt (Nat.lt_of_lt_of_le A194.lt q)) F231
  have ge_u226 : n0 ≤ u226 := Nat.le_trans Z224 F232
  have ne_a34_u226 : a34 ≠ u226 := (fun q => Nat.ne_of_lt (Nat.lt_of_lt_of_le F200.lt q)) F232
  have ne_a60_u226 : a60 ≠ u226 := (fun q => Nat.ne_of_lt (Nat.lt_of_lt_of_le F206.lt q)) F232
  have ne_a82_u226 : a82 ≠ u226 := (fun q => Nat.ne_of_lt (Nat.lt_of_lt_of_le F207.lt q)) F232
  have ne_t2131_u226 : t2131 ≠ u226 := (fun q => Nat.ne_of_lt (Nat.lt_of_lt_of_le F214.lt q)) F232
  have ne_u2132_u226 : u2132 ≠ u226 := (fun q => Nat.ne_of_lt (Nat.lt_of_lt_of_le F215.lt q)) F232
  have ne_a164_u226 : a164 ≠ u226 := (fun q => Nat.ne_of_lt (Nat.lt_of_lt_of_le F216.lt q)) F232
  have ne_a196_u226 : a196 ≠ u226 := (fun q => Nat.ne_of_lt (Nat.lt_of_lt_of_le A194.lt q)) F232
  refine own_iconst X236 (0 : Int32) at_183 rfl (by decide) ?_
  refine own_callI X236 rfl (hw _ (List.mem_of_getElem? (i := 26) rfl)) (hw _ (List.mem_of_getElem? (i := 27) rfl)) (hw _ (List.mem_of_getElem? (i := 13) rfl)) (hw _ (List.mem_of_getElem? (i := 28) rfl)) (by decide) (a := a164) (argsL := [(.int k2.toInt32), (.ref a196), (.int (0 : Int32))]) (rest := [(.ref a164)]) (own_mts l Z a0 hw [] a164 k2 a196 t225 u226 0 0 _ _ Z264 F255 F256 F257 F258 F259 F260 F261 F262 F263 F227 F228 F229 F230 ge_a164 ge_a196 ge_t225 ge_u226 ne_a164_a196 ne_a164_t225 ne_a164_u226 ne_a196_t225 ne_a196_u226 F233 (by omega) (fun z => by omega) (by omega) (fun z => by omega) (by omega)) (pd_4) rfl at_184 rfl rfl rfl (W := 1) rfl (by decide) (by decide) (cells' := 17) (slots' := 77) rfl rfl (by decide) (by decide) (fun v T279 h281 X280 q282 => ?_)
  obtain ⟨t2265, u2266, rfl, K278, F267, F268, F269, F270, F271, F272, F273, F274, F275, F276, F277⟩ := q282
  show own_Fin p e below (own_End s n0 (fun v _ => v = some (.int 1)) room_1.cells room_1.slots) (T279.setTop (mkF m 187 #[.val (.int p1), .val (.int p2), .val (.int p3), .val (.int p4), .val (.int k1.toInt32), .val (.int k2.toInt32), .val (.int z3), .val (.int z6), .val (.int z9), .val (.int z12), .val (.int z15), .val (.int z18), .val (.int z21), .val (.int ((XT.ushr p1 (7 : Int32)) &&& (3 : Int32))), .val (.int z24), .val (.ref a34), .val (.ref a60), .unset, .unset, .unset, .unset, .unset, .unset, .unset] [(.ref a164)]))
  have F283 := (F239.keep K278)
  have F284 := (F240.keep K278 (ninS ne_a34_a164 (ninS ne_a34_a196 (ninS ne_a34_t225 (ninS ne_a34_u226 nin0)))))
  have F285 := (F241.keep K278 (ninS ne_a34_a164 (ninS ne_a34_a196 (ninS ne_a34_t225 (ninS ne_a34_u226 nin0)))))
  have F286 := (F242.keep K278 (ninS ne_a34_a164 (ninS ne_a34_a196 (ninS ne_a34_t225 (ninS ne_a34_u226 nin0)))))
  have F287 := (F243.keep K278 (ninS ne_a34_a164 (ninS ne_a34_a196 (ninS ne_a34_t225 (ninS ne_a34_u226 nin0)))))
  have F288 := (F244.keep K278 (ninS ne_a34_a164 (ninS ne_a34_a196 (ninS ne_a34_t225 (ninS ne_a34_u226 nin0)))))
  have F289 := (F245.keep K278)
  have F290 := (F246.keep K278)
  have F291 := (F247.keep K278 (ninS ne_a60_a164 (ninS ne_a60_a196 (ninS ne_a60_t225 (ninS ne_a60_u226 nin0)))))
  have F292 := (F248.keep K278 (ninS ne_a60_a164 (ninS ne_a60_a196 (ninS ne_a60_t225 (ninS ne_a60_u226 nin0)))))
  have F293 := (F249.keep K278 (ninS ne_a60_a164 (ninS ne_a60_a196 (ninS ne_a60_t225 (ninS ne_a60_u226 nin0)))))
  have F294 := (F250.keep K278 (ninS ne_a60_a164 (ninS ne_a60_a196 (ninS ne_a60_t225 (ninS ne_a60_u226 nin0)))))
  have F295 := (F251.keep K278 (ninS ne_a82_a164 (ninS ne_a82_a196 (ninS ne_a82_t225 (ninS ne_a82_u226 nin0)))))
  have F296 := (F252.keep K278 (ninS ne_a82_a164 (ninS ne_a82_a196 (ninS ne_a82_t225 (ninS ne_a82_u226 nin0)))))
  have F297 := (F253.keep K278 (ninS ne_t2131_a164 (ninS ne_t2131_a196 (ninS ne_t2131_t225 (ninS ne_t2131_u226 nin0)))))
  have F298 := (F254.keep K278 (ninS ne_u2132_a164 (ninS ne_u2132_a196 (ninS ne_u2132_t225 (ninS ne_u2132_u226 nin0)))))
  have F299 := (F255.keep K278)
  have F300 := (F263.keep K278)
  have Z301 : n0 ≤ h281.size := (Nat.le_trans Z264 K278.1)
  have ge_t2265 : n0 ≤ t2265 := F275.elim (fun q => q ▸ ge_t225) (fun q => Nat.le_trans Z264 q)
  have ne_a34_t2265 : a34 ≠ t2265 := F275.elim (fun q => q ▸ ne_a34_t225) (fun q => Nat.ne_of_lt (Nat.lt_of_lt_of_le F239.lt q))
  have ne_a60_t2265 : a60 ≠ t2265 := F275.elim (fun q => q ▸ ne_a60_t225) (fun q => Nat.ne_of_lt (Nat.lt_of_lt_of_le F245.lt q))
  have ne_a82_t2265 : a82 ≠ t2265 := F275.elim (fun q => q ▸ ne_a82_t225) (fun q => Nat.ne_of_lt (Nat.lt_of_lt_of_le F246.lt q))
  have ne_t2131_t2265 : t2131 ≠ t2265 := F275.elim (fun q => q ▸ ne_t2131_t225) (fun q => Nat.ne_of_lt (Nat.lt_of_lt_of_le F253.lt q))
  have ne_u2132_t2265 : u2132 ≠ t2265 := F275.elim (fun q => q ▸ ne_u2132_t225) (fun q => Nat.ne_of_lt (Nat.lt_of_lt_of_le F254.lt q))
  have ne_a164_t2265 : a164 ≠ t2265 := F275.elim (fun q => q ▸ ne_a164_t225) (fun q => Nat.ne_of_lt (Nat.lt_of_lt_of_le F255.lt q))
  have ne_a196_t2265 : a196 ≠ t2265 := F275.elim (fun q => q ▸ ne_a196_t225) (fun q => Nat.ne_of_lt (Nat.lt_of_lt_of_le F263.lt q))
  have ne_u226_t2265 : u226 ≠ t2265 := F275.elim (fun q => q ▸ (Ne.symm F233)) (fun q => Nat.ne_of_lt (Nat.lt_of_lt_of_le F230.lt q))
  have ge_u2266 : n0 ≤ u2266 := F276.elim (fun q => q ▸ ge_u226) (fun q => Nat.le_trans Z264 q)
  have ne_a34_u2266 : a34 ≠ u2266 := F276.elim (fun q => q ▸ ne_a34_u226) (fun q => Nat.ne_of_lt (Nat.lt_of_lt_of_le F239.lt q))
  have ne_a60_u2266 : a60 ≠ u2266 := F276.elim (fun q => q ▸ ne_a60_u226) (fun q => Nat.ne_of_lt (Nat.lt_of_lt_of_le F245.lt q))
  have ne_a82_u2266 : a82 ≠ u2266 := F276.elim (fun q => q ▸ ne_a82_u226) (fun q => Nat.ne_of_lt (Nat.lt_of_lt_of_le F246.lt q))
  have ne_t2131_u2266 : t2131 ≠ u2266 := F276.elim (fun q => q ▸ ne_t2131_u226) (fun q => Nat.ne_of_lt (Nat.lt_of_lt_of_le F253.lt q))
  have ne_u2132_u2266 : u2132 ≠ u2266 := F276.elim (fun q => q ▸ ne_u2132_u226) (fun q => Nat.ne_of_lt (Nat.lt_of_lt_of_le F254.lt q))
  have ne_a164_u2266 : a164 ≠ u2266 := F276.elim (fun q => q ▸ ne_a164_u226) (fun q => Nat.ne_of_lt (Nat.lt_of_lt_of_le F255.lt q))
  have ne_a196_u2266 : a196 ≠ u2266 := F276.elim (fun q => q ▸ ne_a196_u226) (fun q => Nat.ne_of_lt (Nat.lt_of_lt_of_le F263.lt q))
  have ne_t225_u2266 : t225 ≠ u2266 := F276.elim (fun q => q ▸ F233) (fun q => Nat.ne_of_lt (Nat.lt_of_lt_of_le F229.lt q))
  refine own_astore X280 (L' := #[.val (.int p1), .val (.int p2), .val (.int p3), .val (.int p4), .val (.int k1.toInt32), .val (.int k2.toInt32), .val (.int z3), .val (.int z6), .val (.int z9), .val (.int z12), .val (.int z15), .val (.int z18), .val (.int z21), .val (.int ((XT.ushr p1 (7 : Int32)) &&& (3 : Int32))), .val (.int z24), .val (.ref a34), .val (.ref a60), .val (.ref a164), .unset, .unset, .unset, .unset, .unset, .unset]) at_187 rfl rfl rfl ?_
  refine own_aload X280 at_189 rfl rfl rfl ?_
  refine own_iload X280 at_191 rfl rfl ?_
  refine own_putf X280 (hw _ (List.mem_of_getElem? (i := 101) rfl)) F293 F289 (Or.inl (hw _ (List.mem_of_getElem? (i := 102) rfl))) (hw _ (List.mem_of_getElem? (i := 12) rfl)) (ty := .boolean) (by decide) (own_b01 hz6).1 (own_b01 hz6).2 ge_a60 at_193 rfl (fun T302 h304 X303 W305 => ?_)
  have F306 := (F283.wr W305)
  have F307 := (F284.other W305 (Or.inl ne_a34_a60))
  have F308 := (F285.other W305 (Or.inl ne_a34_a60))
  have F309 := (F286.other W305 (Or.inl ne_a34_a60))
  have F310 := (F287.other W305 (Or.inl ne_a34_a60))
  have F311 := (F288.other W305 (Or.inl ne_a34_a60))
  have F312 := (F289.wr W305)
  have F313 := (F290.wr W305)
  have F314 := (F291.other W305 (Or.inr (slot_ne (Or.inr (hw _ (List.mem_of_getElem? (i := 71) rfl))) (Or.inl (hw _ (List.mem_of_getElem? (i := 102) rfl))) (by decide) (t := .int) (t' := .boolean) (by decide) (by decide))))
  have F315 := (F292.other W305 (Or.inr (slot_ne (Or.inr (hw _ (List.mem_of_getElem? (i := 73) rfl))) (Or.inl (hw _ (List.mem_of_getElem? (i := 102) rfl))) (by decide) (t := (.object "com/example/racewright/racewright/happensbefore/VectorClock")) (t' := .boolean) (by decide) (by decide))))
  have F316 := (F293.same W305)
  have F317 := (F294.other W305 (Or.inr (slot_ne (Or.inl (hw _ (List.mem_of_getElem? (i := 114) rfl))) (Or.inl (hw _ (List.mem_of_getElem? (i := 102) rfl))) (by decide) (t := (.object "java/lang/Object")) (t' := .boolean) (by decide) (by decide))))
  have F318 := (F295.other W305 (Or.inl (Ne.symm ne_a60_a82)))
  have F319 := (F296.other W305 (Or.inl (Ne.symm ne_a60_a82)))
  have F320 := (F297.other W305 (Ne.symm ne_a60_t2131))
  have F321 := (F298.other W305 (Ne.symm ne_a60_u2132))
  have F322 := (F299.wr W305)
  have F323 := (F300.wr W305)
  have F324 := (F267.other W305 (Or.inl (Ne.symm ne_a60_a164)))
  have F325 := (F268.other W305 (Or.inl (Ne.symm ne_a60_a164)))
  have F326 := (F269.other W305 (Or.inl (Ne.symm ne_a60_a164)))
  have F327 := (F270.other W305 (Or.inl (Ne.symm ne_a60_a164)))
  have F328 := (F271.other W305 (Or.inl (Ne.symm ne_a60_a196)))
  have F329 := (F272.other W305 (Or.inl (Ne.symm ne_a60_a196)))
  have F330 := (F273.other W305 (Ne.symm ne_a60_t2265))
  have F331 := (F274.other W305 (Ne.symm ne_a60_u2266))
  have Z332 : n0 ≤ h304.size := (Nat.le_trans Z301 (Nat.le_of_eq W305.size.symm))
  refine own_aload X303 at_196 rfl rfl rfl ?_
  refine own_iload X303 at_198 rfl rfl ?_
  refine own_putf X303 (hw _ (List.mem_of_getElem? (i := 101) rfl)) F326 F322 (Or.inl (hw _ (List.mem_of_getElem? (i := 102) rfl))) (hw _ (List.mem_of_getElem? (i := 12) rfl)) (ty := .boolean) (by decide) (own_b01 hz15).1 (own_b01 hz15).2 ge_a164 at_200 rfl (fun T333 h335 X334 W336 => ?_)
  have F337 := (F306.wr W336)
  have F338 := (F307.other W336 (Or.inl ne_a34_a164))
  have F339 := (F308.other W336 (Or.inl ne_a34_a164))
  have F340 := (F309.other W336 (Or.inl ne_a34_a164))
  have F341 := (F310.other W336 (Or.inl ne_a34_a164))
  have F342 := (F311.other W336 (Or.inl ne_a34_a164))
  have F343 := (F312.wr W336)
  have F344 := (F313.wr W336)
  have F345 := (F314.other W336 (Or.inl ne_a60_a164))
  have F346 := (F315.other W336 (Or.inl ne_a60_a164))
  have F347 := (F316.other W336 (Or.inl ne_a60_a164))
  have F348 := (F317.other W336 (Or.inl ne_a60_a164))
  have F349 := (F318.other W336 (Or.inl ne_a82_a164))
  have F350 := (F319.other W336 (Or.inl ne_a82_a164))
  have F351 := (F320.other W336 ne_t2131_a164)
  have F352 := (F321.other W336 ne_u2132_a164)
  have F353 := (F322.wr W336)
  have F354 := (F323.wr W336)
  have F355 := (F324.other W336 (Or.inr (slot_ne (Or.inr (hw _ (List.mem_of_getElem? (i := 71) rfl))) (Or.inl (hw _ (List.mem_of_getElem? (i := 102) rfl))) (by decide) (t := .int) (t' := .boolean) (by decide) (by decide))))
  have F356 := (F325.other W336 (Or.inr (slot_ne (Or.inr (hw _ (List.mem_of_getElem? (i := 73) rfl))) (Or.inl (hw _ (List.mem_of_getElem? (i := 102) rfl))) (by decide) (t := (.object "com/example/racewright/racewright/happensbefore/VectorClock")) (t' := .boolean) (by decide) (by decide))))
  have F357 := (F326.same W336)
  have F358 := (F327.other W336 (Or.inr (slot_ne (Or.inl (hw _ (List.mem_of_getElem? (i := 114) rfl))) (Or.inl (hw _ (List.mem_of_getElem? (i := 102) rfl))) (by decide) (t := (.object "java/lang/Object")) (t' := .boolean) (by decide) (by decide))))
  have F359 := (F328.other W336 (Or.inl (Ne.symm ne_a164_a196)))
  have F360 := (F329.other W336 (Or.inl (Ne.symm ne_a164_a196)))
  have F361 := (F330.other W336 (Ne.symm ne_a164_t2265))
  have F362 := (F331.other W336 (Ne.symm ne_a164_u2266))
  have Z363 : n0 ≤ h335.size := (Nat.le_trans Z332 (Nat.le_of_eq W336.size.symm))
  refine own_iload X334 at_203 rfl rfl ?_
  suffices H215_364 : ∀ (T397 : State) (h399 : Heap) (z401 : Int32) (z402 : Int32) (o403 : Value) (o405 : Value) (o407 : Value), own_Cx Z p l e room_1 s m #[(.int p1), (.int p2), (.int p3), (.int p4)] below meth c n0 "com/example/racewright/racewright/happensbefore/LocationReadAcrossPinLaw" code maxLocals "law" ret T397 h399 17 77 → z401 = (if z3 = (0 : Int32) then (0 : Int32) else (own_rs z6 (0 : Int32))) → z402 = (if z3 = (0 : Int32) then ((-1) : Int32) else (own_ur z6 ((-1) : Int32) k1.toInt32)) → Keep h335 h399 [a34] → Fld Z h399 a34 "com/example/racewright/racewright/happensbefore/Location" "readScheduled" "Z" (.int z401) → Fld Z h399 a34 "com/example/racewright/racewright/happensbefore/Location" "unscheduledReader" "I" (.int z402) → Fld Z h399 a34 "com/example/racewright/racewright/happensbefore/Location" "beforeAdditions" "Lcom/example/racewright/racewright/happensbefore/Location$Write;" o403 → Fld Z h399 a34 "com/example/racewright/racewright/happensbefore/Location" "lastWrite" "Lcom/example/racewright/racewright/happensbefore/Location$Write;" o405 → Fld Z h399 a34 "com/example/racewright/racewright/happensbefore/Location" "racedWithLastWrite" "Ljava/util/BitSet;" o407 → own_Fin p e below (own_End s n0 (fun v _ => v = some (.int 1)) room_1.cells room_1.slots) (T397.setTop (mkF m 215 #[.val (.int p1), .val (.int p2), .val (.int p3), .val (.int p4), .val (.int k1.toInt32), .val (.int k2.toInt32), .val (.int z3), .val (.int z6), .val (.int z9), .val (.int z12), .val (.int z15), .val (.int z18), .val (.int z21), .val (.int ((XT.ushr p1 (7 : Int32)) &&& (3 : Int32))), .val (.int z24), .val (.ref a34), .val (.ref a60), .val (.ref a164), .unset, .unset, .unset, .unset, .unset, .unset] [])) by
    refine own_if_eq X334 at_205 (by decide) (pcT := 215) (by decide) rfl (fun hc411 => ?_) (fun hc411 => ?_)
    · skip
      exact H215_364 _ _ _ _ _ _ _ (own_more X334 (by decide) (by decide)) (by rw [if_pos hc411]) (by rw [if_pos hc411]) (Keep.refl _ _) F338 F339 F340 F341 F342
    · skip
      have K412 := (Keep.refl h335 [a34])
      refine own_aload X334 at_208 rfl rfl rfl ?_
      refine own_aload X334 at_210 rfl rfl rfl ?_
      refine own_callV X334 (hw _ (List.mem_of_getElem? (i := 158) rfl)) (hw _ (List.mem_of_getElem? (i := 159) rfl)) (hw _ (List.mem_of_getElem? (i := 161) rfl)) (hw _ (List.mem_of_getElem? (i := 160) rfl)) (hw _ (List.mem_of_getElem? (i := 2) rfl)) (hw _ (List.mem_of_getElem? (i := 162) rfl)) (by decide) (a := a34) (argsL := [(.ref a60)]) (rest := []) (own_mrd l Z a0 hw [] a34 a60 z6 k1.toInt32 (0 : Int32) ((-1) : Int32) .null .null .null _ _ Z363 F337 F338 F339 F340 F341 F342 F347 F345 ge_a34 (Ne.symm ne_a34_a60)) F337 (pd_21) rfl at_212 rfl rfl rfl (W := 0) rfl (by decide) (by decide) (cells' := 17) (slots' := 77) rfl rfl (by decide) (by decide) (fun v T419 h421 X420 q422 => ?_)
      obtain ⟨rfl, K418, F413, F414, F415, F416, F417⟩ := q422
      show own_Fin p e below (own_End s n0 (fun v _ => v = some (.int 1)) room_1.cells room_1.slots) (T419.setTop (mkF m 215 #[.val (.int p1), .val (.int p2), .val (.int p3), .val (.int p4), .val (.int k1.toInt32), .val (.int k2.toInt32), .val (.int z3), .val (.int z6), .val (.int z9), .val (.int z12), .val (.int z15), .val (.int z18), .val (.int z21), .val (.int ((XT.ushr p1 (7 : Int32)) &&& (3 : Int32))), .val (.int z24), .val (.ref a34), .val (.ref a60), .val (.ref a164), .unset, .unset, .unset, .unset, .unset, .unset] []))
      have F423 := (F337.keep K418)
      have F424 := (F343.keep K418)
      have F425 := (F344.keep K418)
      have F426 := (F345.keep K418 (ninS (Ne.symm ne_a34_a60) nin0))
      have F427 := (F346.keep K418 (ninS (Ne.symm ne_a34_a60) nin0))
      have F428 := (F347.keep K418 (ninS (Ne.symm ne_a34_a60) nin0))
      have F429 := (F348.keep K418 (ninS (Ne.symm ne_a34_a60) nin0))
      have F430 := (F349.keep K418 (ninS (Ne.symm ne_a34_a82) nin0))
      have F431 := (F350.keep K418 (ninS (Ne.symm ne_a34_a82) nin0))
      have F432 := (F351.keep K418 (ninS (Ne.symm ne_a34_t2131) nin0))
      have F433 := (F352.keep K418 (ninS (Ne.symm ne_a34_u2132) nin0))
      have F434 := (F353.keep K418)
      have F435 := (F354.keep K418)
      have F436 := (F355.keep K418 (ninS (Ne.symm ne_a34_a164) nin0))
      have F437 := (F356.keep K418 (ninS (Ne.symm ne_a34_a164) nin0))
      have F438 := (F357.keep K418 (ninS (Ne.symm ne_a34_a164) nin0))
      have F439 := (F358.keep K418 (ninS (Ne.symm ne_a34_a164) nin0))
      have F440 := (F359.keep K418 (ninS (Ne.symm ne_a34_a196) nin0))
      have F441 := (F360.keep K418 (ninS (Ne.symm ne_a34_a196) nin0))
      have F442 := (F361.keep K418 (ninS (Ne.symm ne_a34_t2265) nin0))
      have F443 := (F362.keep K418 (ninS (Ne.symm ne_a34_u2266) nin0))
      have Z444 : n0 ≤ h421.size := (Nat.le_trans Z363 K418.1)
      have K445 := (K412.trans K418 (allS (P := fun x => x ∈ _ ∨ _ ≤ x) (Or.inl (List.mem_of_getElem? (i := 0) rfl)) all0))
      exact H215_364 _ _ _ _ _ _ _ (own_more X420 (by decide) (by decide)) (by rw [if_neg hc411]) (by rw [if_neg hc411]) K445 F413 F414 F415 F416 F417
  intro T397 h399 z401 z402 o403 o405 o407 X398 hz401 hz402 K400 F409 F410 F404 F406 F408
  have F446 := (F337.keep K400)
  have F447 := (F343.keep K400)
  have F448 := (F344.keep K400)
  have F449 := (F345.keep K400 (ninS (Ne.symm ne_a34_a60) nin0))
  have F450 := (F346.keep K400 (ninS (Ne.symm ne_a34_a60) nin0))
  have F451 := (F347.keep K400 (ninS (Ne.symm ne_a34_a60) nin0))
  have F452 := (F348.keep K400 (ninS (Ne.symm ne_a34_a60) nin0))
  have F453 := (F349.keep K400 (ninS (Ne.symm ne_a34_a82) nin0))
  have F454 := (F350.keep K400 (ninS (Ne.symm ne_a34_a82) nin0))
  have F455 := (F351.keep K400 (ninS (Ne.symm ne_a34_t2131) nin0))
  have F456 := (F352.keep K400 (ninS (Ne.symm ne_a34_u2132) nin0))
  have F457 := (F353.keep K400)
  have F458 := (F354.keep K400)
  have F459 := (F355.keep K400 (ninS (Ne.symm ne_a34_a164) nin0))
  have F460 := (F356.keep K400 (ninS (Ne.symm ne_a34_a164) nin0))
  have F461 := (F357.keep K400 (ninS (Ne.symm ne_a34_a164) nin0))
  have F462 := (F358.keep K400 (ninS (Ne.symm ne_a34_a164) nin0))
  have F463 := (F359.keep K400 (ninS (Ne.symm ne_a34_a196) nin0))
  have F464 := (F360.keep K400 (ninS (Ne.symm ne_a34_a196) nin0))
  have F465 := (F361.keep K400 (ninS (Ne.symm ne_a34_t2265) nin0))
  have F466 := (F362.keep K400 (ninS (Ne.symm ne_a34_u2266) nin0))
  have Z467 : n0 ≤ h399.size := (Nat.le_trans Z363 K400.1)
  refine own_iload X398 at_215 rfl rfl ?_
  suffices H230_468 : ∀ (T504 : State) (h506 : Heap) (z508 : Int32) (z509 : Int32) (o510 : Value) (o512 : Value) (o514 : Value), own_Cx Z p l e room_1 s m #[(.int p1), (.int p2), (.int p3), (.int p4)] below meth c n0 "com/example/racewright/racewright/happensbefore/LocationReadAcrossPinLaw" code maxLocals "law" ret T504 h506 18 83 → z508 = (if z9 = (0 : Int32) then z401 else (0 : Int32)) → z509 = (if z9 = (0 : Int32) then z402 else ((-1) : Int32)) → Keep h399 h506 [a34] → Fld Z h506 a34 "com/example/racewright/racewright/happensbefore/Location" "readScheduled" "Z" (.int z508) → Fld Z h506 a34 "com/example/racewright/racewright/happensbefore/Location" "unscheduledReader" "I" (.int z509) → Fld Z h506 a34 "com/example/racewright/racewright/happensbefore/Location" "beforeAdditions" "Lcom/example/racewright/racewright/happensbefore/Location$Write;" o510 → Fld Z h506 a34 "com/example/racewright/racewright/happensbefore/Location" "lastWrite" "Lcom/example/racewright/racewright/happensbefore/Location$Write;" o512 → Fld Z h506 a34 "com/example/racewright/racewright/happensbefore/Location" "racedWithLastWrite" "Ljava/util/BitSet;" o514 → own_Fin p e below (own_End s n0 (fun v _ => v = some (.int 1)) room_1.cells room_1.slots) (T504.setTop (mkF m 230 #[.val (.int p1), .val (.int p2), .val (.int p3), .val (.int p4), .val (.int k1.toInt32), .val (.int k2.toInt32), .val (.int z3), .val (.int z6), .val (.int z9), .val (.int z12), .val (.int z15), .val (.int z18), .val (.int z21), .val (.int ((XT.ushr p1 (7 : Int32)) &&& (3 : Int32))), .val (.int z24), .val (.ref a34), .val (.ref a60), .val (.ref a164), .unset, .unset, .unset, .unset, .unset, .unset] [])) by
    refine own_if_eq X398 at_217 (by decide) (pcT := 230) (by decide) rfl (fun hc518 => ?_) (fun hc518 => ?_)
    · skip
      exact H230_468 _ _ _ _ _ _ _ (own_more X398 (by decide) (by decide)) (by rw [if_pos hc518]) (by rw [if_pos hc518]) (Keep.refl _ _) F409 F410 F404 F406 F408
    · skip
      have K519 := (Keep.refl h399 [a34])
      refine own_aload X398 at_220 rfl rfl rfl ?_
      refine own_aload X398 at_222 rfl rfl rfl ?_
      refine own_aconst_null X398 at_224 rfl ?_
      refine own_aconst_null X398 at_225 rfl ?_
      refine own_iconst X398 ((-1) : Int32) at_226 rfl (by decide) ?_
      refine own_callV X398 (hw _ (List.mem_of_getElem? (i := 108) rfl)) (hw _ (List.mem_of_getElem? (i := 109) rfl)) (hw _ (List.mem_of_getElem? (i := 111) rfl)) (hw _ (List.mem_of_getElem? (i := 110) rfl)) (hw _ (List.mem_of_getElem? (i := 2) rfl)) (hw _ (List.mem_of_getElem? (i := 112) rfl)) (by decide) (a := a34) (argsL := [(.ref a60), (.null), (.null), (.int ((-1) : Int32))]) (rest := []) (own_mwr l Z a0 hw [] a34 a60 z401 z402 o403 o405 o407 k1 a82 t2131 (own_len k1 0) _ _ Z467 F446 F409 F410 F404 F406 F408 F447 F452 F449 F450 F448 F453 F455 ge_a34 (Ne.symm ne_a34_a60) (Ne.symm ne_a34_a82) (Ne.symm ne_a34_t2131) (by omega) (by unfold own_len; split <;> omega)) F446 (pd_16) rfl at_227 rfl rfl rfl (W := 0) rfl (by decide) (by decide) (cells' := 18) (slots' := 83) rfl rfl (by decide) (by decide) (fun v T529 h531 X530 q532 => ?_)
      obtain ⟨w_beforeAdditions520, w_lastWrite521, w_racedWithLastWrite522, rfl, K528, F523, F524, F525, F526, F527⟩ := q532
      show own_Fin p e below (own_End s n0 (fun v _ => v = some (.int 1)) room_1.cells room_1.slots) (T529.setTop (mkF m 230 #[.val (.int p1), .val (.int p2), .val (.int p3), .val (.int p4), .val (.int k1.toInt32), .val (.int k2.toInt32), .val (.int z3), .val (.int z6), .val (.int z9), .val (.int z12), .val (.int z15), .val (.int z18), .val (.int z21), .val (.int ((XT.ushr p1 (7 : Int32)) &&& (3 : Int32))), .val (.int z24), .val (.ref a34), .val (.ref a60), .val (.ref a164), .unset, .unset, .unset, .unset, .unset, .unset] []))
      have F533 := (F446.keep K528)
      have F534 := (F447.keep K528)
      have F535 := (F448.keep K528)
      have F536 := (F449.keep K528 (ninS (Ne.symm ne_a34_a60) nin0))
      have F537 := (F450.keep K528 (ninS (Ne.symm ne_a34_a60) nin0))
      have F538 := (F451.keep K528 (ninS (Ne.symm ne_a34_a60) nin0))
      have F539 := (F452.keep K528 (ninS (Ne.symm ne_a34_a60) nin0))
      have F540 := (F453.keep K528 (ninS (Ne.symm ne_a34_a82) nin0))
      have F541 := (F454.keep K528 (ninS (Ne.symm ne_a34_a82) nin0))
      have F542 := (F455.keep K528 (ninS (Ne.symm ne_a34_t2131) nin0))
      have F543 := (F456.keep K528 (ninS (Ne.symm ne_a34_u2132) nin0))
      have F544 := (F457.keep K528)
      have F545 := (F458.keep K528)
      have F546 := (F459.keep K528 (ninS (Ne.symm ne_a34_a164) nin0))
      have F547 := (F460.keep K528 (ninS (Ne.symm ne_a34_a164) nin0))
      have F548 := (F461.keep K528 (ninS (Ne.symm ne_a34_a164) nin0))
      have F549 := (F462.keep K528 (ninS (Ne.symm ne_a34_a164) nin0))
      have F550 := (F463.keep K528 (ninS (Ne.symm ne_a34_a196) nin0))
      have F551 := (F464.keep K528 (ninS (Ne.symm ne_a34_a196) nin0))
      have F552 := (F465.keep K528 (ninS (Ne.symm ne_a34_t2265) nin0))
      have F553 := (F466.keep K528 (ninS (Ne.symm ne_a34_u2266) nin0))
      have Z554 : n0 ≤ h531.size := (Nat.le_trans Z467 K528.1)
      have K555 := (K519.trans K528 (allS (P := fun x => x ∈ _ ∨ _ ≤ x) (Or.inl (List.mem_of_getElem? (i := 0) rfl)) all0))
      exact H230_468 _ _ _ _ _ _ _ (own_more X530 (by decide) (by decide)) (by rw [if_neg hc518]) (by rw [if_neg hc518]) K555 F523 F524 F525 F526 F527
  intro T504 h506 z508 z509 o510 o512 o514 X505 hz508 hz509 K507 F516 F517 F511 F513 F515
  have F556 := (F446.keep K507)
  have F557 := (F447.keep K507)
  have F558 := (F448.keep K507)
  have F559 := (F449.keep K507 (ninS (Ne.symm ne_a34_a60) nin0))
  have F560 := (F450.keep K507 (ninS (Ne.symm ne_a34_a60) nin0))
  have F561 := (F451.keep K507 (ninS (Ne.symm ne_a34_a60) nin0))
  have F562 := (F452.keep K507 (ninS (Ne.symm ne_a34_a60) nin0))
  have F563 := (F453.keep K507 (ninS (Ne.symm ne_a34_a82) nin0))
  have F564 := (F454.keep K507 (ninS (Ne.symm ne_a34_a82) nin0))
  have F565 := (F455.keep K507 (ninS (Ne.symm ne_a34_t2131) nin0))
  have F566 := (F456.keep K507 (ninS (Ne.symm ne_a34_u2132) nin0))
  have F567 := (F457.keep K507)
  have F568 := (F458.keep K507)
  have F569 := (F459.keep K507 (ninS (Ne.symm ne_a34_a164) nin0))
  have F570 := (F460.keep K507 (ninS (Ne.symm ne_a34_a164) nin0))
  have F571 := (F461.keep K507 (ninS (Ne.symm ne_a34_a164) nin0))
  have F572 := (F462.keep K507 (ninS (Ne.symm ne_a34_a164) nin0))
  have F573 := (F463.keep K507 (ninS (Ne.symm ne_a34_a196) nin0))
  have F574 := (F464.keep K507 (ninS (Ne.symm ne_a34_a196) nin0))
  have F575 := (F465.keep K507 (ninS (Ne.symm ne_a34_t2265) nin0))
  have F576 := (F466.keep K507 (ninS (Ne.symm ne_a34_u2266) nin0))
  have Z577 : n0 ≤ h506.size := (Nat.le_trans Z467 K507.1)
  refine own_iload X505 at_230 rfl rfl ?_
  suffices H242_578 : ∀ (T611 : State) (h613 : Heap) (z615 : Int32) (z616 : Int32) (o617 : Value) (o619 : Value) (o621 : Value), own_Cx Z p l e room_1 s m #[(.int p1), (.int p2), (.int p3), (.int p4)] below meth c n0 "com/example/racewright/racewright/happensbefore/LocationReadAcrossPinLaw" code maxLocals "law" ret T611 h613 18 83 → z615 = (if z12 = (0 : Int32) then z508 else (own_rs z15 z508)) → z616 = (if z12 = (0 : Int32) then z509 else (own_ur z15 z509 k2.toInt32)) → Keep h506 h613 [a34] → Fld Z h613 a34 "com/example/racewright/racewright/happensbefore/Location" "readScheduled" "Z" (.int z615) → Fld Z h613 a34 "com/example/racewright/racewright/happensbefore/Location" "unscheduledReader" "I" (.int z616) → Fld Z h613 a34 "com/example/racewright/racewright/happensbefore/Location" "beforeAdditions" "Lcom/example/racewright/racewright/happensbefore/Location$Write;" o617 → Fld Z h613 a34 "com/example/racewright/racewright/happensbefore/Location" "lastWrite" "Lcom/example/racewright/racewright/happensbefore/Location$Write;" o619 → Fld Z h613 a34 "com/example/racewright/racewright/happensbefore/Location" "racedWithLastWrite" "Ljava/util/BitSet;" o621 → own_Fin p e below (own_End s n0 (fun v _ => v = some (.int 1)) room_1.cells room_1.slots) (T611.setTop (mkF m 242 #[.val (.int p1), .val (.int p2), .val (.int p3), .val (.int p4), .val (.int k1.toInt32), .val (.int k2.toInt32), .val (.int z3), .val (.int z6), .val (.int z9), .val (.int z12), .val (.int z15), .val (.int z18), .val (.int z21), .val (.int ((XT.ushr p1 (7 : Int32)) &&& (3 : Int32))), .val (.int z24), .val (.ref a34), .val (.ref a60), .val (.ref a164), .unset, .unset, .unset, .unset, .unset, .unset] [])) by
    refine own_if_eq X505 at_232 (by decide) (pcT := 242) (by decide) rfl (fun hc625 => ?_) (fun hc625 => ?_)
    · skip
      exact H242_578 _ _ _ _ _ _ _ (own_more X505 (by decide) (by decide)) (by rw [if_pos hc625]) (by rw [if_pos hc625]) (Keep.refl _ _) F516 F517 F511 F513 F515
    · skip
      have K626 := (Keep.refl h506 [a34])
      refine own_aload X505 at_235 rfl rfl rfl ?_
      refine own_aload X505 at_237 rfl rfl rfl ?_
      refine own_callV X505 (hw _ (List.mem_of_getElem? (i := 158) rfl)) (hw _ (List.mem_of_getElem? (i := 159) rfl)) (hw _ (List.mem_of_getElem? (i := 161) rfl)) (hw _ (List.mem_of_getElem? (i := 160) rfl)) (hw _ (List.mem_of_getElem? (i := 2) rfl)) (hw _ (List.mem_of_getElem? (i := 162) rfl)) (by decide) (a := a34) (argsL := [(.ref a164)]) (rest := []) (own_mrd l Z a0 hw [] a34 a164 z15 k2.toInt32 z508 z509 o510 o512 o514 _ _ Z577 F556 F516 F517 F511 F513 F515 F571 F569 ge_a34 (Ne.symm ne_a34_a164)) F556 (pd_21) rfl at_239 rfl rfl rfl (W := 0) rfl (by decide) (by decide) (cells' := 18) (slots' := 83) rfl rfl (by decide) (by decide) (fun v T633 h635 X634 q636 => ?_)
      obtain ⟨rfl, K632, F627, F628, F629, F630, F631⟩ := q636
      show own_Fin p e below (own_End s n0 (fun v _ => v = some (.int 1)) room_1.cells room_1.slots) (T633.setTop (mkF m 242 #[.val (.int p1), .val (.int p2), .val (.int p3), .val (.int p4), .val (.int k1.toInt32), .val (.int k2.toInt32), .val (.int z3), .val (.int z6), .val (.int z9), .val (.int z12), .val (.int z15), .val (.int z18), .val (.int z21), .val (.int ((XT.ushr p1 (7 : Int32)) &&& (3 : Int32))), .val (.int z24), .val (.ref a34), .val (.ref a60), .val (.ref a164), .unset, .unset, .unset, .unset, .unset, .unset] []))
      have F637 := (F556.keep K632)
      have F638 := (F557.keep K632)
      have F639 := (F558.keep K632)
      have F640 := (F559.keep K632 (ninS (Ne.symm ne_a34_a60) nin0))
      have F641 := (F560.keep K632 (ninS (Ne.symm ne_a34_a60) nin0))
      have F642 := (F561.keep K632 (ninS (Ne.symm ne_a34_a60) nin0))
      have F643 := (F562.keep K632 (ninS (Ne.symm ne_a34_a60) nin0))
      have F644 := (F563.keep K632 (ninS (Ne.symm ne_a34_a82) nin0))
      have F645 := (F564.keep K632 (ninS (Ne.symm ne_a34_a82) nin0))
      have F646 := (F565.keep K632 (ninS (Ne.symm ne_a34_t2131) nin0))
      have F647 := (F566.keep K632 (ninS (Ne.symm ne_a34_u2132) nin0))
      have F648 := (F567.keep K632)
      have F649 := (F568.keep K632)
      have F650 := (F569.keep K632 (ninS (Ne.symm ne_a34_a164) nin0))
      have F651 := (F570.keep K632 (ninS (Ne.symm ne_a34_a164) nin0))
      have F652 := (F571.keep K632 (ninS (Ne.symm ne_a34_a164) nin0))
      have F653 := (F572.keep K632 (ninS (Ne.symm ne_a34_a164) nin0))
      have F654 := (F573.keep K632 (ninS (Ne.symm ne_a34_a196) nin0))
      have F655 := (F574.keep K632 (ninS (Ne.symm ne_a34_a196) nin0))
      have F656 := (F575.keep K632 (ninS (Ne.symm ne_a34_t2265) nin0))
      have F657 := (F576.keep K632 (ninS (Ne.symm ne_a34_u2266) nin0))
      have Z658 : n0 ≤ h635.size := (Nat.le_trans Z577 K632.1)
      have K659 := (K626.trans K632 (allS (P := fun x => x ∈ _ ∨ _ ≤ x) (Or.inl (List.mem_of_getElem? (i := 0) rfl)) all0))
      exact H242_578 _ _ _ _ _ _ _ (own_more X634 (by decide) (by decide)) (by rw [if_neg hc625]) (by rw [if_neg hc625]) K659 F627 F628 F629 F630 F631
  intro T611 h613 z615 z616 o617 o619 o621 X612 hz615 hz616 K614 F623 F624 F618 F620 F622
  have F660 := (F556.keep K614)
  have F661 := (F557.keep K614)
  have F662 := (F558.keep K614)
  have F663 := (F559.keep K614 (ninS (Ne.symm ne_a34_a60) nin0))
  have F664 := (F560.keep K614 (ninS (Ne.symm ne_a34_a60) nin0))
  have F665 := (F561.keep K614 (ninS (Ne.symm ne_a34_a60) nin0))
  have F666 := (F562.keep K614 (ninS (Ne.symm ne_a34_a60) nin0))
  have F667 := (F563.keep K614 (ninS (Ne.symm ne_a34_a82) nin0))
  have F668 := (F564.keep K614 (ninS (Ne.symm ne_a34_a82) nin0))
  have F669 := (F565.keep K614 (ninS (Ne.symm ne_a34_t2131) nin0))
  have F670 := (F566.keep K614 (ninS (Ne.symm ne_a34_u2132) nin0))
  have F671 := (F567.keep K614)
  have F672 := (F568.keep K614)
  have F673 := (F569.keep K614 (ninS (Ne.symm ne_a34_a164) nin0))
  have F674 := (F570.keep K614 (ninS (Ne.symm ne_a34_a164) nin0))
  have F675 := (F571.keep K614 (ninS (Ne.symm ne_a34_a164) nin0))
  have F676 := (F572.keep K614 (ninS (Ne.symm ne_a34_a164) nin0))
  have F677 := (F573.keep K614 (ninS (Ne.symm ne_a34_a196) nin0))
  have F678 := (F574.keep K614 (ninS (Ne.symm ne_a34_a196) nin0))
  have F679 := (F575.keep K614 (ninS (Ne.symm ne_a34_t2265) nin0))
  have F680 := (F576.keep K614 (ninS (Ne.symm ne_a34_u2266) nin0))
  have Z681 : n0 ≤ h613.size := (Nat.le_trans Z577 K614.1)
  refine own_iload X612 at_242 rfl rfl ?_
  suffices H254_682 : ∀ (T715 : State) (h717 : Heap) (z719 : Int32) (z720 : Int32) (o721 : Value) (o723 : Value) (o725 : Value), own_Cx Z p l e room_1 s m #[(.int p1), (.int p2), (.int p3), (.int p4)] below meth c n0 "com/example/racewright/racewright/happensbefore/LocationReadAcrossPinLaw" code maxLocals "law" ret T715 h717 18 83 → z719 = (if z18 = (0 : Int32) then z615 else (own_rs z6 z615)) → z720 = (if z18 = (0 : Int32) then z616 else (own_ur z6 z616 k1.toInt32)) → Keep h613 h717 [a34] → Fld Z h717 a34 "com/example/racewright/racewright/happensbefore/Location" "readScheduled" "Z" (.int z719) → Fld Z h717 a34 "com/example/racewright/racewright/happensbefore/Location" "unscheduledReader" "I" (.int z720) → Fld Z h717 a34 "com/example/racewright/racewright/happensbefore/Location" "beforeAdditions" "Lcom/example/racewright/racewright/happensbefore/Location$Write;" o721 → Fld Z h717 a34 "com/example/racewright/racewright/happensbefore/Location" "lastWrite" "Lcom/example/racewright/racewright/happensbefore/Location$Write;" o723 → Fld Z h717 a34 "com/example/racewright/racewright/happensbefore/Location" "racedWithLastWrite" "Ljava/util/BitSet;" o725 → own_Fin p e below (own_End s n0 (fun v _ => v = some (.int 1)) room_1.cells room_1.slots) (T715.setTop (mkF m 254 #[.val (.int p1), .val (.int p2), .val (.int p3), .val (.int p4), .val (.int k1.toInt32), .val (.int k2.toInt32), .val (.int z3), .val (.int z6), .val (.int z9), .val (.int z12), .val (.int z15), .val (.int z18), .val (.int z21), .val (.int ((XT.ushr p1 (7 : Int32)) &&& (3 : Int32))), .val (.int z24), .val (.ref a34), .val (.ref a60), .val (.ref a164), .unset, .unset, .unset, .unset, .unset, .unset] [])) by
    refine own_if_eq X612 at_244 (by decide) (pcT := 254) (by decide) rfl (fun hc729 => ?_) (fun hc729 => ?_)
    · skip
      exact H254_682 _ _ _ _ _ _ _ (own_more X612 (by decide) (by decide)) (by rw [if_pos hc729]) (by rw [if_pos hc729]) (Keep.refl _ _) F623 F624 F618 F620 F622
    · skip
      have K730 := (Keep.refl h613 [a34])
      refine own_aload X612 at_247 rfl rfl rfl ?_
      refine own_aload X612 at_249 rfl rfl rfl ?_
      refine own_callV X612 (hw _ (List.mem_of_getElem? (i := 158) rfl)) (hw _ (List.mem_of_getElem? (i := 159) rfl)) (hw _ (List.mem_of_getElem? (i := 161) rfl)) (hw _ (List.mem_of_getElem? (i := 160) rfl)) (hw _ (List.mem_of_getElem? (i := 2) rfl)) (hw _ (List.mem_of_getElem? (i := 162) rfl)) (by decide) (a := a34) (argsL := [(.ref a60)]) (rest := []) (own_mrd l Z a0 hw [] a34 a60 z6 k1.toInt32 z615 z616 o617 o619 o621 _ _ Z681 F660 F623 F624 F618 F620 F622 F665 F663 ge_a34 (Ne.symm ne_a34_a60)) F660 (pd_21) rfl at_251 rfl rfl rfl (W := 0) rfl (by decide) (by decide) (cells' := 18) (slots' := 83) rfl rfl (by decide) (by decide) (fun v T737 h739 X738 q740 => ?_)
      obtain ⟨rfl, K736, F731, F732, F733, F734, F735⟩ := q740
      show own_Fin p e below (own_End s n0 (fun v _ => v = some (.int 1)) room_1.cells room_1.slots) (T737.setTop (mkF m 254 #[.val (.int p1), .val (.int p2), .val (.int p3), .val (.int p4), .val (.int k1.toInt32), .val (.int k2.toInt32), .val (.int z3), .val (.int z6), .val (.int z9), .val (.int z12), .val (.int z15), .val (.int z18), .val (.int z21), .val (.int ((XT.ushr p1 (7 : Int32)) &&& (3 : Int32))), .val (.int z24), .val (.ref a34), .val (.ref a60), .val (.ref a164), .unset, .unset, .unset, .unset, .unset, .unset] []))
      have F741 := (F660.keep K736)
      have F742 := (F661.keep K736)
      have F743 := (F662.keep K736)
      have F744 := (F663.keep K736 (ninS (Ne.symm ne_a34_a60) nin0))
      have F745 := (F664.keep K736 (ninS (Ne.symm ne_a34_a60) nin0))
      have F746 := (F665.keep K736 (ninS (Ne.symm ne_a34_a60) nin0))
      have F747 := (F666.keep K736 (ninS (Ne.symm ne_a34_a60) nin0))
      have F748 := (F667.keep K736 (ninS (Ne.symm ne_a34_a82) nin0))
      have F749 := (F668.keep K736 (ninS (Ne.symm ne_a34_a82) nin0))
      have F750 := (F669.keep K736 (ninS (Ne.symm ne_a34_t2131) nin0))
      have F751 := (F670.keep K736 (ninS (Ne.symm ne_a34_u2132) nin0))
      have F752 := (F671.keep K736)
      have F753 := (F672.keep K736)
      have F754 := (F673.keep K736 (ninS (Ne.symm ne_a34_a164) nin0))
      have F755 := (F674.keep K736 (ninS (Ne.symm ne_a34_a164) nin0))
      have F756 := (F675.keep K736 (ninS (Ne.symm ne_a34_a164) nin0))
      have F757 := (F676.keep K736 (ninS (Ne.symm ne_a34_a164) nin0))
      have F758 := (F677.keep K736 (ninS (Ne.symm ne_a34_a196) nin0))
      have F759 := (F678.keep K736 (ninS (Ne.symm ne_a34_a196) nin0))
      have F760 := (F679.keep K736 (ninS (Ne.symm ne_a34_t2265) nin0))
      have F761 := (F680.keep K736 (ninS (Ne.symm ne_a34_u2266) nin0))
      have Z762 : n0 ≤ h739.size := (Nat.le_trans Z681 K736.1)
      have K763 := (K730.trans K736 (allS (P := fun x => x ∈ _ ∨ _ ≤ x) (Or.inl (List.mem_of_getElem? (i := 0) rfl)) all0))
      exact H254_682 _ _ _ _ _ _ _ (own_more X738 (by decide) (by decide)) (by rw [if_neg hc729]) (by rw [if_neg hc729]) K763 F731 F732 F733 F734 F735
  intro T715 h717 z719 z720 o721 o723 o725 X716 hz719 hz720 K718 F727 F728 F722 F724 F726
  have F764 := (F660.keep K718)
  have F765 := (F661.keep K718)
  have F766 := (F662.keep K718)
  have F767 := (F663.keep K718 (ninS (Ne.symm ne_a34_a60) nin0))
  have F768 := (F664.keep K718 (ninS (Ne.symm ne_a34_a60) nin0))
  have F769 := (F665.keep K718 (ninS (Ne.symm ne_a34_a60) nin0))
  have F770 := (F666.keep K718 (ninS (Ne.symm ne_a34_a60) nin0))
  have F771 := (F667.keep K718 (ninS (Ne.symm ne_a34_a82) nin0))
  have F772 := (F668.keep K718 (ninS (Ne.symm ne_a34_a82) nin0))
  have F773 := (F669.keep K718 (ninS (Ne.symm ne_a34_t2131) nin0))
  have F774 := (F670.keep K718 (ninS (Ne.symm ne_a34_u2132) nin0))
  have F775 := (F671.keep K718)
  have F776 := (F672.keep K718)
  have F777 := (F673.keep K718 (ninS (Ne.symm ne_a34_a164) nin0))
  have F778 := (F674.keep K718 (ninS (Ne.symm ne_a34_a164) nin0))
  have F779 := (F675.keep K718 (ninS (Ne.symm ne_a34_a164) nin0))
  have F780 := (F676.keep K718 (ninS (Ne.symm ne_a34_a164) nin0))
  have F781 := (F677.keep K718 (ninS (Ne.symm ne_a34_a196) nin0))
  have F782 := (F678.keep K718 (ninS (Ne.symm ne_a34_a196) nin0))
  have F783 := (F679.keep K718 (ninS (Ne.symm ne_a34_t2265) nin0))
  have F784 := (F680.keep K718 (ninS (Ne.symm ne_a34_u2266) nin0))
  have Z785 : n0 ≤ h717.size := (Nat.le_trans Z681 K718.1)
  refine own_aload X716 at_254 rfl rfl rfl ?_
  refine own_iload X716 at_256 rfl rfl ?_
  refine own_iload X716 at_258 rfl rfl ?_
  refine own_callV X716 (hw _ (List.mem_of_getElem? (i := 103) rfl)) (hw _ (List.mem_of_getElem? (i := 104) rfl)) (hw _ (List.mem_of_getElem? (i := 106) rfl)) (hw _ (List.mem_of_getElem? (i := 105) rfl)) (hw _ (List.mem_of_getElem? (i := 2) rfl)) (hw _ (List.mem_of_getElem? (i := 107) rfl)) (by decide) (a := a34) (argsL := [(.int z24), (.int z21)]) (rest := []) (own_mra l Z a0 hw [] a34 z24 z21 z719 z720 _ _ Z785 F727 F728) F764 (pd_15) rfl at_260 rfl rfl rfl (W := 0) rfl (by decide) (by decide) (cells' := 18) (slots' := 83) rfl rfl (by decide) (by decide) (fun v T787 h789 X788 q790 => ?_)
  obtain ⟨rfl, rfl⟩ := q790
  show own_Fin p e below (own_End s n0 (fun v _ => v = some (.int 1)) room_1.cells room_1.slots) (T787.setTop (mkF m 263 #[.val (.int p1), .val (.int p2), .val (.int p3), .val (.int p4), .val (.int k1.toInt32), .val (.int k2.toInt32), .val (.int z3), .val (.int z6), .val (.int z9), .val (.int z12), .val (.int z15), .val (.int z18), .val (.int z21), .val (.int ((XT.ushr p1 (7 : Int32)) &&& (3 : Int32))), .val (.int z24), .val (.ref a34), .val (.ref a60), .val (.ref a164), .unset, .unset, .unset, .unset, .unset, .unset] [(.int (own_ra z720 z719 z24 z21))]))
  refine own_istore X788 (L' := #[.val (.int p1), .val (.int p2), .val (.int p3), .val (.int p4), .val (.int k1.toInt32), .val (.int k2.toInt32), .val (.int z3), .val (.int z6), .val (.int z9), .val (.int z12), .val (.int z15), .val (.int z18), .val (.int z21), .val (.int ((XT.ushr p1 (7 : Int32)) &&& (3 : Int32))), .val (.int z24), .val (.ref a34), .val (.ref a60), .val (.ref a164), .val (.int (own_ra z720 z719 z24 z21)), .unset, .unset, .unset, .unset, .unset]) at_263 rfl rfl ?_
  refine own_iload X788 at_265 rfl rfl ?_
  suffices J280_792 : ∀ (z791 : Int32), z791 = (if z3 = (0 : Int32) then (0 : Int32) else (if z9 = (0 : Int32) then (1 : Int32) else (0 : Int32))) → own_Fin p e below (own_End s n0 (fun v _ => v = some (.int 1)) room_1.cells room_1.slots) (T787.setTop (mkF m 280 #[.val (.int p1), .val (.int p2), .val (.int p3), .val (.int p4), .val (.int k1.toInt32), .val (.int k2.toInt32), .val (.int z3), .val (.int z6), .val (.int z9), .val (.int z12), .val (.int z15), .val (.int z18), .val (.int z21), .val (.int ((XT.ushr p1 (7 : Int32)) &&& (3 : Int32))), .val (.int z24), .val (.ref a34), .val (.ref a60), .val (.ref a164), .val (.int (own_ra z720 z719 z24 z21)), .unset, .unset, .unset, .unset, .unset] [(.int z791)])) by
    refine own_if_eq X788 at_267 (by decide) (pcT := 279) (by decide) rfl (fun hc793 => ?_) (fun hc793 => ?_)
    · skip
      refine own_iconst X788 (0 : Int32) at_279 rfl (by decide) ?_
      exact J280_792 _ (by rw [if_pos hc793])
    · skip
      refine own_iload X788 at_270 rfl rfl ?_
      refine own_if_ne X788 at_272 (by decide) (pcT := 279) (by decide) rfl (fun hc794 => ?_) (fun hc794 => ?_)
      · skip
        refine own_iconst X788 (0 : Int32) at_279 rfl (by decide) ?_
        exact J280_792 _ (by rw [if_neg hc793, if_neg hc794])
      · skip
        refine own_iconst X788 (1 : Int32) at_275 rfl (by decide) ?_
        refine own_goto X788 at_276 (by decide) (pc' := 280) (by decide) ?_
        exact J280_792 _ (by rw [if_neg hc793, if_pos hc794])
  intro z791 hz791
  refine own_istore X788 (L' := #[.val (.int p1), .val (.int p2), .val (.int p3), .val (.int p4), .val (.int k1.toInt32), .val (.int k2.toInt32), .val (.int z3), .val (.int z6), .val (.int z9), .val (.int z12), .val (.int z15), .val (.int z18), .val (.int z21), .val (.int ((XT.ushr p1 (7 : Int32)) &&& (3 : Int32))), .val (.int z24), .val (.ref a34), .val (.ref a60), .val (.ref a164), .val (.int (own_ra z720 z719 z24 z21)), .val (.int z791), .unset, .unset, .unset, .unset]) at_280 rfl rfl ?_
  refine own_iload X788 at_282 rfl rfl ?_
  suffices J317_796 : ∀ (z795 : Int32), z795 = (if z791 = (0 : Int32) then (if z12 = (0 : Int32) then (if z18 = (0 : Int32) then (0 : Int32) else (if z6 = (0 : Int32) then (1 : Int32) else (0 : Int32))) else (if z15 = (0 : Int32) then (1 : Int32) else (if z18 = (0 : Int32) then (0 : Int32) else (if z6 = (0 : Int32) then (1 : Int32) else (0 : Int32))))) else (if z6 = (0 : Int32) then (1 : Int32) else (if z12 = (0 : Int32) then (if z18 = (0 : Int32) then (0 : Int32) else (if z6 = (0 : Int32) then (1 : Int32) else (0 : Int32))) else (if z15 = (0 : Int32) then (1 : Int32) else (if z18 = (0 : Int32) then (0 : Int32) else (if z6 = (0 : Int32) then (1 : Int32) else (0 : Int32))))))) → own_Fin p e below (own_End s n0 (fun v _ => v = some (.int 1)) room_1.cells room_1.slots) (T787.setTop (mkF m 317 #[.val (.int p1), .val (.int p2), .val (.int p3), .val (.int p4), .val (.int k1.toInt32), .val (.int k2.toInt32), .val (.int z3), .val (.int z6), .val (.int z9), .val (.int z12), .val (.int z15), .val (.int z18), .val (.int z21), .val (.int ((XT.ushr p1 (7 : Int32)) &&& (3 : Int32))), .val (.int z24), .val (.ref a34), .val (.ref a60), .val (.ref a164), .val (.int (own_ra z720 z719 z24 z21)), .val (.int z791), .unset, .unset, .unset, .unset] [(.int z795)])) by
    refine own_if_eq X788 at_284 (by decide) (pcT := 292) (by decide) rfl (fun hc797 => ?_) (fun hc797 => ?_)
    · skip
      refine own_iload X788 at_292 rfl rfl ?_
      refine own_if_eq X788 at_294 (by decide) (pcT := 302) (by decide) rfl (fun hc798 => ?_) (fun hc798 => ?_)
      · skip
        refine own_iload X788 at_302 rfl rfl ?_
        refine own_if_eq X788 at_304 (by decide) (pcT := 316) (by decide) rfl (fun hc799 => ?_) (fun hc799 => ?_)
        · skip
          refine own_iconst X788 (0 : Int32) at_316 rfl (by decide) ?_
          exact J317_796 _ (by rw [if_pos hc797, if_pos hc798, if_pos hc799])
        · skip
          refine own_iload X788 at_307 rfl rfl ?_
          refine own_if_ne X788 at_309 (by decide) (pcT := 316) (by decide) rfl (fun hc800 => ?_) (fun hc800 => ?_)
          · skip
            refine own_iconst X788 (0 : Int32) at_316 rfl (by decide) ?_
            exact J317_796 _ (by rw [if_pos hc797, if_pos hc798, if_neg hc799, if_neg hc800])
          · skip
            refine own_iconst X788 (1 : Int32) at_312 rfl (by decide) ?_
            refine own_goto X788 at_313 (by decide) (pc' := 317) (by decide) ?_
            exact J317_796 _ (by rw [if_pos hc797, if_pos hc798, if_neg hc799, if_pos hc800])
      · skip
        refine own_iload X788 at_297 rfl rfl ?_
        refine own_if_eq X788 at_299 (by decide) (pcT := 312) (by decide) rfl (fun hc801 => ?_) (fun hc801 => ?_)
        · skip
          refine own_iconst X788 (1 : Int32) at_312 rfl (by decide) ?_
          refine own_goto X788 at_313 (by decide) (pc' := 317) (by decide) ?_
          exact J317_796 _ (by rw [if_pos hc797, if_neg hc798, if_pos hc801])
        · skip
          refine own_iload X788 at_302 rfl rfl ?_
          refine own_if_eq X788 at_304 (by decide) (pcT := 316) (by decide) rfl (fun hc802 => ?_) (fun hc802 => ?_)
          · skip
            refine own_iconst X788 (0 : Int32) at_316 rfl (by decide) ?_
            exact J317_796 _ (by rw [if_pos hc797, if_neg hc798, if_neg hc801, if_pos hc802])
          · skip
            refine own_iload X788 at_307 rfl rfl ?_
            refine own_if_ne X788 at_309 (by decide) (pcT := 316) (by decide) rfl (fun hc803 => ?_) (fun hc803 => ?_)
            · skip
              refine own_iconst X788 (0 : Int32) at_316 rfl (by decide) ?_
              exact J317_796 _ (by rw [if_pos hc797, if_neg hc798, if_neg hc801, if_neg hc802, if_neg hc803])
            · skip
              refine own_iconst X788 (1 : Int32) at_312 rfl (by decide) ?_
              refine own_goto X788 at_313 (by decide) (pc' := 317) (by decide) ?_
              exact J317_796 _ (by rw [if_pos hc797, if_neg hc798, if_neg hc801, if_neg hc802, if_pos hc803])
    · skip
      refine own_iload X788 at_287 rfl rfl ?_
      refine own_if_eq X788 at_289 (by decide) (pcT := 312) (by decide) rfl (fun hc804 => ?_) (fun hc804 => ?_)
      · skip
        refine own_iconst X788 (1 : Int32) at_312 rfl (by decide) ?_
        refine own_goto X788 at_313 (by decide) (pc' := 317) (by decide) ?_
        exact J317_796 _ (by rw [if_neg hc797, if_pos hc804])
      · skip
        refine own_iload X788 at_292 rfl rfl ?_
        refine own_if_eq X788 at_294 (by decide) (pcT := 302) (by decide) rfl (fun hc805 => ?_) (fun hc805 => ?_)
        · skip
          refine own_iload X788 at_302 rfl rfl ?_
          refine own_if_eq X788 at_304 (by decide) (pcT := 316) (by decide) rfl (fun hc806 => ?_) (fun hc806 => ?_)
          · skip
            refine own_iconst X788 (0 : Int32) at_316 rfl (by decide) ?_
            exact J317_796 _ (by rw [if_neg hc797, if_neg hc804, if_pos hc805, if_pos hc806])
          · skip
            refine own_iload X788 at_307 rfl rfl ?_
            refine own_if_ne X788 at_309 (by decide) (pcT := 316) (by decide) rfl (fun hc807 => ?_) (fun hc807 => ?_)
            · skip
              refine own_iconst X788 (0 : Int32) at_316 rfl (by decide) ?_
              exact J317_796 _ (by rw [if_neg hc797, if_neg hc804, if_pos hc805, if_neg hc806, if_neg hc807])
            · skip
              refine own_iconst X788 (1 : Int32) at_312 rfl (by decide) ?_
              refine own_goto X788 at_313 (by decide) (pc' := 317) (by decide) ?_
              exact J317_796 _ (by rw [if_neg hc797, if_neg hc804, if_pos hc805, if_neg hc806, if_pos hc807])
        · skip
          refine own_iload X788 at_297 rfl rfl ?_
          refine own_if_eq X788 at_299 (by decide) (pcT := 312) (by decide) rfl (fun hc808 => ?_) (fun hc808 => ?_)
          · skip
            refine own_iconst X788 (1 : Int32) at_312 rfl (by decide) ?_
            refine own_goto X788 at_313 (by decide) (pc' := 317) (by decide) ?_
            exact J317_796 _ (by rw [if_neg hc797, if_neg hc804, if_neg hc805, if_pos hc808])
          · skip
            refine own_iload X788 at_302 rfl rfl ?_
            refine own_if_eq X788 at_304 (by decide) (pcT := 316) (by decide) rfl (fun hc809 => ?_) (fun hc809 => ?_)
            · skip
              refine own_iconst X788 (0 : Int32) at_316 rfl (by decide) ?_
              exact J317_796 _ (by rw [if_neg hc797, if_neg hc804, if_neg hc805, if_neg hc808, if_pos hc809])
            · skip
              refine own_iload X788 at_307 rfl rfl ?_
              refine own_if_ne X788 at_309 (by decide) (pcT := 316) (by decide) rfl (fun hc810 => ?_) (fun hc810 => ?_)
              · skip
                refine own_iconst X788 (0 : Int32) at_316 rfl (by decide) ?_
                exact J317_796 _ (by rw [if_neg hc797, if_neg hc804, if_neg hc805, if_neg hc808, if_neg hc809, if_neg hc810])
              · skip
                refine own_iconst X788 (1 : Int32) at_312 rfl (by decide) ?_
                refine own_goto X788 at_313 (by decide) (pc' := 317) (by decide) ?_
                exact J317_796 _ (by rw [if_neg hc797, if_neg hc804, if_neg hc805, if_neg hc808, if_neg hc809, if_pos hc810])
  intro z795 hz795
  refine own_istore X788 (L' := #[.val (.int p1), .val (.int p2), .val (.int p3), .val (.int p4), .val (.int k1.toInt32), .val (.int k2.toInt32), .val (.int z3), .val (.int z6), .val (.int z9), .val (.int z12), .val (.int z15), .val (.int z18), .val (.int z21), .val (.int ((XT.ushr p1 (7 : Int32)) &&& (3 : Int32))), .val (.int z24), .val (.ref a34), .val (.ref a60), .val (.ref a164), .val (.int (own_ra z720 z719 z24 z21)), .val (.int z791), .val (.int z795), .unset, .unset, .unset]) at_317 rfl rfl ?_
  refine own_iload X788 at_319 rfl rfl ?_
  suffices J354_812 : ∀ (z811 : Int32), z811 = (if z791 = (0 : Int32) then (if z12 = (0 : Int32) then (if z18 = (0 : Int32) then (0 : Int32) else (if z6 = (0 : Int32) then (0 : Int32) else (1 : Int32))) else (if z15 = (0 : Int32) then (if z18 = (0 : Int32) then (0 : Int32) else (if z6 = (0 : Int32) then (0 : Int32) else (1 : Int32))) else (1 : Int32))) else (if z6 = (0 : Int32) then (if z12 = (0 : Int32) then (if z18 = (0 : Int32) then (0 : Int32) else (if z6 = (0 : Int32) then (0 : Int32) else (1 : Int32))) else (if z15 = (0 : Int32) then (if z18 = (0 : Int32) then (0 : Int32) else (if z6 = (0 : Int32) then (0 : Int32) else (1 : Int32))) else (1 : Int32))) else (1 : Int32))) → own_Fin p e below (own_End s n0 (fun v _ => v = some (.int 1)) room_1.cells room_1.slots) (T787.setTop (mkF m 354 #[.val (.int p1), .val (.int p2), .val (.int p3), .val (.int p4), .val (.int k1.toInt32), .val (.int k2.toInt32), .val (.int z3), .val (.int z6), .val (.int z9), .val (.int z12), .val (.int z15), .val (.int z18), .val (.int z21), .val (.int ((XT.ushr p1 (7 : Int32)) &&& (3 : Int32))), .val (.int z24), .val (.ref a34), .val (.ref a60), .val (.ref a164), .val (.int (own_ra z720 z719 z24 z21)), .val (.int z791), .val (.int z795), .unset, .unset, .unset] [(.int z811)])) by
    refine own_if_eq X788 at_321 (by decide) (pcT := 329) (by decide) rfl (fun hc813 => ?_) (fun hc813 => ?_)
    · skip
      refine own_iload X788 at_329 rfl rfl ?_
      refine own_if_eq X788 at_331 (by decide) (pcT := 339) (by decide) rfl (fun hc814 => ?_) (fun hc814 => ?_)
      · skip
        refine own_iload X788 at_339 rfl rfl ?_
        refine own_if_eq X788 at_341 (by decide) (pcT := 353) (by decide) rfl (fun hc815 => ?_) (fun hc815 => ?_)
        · skip
          refine own_iconst X788 (0 : Int32) at_353 rfl (by decide) ?_
          exact J354_812 _ (by rw [if_pos hc813, if_pos hc814, if_pos hc815])
        · skip
          refine own_iload X788 at_344 rfl rfl ?_
          refine own_if_eq X788 at_346 (by decide) (pcT := 353) (by decide) rfl (fun hc816 => ?_) (fun hc816 => ?_)
          · skip
            refine own_iconst X788 (0 : Int32) at_353 rfl (by decide) ?_
            exact J354_812 _ (by rw [if_pos hc813, if_pos hc814, if_neg hc815, if_pos hc816])
          · skip
            refine own_iconst X788 (1 : Int32) at_349 rfl (by decide) ?_
            refine own_goto X788 at_350 (by decide) (pc' := 354) (by decide) ?_
            exact J354_812 _ (by rw [if_pos hc813, if_pos hc814, if_neg hc815, if_neg hc816])
      · skip
        refine own_iload X788 at_334 rfl rfl ?_
        refine own_if_ne X788 at_336 (by decide) (pcT := 349) (by decide) rfl (fun hc817 => ?_) (fun hc817 => ?_)
        · skip
          refine own_iconst X788 (1 : Int32) at_349 rfl (by decide) ?_
          refine own_goto X788 at_350 (by decide) (pc' := 354) (by decide) ?_
          exact J354_812 _ (by rw [if_pos hc813, if_neg hc814, if_neg hc817])
        · skip
          refine own_iload X788 at_339 rfl rfl ?_
          refine own_if_eq X788 at_341 (by decide) (pcT := 353) (by decide) rfl (fun hc818 => ?_) (fun hc818 => ?_)
          · skip
            refine own_iconst X788 (0 : Int32) at_353 rfl (by decide) ?_
            exact J354_812 _ (by rw [if_pos hc813, if_neg hc814, if_pos hc817, if_pos hc818])
          · skip
            refine own_iload X788 at_344 rfl rfl ?_
            refine own_if_eq X788 at_346 (by decide) (pcT := 353) (by decide) rfl (fun hc819 => ?_) (fun hc819 => ?_)
            · skip
              refine own_iconst X788 (0 : Int32) at_353 rfl (by decide) ?_
              exact J354_812 _ (by rw [if_pos hc813, if_neg hc814, if_pos hc817, if_neg hc818, if_pos hc819])
            · skip
              refine own_iconst X788 (1 : Int32) at_349 rfl (by decide) ?_
              refine own_goto X788 at_350 (by decide) (pc' := 354) (by decide) ?_
              exact J354_812 _ (by rw [if_pos hc813, if_neg hc814, if_pos hc817, if_neg hc818, if_neg hc819])
    · skip
      refine own_iload X788 at_324 rfl rfl ?_
      refine own_if_ne X788 at_326 (by decide) (pcT := 349) (by decide) rfl (fun hc820 => ?_) (fun hc820 => ?_)
      · skip
        refine own_iconst X788 (1 : Int32) at_349 rfl (by decide) ?_
        refine own_goto X788 at_350 (by decide) (pc' := 354) (by decide) ?_
        exact J354_812 _ (by rw [if_neg hc813, if_neg hc820])
      · skip
        refine own_iload X788 at_329 rfl rfl ?_
        refine own_if_eq X788 at_331 (by decide) (pcT := 339) (by decide) rfl (fun hc821 => ?_) (fun hc821 => ?_)
        · skip
          refine own_iload X788 at_339 rfl rfl ?_
          refine own_if_eq X788 at_341 (by decide) (pcT := 353) (by decide) rfl (fun hc822 => ?_) (fun hc822 => ?_)
          · skip
            refine own_iconst X788 (0 : Int32) at_353 rfl (by decide) ?_
            exact J354_812 _ (by rw [if_neg hc813, if_pos hc820, if_pos hc821, if_pos hc822])
          · skip
            refine own_iload X788 at_344 rfl rfl ?_
            refine own_if_eq X788 at_346 (by decide) (pcT := 353) (by decide) rfl (fun hc823 => ?_) (fun hc823 => ?_)
            · skip
              refine own_iconst X788 (0 : Int32) at_353 rfl (by decide) ?_
              exact J354_812 _ (by rw [if_neg hc813, if_pos hc820, if_pos hc821, if_neg hc822, if_pos hc823])
            · skip
              refine own_iconst X788 (1 : Int32) at_349 rfl (by decide) ?_
              refine own_goto X788 at_350 (by decide) (pc' := 354) (by decide) ?_
              exact J354_812 _ (by rw [if_neg hc813, if_pos hc820, if_pos hc821, if_neg hc822, if_neg hc823])
        · skip
          refine own_iload X788 at_334 rfl rfl ?_
          refine own_if_ne X788 at_336 (by decide) (pcT := 349) (by decide) rfl (fun hc824 => ?_) (fun hc824 => ?_)
          · skip
            refine own_iconst X788 (1 : Int32) at_349 rfl (by decide) ?_
            refine own_goto X788 at_350 (by decide) (pc' := 354) (by decide) ?_
            exact J354_812 _ (by rw [if_neg hc813, if_pos hc820, if_neg hc821, if_neg hc824])
          · skip
            refine own_iload X788 at_339 rfl rfl ?_
            refine own_if_eq X788 at_341 (by decide) (pcT := 353) (by decide) rfl (fun hc825 => ?_) (fun hc825 => ?_)
            · skip
              refine own_iconst X788 (0 : Int32) at_353 rfl (by decide) ?_
              exact J354_812 _ (by rw [if_neg hc813, if_pos hc820, if_neg hc821, if_pos hc824, if_pos hc825])
            · skip
              refine own_iload X788 at_344 rfl rfl ?_
              refine own_if_eq X788 at_346 (by decide) (pcT := 353) (by decide) rfl (fun hc826 => ?_) (fun hc826 => ?_)
              · skip
                refine own_iconst X788 (0 : Int32) at_353 rfl (by decide) ?_
                exact J354_812 _ (by rw [if_neg hc813, if_pos hc820, if_neg hc821, if_pos hc824, if_neg hc825, if_pos hc826])
              · skip
                refine own_iconst X788 (1 : Int32) at_349 rfl (by decide) ?_
                refine own_goto X788 at_350 (by decide) (pc' := 354) (by decide) ?_
                exact J354_812 _ (by rw [if_neg hc813, if_pos hc820, if_neg hc821, if_pos hc824, if_neg hc825, if_neg hc826])
  intro z811 hz811
  refine own_istore X788 (L' := #[.val (.int p1), .val (.int p2), .val (.int p3), .val (.int p4), .val (.int k1.toInt32), .val (.int k2.toInt32), .val (.int z3), .val (.int z6), .val (.int z9), .val (.int z12), .val (.int z15), .val (.int z18), .val (.int z21), .val (.int ((XT.ushr p1 (7 : Int32)) &&& (3 : Int32))), .val (.int z24), .val (.ref a34), .val (.ref a60), .val (.ref a164), .val (.int (own_ra z720 z719 z24 z21)), .val (.int z791), .val (.int z795), .val (.int z811), .unset, .unset]) at_354 rfl rfl ?_
  refine own_iload X788 at_356 rfl rfl ?_
  suffices J400_828 : ∀ (z827 : Int32), z827 = (if z791 = (0 : Int32) then (if z18 = (0 : Int32) then (if z12 = (0 : Int32) then (0 : Int32) else (if z15 = (0 : Int32) then (0 : Int32) else (if k2.toInt32 = z24 then (0 : Int32) else (1 : Int32)))) else (if z6 = (0 : Int32) then (if z12 = (0 : Int32) then (0 : Int32) else (if z15 = (0 : Int32) then (0 : Int32) else (if k2.toInt32 = z24 then (0 : Int32) else (1 : Int32)))) else (if k1.toInt32 = z24 then (if z12 = (0 : Int32) then (0 : Int32) else (if z15 = (0 : Int32) then (0 : Int32) else (if k2.toInt32 = z24 then (0 : Int32) else (1 : Int32)))) else (1 : Int32)))) else (if z6 = (0 : Int32) then (if z12 = (0 : Int32) then (0 : Int32) else (if z15 = (0 : Int32) then (0 : Int32) else (if k2.toInt32 = z24 then (0 : Int32) else (1 : Int32)))) else (if k1.toInt32 = z24 then (if z12 = (0 : Int32) then (0 : Int32) else (if z15 = (0 : Int32) then (0 : Int32) else (if k2.toInt32 = z24 then (0 : Int32) else (1 : Int32)))) else (1 : Int32)))) → own_Fin p e below (own_End s n0 (fun v _ => v = some (.int 1)) room_1.cells room_1.slots) (T787.setTop (mkF m 400 #[.val (.int p1), .val (.int p2), .val (.int p3), .val (.int p4), .val (.int k1.toInt32), .val (.int k2.toInt32), .val (.int z3), .val (.int z6), .val (.int z9), .val (.int z12), .val (.int z15), .val (.int z18), .val (.int z21), .val (.int ((XT.ushr p1 (7 : Int32)) &&& (3 : Int32))), .val (.int z24), .val (.ref a34), .val (.ref a60), .val (.ref a164), .val (.int (own_ra z720 z719 z24 z21)), .val (.int z791), .val (.int z795), .val (.int z811), .unset, .unset] [(.int z827)])) by
    refine own_if_ne X788 at_358 (by decide) (pcT := 366) (by decide) rfl (fun hc829 => ?_) (fun hc829 => ?_)
    · skip
      refine own_iload X788 at_366 rfl rfl ?_
      refine own_if_eq X788 at_368 (by decide) (pcT := 378) (by decide) rfl (fun hc830 => ?_) (fun hc830 => ?_)
      · skip
        refine own_iload X788 at_378 rfl rfl ?_
        refine own_if_eq X788 at_380 (by decide) (pcT := 399) (by decide) rfl (fun hc831 => ?_) (fun hc831 => ?_)
        · skip
          refine own_iconst X788 (0 : Int32) at_399 rfl (by decide) ?_
          exact J400_828 _ (by rw [if_neg hc829, if_pos hc830, if_pos hc831])
        · skip
          refine own_iload X788 at_383 rfl rfl ?_
          refine own_if_eq X788 at_385 (by decide) (pcT := 399) (by decide) rfl (fun hc832 => ?_) (fun hc832 => ?_)
          · skip
            refine own_iconst X788 (0 : Int32) at_399 rfl (by decide) ?_
            exact J400_828 _ (by rw [if_neg hc829, if_pos hc830, if_neg hc831, if_pos hc832])
          · skip
            refine own_iload X788 at_388 rfl rfl ?_
            refine own_iload X788 at_390 rfl rfl ?_
            refine own_icmp_eq X788 at_392 (by decide) (pcT := 399) (by decide) rfl (fun hc833 => ?_) (fun hc833 => ?_)
            · skip
              refine own_iconst X788 (0 : Int32) at_399 rfl (by decide) ?_
              exact J400_828 _ (by rw [if_neg hc829, if_pos hc830, if_neg hc831, if_neg hc832, if_pos hc833])
            · skip
              refine own_iconst X788 (1 : Int32) at_395 rfl (by decide) ?_
              refine own_goto X788 at_396 (by decide) (pc' := 400) (by decide) ?_
              exact J400_828 _ (by rw [if_neg hc829, if_pos hc830, if_neg hc831, if_neg hc832, if_neg hc833])
      · skip
        refine own_iload X788 at_371 rfl rfl ?_
        refine own_iload X788 at_373 rfl rfl ?_
        refine own_icmp_ne X788 at_375 (by decide) (pcT := 395) (by decide) rfl (fun hc834 => ?_) (fun hc834 => ?_)
        · skip
          refine own_iconst X788 (1 : Int32) at_395 rfl (by decide) ?_
          refine own_goto X788 at_396 (by decide) (pc' := 400) (by decide) ?_
          exact J400_828 _ (by rw [if_neg hc829, if_neg hc830, if_neg hc834])
        · skip
          refine own_iload X788 at_378 rfl rfl ?_
          refine own_if_eq X788 at_380 (by decide) (pcT := 399) (by decide) rfl (fun hc835 => ?_) (fun hc835 => ?_)
          · skip
            refine own_iconst X788 (0 : Int32) at_399 rfl (by decide) ?_
            exact J400_828 _ (by rw [if_neg hc829, if_neg hc830, if_pos hc834, if_pos hc835])
          · skip
            refine own_iload X788 at_383 rfl rfl ?_
            refine own_if_eq X788 at_385 (by decide) (pcT := 399) (by decide) rfl (fun hc836 => ?_) (fun hc836 => ?_)
            · skip
              refine own_iconst X788 (0 : Int32) at_399 rfl (by decide) ?_
              exact J400_828 _ (by rw [if_neg hc829, if_neg hc830, if_pos hc834, if_neg hc835, if_pos hc836])
            · skip
              refine own_iload X788 at_388 rfl rfl ?_
              refine own_iload X788 at_390 rfl rfl ?_
              refine own_icmp_eq X788 at_392 (by decide) (pcT := 399) (by decide) rfl (fun hc837 => ?_) (fun hc837 => ?_)
              · skip
                refine own_iconst X788 (0 : Int32) at_399 rfl (by decide) ?_
                exact J400_828 _ (by rw [if_neg hc829, if_neg hc830, if_pos hc834, if_neg hc835, if_neg hc836, if_pos hc837])
              · skip
                refine own_iconst X788 (1 : Int32) at_395 rfl (by decide) ?_
                refine own_goto X788 at_396 (by decide) (pc' := 400) (by decide) ?_
                exact J400_828 _ (by rw [if_neg hc829, if_neg hc830, if_pos hc834, if_neg hc835, if_neg hc836, if_neg hc837])
    · skip
      refine own_iload X788 at_361 rfl rfl ?_
      refine own_if_eq X788 at_363 (by decide) (pcT := 378) (by decide) rfl (fun hc838 => ?_) (fun hc838 => ?_)
      · skip
        refine own_iload X788 at_378 rfl rfl ?_
        refine own_if_eq X788 at_380 (by decide) (pcT := 399) (by decide) rfl (fun hc839 => ?_) (fun hc839 => ?_)
        · skip
          refine own_iconst X788 (0 : Int32) at_399 rfl (by decide) ?_
          exact J400_828 _ (by rw [if_pos hc829, if_pos hc838, if_pos hc839])
        · skip
          refine own_iload X788 at_383 rfl rfl ?_
          refine own_if_eq X788 at_385 (by decide) (pcT := 399) (by decide) rfl (fun hc840 => ?_) (fun hc840 => ?_)
          · skip
            refine own_iconst X788 (0 : Int32) at_399 rfl (by decide) ?_
            exact J400_828 _ (by rw [if_pos hc829, if_pos hc838, if_neg hc839, if_pos hc840])
          · skip
            refine own_iload X788 at_388 rfl rfl ?_
            refine own_iload X788 at_390 rfl rfl ?_
            refine own_icmp_eq X788 at_392 (by decide) (pcT := 399) (by decide) rfl (fun hc841 => ?_) (fun hc841 => ?_)
            · skip
              refine own_iconst X788 (0 : Int32) at_399 rfl (by decide) ?_
              exact J400_828 _ (by rw [if_pos hc829, if_pos hc838, if_neg hc839, if_neg hc840, if_pos hc841])
            · skip
              refine own_iconst X788 (1 : Int32) at_395 rfl (by decide) ?_
              refine own_goto X788 at_396 (by decide) (pc' := 400) (by decide) ?_
              exact J400_828 _ (by rw [if_pos hc829, if_pos hc838, if_neg hc839, if_neg hc840, if_neg hc841])
      · skip
        refine own_iload X788 at_366 rfl rfl ?_
        refine own_if_eq X788 at_368 (by decide) (pcT := 378) (by decide) rfl (fun hc842 => ?_) (fun hc842 => ?_)
        · skip
          refine own_iload X788 at_378 rfl rfl ?_
          refine own_if_eq X788 at_380 (by decide) (pcT := 399) (by decide) rfl (fun hc843 => ?_) (fun hc843 => ?_)
          · skip
            refine own_iconst X788 (0 : Int32) at_399 rfl (by decide) ?_
            exact J400_828 _ (by rw [if_pos hc829, if_neg hc838, if_pos hc842, if_pos hc843])
          · skip
            refine own_iload X788 at_383 rfl rfl ?_
            refine own_if_eq X788 at_385 (by decide) (pcT := 399) (by decide) rfl (fun hc844 => ?_) (fun hc844 => ?_)
            · skip
              refine own_iconst X788 (0 : Int32) at_399 rfl (by decide) ?_
              exact J400_828 _ (by rw [if_pos hc829, if_neg hc838, if_pos hc842, if_neg hc843, if_pos hc844])
            · skip
              refine own_iload X788 at_388 rfl rfl ?_
              refine own_iload X788 at_390 rfl rfl ?_
              refine own_icmp_eq X788 at_392 (by decide) (pcT := 399) (by decide) rfl (fun hc845 => ?_) (fun hc845 => ?_)
              · skip
                refine own_iconst X788 (0 : Int32) at_399 rfl (by decide) ?_
                exact J400_828 _ (by rw [if_pos hc829, if_neg hc838, if_pos hc842, if_neg hc843, if_neg hc844, if_pos hc845])
              · skip
                refine own_iconst X788 (1 : Int32) at_395 rfl (by decide) ?_
                refine own_goto X788 at_396 (by decide) (pc' := 400) (by decide) ?_
                exact J400_828 _ (by rw [if_pos hc829, if_neg hc838, if_pos hc842, if_neg hc843, if_neg hc844, if_neg hc845])
        · skip
          refine own_iload X788 at_371 rfl rfl ?_
          refine own_iload X788 at_373 rfl rfl ?_
          refine own_icmp_ne X788 at_375 (by decide) (pcT := 395) (by decide) rfl (fun hc846 => ?_) (fun hc846 => ?_)
          · skip
            refine own_iconst X788 (1 : Int32) at_395 rfl (by decide) ?_
            refine own_goto X788 at_396 (by decide) (pc' := 400) (by decide) ?_
            exact J400_828 _ (by rw [if_pos hc829, if_neg hc838, if_neg hc842, if_neg hc846])
          · skip
            refine own_iload X788 at_378 rfl rfl ?_
            refine own_if_eq X788 at_380 (by decide) (pcT := 399) (by decide) rfl (fun hc847 => ?_) (fun hc847 => ?_)
            · skip
              refine own_iconst X788 (0 : Int32) at_399 rfl (by decide) ?_
              exact J400_828 _ (by rw [if_pos hc829, if_neg hc838, if_neg hc842, if_pos hc846, if_pos hc847])
            · skip
              refine own_iload X788 at_383 rfl rfl ?_
              refine own_if_eq X788 at_385 (by decide) (pcT := 399) (by decide) rfl (fun hc848 => ?_) (fun hc848 => ?_)
              · skip
                refine own_iconst X788 (0 : Int32) at_399 rfl (by decide) ?_
                exact J400_828 _ (by rw [if_pos hc829, if_neg hc838, if_neg hc842, if_pos hc846, if_neg hc847, if_pos hc848])
              · skip
                refine own_iload X788 at_388 rfl rfl ?_
                refine own_iload X788 at_390 rfl rfl ?_
                refine own_icmp_eq X788 at_392 (by decide) (pcT := 399) (by decide) rfl (fun hc849 => ?_) (fun hc849 => ?_)
                · skip
                  refine own_iconst X788 (0 : Int32) at_399 rfl (by decide) ?_
                  exact J400_828 _ (by rw [if_pos hc829, if_neg hc838, if_neg hc842, if_pos hc846, if_neg hc847, if_neg hc848, if_pos hc849])
                · skip
                  refine own_iconst X788 (1 : Int32) at_395 rfl (by decide) ?_
                  refine own_goto X788 at_396 (by decide) (pc' := 400) (by decide) ?_
                  exact J400_828 _ (by rw [if_pos hc829, if_neg hc838, if_neg hc842, if_pos hc846, if_neg hc847, if_neg hc848, if_neg hc849])
  intro z827 hz827
  refine own_istore X788 (L' := #[.val (.int p1), .val (.int p2), .val (.int p3), .val (.int p4), .val (.int k1.toInt32), .val (.int k2.toInt32), .val (.int z3), .val (.int z6), .val (.int z9), .val (.int z12), .val (.int z15), .val (.int z18), .val (.int z21), .val (.int ((XT.ushr p1 (7 : Int32)) &&& (3 : Int32))), .val (.int z24), .val (.ref a34), .val (.ref a60), .val (.ref a164), .val (.int (own_ra z720 z719 z24 z21)), .val (.int z791), .val (.int z795), .val (.int z811), .val (.int z827), .unset]) at_400 rfl rfl ?_
  refine own_iload X788 at_402 rfl rfl ?_
  suffices J427_851 : ∀ (z850 : Int32), z850 = (if z21 = (0 : Int32) then z811 else (if z795 = (0 : Int32) then (if z827 = (0 : Int32) then (0 : Int32) else (1 : Int32)) else (1 : Int32))) → own_Fin p e below (own_End s n0 (fun v _ => v = some (.int 1)) room_1.cells room_1.slots) (T787.setTop (mkF m 427 #[.val (.int p1), .val (.int p2), .val (.int p3), .val (.int p4), .val (.int k1.toInt32), .val (.int k2.toInt32), .val (.int z3), .val (.int z6), .val (.int z9), .val (.int z12), .val (.int z15), .val (.int z18), .val (.int z21), .val (.int ((XT.ushr p1 (7 : Int32)) &&& (3 : Int32))), .val (.int z24), .val (.ref a34), .val (.ref a60), .val (.ref a164), .val (.int (own_ra z720 z719 z24 z21)), .val (.int z791), .val (.int z795), .val (.int z811), .val (.int z827), .unset] [(.int z850)])) by
    refine own_if_eq X788 at_404 (by decide) (pcT := 425) (by decide) rfl (fun hc852 => ?_) (fun hc852 => ?_)
    · skip
      refine own_iload X788 at_425 rfl rfl ?_
      exact J427_851 _ (by rw [if_pos hc852])
    · skip
      refine own_iload X788 at_407 rfl rfl ?_
      refine own_if_ne X788 at_409 (by decide) (pcT := 417) (by decide) rfl (fun hc853 => ?_) (fun hc853 => ?_)
      · skip
        refine own_iconst X788 (1 : Int32) at_417 rfl (by decide) ?_
        refine own_goto X788 at_418 (by decide) (pc' := 427) (by decide) ?_
        exact J427_851 _ (by rw [if_neg hc852, if_neg hc853])
      · skip
        refine own_iload X788 at_412 rfl rfl ?_
        refine own_if_eq X788 at_414 (by decide) (pcT := 421) (by decide) rfl (fun hc854 => ?_) (fun hc854 => ?_)
        · skip
          refine own_iconst X788 (0 : Int32) at_421 rfl (by decide) ?_
          refine own_goto X788 at_422 (by decide) (pc' := 427) (by decide) ?_
          exact J427_851 _ (by rw [if_neg hc852, if_pos hc853, if_pos hc854])
        · skip
          refine own_iconst X788 (1 : Int32) at_417 rfl (by decide) ?_
          refine own_goto X788 at_418 (by decide) (pc' := 427) (by decide) ?_
          exact J427_851 _ (by rw [if_neg hc852, if_pos hc853, if_neg hc854])
  intro z850 hz850
  refine own_istore X788 (L' := #[.val (.int p1), .val (.int p2), .val (.int p3), .val (.int p4), .val (.int k1.toInt32), .val (.int k2.toInt32), .val (.int z3), .val (.int z6), .val (.int z9), .val (.int z12), .val (.int z15), .val (.int z18), .val (.int z21), .val (.int ((XT.ushr p1 (7 : Int32)) &&& (3 : Int32))), .val (.int z24), .val (.ref a34), .val (.ref a60), .val (.ref a164), .val (.int (own_ra z720 z719 z24 z21)), .val (.int z791), .val (.int z795), .val (.int z811), .val (.int z827), .val (.int z850)]) at_427 rfl rfl ?_
  refine own_iload X788 at_429 rfl rfl ?_
  refine own_iload X788 at_431 rfl rfl ?_
  have I1 := own_inv_if own_inv0 (own_inv_read own_inv0 (own_nneg (n := k1) (by omega))) hz401 hz402
  have I2 := own_inv_if I1 own_inv0 hz508 hz509
  have I3 := own_inv_if I2 (own_inv_read I2 (own_nneg (n := k2) (by omega))) hz615 hz616
  have I4 := own_inv_if I3 (own_inv_read I3 (own_nneg (n := k1) (by omega))) hz719 hz720
  have hq : ¬ z24 < 0 := by
    rw [hz24]
    split
    · exact (own_nneg (n := k1) (by omega))
    · split
      · exact (own_nneg (n := k2) (by omega))
      · exact own_pos _
  refine own_icmp_ne X788 at_433 (by decide) (pcT := 440) (by decide) rfl (fun hc => absurd (own_fin I4 hq hz791 hz795 hz811 hz827 hz850) hc) (fun hc => ?_)
  refine own_iconst X788 (1 : Int32) at_436 rfl (by decide) ?_
  refine own_goto X788 at_437 (by decide) (pc' := 441) (by decide) ?_
  exact own_retZ X788 rfl at_441 rfl rfl (by decide) (by decide)
set_option maxRecDepth 65536 in
set_option maxHeartbeats 40000000 in
theorem comes_1 {Post : Tables → Env → Array Value → State → Outcome → State → Prop} (hpost : ∀ tb e args s v u, (limb_1_1.after args s (.returned v) u = true ∧ limb_1_2.after args s (.returned v) u = true ∧ True) → FrameEnd s (.returned v) u (Jvm.fieldLocs frame_1_writes args s ++ Jvm.arrayLocs frame_1_arrays args s ++ Jvm.staticLocs frame_1_statics s) 48 256 → Post tb e args s (.returned v) u) :
    ArmFor flags0 classFile x code maxLocals ret World_1 tables_1 room_1 Calls_1 rest_1 Pre_1 Post := by
  intro l hfl _ _ p e ha hc hk s m args below hf hA hF happ hP
  obtain ⟨hcalls, hrest, hpre⟩ := hP
  obtain ⟨-, -, -, hnamed, -, -, -, hat⟩ := (Spec.applies_iff hf).mp happ
  obtain ⟨hg, hn⟩ := and_e (Cond.before_iff.mp (show (Jvm.Cond.and given_1 narrow_1).before args s = true from hpre))
  obtain ⟨h1, g0⟩ := and_e hg
  obtain ⟨g0, g1⟩ := and_e g0
  obtain ⟨g1, g2⟩ := and_e g1
  obtain ⟨g2, g3⟩ := and_e g2
  obtain ⟨w0, w1, w2, w3, rfl⟩ : ∃ w0 w1 w2 w3 : Value, args = #[w0, w1, w2, w3] := by
    have hs : args.size = 4 := by simpa [Cond.value, given_1] using h1
    obtain ⟨L⟩ := args
    match L, hs with
    | [w0, w1, w2, w3], _ => exact ⟨w0, w1, w2, w3, rfl⟩
  have hw := fun d (hd : d ∈ tables_1) => atoms_spec (ws := Jvm.Cond.code x code maxLocals ret :: tables_1) hat d (List.mem_cons_of_mem _ hd)
  obtain ⟨i0, e0⟩ := is_v g0
  obtain rfl : w0 = (.int i0) := Option.some.inj e0
  obtain ⟨i1, e1⟩ := is_v g1
  obtain rfl : w1 = (.int i1) := Option.some.inj e1
  obtain ⟨i2, e2⟩ := is_v g2
  obtain rfl : w2 = (.int i2) := Option.some.inj e2
  obtain ⟨i3, e3⟩ := is_v g3
  obtain rfl : w3 = (.int i3) := Option.some.inj e3
  obtain ⟨n, o, h1, h2, h3, _, L, rfl, ⟨rfl, N⟩, hq⟩ := own_law l s _ hw tables_1 i0 i1 i2 i3 s.heap s.heap.size (Nat.le_refl _) p e ha hc hk s m _ below hf ((Spec.applies_iff_loose hf).mp happ).1 ⟨rfl, State.Warmed39.refl s, rfl⟩ trivial
  refine ⟨n, _, h1, h2, h3, hpost _ _ _ _ _ _ ⟨Cond.after_iff.mpr rfl, Cond.after_iff.mpr (eq_i res_at (Term.int_eval (1)) rfl), trivial⟩ ⟨hq.1, hq.2.1, (hq.2.2.sift fun y hy => Or.inr (N y hy)).mono (by decide) (by decide)⟩⟩
theorem main_1_1 : Claimed_1_1 := comes_1 fun _ _ _ _ _ _ h hF => ⟨h.1, hF⟩
theorem main_1_2 : Claimed_1_2 := comes_1 fun _ _ _ _ _ _ h hF => ⟨h.2.1, hF⟩
end Jvm.Pilot.@@N@@
namespace Jvm.Pilot.@@N@@
open Jvm Jvm.ClassFile Sem Op Lib Jvm.Free Jvm.Stand Jvm.Pilot.@@N@@.Jvm.D
/-! MADE BY PROGRAM (witnessworld.py) out of the Statement's table words and the real class files: 25 classes; the members and pool entries that the words name. The judged class is class 1, her method 1. -/
namespace start1
open Jvm.ClassFile
def u (s : String) : CpInfo := .utf8 (stringToUtf16 s)
/-- a pool by its gaps: so many unusable entries, then the entry; so many at the end -/
def gap : Nat → List CpInfo → List CpInfo
  | 0, r => r
  | n + 1, r => .unusable :: gap n r
def poolList (es : List (Nat × CpInfo)) (last : Nat) : List CpInfo := es.foldr (fun e r => gap e.1 (e.2 :: r)) (gap last [])
def pool (es : List (Nat × CpInfo)) (last : Nat) : Array CpInfo := ⟨poolList es last⟩
def fileOf (pool : Array CpInfo) (this : Nat) (attrs : Array Attribute := #[]) (ms : Array MethodInfo := #[]) (fl : Nat := 33) (sup : Nat := 0) (ifs : Array Nat := #[]) (fds : Array FieldInfo := #[]) : ClassFile where
  minorVersion := 0
  majorVersion := 65
  constantPool := pool
  accessFlags := fl
  thisClass := this
  superClass := sup
  interfaces := ifs
  fields := fds
  methods := ms
  attributes := attrs
def plain (name : String) (sup : Option ClassId) : Class where
  name := name
  kind := .ordinary
  loader := none
  accessFlags := 33
  super := sup
  interfaces := #[]
  cf := none
  fields := #[]
  methods := #[]
  instanceTypes := #[]
  staticTypes := #[]
  resolved := #[]
  callSites := []
  init := .initialized
  statics := none
  mirror := none

def pool0 : Array CpInfo := pool [(5, u "<init>"), (0, u "()V"), (1, .class_ 10), (1, u "java/lang/Object")] 113

def k0c0 : Code := { maxStack := 0, maxLocals := 1, code := object_method_1_code, exceptionTable := #[], attributes := #[] }
def k0m0 : Method := { name := "<init>", desc := "()V", sig := { parameters := [], returnType := none }, accessFlags := 1, code := some k0c0 }
/-- java/lang/Object -/
def k0 : Class := { plain "java/lang/Object" none with
  accessFlags := 33
  interfaces := #[]
  cf := some (fileOf pool0 8 #[] #[{ accessFlags := 1, nameIndex := 5, descriptorIndex := 6, attributes := #[] }] 33 0 #[] #[])
  fields := #[]
  methods := #[k0m0]
  instanceTypes := #[]
  staticTypes := #[]
  resolved := Array.replicate 124 none
  statics := none }

def pool1 : Array CpInfo := pool [(2, .class_ 4), (0, .nameAndType 5 6), (0, u "java/lang/Object"), (0, u "<init>"), (0, u "()V"), (0, .integer 2147483647), (0, .class_ 9), (0, u "com/example/racewright/racewright/happensbefore/Location"), (0, .methodref 8 3), (0, .class_ 12), (0, u "com/example/racewright/racewright/happensbefore/ThreadState"), (0, .class_ 14), (0, u "com/example/racewright/racewright/happensbefore/VectorClock"), (0, .methodref 13 3), (0, .methodref 11 17), (0, .nameAndType 5 18), (0, u "(ILcom/example/racewright/racewright/happensbefore/VectorClock;Z)V"), (0, .fieldref 11 20), (0, .nameAndType 21 22), (0, u "unscheduled"), (0, u "Z"), (0, .methodref 8 24), (0, .nameAndType 25 26), (0, u "read"), (0, u "(Lcom/example/racewright/racewright/happensbefore/ThreadState;)V"), (0, .methodref 8 28), (0, .nameAndType 29 30), (0, u "written"), (0, u "(Lcom/example/racewright/racewright/happensbefore/ThreadState;Ljava/lang/String;Lcom/example/racewright/racewright/report/SourceLine;I)V"), (0, .methodref 8 32), (0, .nameAndType 33 34), (0, u "readAcross"), (0, u "(IZ)Z"), (0, .class_ 36), (0, u "com/example/racewright/racewright/happensbefore/LocationReadAcrossPinLaw"), (2, u "law"), (0, u "(IIII)Z")] 3

def k1m0 : Method := { name := "<init>", desc := "()V", sig := { parameters := [], returnType := none }, accessFlags := 1, code := none }
def k1c1 : Code := { maxStack := 5, maxLocals := 24, code := code, exceptionTable := #[], attributes := #[] }
def k1m1 : Method := { name := "law", desc := "(IIII)Z", sig := { parameters := [.int, .int, .int, .int], returnType := some .boolean }, accessFlags := 9, code := some k1c1 }
/-- com/example/racewright/racewright/happensbefore/LocationReadAcrossPinLaw -/
def k1 : Class := { plain "com/example/racewright/racewright/happensbefore/LocationReadAcrossPinLaw" (some 0) with
  accessFlags := 49
  interfaces := #[]
  cf := some (fileOf pool1 35 #[] #[{ accessFlags := 1, nameIndex := 5, descriptorIndex := 6, attributes := #[] }, { accessFlags := 9, nameIndex := 39, descriptorIndex := 40, attributes := #[] }] 49 2 #[] #[])
  fields := #[]
  methods := #[k1m0, k1m1]
  instanceTypes := #[]
  staticTypes := #[]
  resolved := Array.replicate 44 none
  statics := none }

def pool2 : Array CpInfo := pool [(1, .methodref 2 3), (0, .class_ 4), (0, .nameAndType 5 6), (0, u "java/lang/Object"), (0, u "<init>"), (0, u "()V"), (0, .class_ 8), (0, u "com/example/racewright/racewright/happensbefore/Location"), (0, .fieldref 7 10), (0, .nameAndType 11 12), (0, u "unscheduledReader"), (0, u "I"), (10, .fieldref 7 24), (0, .nameAndType 25 26), (0, u "racedWithLastWrite"), (0, u "Ljava/util/BitSet;"), (3, .fieldref 31 32), (0, .class_ 33), (0, .nameAndType 34 12), (0, u "com/example/racewright/racewright/happensbefore/ThreadState"), (0, u "id"), (4, .fieldref 7 40), (0, .nameAndType 41 42), (0, u "lastWrite"), (0, u "Lcom/example/racewright/racewright/happensbefore/Location$Write;"), (4, .class_ 49), (1, u "com/example/racewright/racewright/happensbefore/Location$Write"), (1, u "()I"), (9, u "Lcom/example/racewright/racewright/happensbefore/VectorClock;"), (12, .fieldref 31 75), (0, .nameAndType 76 77), (0, u "additions"), (0, u "Ljava/lang/Object;"), (0, .fieldref 7 79), (0, .nameAndType 80 42), (0, u "beforeAdditions"), (3, .methodref 31 85), (0, .nameAndType 86 51), (0, u "now"), (0, .methodref 47 88), (0, .nameAndType 5 89), (0, u "(IILjava/lang/String;Lcom/example/racewright/racewright/report/SourceLine;ILjava/lang/Object;)V"), (0, .fieldref 7 91), (0, .nameAndType 92 93), (0, u "readScheduled"), (0, u "Z"), (0, .fieldref 31 95), (0, .nameAndType 96 93), (0, u "unscheduled"), (6, u "releases"), (6, u "releasesBeyondAdditions"), (15, u "NO_READER"), (2, u "READERS"), (6, u "written"), (0, u "(Lcom/example/racewright/racewright/happensbefore/ThreadState;Ljava/lang/String;Lcom/example/racewright/racewright/report/SourceLine;I)V"), (0, u "read"), (0, u "(Lcom/example/racewright/racewright/happensbefore/ThreadState;)V"), (0, u "readAcross"), (0, u "(IZ)Z")] 11

def k2c0 : Code := { maxStack := 2, maxLocals := 1, code := prog_47_method_1_code, exceptionTable := #[], attributes := #[] }
def k2m0 : Method := { name := "<init>", desc := "()V", sig := { parameters := [], returnType := none }, accessFlags := 0, code := some k2c0 }
def k2c1 : Code := { maxStack := 9, maxLocals := 5, code := prog_47_method_4_code, exceptionTable := #[], attributes := #[] }
def k2m1 : Method := { name := "written", desc := "(Lcom/example/racewright/racewright/happensbefore/ThreadState;Ljava/lang/String;Lcom/example/racewright/racewright/report/SourceLine;I)V", sig := { parameters := [(.object "com/example/racewright/racewright/happensbefore/ThreadState"), (.object "java/lang/String"), (.object "com/example/racewright/racewright/report/SourceLine"), .int], returnType := none }, accessFlags := 0, code := some k2c1 }
def k2c2 : Code := { maxStack := 2, maxLocals := 2, code := prog_47_method_5_code, exceptionTable := #[], attributes := #[] }
def k2m2 : Method := { name := "read", desc := "(Lcom/example/racewright/racewright/happensbefore/ThreadState;)V", sig := { parameters := [(.object "com/example/racewright/racewright/happensbefore/ThreadState")], returnType := none }, accessFlags := 0, code := some k2c2 }
def k2c3 : Code := { maxStack := 2, maxLocals := 4, code := prog_47_method_6_code, exceptionTable := #[], attributes := #[] }
def k2m3 : Method := { name := "readAcross", desc := "(IZ)Z", sig := { parameters := [.int, .boolean], returnType := some .boolean }, accessFlags := 0, code := some k2c3 }
/-- com/example/racewright/racewright/happensbefore/Location -/
def k2 : Class := { plain "com/example/racewright/racewright/happensbefore/Location" (some 0) with
  accessFlags := 48
  interfaces := #[]
  cf := some (fileOf pool2 7 #[.nestMembers #[47]] #[{ accessFlags := 0, nameIndex := 5, descriptorIndex := 6, attributes := #[] }, { accessFlags := 0, nameIndex := 136, descriptorIndex := 137, attributes := #[] }, { accessFlags := 0, nameIndex := 138, descriptorIndex := 139, attributes := #[] }, { accessFlags := 0, nameIndex := 140, descriptorIndex := 141, attributes := #[] }] 48 2 #[] #[{ accessFlags := 26, nameIndex := 126, descriptorIndex := 12, attributes := #[] }, { accessFlags := 26, nameIndex := 129, descriptorIndex := 12, attributes := #[] }, { accessFlags := 2, nameIndex := 41, descriptorIndex := 42, attributes := #[] }, { accessFlags := 2, nameIndex := 80, descriptorIndex := 42, attributes := #[] }, { accessFlags := 2, nameIndex := 25, descriptorIndex := 26, attributes := #[] }, { accessFlags := 2, nameIndex := 92, descriptorIndex := 93, attributes := #[] }, { accessFlags := 2, nameIndex := 11, descriptorIndex := 12, attributes := #[] }, { accessFlags := 2, nameIndex := 103, descriptorIndex := 61, attributes := #[] }, { accessFlags := 2, nameIndex := 110, descriptorIndex := 61, attributes := #[] }])
  fields := #[{ name := "NO_READER", type := .int, accessFlags := 26, slot := 0, constantValue := 0 }, { name := "READERS", type := .int, accessFlags := 26, slot := 1, constantValue := 0 }, { name := "lastWrite", type := (.object "com/example/racewright/racewright/happensbefore/Location$Write"), accessFlags := 2, slot := 0, constantValue := 0 }, { name := "beforeAdditions", type := (.object "com/example/racewright/racewright/happensbefore/Location$Write"), accessFlags := 2, slot := 1, constantValue := 0 }, { name := "racedWithLastWrite", type := (.object "java/util/BitSet"), accessFlags := 2, slot := 2, constantValue := 0 }, { name := "readScheduled", type := .boolean, accessFlags := 2, slot := 3, constantValue := 0 }, { name := "unscheduledReader", type := .int, accessFlags := 2, slot := 4, constantValue := 0 }, { name := "releases", type := (.object "com/example/racewright/racewright/happensbefore/VectorClock"), accessFlags := 2, slot := 5, constantValue := 0 }, { name := "releasesBeyondAdditions", type := (.object "com/example/racewright/racewright/happensbefore/VectorClock"), accessFlags := 2, slot := 6, constantValue := 0 }]
  methods := #[k2m0, k2m1, k2m2, k2m3]
  instanceTypes := #[(.object "com/example/racewright/racewright/happensbefore/Location$Write"), (.object "com/example/racewright/racewright/happensbefore/Location$Write"), (.object "java/util/BitSet"), .boolean, .int, (.object "com/example/racewright/racewright/happensbefore/VectorClock"), (.object "com/example/racewright/racewright/happensbefore/VectorClock")]
  staticTypes := #[.int, .int]
  resolved := Array.replicate 153 none
  statics := none }

def pool3 : Array CpInfo := pool [(1, .methodref 2 3), (0, .class_ 4), (0, .nameAndType 5 6), (0, u "java/lang/Object"), (0, u "<init>"), (0, u "()V"), (0, .class_ 8), (0, u "java/util/HashSet"), (0, .methodref 7 3), (0, .fieldref 11 12), (0, .class_ 13), (0, .nameAndType 14 15), (0, u "com/example/racewright/racewright/happensbefore/ThreadState"), (0, u "usedClasses"), (0, u "Ljava/util/Set;"), (0, .fieldref 11 17), (0, .nameAndType 18 19), (0, u "id"), (0, u "I"), (0, .fieldref 11 21), (0, .nameAndType 22 23), (0, u "clock"), (0, u "Lcom/example/racewright/racewright/happensbefore/VectorClock;"), (0, .methodref 25 26), (0, .class_ 27), (0, .nameAndType 28 29), (0, u "com/example/racewright/racewright/happensbefore/VectorClock"), (0, u "set"), (0, u "(II)V"), (3, .fieldref 11 34), (0, .nameAndType 35 36), (0, u "acquisitions"), (0, u "Ljava/util/List;"), (4, .fieldref 11 42), (0, .nameAndType 43 23), (0, u "started"), (0, .methodref 25 45), (0, .nameAndType 46 47), (0, u "get"), (0, u "(I)I"), (16, u "synchronised"), (0, u "Z"), (3, .class_ 70), (0, u "com/example/racewright/racewright/happensbefore/ThreadState$Acquired"), (12, u "()I"), (11, u "additions"), (0, u "Ljava/lang/Object;"), (0, u "unscheduled"), (1, u "(ILcom/example/racewright/racewright/happensbefore/VectorClock;Z)V"), (3, u "now")] 14

def k3c0 : Code := { maxStack := 3, maxLocals := 4, code := prog_61_method_1_code, exceptionTable := #[], attributes := #[] }
def k3m0 : Method := { name := "<init>", desc := "(ILcom/example/racewright/racewright/happensbefore/VectorClock;Z)V", sig := { parameters := [.int, (.object "com/example/racewright/racewright/happensbefore/VectorClock"), .boolean], returnType := none }, accessFlags := 0, code := some k3c0 }
def k3c1 : Code := { maxStack := 2, maxLocals := 1, code := prog_61_method_2_code, exceptionTable := #[], attributes := #[] }
def k3m1 : Method := { name := "now", desc := "()I", sig := { parameters := [], returnType := some .int }, accessFlags := 0, code := some k3c1 }
/-- com/example/racewright/racewright/happensbefore/ThreadState -/
def k3 : Class := { plain "com/example/racewright/racewright/happensbefore/ThreadState" (some 0) with
  accessFlags := 48
  interfaces := #[]
  cf := some (fileOf pool3 11 #[.nestMembers #[69]] #[{ accessFlags := 0, nameIndex := 5, descriptorIndex := 99, attributes := #[] }, { accessFlags := 0, nameIndex := 103, descriptorIndex := 83, attributes := #[] }] 48 2 #[] #[{ accessFlags := 16, nameIndex := 18, descriptorIndex := 19, attributes := #[] }, { accessFlags := 16, nameIndex := 22, descriptorIndex := 23, attributes := #[] }, { accessFlags := 16, nameIndex := 14, descriptorIndex := 15, attributes := #[] }, { accessFlags := 0, nameIndex := 95, descriptorIndex := 96, attributes := #[] }, { accessFlags := 0, nameIndex := 97, descriptorIndex := 65, attributes := #[] }, { accessFlags := 0, nameIndex := 64, descriptorIndex := 65, attributes := #[] }, { accessFlags := 18, nameIndex := 35, descriptorIndex := 36, attributes := #[] }, { accessFlags := 18, nameIndex := 43, descriptorIndex := 23, attributes := #[] }])
  fields := #[{ name := "id", type := .int, accessFlags := 16, slot := 0, constantValue := 0 }, { name := "clock", type := (.object "com/example/racewright/racewright/happensbefore/VectorClock"), accessFlags := 16, slot := 1, constantValue := 0 }, { name := "usedClasses", type := (.object "java/util/Set"), accessFlags := 16, slot := 2, constantValue := 0 }, { name := "additions", type := (.object "java/lang/Object"), accessFlags := 0, slot := 3, constantValue := 0 }, { name := "unscheduled", type := .boolean, accessFlags := 0, slot := 4, constantValue := 0 }, { name := "synchronised", type := .boolean, accessFlags := 0, slot := 5, constantValue := 0 }, { name := "acquisitions", type := (.object "java/util/List"), accessFlags := 18, slot := 6, constantValue := 0 }, { name := "started", type := (.object "com/example/racewright/racewright/happensbefore/VectorClock"), accessFlags := 18, slot := 7, constantValue := 0 }]
  methods := #[k3m0, k3m1]
  instanceTypes := #[.int, (.object "com/example/racewright/racewright/happensbefore/VectorClock"), (.object "java/util/Set"), (.object "java/lang/Object"), .boolean, .boolean, (.object "java/util/List"), (.object "com/example/racewright/racewright/happensbefore/VectorClock")]
  staticTypes := #[]
  resolved := Array.replicate 118 none
  statics := none }

def pool4 : Array CpInfo := pool [(1, .methodref 2 3), (0, .class_ 4), (0, .nameAndType 5 6), (0, u "java/lang/Object"), (0, u "<init>"), (0, u "()V"), (0, .fieldref 8 9), (0, .class_ 10), (0, .nameAndType 11 12), (0, u "com/example/racewright/racewright/happensbefore/VectorClock"), (0, u "ticks"), (0, u "[I"), (0, .fieldref 8 14), (0, .nameAndType 15 12), (0, u "apart"), (0, .methodref 8 17), (0, .nameAndType 18 19), (0, u "set"), (0, u "([III)[I"), (2, u "get"), (0, u "(I)I"), (21, .methodref 46 47), (0, .class_ 48), (0, .nameAndType 49 50), (0, u "java/lang/Math"), (0, u "max"), (0, u "(II)I"), (0, .methodref 52 53), (0, .class_ 54), (0, .nameAndType 55 56), (0, u "java/util/Arrays"), (0, u "copyOf"), (0, u "([II)[I"), (3, u "(II)V")] 8

def k4c0 : Code := { maxStack := 2, maxLocals := 1, code := prog_63_method_1_code, exceptionTable := #[], attributes := #[] }
def k4m0 : Method := { name := "<init>", desc := "()V", sig := { parameters := [], returnType := none }, accessFlags := 0, code := some k4c0 }
def k4c1 : Code := { maxStack := 2, maxLocals := 2, code := prog_63_method_2_code, exceptionTable := #[], attributes := #[] }
def k4m1 : Method := { name := "get", desc := "(I)I", sig := { parameters := [.int], returnType := some .int }, accessFlags := 0, code := some k4c1 }
def k4c2 : Code := { maxStack := 4, maxLocals := 3, code := prog_63_method_4_code, exceptionTable := #[], attributes := #[] }
def k4m2 : Method := { name := "set", desc := "(II)V", sig := { parameters := [.int, .int], returnType := none }, accessFlags := 0, code := some k4c2 }
def k4c3 : Code := { maxStack := 4, maxLocals := 4, code := prog_63_method_10_code, exceptionTable := #[], attributes := #[] }
def k4m3 : Method := { name := "set", desc := "([III)[I", sig := { parameters := [(.array .int), .int, .int], returnType := some (.array .int) }, accessFlags := 10, code := some k4c3 }
/-- com/example/racewright/racewright/happensbefore/VectorClock -/
def k4 : Class := { plain "com/example/racewright/racewright/happensbefore/VectorClock" (some 0) with
  accessFlags := 48
  interfaces := #[]
  cf := some (fileOf pool4 8 #[] #[{ accessFlags := 0, nameIndex := 5, descriptorIndex := 6, attributes := #[] }, { accessFlags := 0, nameIndex := 22, descriptorIndex := 23, attributes := #[] }, { accessFlags := 0, nameIndex := 18, descriptorIndex := 60, attributes := #[] }, { accessFlags := 10, nameIndex := 18, descriptorIndex := 19, attributes := #[] }] 48 2 #[] #[{ accessFlags := 2, nameIndex := 11, descriptorIndex := 12, attributes := #[] }, { accessFlags := 2, nameIndex := 15, descriptorIndex := 12, attributes := #[] }])
  fields := #[{ name := "ticks", type := (.array .int), accessFlags := 2, slot := 0, constantValue := 0 }, { name := "apart", type := (.array .int), accessFlags := 2, slot := 1, constantValue := 0 }]
  methods := #[k4m0, k4m1, k4m2, k4m3]
  instanceTypes := #[(.array .int), (.array .int)]
  staticTypes := #[]
  resolved := Array.replicate 69 none
  statics := none }

def pool5 : Array CpInfo := pool [(8, .class_ 10), (1, u "java/lang/Iterable"), (24, .class_ 36), (0, u "java/lang/Object")] 25

/-- java/lang/Iterable -/
def k5 : Class := { plain "java/lang/Iterable" (some 0) with
  accessFlags := 1537
  interfaces := #[]
  cf := some (fileOf pool5 8 #[] #[] 1537 35 #[] #[])
  fields := #[]
  methods := #[]
  instanceTypes := #[]
  staticTypes := #[]
  resolved := Array.replicate 62 none
  statics := none }

def pool6 : Array CpInfo := pool [(10, .class_ 12), (1, u "java/util/Collection"), (47, .class_ 61), (0, u "java/lang/Object"), (0, .class_ 63), (0, u "java/lang/Iterable")] 51

/-- java/util/Collection -/
def k6 : Class := { plain "java/util/Collection" (some 0) with
  accessFlags := 1537
  interfaces := #[5]
  cf := some (fileOf pool6 10 #[] #[] 1537 60 #[62] #[])
  fields := #[]
  methods := #[]
  instanceTypes := #[]
  staticTypes := #[]
  resolved := Array.replicate 115 none
  statics := none }

def pool7 : Array CpInfo := pool [(1, .methodref 2 3), (0, .class_ 4), (0, .nameAndType 5 6), (0, u "java/lang/Object"), (0, u "<init>"), (0, u "()V"), (1, .class_ 10), (1, u "java/util/AbstractCollection"), (66, .class_ 78), (0, u "java/util/Collection")] 81

def k7c0 : Code := { maxStack := 1, maxLocals := 1, code := jdk_22_method_1_code, exceptionTable := #[], attributes := #[] }
def k7m0 : Method := { name := "<init>", desc := "()V", sig := { parameters := [], returnType := none }, accessFlags := 4, code := some k7c0 }
/-- java/util/AbstractCollection -/
def k7 : Class := { plain "java/util/AbstractCollection" (some 0) with
  accessFlags := 1057
  interfaces := #[6]
  cf := some (fileOf pool7 8 #[] #[{ accessFlags := 4, nameIndex := 5, descriptorIndex := 6, attributes := #[] }] 1057 2 #[77] #[])
  fields := #[]
  methods := #[k7m0]
  instanceTypes := #[]
  staticTypes := #[]
  resolved := Array.replicate 160 none
  statics := none }

def pool8 : Array CpInfo := pool [(26, .class_ 27), (0, u "java/lang/Object"), (5, .class_ 34), (0, u "java/util/Set"), (1, .class_ 38), (1, u "java/util/Collection")] 105

/-- java/util/Set -/
def k8 : Class := { plain "java/util/Set" (some 0) with
  accessFlags := 1537
  interfaces := #[6]
  cf := some (fileOf pool8 33 #[] #[] 1537 26 #[36] #[])
  fields := #[]
  methods := #[]
  instanceTypes := #[]
  staticTypes := #[]
  resolved := Array.replicate 144 none
  statics := none }

def pool9 : Array CpInfo := pool [(1, .methodref 2 3), (0, .class_ 4), (0, .nameAndType 5 6), (0, u "java/util/AbstractCollection"), (0, u "<init>"), (0, u "()V"), (0, .class_ 8), (0, u "java/util/Set"), (7, .class_ 17), (0, u "java/util/AbstractSet")] 78

def k9c0 : Code := { maxStack := 1, maxLocals := 1, code := jdk_91_method_1_code, exceptionTable := #[], attributes := #[] }
def k9m0 : Method := { name := "<init>", desc := "()V", sig := { parameters := [], returnType := none }, accessFlags := 4, code := some k9c0 }
/-- java/util/AbstractSet -/
def k9 : Class := { plain "java/util/AbstractSet" (some 7) with
  accessFlags := 1057
  interfaces := #[8]
  cf := some (fileOf pool9 16 #[] #[{ accessFlags := 4, nameIndex := 5, descriptorIndex := 6, attributes := #[] }] 1057 2 #[7] #[])
  fields := #[]
  methods := #[k9m0]
  instanceTypes := #[]
  staticTypes := #[]
  resolved := Array.replicate 96 none
  statics := none }

def pool10 : Array CpInfo := pool [(1, .class_ 2), (0, u "java/lang/Cloneable"), (0, .class_ 4), (0, u "java/lang/Object")] 2

/-- java/lang/Cloneable -/
def k10 : Class := { plain "java/lang/Cloneable" (some 0) with
  accessFlags := 1537
  interfaces := #[]
  cf := some (fileOf pool10 1 #[] #[] 1537 3 #[] #[])
  fields := #[]
  methods := #[]
  instanceTypes := #[]
  staticTypes := #[]
  resolved := Array.replicate 7 none
  statics := none }

def pool11 : Array CpInfo := pool [(1, .class_ 2), (0, u "java/io/Serializable"), (0, .class_ 4), (0, u "java/lang/Object")] 2

/-- java/io/Serializable -/
def k11 : Class := { plain "java/io/Serializable" (some 0) with
  accessFlags := 1537
  interfaces := #[]
  cf := some (fileOf pool11 1 #[] #[] 1537 3 #[] #[])
  fields := #[]
  methods := #[]
  instanceTypes := #[]
  staticTypes := #[]
  resolved := Array.replicate 7 none
  statics := none }

def pool12 : Array CpInfo := pool [(1, .methodref 2 3), (0, .class_ 4), (0, .nameAndType 5 6), (0, u "java/util/AbstractSet"), (0, u "<init>"), (0, u "()V"), (0, .class_ 8), (0, u "java/util/HashMap"), (0, .methodref 7 3), (0, .fieldref 11 12), (0, .class_ 13), (0, .nameAndType 14 15), (0, u "java/util/HashSet"), (0, u "map"), (0, u "Ljava/util/HashMap;"), (34, .class_ 52), (1, u "java/util/Set"), (13, u "PRESENT"), (0, u "Ljava/lang/Object;"), (158, .class_ 227), (0, u "java/lang/Cloneable"), (0, .class_ 229), (0, u "java/io/Serializable"), (0, u "serialVersionUID"), (0, u "J")] 71

def k12c0 : Code := { maxStack := 3, maxLocals := 1, code := jdk_93_method_1_code, exceptionTable := #[], attributes := #[] }
def k12m0 : Method := { name := "<init>", desc := "()V", sig := { parameters := [], returnType := none }, accessFlags := 1, code := some k12c0 }
/-- java/util/HashSet -/
def k12 : Class := { plain "java/util/HashSet" (some 9) with
  accessFlags := 33
  interfaces := #[8, 10, 11]
  cf := some (fileOf pool12 11 #[] #[{ accessFlags := 1, nameIndex := 5, descriptorIndex := 6, attributes := #[] }] 33 2 #[50, 226, 228] #[{ accessFlags := 24, nameIndex := 230, descriptorIndex := 231, attributes := #[] }, { accessFlags := 128, nameIndex := 14, descriptorIndex := 15, attributes := #[] }, { accessFlags := 24, nameIndex := 66, descriptorIndex := 67, attributes := #[] }])
  fields := #[{ name := "serialVersionUID", type := .long, accessFlags := 24, slot := 0, constantValue := 0 }, { name := "map", type := (.object "java/util/HashMap"), accessFlags := 128, slot := 0, constantValue := 0 }, { name := "PRESENT", type := (.object "java/lang/Object"), accessFlags := 24, slot := 1, constantValue := 0 }]
  methods := #[k12m0]
  instanceTypes := #[(.object "java/util/HashMap")]
  staticTypes := #[.long, (.object "java/lang/Object")]
  resolved := Array.replicate 303 none
  statics := none }

def pool13 : Array CpInfo := pool [(2, .class_ 4), (1, u "java/util/Map"), (31, .class_ 37), (0, u "java/util/Map$Entry"), (55, .class_ 94), (0, u "java/lang/Object")] 168

/-- java/util/Map -/
def k13 : Class := { plain "java/util/Map" (some 0) with
  accessFlags := 1537
  interfaces := #[]
  cf := some (fileOf pool13 2 #[.nestMembers #[36]] #[] 1537 93 #[] #[])
  fields := #[]
  methods := #[]
  instanceTypes := #[]
  staticTypes := #[]
  resolved := Array.replicate 263 none
  statics := none }

def pool14 : Array CpInfo := pool [(1, .methodref 2 3), (0, .class_ 4), (0, .nameAndType 5 6), (0, u "java/lang/Object"), (0, u "<init>"), (0, u "()V"), (1, .class_ 10), (1, u "java/util/AbstractMap"), (42, .class_ 54), (0, u "java/util/Map"), (9, u "keySet"), (0, u "Ljava/util/Set;"), (0, .class_ 67), (0, u "java/util/AbstractMap$1"), (5, u "values"), (0, u "Ljava/util/Collection;"), (0, .class_ 76), (0, u "java/util/AbstractMap$2"), (104, .class_ 182), (0, u "java/util/AbstractMap$ViewCollection"), (0, .class_ 184), (0, u "java/util/AbstractMap$SimpleImmutableEntry"), (0, .class_ 186), (0, u "java/util/AbstractMap$SimpleEntry"), (0, .class_ 188), (0, u "java/util/AbstractMap$2$1"), (0, .class_ 190), (0, u "java/util/AbstractMap$1$1")] 5

def k14c0 : Code := { maxStack := 1, maxLocals := 1, code := jdk_71_method_1_code, exceptionTable := #[], attributes := #[] }
def k14m0 : Method := { name := "<init>", desc := "()V", sig := { parameters := [], returnType := none }, accessFlags := 4, code := some k14c0 }
/-- java/util/AbstractMap -/
def k14 : Class := { plain "java/util/AbstractMap" (some 0) with
  accessFlags := 1057
  interfaces := #[13]
  cf := some (fileOf pool14 8 #[.nestMembers #[181, 183, 185, 75, 187, 66, 189]] #[{ accessFlags := 4, nameIndex := 5, descriptorIndex := 6, attributes := #[] }] 1057 2 #[53] #[{ accessFlags := 128, nameIndex := 64, descriptorIndex := 65, attributes := #[] }, { accessFlags := 128, nameIndex := 73, descriptorIndex := 74, attributes := #[] }])
  fields := #[{ name := "keySet", type := (.object "java/util/Set"), accessFlags := 128, slot := 0, constantValue := 0 }, { name := "values", type := (.object "java/util/Collection"), accessFlags := 128, slot := 1, constantValue := 0 }]
  methods := #[k14m0]
  instanceTypes := #[(.object "java/util/Set"), (.object "java/util/Collection")]
  staticTypes := #[]
  resolved := Array.replicate 196 none
  statics := none }

def pool15 : Array CpInfo := pool [(40, .class_ 41), (0, u "java/util/HashMap"), (1, .methodref 44 45), (0, .class_ 46), (0, .nameAndType 47 48), (0, u "java/util/AbstractMap"), (0, u "<init>"), (0, u "()V"), (32, .fieldref 40 82), (0, .nameAndType 83 84), (0, u "loadFactor"), (0, u "F"), (5, u "threshold"), (0, u "I"), (0, .float 1061158912), (8, .class_ 103), (1, u "java/util/Map"), (0, u "size"), (2, u "table"), (0, u "[Ljava/util/HashMap$Node;"), (14, u "entrySet"), (39, .class_ 165), (1, u "java/util/HashMap$Node"), (14, .class_ 181), (0, u "java/util/HashMap$TreeNode"), (22, u "modCount"), (37, u "Ljava/util/Set;"), (0, .class_ 244), (0, u "java/util/HashMap$KeySet"), (18, .class_ 264), (0, u "java/util/HashMap$Values"), (3, .class_ 269), (0, u "java/util/HashMap$EntrySet"), (76, .class_ 348), (1, u "java/util/HashMap$UnsafeHolder"), (43, .class_ 393), (0, u "java/lang/Cloneable"), (0, .class_ 395), (0, u "java/io/Serializable"), (0, u "serialVersionUID"), (0, u "J"), (3, u "DEFAULT_INITIAL_CAPACITY"), (1, u "MAXIMUM_CAPACITY"), (0, u "DEFAULT_LOAD_FACTOR"), (0, u "TREEIFY_THRESHOLD"), (1, u "UNTREEIFY_THRESHOLD"), (1, u "MIN_TREEIFY_CAPACITY"), (186, .class_ 597), (0, u "java/util/HashMap$EntrySpliterator"), (0, .class_ 599), (0, u "java/util/HashMap$ValueSpliterator"), (0, .class_ 601), (0, u "java/util/HashMap$KeySpliterator"), (0, .class_ 603), (0, u "java/util/HashMap$HashMapSpliterator"), (0, .class_ 605), (0, u "java/util/HashMap$EntryIterator"), (0, .class_ 607), (0, u "java/util/HashMap$ValueIterator"), (0, .class_ 609), (0, u "java/util/HashMap$KeyIterator"), (0, .class_ 611), (0, u "java/util/HashMap$HashIterator")] 17

def k15c0 : Code := { maxStack := 2, maxLocals := 1, code := jdk_69_method_7_code, exceptionTable := #[], attributes := #[] }
def k15m0 : Method := { name := "<init>", desc := "()V", sig := { parameters := [], returnType := none }, accessFlags := 1, code := some k15c0 }
/-- java/util/HashMap -/
def k15 : Class := { plain "java/util/HashMap" (some 14) with
  accessFlags := 33
  interfaces := #[13, 10, 11]
  cf := some (fileOf pool15 40 #[.nestMembers #[180, 596, 598, 600, 602, 604, 606, 608, 610, 346, 268, 263, 243, 163]] #[{ accessFlags := 1, nameIndex := 47, descriptorIndex := 48, attributes := #[] }] 33 44 #[101, 392, 394] #[{ accessFlags := 26, nameIndex := 396, descriptorIndex := 397, attributes := #[] }, { accessFlags := 24, nameIndex := 401, descriptorIndex := 91, attributes := #[] }, { accessFlags := 24, nameIndex := 403, descriptorIndex := 91, attributes := #[] }, { accessFlags := 24, nameIndex := 404, descriptorIndex := 84, attributes := #[] }, { accessFlags := 24, nameIndex := 405, descriptorIndex := 91, attributes := #[] }, { accessFlags := 24, nameIndex := 407, descriptorIndex := 91, attributes := #[] }, { accessFlags := 24, nameIndex := 409, descriptorIndex := 91, attributes := #[] }, { accessFlags := 128, nameIndex := 107, descriptorIndex := 108, attributes := #[] }, { accessFlags := 128, nameIndex := 123, descriptorIndex := 242, attributes := #[] }, { accessFlags := 128, nameIndex := 104, descriptorIndex := 91, attributes := #[] }, { accessFlags := 128, nameIndex := 204, descriptorIndex := 91, attributes := #[] }, { accessFlags := 0, nameIndex := 90, descriptorIndex := 91, attributes := #[] }, { accessFlags := 16, nameIndex := 83, descriptorIndex := 84, attributes := #[] }])
  fields := #[{ name := "serialVersionUID", type := .long, accessFlags := 26, slot := 0, constantValue := 0 }, { name := "DEFAULT_INITIAL_CAPACITY", type := .int, accessFlags := 24, slot := 1, constantValue := 0 }, { name := "MAXIMUM_CAPACITY", type := .int, accessFlags := 24, slot := 2, constantValue := 0 }, { name := "DEFAULT_LOAD_FACTOR", type := .float, accessFlags := 24, slot := 3, constantValue := 0 }, { name := "TREEIFY_THRESHOLD", type := .int, accessFlags := 24, slot := 4, constantValue := 0 }, { name := "UNTREEIFY_THRESHOLD", type := .int, accessFlags := 24, slot := 5, constantValue := 0 }, { name := "MIN_TREEIFY_CAPACITY", type := .int, accessFlags := 24, slot := 6, constantValue := 0 }, { name := "table", type := (.array (.object "java/util/HashMap$Node")), accessFlags := 128, slot := 2, constantValue := 0 }, { name := "entrySet", type := (.object "java/util/Set"), accessFlags := 128, slot := 3, constantValue := 0 }, { name := "size", type := .int, accessFlags := 128, slot := 4, constantValue := 0 }, { name := "modCount", type := .int, accessFlags := 128, slot := 5, constantValue := 0 }, { name := "threshold", type := .int, accessFlags := 0, slot := 6, constantValue := 0 }, { name := "loadFactor", type := .float, accessFlags := 16, slot := 7, constantValue := 0 }]
  methods := #[k15m0]
  instanceTypes := #[(.object "java/util/Set"), (.object "java/util/Collection"), (.array (.object "java/util/HashMap$Node")), (.object "java/util/Set"), .int, .int, .int, .float]
  staticTypes := #[.long, .int, .int, .float, .int, .int, .int]
  resolved := Array.replicate 629 none
  statics := none }

def pool16 : Array CpInfo := pool [(1, .class_ 2), (0, u "java/lang/Math"), (1, .class_ 6), (1, u "java/lang/Object"), (0, u "<init>"), (0, u "()V"), (89, .class_ 100), (1, u "java/lang/Math$RandomNumberGeneratorHolder"), (71, u "negativeZeroFloatBits"), (0, u "J"), (2, u "negativeZeroDoubleBits"), (21, u "max"), (2, u "min"), (43, u "$assertionsDisabled"), (0, u "Z"), (88, u "(II)I"), (2, u "twoToTheDoubleScaleDown"), (0, u "D"), (4, u "twoToTheDoubleScaleUp"), (9, u "E"), (3, u "PI"), (2, u "TAU"), (2, u "DEGREES_TO_RADIANS"), (0, u "RADIANS_TO_DEGREES")] 94

def k16m0 : Method := { name := "<init>", desc := "()V", sig := { parameters := [], returnType := none }, accessFlags := 2, code := none }
def k16c1 : Code := { maxStack := 2, maxLocals := 2, code := jdk_29_method_65_code, exceptionTable := #[], attributes := #[] }
def k16m1 : Method := { name := "max", desc := "(II)I", sig := { parameters := [.int, .int], returnType := some .int }, accessFlags := 9, code := some k16c1 }
def k16c2 : Code := { maxStack := 2, maxLocals := 2, code := jdk_29_method_69_code, exceptionTable := #[], attributes := #[] }
def k16m2 : Method := { name := "min", desc := "(II)I", sig := { parameters := [.int, .int], returnType := some .int }, accessFlags := 9, code := some k16c2 }
/-- java/lang/Math -/
def k16 : Class := { plain "java/lang/Math" (some 0) with
  accessFlags := 49
  interfaces := #[]
  cf := some (fileOf pool16 1 #[.nestMembers #[98]] #[{ accessFlags := 2, nameIndex := 7, descriptorIndex := 8, attributes := #[] }, { accessFlags := 9, nameIndex := 198, descriptorIndex := 335, attributes := #[] }, { accessFlags := 9, nameIndex := 201, descriptorIndex := 335, attributes := #[] }] 49 4 #[] #[{ accessFlags := 25, nameIndex := 354, descriptorIndex := 339, attributes := #[] }, { accessFlags := 25, nameIndex := 358, descriptorIndex := 339, attributes := #[] }, { accessFlags := 25, nameIndex := 361, descriptorIndex := 339, attributes := #[] }, { accessFlags := 26, nameIndex := 364, descriptorIndex := 339, attributes := #[] }, { accessFlags := 26, nameIndex := 365, descriptorIndex := 339, attributes := #[] }, { accessFlags := 26, nameIndex := 172, descriptorIndex := 173, attributes := #[] }, { accessFlags := 26, nameIndex := 176, descriptorIndex := 173, attributes := #[] }, { accessFlags := 8, nameIndex := 344, descriptorIndex := 339, attributes := #[] }, { accessFlags := 8, nameIndex := 338, descriptorIndex := 339, attributes := #[] }, { accessFlags := 4120, nameIndex := 245, descriptorIndex := 246, attributes := #[] }])
  fields := #[{ name := "E", type := .double, accessFlags := 25, slot := 0, constantValue := 0 }, { name := "PI", type := .double, accessFlags := 25, slot := 1, constantValue := 0 }, { name := "TAU", type := .double, accessFlags := 25, slot := 2, constantValue := 0 }, { name := "DEGREES_TO_RADIANS", type := .double, accessFlags := 26, slot := 3, constantValue := 0 }, { name := "RADIANS_TO_DEGREES", type := .double, accessFlags := 26, slot := 4, constantValue := 0 }, { name := "negativeZeroFloatBits", type := .long, accessFlags := 26, slot := 5, constantValue := 0 }, { name := "negativeZeroDoubleBits", type := .long, accessFlags := 26, slot := 6, constantValue := 0 }, { name := "twoToTheDoubleScaleUp", type := .double, accessFlags := 8, slot := 7, constantValue := 0 }, { name := "twoToTheDoubleScaleDown", type := .double, accessFlags := 8, slot := 8, constantValue := 0 }, { name := "$assertionsDisabled", type := .boolean, accessFlags := 4120, slot := 9, constantValue := 0 }]
  methods := #[k16m0, k16m1, k16m2]
  instanceTypes := #[]
  staticTypes := #[.double, .double, .double, .double, .double, .long, .long, .double, .double, .boolean]
  resolved := Array.replicate 460 none
  statics := none }

def pool17 : Array CpInfo := pool [(2, .class_ 4), (1, u "java/lang/Object"), (0, u "<init>"), (0, u "()V"), (7, .class_ 16), (1, u "java/util/Arrays"), (57, .class_ 76), (1, u "java/util/Arrays$NaturalOrder"), (36, .class_ 115), (1, u "java/util/Arrays$LegacyMergeSort"), (1, u "Z"), (32, .methodref 151 152), (0, .class_ 153), (0, .nameAndType 154 155), (0, u "java/lang/System"), (0, u "arraycopy"), (0, u "(Ljava/lang/Object;ILjava/lang/Object;II)V"), (146, u "copyOf"), (1, .methodref 305 306), (0, .class_ 307), (0, .nameAndType 308 309), (0, u "java/lang/Math"), (0, u "min"), (0, u "(II)I"), (65, .class_ 376), (0, u "java/util/Arrays$ArrayList"), (68, u "$assertionsDisabled"), (269, u "MIN_ARRAY_SORT_GRAN"), (0, u "I"), (2, u "INSERTIONSORT_THRESHOLD"), (151, u "([II)[I"), (103, .class_ 976), (0, u "java/util/Arrays$ArrayItr")] 52

def k17m0 : Method := { name := "<init>", desc := "()V", sig := { parameters := [], returnType := none }, accessFlags := 2, code := none }
def k17c1 : Code := { maxStack := 6, maxLocals := 3, code := jdk_65_method_123_code, exceptionTable := #[], attributes := #[] }
def k17m1 : Method := { name := "copyOf", desc := "([II)[I", sig := { parameters := [(.array .int), .int], returnType := some (.array .int) }, accessFlags := 9, code := some k17c1 }
/-- java/util/Arrays -/
def k17 : Class := { plain "java/util/Arrays" (some 0) with
  accessFlags := 49
  interfaces := #[]
  cf := some (fileOf pool17 14 #[.nestMembers #[975, 375, 113, 74]] #[{ accessFlags := 2, nameIndex := 5, descriptorIndex := 6, attributes := #[] }, { accessFlags := 9, nameIndex := 302, descriptorIndex := 871, attributes := #[] }] 49 2 #[] #[{ accessFlags := 26, nameIndex := 715, descriptorIndex := 716, attributes := #[] }, { accessFlags := 26, nameIndex := 719, descriptorIndex := 716, attributes := #[] }, { accessFlags := 4120, nameIndex := 445, descriptorIndex := 117, attributes := #[] }])
  fields := #[{ name := "MIN_ARRAY_SORT_GRAN", type := .int, accessFlags := 26, slot := 0, constantValue := 0 }, { name := "INSERTIONSORT_THRESHOLD", type := .int, accessFlags := 26, slot := 1, constantValue := 0 }, { name := "$assertionsDisabled", type := .boolean, accessFlags := 4120, slot := 2, constantValue := 0 }]
  methods := #[k17m0, k17m1]
  instanceTypes := #[]
  staticTypes := #[.int, .int, .boolean]
  resolved := Array.replicate 1029 none
  statics := none }

def pool18 : Array CpInfo := pool [(2, .class_ 4), (1, u "java/lang/Object"), (0, u "<init>"), (0, u "()V"), (1, .class_ 10), (1, u "java/lang/System"), (0, u "allowSecurityManager"), (0, u "I"), (16, u "cons"), (0, u "Ljava/io/Console;"), (77, .class_ 110), (1, u "java/lang/System$CallersHolder"), (43, u "initialErrStream"), (0, u "Ljava/io/PrintStream;"), (19, u "security"), (0, u "Ljava/lang/SecurityManager;"), (31, .class_ 209), (0, u "java/lang/System$1"), (7, u "props"), (0, u "Ljava/util/Properties;"), (2, u "lineSeparator"), (0, u "Ljava/lang/String;"), (96, .class_ 321), (1, u "java/lang/System$LoggerFinder"), (5, .class_ 328), (0, u "java/lang/System$Logger"), (67, u "err"), (2, u "out"), (91, u "notSupportedJnuEncoding"), (15, u "in"), (17, u "initialIn"), (0, u "Ljava/io/InputStream;"), (35, u "bootLayer"), (0, u "Ljava/lang/ModuleLayer;"), (99, .class_ 664), (0, u "java/lang/System$2"), (9, u "NEVER"), (2, u "MAYBE"), (49, u "arraycopy"), (0, u "(Ljava/lang/Object;ILjava/lang/Object;II)V"), (72, .class_ 802), (0, u "java/lang/System$Logger$Level")] 31

def k18m0 : Method := { name := "<init>", desc := "()V", sig := { parameters := [], returnType := none }, accessFlags := 2, code := none }
def k18m1 : Method := { name := "arraycopy", desc := "(Ljava/lang/Object;ILjava/lang/Object;II)V", sig := { parameters := [(.object "java/lang/Object"), .int, (.object "java/lang/Object"), .int, .int], returnType := none }, accessFlags := 265, code := none }
/-- java/lang/System -/
def k18 : Class := { plain "java/lang/System" (some 0) with
  accessFlags := 49
  interfaces := #[]
  cf := some (fileOf pool18 8 #[.nestMembers #[319, 327, 801, 108, 663, 208]] #[{ accessFlags := 2, nameIndex := 5, descriptorIndex := 6, attributes := #[] }, { accessFlags := 265, nameIndex := 727, descriptorIndex := 728, attributes := #[] }] 49 2 #[] #[{ accessFlags := 25, nameIndex := 507, descriptorIndex := 526, attributes := #[] }, { accessFlags := 25, nameIndex := 399, descriptorIndex := 155, attributes := #[] }, { accessFlags := 25, nameIndex := 396, descriptorIndex := 155, attributes := #[] }, { accessFlags := 10, nameIndex := 525, descriptorIndex := 526, attributes := #[] }, { accessFlags := 26, nameIndex := 674, descriptorIndex := 12, attributes := #[] }, { accessFlags := 26, nameIndex := 677, descriptorIndex := 12, attributes := #[] }, { accessFlags := 10, nameIndex := 11, descriptorIndex := 12, attributes := #[] }, { accessFlags := 74, nameIndex := 175, descriptorIndex := 176, attributes := #[] }, { accessFlags := 10, nameIndex := 491, descriptorIndex := 222, attributes := #[] }, { accessFlags := 74, nameIndex := 29, descriptorIndex := 30, attributes := #[] }, { accessFlags := 74, nameIndex := 154, descriptorIndex := 155, attributes := #[] }, { accessFlags := 10, nameIndex := 217, descriptorIndex := 218, attributes := #[] }, { accessFlags := 10, nameIndex := 221, descriptorIndex := 222, attributes := #[] }, { accessFlags := 8, nameIndex := 562, descriptorIndex := 563, attributes := #[] }])
  fields := #[{ name := "in", type := (.object "java/io/InputStream"), accessFlags := 25, slot := 0, constantValue := 0 }, { name := "out", type := (.object "java/io/PrintStream"), accessFlags := 25, slot := 1, constantValue := 0 }, { name := "err", type := (.object "java/io/PrintStream"), accessFlags := 25, slot := 2, constantValue := 0 }, { name := "initialIn", type := (.object "java/io/InputStream"), accessFlags := 10, slot := 3, constantValue := 0 }, { name := "NEVER", type := .int, accessFlags := 26, slot := 4, constantValue := 0 }, { name := "MAYBE", type := .int, accessFlags := 26, slot := 5, constantValue := 0 }, { name := "allowSecurityManager", type := .int, accessFlags := 10, slot := 6, constantValue := 0 }, { name := "security", type := (.object "java/lang/SecurityManager"), accessFlags := 74, slot := 7, constantValue := 0 }, { name := "notSupportedJnuEncoding", type := (.object "java/lang/String"), accessFlags := 10, slot := 8, constantValue := 0 }, { name := "cons", type := (.object "java/io/Console"), accessFlags := 74, slot := 9, constantValue := 0 }, { name := "initialErrStream", type := (.object "java/io/PrintStream"), accessFlags := 74, slot := 10, constantValue := 0 }, { name := "props", type := (.object "java/util/Properties"), accessFlags := 10, slot := 11, constantValue := 0 }, { name := "lineSeparator", type := (.object "java/lang/String"), accessFlags := 10, slot := 12, constantValue := 0 }, { name := "bootLayer", type := (.object "java/lang/ModuleLayer"), accessFlags := 8, slot := 13, constantValue := 0 }]
  methods := #[k18m0, k18m1]
  instanceTypes := #[]
  staticTypes := #[(.object "java/io/InputStream"), (.object "java/io/PrintStream"), (.object "java/io/PrintStream"), (.object "java/io/InputStream"), .int, .int, .int, (.object "java/lang/SecurityManager"), (.object "java/lang/String"), (.object "java/io/Console"), (.object "java/io/PrintStream"), (.object "java/util/Properties"), (.object "java/lang/String"), (.object "java/lang/ModuleLayer")]
  resolved := Array.replicate 834 none
  statics := none }

def pool19 : Array CpInfo := pool [(1, .methodref 2 3), (0, .class_ 4), (0, .nameAndType 5 6), (0, u "java/lang/Object"), (0, u "<init>"), (0, u "()V"), (0, .class_ 8), (0, u "java/lang/Record")] 13

def k19c0 : Code := { maxStack := 1, maxLocals := 1, code := jdk_30_method_1_code, exceptionTable := #[], attributes := #[] }
def k19m0 : Method := { name := "<init>", desc := "()V", sig := { parameters := [], returnType := none }, accessFlags := 4, code := some k19c0 }
/-- java/lang/Record -/
def k19 : Class := { plain "java/lang/Record" (some 0) with
  accessFlags := 1057
  interfaces := #[]
  cf := some (fileOf pool19 7 #[] #[{ accessFlags := 4, nameIndex := 5, descriptorIndex := 6, attributes := #[] }] 1057 2 #[] #[])
  fields := #[]
  methods := #[k19m0]
  instanceTypes := #[]
  staticTypes := #[]
  resolved := Array.replicate 22 none
  statics := none }

def pool20 : Array CpInfo := pool [(1, .methodref 2 3), (0, .class_ 4), (0, .nameAndType 5 6), (0, u "java/lang/Record"), (0, u "<init>"), (0, u "()V"), (0, .fieldref 8 9), (0, .class_ 10), (0, .nameAndType 11 12), (0, u "com/example/racewright/racewright/happensbefore/Location$Write"), (0, u "thread"), (0, u "I"), (0, .fieldref 8 14), (0, .nameAndType 15 12), (0, u "epoch"), (0, .fieldref 8 17), (0, .nameAndType 18 19), (0, u "threadName"), (0, u "Ljava/lang/String;"), (0, .fieldref 8 21), (0, .nameAndType 22 23), (0, u "at"), (0, u "Lcom/example/racewright/racewright/report/SourceLine;"), (0, .fieldref 8 25), (0, .nameAndType 26 12), (0, u "entry"), (0, .fieldref 8 28), (0, .nameAndType 29 30), (0, u "additions"), (0, u "Ljava/lang/Object;"), (17, u "(IILjava/lang/String;Lcom/example/racewright/racewright/report/SourceLine;ILjava/lang/Object;)V"), (14, .class_ 64), (0, u "com/example/racewright/racewright/happensbefore/Location")] 24

def k20c0 : Code := { maxStack := 2, maxLocals := 7, code := prog_48_method_1_code, exceptionTable := #[], attributes := #[] }
def k20m0 : Method := { name := "<init>", desc := "(IILjava/lang/String;Lcom/example/racewright/racewright/report/SourceLine;ILjava/lang/Object;)V", sig := { parameters := [.int, .int, (.object "java/lang/String"), (.object "com/example/racewright/racewright/report/SourceLine"), .int, (.object "java/lang/Object")], returnType := none }, accessFlags := 0, code := some k20c0 }
/-- com/example/racewright/racewright/happensbefore/Location$Write -/
def k20 : Class := { plain "com/example/racewright/racewright/happensbefore/Location$Write" (some 19) with
  accessFlags := 48
  interfaces := #[]
  cf := some (fileOf pool20 8 #[.nestHost 63] #[{ accessFlags := 0, nameIndex := 5, descriptorIndex := 48, attributes := #[] }] 48 2 #[] #[{ accessFlags := 18, nameIndex := 11, descriptorIndex := 12, attributes := #[] }, { accessFlags := 18, nameIndex := 15, descriptorIndex := 12, attributes := #[] }, { accessFlags := 18, nameIndex := 18, descriptorIndex := 19, attributes := #[] }, { accessFlags := 18, nameIndex := 22, descriptorIndex := 23, attributes := #[] }, { accessFlags := 18, nameIndex := 26, descriptorIndex := 12, attributes := #[] }, { accessFlags := 18, nameIndex := 29, descriptorIndex := 30, attributes := #[] }])
  fields := #[{ name := "thread", type := .int, accessFlags := 18, slot := 0, constantValue := 0 }, { name := "epoch", type := .int, accessFlags := 18, slot := 1, constantValue := 0 }, { name := "threadName", type := (.object "java/lang/String"), accessFlags := 18, slot := 2, constantValue := 0 }, { name := "at", type := (.object "com/example/racewright/racewright/report/SourceLine"), accessFlags := 18, slot := 3, constantValue := 0 }, { name := "entry", type := .int, accessFlags := 18, slot := 4, constantValue := 0 }, { name := "additions", type := (.object "java/lang/Object"), accessFlags := 18, slot := 5, constantValue := 0 }]
  methods := #[k20m0]
  instanceTypes := #[.int, .int, (.object "java/lang/String"), (.object "com/example/racewright/racewright/report/SourceLine"), .int, (.object "java/lang/Object")]
  staticTypes := #[]
  resolved := Array.replicate 89 none
  statics := none }

/-- the primitive byte -/
def k21 : Class := { plain "byte" none with kind := .primitive 'B', accessFlags := 0x411 }
/-- [B -/
def k22 : Class := { plain "[B" (some 0) with kind := .array 21 .byte, interfaces := #[10, 11], accessFlags := 1041 }

/-- the primitive int -/
def k23 : Class := { plain "int" none with kind := .primitive 'I', accessFlags := 0x411 }
/-- [I -/
def k24 : Class := { plain "[I" (some 0) with kind := .array 23 .int, interfaces := #[10, 11], accessFlags := 1041 }

def heap : Heap := #[]
def classes : Array Class := #[k0, k1, k2, k3, k4, k5, k6, k7, k8, k9, k10, k11, k12, k13, k14, k15, k16, k17, k18, k19, k20, k21, k22, k23, k24]
def interned : List (Array UInt16 × Addr) := []
def slotsUsed : Nat := 0
def theMethod : MethodId := ⟨1, 1⟩
def args0 : Array Value := #[.int 5, .int 6, .int 7, .int 8]
def aboutOver (below : List Frame) : State where
  vm := { classes := classes, interned := interned.toArray }
  heap := heap
  slotsUsed := slotsUsed
  threads := #[{ frames := .invoking theMethod args0 :: below }]
def below0 : List Frame := [.native { method := ⟨0, 0⟩, args := #[] }]
def about1 : State := aboutOver below0
def p0 : Program := .bare "" "" ""
def e0 : Env := launch0.env 0 0 0
theorem w_frames : about1.frames = Frame.invoking theMethod args0 :: below0 := rfl
set_option maxRecDepth 65536 in
theorem w_args : argsFit about1.vm theMethod args0 = true := by decide +kernel
set_option maxRecDepth 65536 in
theorem w_heap : heapFits about1 = true := by decide +kernel
set_option maxRecDepth 65536 in
theorem w_runnable : about1.curStatus? = some .runnable := by decide +kernel
set_option maxRecDepth 65536 in
theorem w_alone : about1.alone = true := by decide +kernel
set_option maxRecDepth 65536 in
theorem w_named : about1.methodNamed? x = some theMethod := by decide +kernel
set_option maxRecDepth 65536 in
theorem w_hears : about1.hears theMethod below0 = true := by decide +kernel
set_option maxRecDepth 65536 in
theorem w_ripe : about1.ripe theMethod args0 below0 = true := by decide +kernel
theorem w_running : about1.status = .running := rfl
set_option maxRecDepth 65536 in
theorem w_room : about1.hasRoom e0.platform room_1 = true :=
  launch0.hasRoom_least _ room_1 (by decide +kernel) (by decide +kernel) (by decide +kernel) (by decide +kernel) (by decide +kernel) (by decide +kernel)
theorem allAtoms_all (ts : List Jvm.Cond) (a : Array Jvm.Value) (st : Jvm.State) : (allAtoms ts).before a st = ts.all (fun c => c.before a st) := by
  induction ts with
  | nil => rfl
  | cons c t ih =>
    show (Jvm.Cond.and c (allAtoms t)).before a st = _
    rw [Jvm.Cond.before_and, ih, List.all_cons]
def words1 : List Jvm.Cond := Jvm.Cond.code x code maxLocals ret :: tables_1
/-- a 'code' word, met by the world's own term for the bytes: nothing is compared byte by byte -/
theorem code_word {y : MethodName} {bytes : ByteArray} {mx : Nat} {rt : Option FieldType} {a : Array Value} {s : State} {m : MethodId} {meth : Method} {c : Code} (h1 : s.methodNamed? y = some m) (h2 : s.vm.method? m = some meth) (h3 : meth.code = some c) (h4 : c.code = bytes)
    (h5 : (c.maxLocals == mx && c.exceptionTable.isEmpty && decide (c.maxStack ≤ mostOperands) && decide (meth.sig.returnType = rt) && !meth.locks && decide (parseMethodDescriptor y.desc = some meth.sig)) = true) : (Jvm.Cond.code y bytes mx rt).before a s = true := by
  simp only [Bool.and_eq_true, beq_iff_eq, Bool.not_eq_true', decide_eq_true_eq] at h5
  obtain ⟨⟨⟨⟨⟨g1, g2⟩, g3⟩, g4⟩, g5⟩, g6⟩ := h5
  simp [Cond.before, Cond.holds, Cond.value, h1, h2, h3, h4, g1, g2, g3, g4, g5, g6]
def isCode : Jvm.Cond → Bool
  | .code _ _ _ _ => true
  | _ => false
theorem all_split {L : List Jvm.Cond} {P : Jvm.Cond → Bool} (h1 : L.all (fun c => isCode c || P c) = true) (h2 : ∀ c ∈ L.filter isCode, P c = true) : L.all P = true := by
  refine List.all_eq_true.mpr fun c hc => ?_
  have h := List.all_eq_true.mp h1 c hc
  rcases Bool.eq_false_or_eq_true (isCode c) with hi | hi
  · exact h2 c (List.mem_filter.mpr ⟨hc, hi⟩)
  · simpa [hi] using h
set_option maxRecDepth 65536 in
theorem w_c0 : (Jvm.Cond.code x code maxLocals ret).before args0 about1 = true := code_word (m := ⟨1, 1⟩) (meth := k1m1) (c := k1c1) (by decide +kernel) rfl rfl rfl (by decide +kernel)
set_option maxRecDepth 65536 in
theorem w_c1 : (Jvm.Cond.code ({ cls := "com/example/racewright/racewright/happensbefore/Location", name := "<init>", desc := "()V" } : Jvm.MethodName) prog_47_method_1_code (1 : Nat) (Option.none : Option Jvm.ClassFile.FieldType)).before args0 about1 = true := code_word (m := ⟨2, 0⟩) (meth := k2m0) (c := k2c0) (by decide +kernel) rfl rfl rfl (by decide +kernel)
set_option maxRecDepth 65536 in
theorem w_c2 : (Jvm.Cond.code ({ cls := "java/lang/Object", name := "<init>", desc := "()V" } : Jvm.MethodName) object_method_1_code (1 : Nat) (Option.none : Option Jvm.ClassFile.FieldType)).before args0 about1 = true := code_word (m := ⟨0, 0⟩) (meth := k0m0) (c := k0c0) (by decide +kernel) rfl rfl rfl (by decide +kernel)
set_option maxRecDepth 65536 in
theorem w_c3 : (Jvm.Cond.code ({ cls := "com/example/racewright/racewright/happensbefore/VectorClock", name := "<init>", desc := "()V" } : Jvm.MethodName) prog_63_method_1_code (1 : Nat) (Option.none : Option Jvm.ClassFile.FieldType)).before args0 about1 = true := code_word (m := ⟨4, 0⟩) (meth := k4m0) (c := k4c0) (by decide +kernel) rfl rfl rfl (by decide +kernel)
set_option maxRecDepth 65536 in
theorem w_c4 : (Jvm.Cond.code ({ cls := "com/example/racewright/racewright/happensbefore/ThreadState", name := "<init>", desc := "(ILcom/example/racewright/racewright/happensbefore/VectorClock;Z)V" } : Jvm.MethodName) prog_61_method_1_code (4 : Nat) (Option.none : Option Jvm.ClassFile.FieldType)).before args0 about1 = true := code_word (m := ⟨3, 0⟩) (meth := k3m0) (c := k3c0) (by decide +kernel) rfl rfl rfl (by decide +kernel)
set_option maxRecDepth 65536 in
theorem w_c5 : (Jvm.Cond.code ({ cls := "java/util/HashSet", name := "<init>", desc := "()V" } : Jvm.MethodName) jdk_93_method_1_code (1 : Nat) (Option.none : Option Jvm.ClassFile.FieldType)).before args0 about1 = true := code_word (m := ⟨12, 0⟩) (meth := k12m0) (c := k12c0) (by decide +kernel) rfl rfl rfl (by decide +kernel)
set_option maxRecDepth 65536 in
theorem w_c6 : (Jvm.Cond.code ({ cls := "java/util/AbstractSet", name := "<init>", desc := "()V" } : Jvm.MethodName) jdk_91_method_1_code (1 : Nat) (Option.none : Option Jvm.ClassFile.FieldType)).before args0 about1 = true := code_word (m := ⟨9, 0⟩) (meth := k9m0) (c := k9c0) (by decide +kernel) rfl rfl rfl (by decide +kernel)
set_option maxRecDepth 65536 in
theorem w_c7 : (Jvm.Cond.code ({ cls := "java/util/AbstractCollection", name := "<init>", desc := "()V" } : Jvm.MethodName) jdk_22_method_1_code (1 : Nat) (Option.none : Option Jvm.ClassFile.FieldType)).before args0 about1 = true := code_word (m := ⟨7, 0⟩) (meth := k7m0) (c := k7c0) (by decide +kernel) rfl rfl rfl (by decide +kernel)
set_option maxRecDepth 65536 in
theorem w_c8 : (Jvm.Cond.code ({ cls := "java/util/HashMap", name := "<init>", desc := "()V" } : Jvm.MethodName) jdk_69_method_7_code (1 : Nat) (Option.none : Option Jvm.ClassFile.FieldType)).before args0 about1 = true := code_word (m := ⟨15, 0⟩) (meth := k15m0) (c := k15c0) (by decide +kernel) rfl rfl rfl (by decide +kernel)
set_option maxRecDepth 65536 in
theorem w_c9 : (Jvm.Cond.code ({ cls := "java/util/AbstractMap", name := "<init>", desc := "()V" } : Jvm.MethodName) jdk_71_method_1_code (1 : Nat) (Option.none : Option Jvm.ClassFile.FieldType)).before args0 about1 = true := code_word (m := ⟨14, 0⟩) (meth := k14m0) (c := k14c0) (by decide +kernel) rfl rfl rfl (by decide +kernel)
set_option maxRecDepth 65536 in
theorem w_c10 : (Jvm.Cond.code ({ cls := "com/example/racewright/racewright/happensbefore/VectorClock", name := "set", desc := "(II)V" } : Jvm.MethodName) prog_63_method_4_code (3 : Nat) (Option.none : Option Jvm.ClassFile.FieldType)).before args0 about1 = true := code_word (m := ⟨4, 2⟩) (meth := k4m2) (c := k4c2) (by decide +kernel) rfl rfl rfl (by decide +kernel)
set_option maxRecDepth 65536 in
theorem w_c11 : (Jvm.Cond.code ({ cls := "com/example/racewright/racewright/happensbefore/VectorClock", name := "set", desc := "([III)[I" } : Jvm.MethodName) prog_63_method_10_code (4 : Nat) (Option.some (Jvm.ClassFile.FieldType.array Jvm.ClassFile.FieldType.int))).before args0 about1 = true := code_word (m := ⟨4, 3⟩) (meth := k4m3) (c := k4c3) (by decide +kernel) rfl rfl rfl (by decide +kernel)
set_option maxRecDepth 65536 in
theorem w_c12 : (Jvm.Cond.code ({ cls := "java/lang/Math", name := "max", desc := "(II)I" } : Jvm.MethodName) jdk_29_method_65_code (2 : Nat) (Option.some Jvm.ClassFile.FieldType.int)).before args0 about1 = true := code_word (m := ⟨16, 1⟩) (meth := k16m1) (c := k16c1) (by decide +kernel) rfl rfl rfl (by decide +kernel)
set_option maxRecDepth 65536 in
theorem w_c13 : (Jvm.Cond.code ({ cls := "java/util/Arrays", name := "copyOf", desc := "([II)[I" } : Jvm.MethodName) jdk_65_method_123_code (3 : Nat) (Option.some (Jvm.ClassFile.FieldType.array Jvm.ClassFile.FieldType.int))).before args0 about1 = true := code_word (m := ⟨17, 1⟩) (meth := k17m1) (c := k17c1) (by decide +kernel) rfl rfl rfl (by decide +kernel)
set_option maxRecDepth 65536 in
theorem w_c14 : (Jvm.Cond.code ({ cls := "java/lang/Math", name := "min", desc := "(II)I" } : Jvm.MethodName) jdk_29_method_69_code (2 : Nat) (Option.some Jvm.ClassFile.FieldType.int)).before args0 about1 = true := code_word (m := ⟨16, 2⟩) (meth := k16m2) (c := k16c2) (by decide +kernel) rfl rfl rfl (by decide +kernel)
set_option maxRecDepth 65536 in
theorem w_c15 : (Jvm.Cond.code ({ cls := "com/example/racewright/racewright/happensbefore/Location", name := "readAcross", desc := "(IZ)Z" } : Jvm.MethodName) prog_47_method_6_code (4 : Nat) (Option.some Jvm.ClassFile.FieldType.boolean)).before args0 about1 = true := code_word (m := ⟨2, 3⟩) (meth := k2m3) (c := k2c3) (by decide +kernel) rfl rfl rfl (by decide +kernel)
set_option maxRecDepth 65536 in
theorem w_c16 : (Jvm.Cond.code ({ cls := "com/example/racewright/racewright/happensbefore/Location", name := "written", desc := "(Lcom/example/racewright/racewright/happensbefore/ThreadState;Ljava/lang/String;Lcom/example/racewright/racewright/report/SourceLine;I)V" } : Jvm.MethodName) prog_47_method_4_code (5 : Nat) (Option.none : Option Jvm.ClassFile.FieldType)).before args0 about1 = true := code_word (m := ⟨2, 1⟩) (meth := k2m1) (c := k2c1) (by decide +kernel) rfl rfl rfl (by decide +kernel)
set_option maxRecDepth 65536 in
theorem w_c17 : (Jvm.Cond.code ({ cls := "com/example/racewright/racewright/happensbefore/ThreadState", name := "now", desc := "()I" } : Jvm.MethodName) prog_61_method_2_code (1 : Nat) (Option.some Jvm.ClassFile.FieldType.int)).before args0 about1 = true := code_word (m := ⟨3, 1⟩) (meth := k3m1) (c := k3c1) (by decide +kernel) rfl rfl rfl (by decide +kernel)
set_option maxRecDepth 65536 in
theorem w_c18 : (Jvm.Cond.code ({ cls := "com/example/racewright/racewright/happensbefore/VectorClock", name := "get", desc := "(I)I" } : Jvm.MethodName) prog_63_method_2_code (2 : Nat) (Option.some Jvm.ClassFile.FieldType.int)).before args0 about1 = true := code_word (m := ⟨4, 1⟩) (meth := k4m1) (c := k4c1) (by decide +kernel) rfl rfl rfl (by decide +kernel)
set_option maxRecDepth 65536 in
theorem w_c19 : (Jvm.Cond.code ({ cls := "com/example/racewright/racewright/happensbefore/Location$Write", name := "<init>", desc := "(IILjava/lang/String;Lcom/example/racewright/racewright/report/SourceLine;ILjava/lang/Object;)V" } : Jvm.MethodName) prog_48_method_1_code (7 : Nat) (Option.none : Option Jvm.ClassFile.FieldType)).before args0 about1 = true := code_word (m := ⟨20, 0⟩) (meth := k20m0) (c := k20c0) (by decide +kernel) rfl rfl rfl (by decide +kernel)
set_option maxRecDepth 65536 in
theorem w_c20 : (Jvm.Cond.code ({ cls := "java/lang/Record", name := "<init>", desc := "()V" } : Jvm.MethodName) jdk_30_method_1_code (1 : Nat) (Option.none : Option Jvm.ClassFile.FieldType)).before args0 about1 = true := code_word (m := ⟨19, 0⟩) (meth := k19m0) (c := k19c0) (by decide +kernel) rfl rfl rfl (by decide +kernel)
set_option maxRecDepth 65536 in
theorem w_c21 : (Jvm.Cond.code ({ cls := "com/example/racewright/racewright/happensbefore/Location", name := "read", desc := "(Lcom/example/racewright/racewright/happensbefore/ThreadState;)V" } : Jvm.MethodName) prog_47_method_5_code (2 : Nat) (Option.none : Option Jvm.ClassFile.FieldType)).before args0 about1 = true := code_word (m := ⟨2, 2⟩) (meth := k2m2) (c := k2c2) (by decide +kernel) rfl rfl rfl (by decide +kernel)
def codes1 : List Jvm.Cond := [Jvm.Cond.code x code maxLocals ret, Jvm.Cond.code ({ cls := "com/example/racewright/racewright/happensbefore/Location", name := "<init>", desc := "()V" } : Jvm.MethodName) prog_47_method_1_code (1 : Nat) (Option.none : Option Jvm.ClassFile.FieldType), Jvm.Cond.code ({ cls := "java/lang/Object", name := "<init>", desc := "()V" } : Jvm.MethodName) object_method_1_code (1 : Nat) (Option.none : Option Jvm.ClassFile.FieldType), Jvm.Cond.code ({ cls := "com/example/racewright/racewright/happensbefore/VectorClock", name := "<init>", desc := "()V" } : Jvm.MethodName) prog_63_method_1_code (1 : Nat) (Option.none : Option Jvm.ClassFile.FieldType), Jvm.Cond.code ({ cls := "com/example/racewright/racewright/happensbefore/ThreadState", name := "<init>", desc := "(ILcom/example/racewright/racewright/happensbefore/VectorClock;Z)V" } : Jvm.MethodName) prog_61_method_1_code (4 : Nat) (Option.none : Option Jvm.ClassFile.FieldType), Jvm.Cond.code ({ cls := "java/util/HashSet", name := "<init>", desc := "()V" } : Jvm.MethodName) jdk_93_method_1_code (1 : Nat) (Option.none : Option Jvm.ClassFile.FieldType), Jvm.Cond.code ({ cls := "java/util/AbstractSet", name := "<init>", desc := "()V" } : Jvm.MethodName) jdk_91_method_1_code (1 : Nat) (Option.none : Option Jvm.ClassFile.FieldType), Jvm.Cond.code ({ cls := "java/util/AbstractCollection", name := "<init>", desc := "()V" } : Jvm.MethodName) jdk_22_method_1_code (1 : Nat) (Option.none : Option Jvm.ClassFile.FieldType), Jvm.Cond.code ({ cls := "java/util/HashMap", name := "<init>", desc := "()V" } : Jvm.MethodName) jdk_69_method_7_code (1 : Nat) (Option.none : Option Jvm.ClassFile.FieldType), Jvm.Cond.code ({ cls := "java/util/AbstractMap", name := "<init>", desc := "()V" } : Jvm.MethodName) jdk_71_method_1_code (1 : Nat) (Option.none : Option Jvm.ClassFile.FieldType), Jvm.Cond.code ({ cls := "com/example/racewright/racewright/happensbefore/VectorClock", name := "set", desc := "(II)V" } : Jvm.MethodName) prog_63_method_4_code (3 : Nat) (Option.none : Option Jvm.ClassFile.FieldType), Jvm.Cond.code ({ cls := "com/example/racewright/racewright/happensbefore/VectorClock", name := "set", desc := "([III)[I" } : Jvm.MethodName) prog_63_method_10_code (4 : Nat) (Option.some (Jvm.ClassFile.FieldType.array Jvm.ClassFile.FieldType.int)), Jvm.Cond.code ({ cls := "java/lang/Math", name := "max", desc := "(II)I" } : Jvm.MethodName) jdk_29_method_65_code (2 : Nat) (Option.some Jvm.ClassFile.FieldType.int), Jvm.Cond.code ({ cls := "java/util/Arrays", name := "copyOf", desc := "([II)[I" } : Jvm.MethodName) jdk_65_method_123_code (3 : Nat) (Option.some (Jvm.ClassFile.FieldType.array Jvm.ClassFile.FieldType.int)), Jvm.Cond.code ({ cls := "java/lang/Math", name := "min", desc := "(II)I" } : Jvm.MethodName) jdk_29_method_69_code (2 : Nat) (Option.some Jvm.ClassFile.FieldType.int), Jvm.Cond.code ({ cls := "com/example/racewright/racewright/happensbefore/Location", name := "readAcross", desc := "(IZ)Z" } : Jvm.MethodName) prog_47_method_6_code (4 : Nat) (Option.some Jvm.ClassFile.FieldType.boolean), Jvm.Cond.code ({ cls := "com/example/racewright/racewright/happensbefore/Location", name := "written", desc := "(Lcom/example/racewright/racewright/happensbefore/ThreadState;Ljava/lang/String;Lcom/example/racewright/racewright/report/SourceLine;I)V" } : Jvm.MethodName) prog_47_method_4_code (5 : Nat) (Option.none : Option Jvm.ClassFile.FieldType), Jvm.Cond.code ({ cls := "com/example/racewright/racewright/happensbefore/ThreadState", name := "now", desc := "()I" } : Jvm.MethodName) prog_61_method_2_code (1 : Nat) (Option.some Jvm.ClassFile.FieldType.int), Jvm.Cond.code ({ cls := "com/example/racewright/racewright/happensbefore/VectorClock", name := "get", desc := "(I)I" } : Jvm.MethodName) prog_63_method_2_code (2 : Nat) (Option.some Jvm.ClassFile.FieldType.int), Jvm.Cond.code ({ cls := "com/example/racewright/racewright/happensbefore/Location$Write", name := "<init>", desc := "(IILjava/lang/String;Lcom/example/racewright/racewright/report/SourceLine;ILjava/lang/Object;)V" } : Jvm.MethodName) prog_48_method_1_code (7 : Nat) (Option.none : Option Jvm.ClassFile.FieldType), Jvm.Cond.code ({ cls := "java/lang/Record", name := "<init>", desc := "()V" } : Jvm.MethodName) jdk_30_method_1_code (1 : Nat) (Option.none : Option Jvm.ClassFile.FieldType), Jvm.Cond.code ({ cls := "com/example/racewright/racewright/happensbefore/Location", name := "read", desc := "(Lcom/example/racewright/racewright/happensbefore/ThreadState;)V" } : Jvm.MethodName) prog_47_method_5_code (2 : Nat) (Option.none : Option Jvm.ClassFile.FieldType)]
set_option maxRecDepth 65536 in
theorem codes_eq : words1.filter isCode = codes1 := rfl
theorem w_codes : ∀ c ∈ words1.filter isCode, c.before args0 about1 = true := by
  rw [codes_eq]
  intro c hc
  simp only [codes1, List.mem_cons, List.not_mem_nil, or_false] at hc
  rcases hc with rfl | rfl | rfl | rfl | rfl | rfl | rfl | rfl | rfl | rfl | rfl | rfl | rfl | rfl | rfl | rfl | rfl | rfl | rfl | rfl | rfl | rfl
  · exact w_c0
  · exact w_c1
  · exact w_c2
  · exact w_c3
  · exact w_c4
  · exact w_c5
  · exact w_c6
  · exact w_c7
  · exact w_c8
  · exact w_c9
  · exact w_c10
  · exact w_c11
  · exact w_c12
  · exact w_c13
  · exact w_c14
  · exact w_c15
  · exact w_c16
  · exact w_c17
  · exact w_c18
  · exact w_c19
  · exact w_c20
  · exact w_c21
set_option maxRecDepth 65536 in
theorem w_t1 : (words1.take 24).all (fun c => isCode c || c.before args0 about1) = true := by decide +kernel
set_option maxRecDepth 65536 in
theorem w_t2 : ((words1.drop 24).take 24).all (fun c => isCode c || c.before args0 about1) = true := by decide +kernel
set_option maxRecDepth 65536 in
theorem w_t3 : (((words1.drop 24).drop 24).take 24).all (fun c => isCode c || c.before args0 about1) = true := by decide +kernel
set_option maxRecDepth 65536 in
theorem w_t4 : ((((words1.drop 24).drop 24).drop 24).take 24).all (fun c => isCode c || c.before args0 about1) = true := by decide +kernel
set_option maxRecDepth 65536 in
theorem w_t5 : (((((words1.drop 24).drop 24).drop 24).drop 24).take 24).all (fun c => isCode c || c.before args0 about1) = true := by decide +kernel
set_option maxRecDepth 65536 in
theorem w_t6 : ((((((words1.drop 24).drop 24).drop 24).drop 24).drop 24).take 24).all (fun c => isCode c || c.before args0 about1) = true := by decide +kernel
set_option maxRecDepth 65536 in
theorem w_t7 : ((((((words1.drop 24).drop 24).drop 24).drop 24).drop 24).drop 24).all (fun c => isCode c || c.before args0 about1) = true := by decide +kernel
theorem w_tables : (allAtoms (Jvm.Cond.code x code maxLocals ret :: tables_1)).before args0 about1 = true := by
  rw [allAtoms_all]
  show words1.all (fun c => c.before args0 about1) = true
  refine all_split ?_ w_codes
  rw [← List.take_append_drop 24 words1, List.all_append, w_t1, ← List.take_append_drop 24 (words1.drop 24), List.all_append, w_t2, ← List.take_append_drop 24 ((words1.drop 24).drop 24), List.all_append, w_t3, ← List.take_append_drop 24 (((words1.drop 24).drop 24).drop 24), List.all_append, w_t4, ← List.take_append_drop 24 ((((words1.drop 24).drop 24).drop 24).drop 24), List.all_append, w_t5, ← List.take_append_drop 24 (((((words1.drop 24).drop 24).drop 24).drop 24).drop 24), List.all_append, w_t6, w_t7]
  rfl
set_option maxRecDepth 65536 in
theorem w_case : (Jvm.Cond.and given_1 narrow_1).before args0 about1 = true := by decide +kernel
theorem w_applies : (headSpec (Jvm.Cond.code x code maxLocals ret :: tables_1) room_1).applies x e0.platform about1 = true :=
  (Spec.applies_iff w_frames).mpr ⟨w_running, w_runnable, w_alone, w_named, w_hears, w_ripe, w_room, w_tables⟩
theorem atStart : AtStart classFile x code maxLocals ret World_1 tables_1 room_1 Calls_1 rest_1 Pre_1 launch0 p0 e0 about1 theMethod args0 below0 :=
  ⟨lists_1, trivial, launch0.admits_env _ _ _, launch0.least_env, fairChoices_fair.cas, fairChoices_fair.clock, w_frames, w_args, w_heap, w_applies, trivial, trivial, w_case⟩
end start1
theorem witness_1 : WitnessClaimed_1 := ⟨start1.p0, start1.e0, start1.about1, start1.theMethod, start1.args0, start1.below0, start1.atStart⟩
end Jvm.Pilot.@@N@@
