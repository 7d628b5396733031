import JvmDerived
import JvmDerived.Pilot.@@N@@Statement
import JvmDerived.Pilot.@@N@@Code
set_option linter.unusedVariables false
set_option linter.unusedSimpArgs false
namespace Jvm.Pilot.@@N@@
open Jvm Jvm.ClassFile Sem Op Lib Jvm.Free Jvm.Stand Jvm.LawKit Jvm.RoadKit Bundle Jvm.Pilot.@@N@@.Jvm.D
section OwnKit
variable {Z : State} {p : Program} {l : Launch} {e : Env} {R : Room} {s : State} {m : MethodId} {args : Array Value} {below : List Frame} {meth : Method} {c : Code} {n0 : Nat} {own : String} {bytes : ByteArray} {maxL : Nat} {nm : String} {ret : Option FieldType} {T : State} {h : Heap} {cells slots : Nat} {G : Outcome → State → Prop} {L : Array Slot} {st : List Value} {pc pc' : Nat} {a0 : Array Value}
def own_Fin (p : Program) (e : Env) (below : List Frame) (G : Outcome → State → Prop) (t : State) : Prop :=
  ∃ s₂ o, Steps p.tables e below t s₂ ∧ s₂.status = .running ∧ Ended s₂ below o ∧ G o s₂
theorem own_go {a a' : State} (k : ∀ t, Steps p.tables e below a' t → Steps p.tables e below a t) (q : own_Fin p e below G a') : own_Fin p e below G a := by
  obtain ⟨s2, o, h1, h2⟩ := q
  exact ⟨s2, o, k _ h1, h2⟩
def own_Cx (Z : State) (p : Program) (l : Launch) (e : Env) (R : Room) (s : State) (m : MethodId) (args : Array Value) (below : List Frame) (meth : Method) (c : Code) (n0 : Nat) (own : String) (bytes : ByteArray) (maxL : Nat) (nm : String) (ret : Option FieldType) (T : State) (h : Heap) (cells slots : Nat) : Prop :=
  ∃ locs, Stand p l e R s m args below meth c T locs cells slots ∧ Fr n0 locs ∧ T.heap = h ∧ p.tables.exec = Jvm.exec ∧ Z.Warmed39 s.vm ∧ s.vm.findClass own = some m.cls ∧ c.code = bytes ∧ c.maxLocals = maxL ∧ meth.name = nm ∧ meth.sig.returnType = ret ∧ meth.locks = false
def own_End (s : State) (n0 : Nat) (q : Option Value → Heap → Prop) (k n : Nat) (o : Outcome) (U' : State) : Prop :=
  ∃ v L, o = .returned v ∧ (q v U'.heap ∧ Fr n0 L) ∧ FrameEnd s o U' L k n
def own_Met (l : Launch) (Z : State) (y : MethodName) (bytes : ByteArray) (maxL : Nat) (ret : Option FieldType) (ws : List Jvm.Cond) (rm : Room) (as' : Array Value) (h0 : Heap) (n0 : Nat) (q : Option Value → Heap → Prop) : Prop :=
  MetFree l y (head1 (Jvm.Cond.code y bytes maxL ret :: ws) rm) (fun a U => a = as' ∧ Z.Warmed39 U.vm ∧ U.heap = h0) (fun _ _ _ _ _ => True) (fun _ U o U' => own_End U n0 q rm.cells rm.slots o U')
theorem own_enter {y : MethodName} {ws : List Jvm.Cond} {rm : Room} {as' : Array Value} {h0 : Heap} {q : Option Value → Heap → Prop} {L0 : Array Slot} {own nm : String} (ho : y.cls = own) (hnm0 : y.name = nm) (pn : plainFor y = true) (ef : ∀ m, entryFrame m as' maxL = mkF m 0 L0 [])
    (body : ∀ p e s m below meth c T, own_Cx Z p l e rm s m as' below meth c n0 own bytes maxL nm ret T h0 0 0 → own_Fin p e below (own_End s n0 q rm.cells rm.slots) (T.setTop (mkF m 0 L0 []))) :
    own_Met l Z y bytes maxL ret ws rm as' h0 n0 q := by
  subst ho hnm0
  refine MetFree.of_bodySF pn hisR ?_
  intro p e s m args below meth c s₁ Bd hml0 hP hK
  obtain ⟨rfl, hZ, hh⟩ := hP
  have hnm := (name_of_methodNamed Bd.named Bd.method).1
  have e0 : s₁.heap = h0 := by rw [← hh, Bd.state]; rfl
  obtain ⟨s2, o, k1, k2, k3, k4⟩ := body p e s m below meth c s₁ ⟨[], Stand.of_body Bd, Fr.nil _, e0, Bd.exec, hZ, findClass_of_methodNamed Bd.named, Bd.bytes, hml0, hnm, Bd.returns, Bd.notSynchronized⟩
  exact ⟨s2, o, castTop (ef m) k1, k2, k3, k4⟩
theorem own_iload (X : own_Cx Z p l e R s m args below meth c n0 own bytes maxL nm ret T h cells slots) {k : Nat} {v : Int32} (d : decode bytes pc = .ok (.iload k, 2)) (hp : pc + 2 = pc') (hl : L[k]? = some (.val (.int v)))
    (q : own_Fin p e below G (T.setTop (mkF m pc' L ((.int v) :: st)))) : own_Fin p e below G (T.setTop (mkF m pc L (st))) := by
  obtain ⟨locs, X, N, eT, hx, hZ, hown, hby, hml, hnm, hret, hlk⟩ := X
  subst hp
  exact own_go (fun t k => XS.iload X.here hx rfl (hb hby d) hl k) q
theorem own_lload (X : own_Cx Z p l e R s m args below meth c n0 own bytes maxL nm ret T h cells slots) {k : Nat} {v : Int64} (d : decode bytes pc = .ok (.lload k, 2)) (hp : pc + 2 = pc') (hl : L[k]? = some (.val (.long v)))
    (q : own_Fin p e below G (T.setTop (mkF m pc' L ((.long v) :: st)))) : own_Fin p e below G (T.setTop (mkF m pc L (st))) := by
  obtain ⟨locs, X, N, eT, hx, hZ, hown, hby, hml, hnm, hret, hlk⟩ := X
  subst hp
  exact own_go (fun t k => XT.lload X.here hx rfl (hb hby d) hl k) q
theorem own_iloadN (X : own_Cx Z p l e R s m args below meth c n0 own bytes maxL nm ret T h cells slots) {k : Fin 4} {v : Int32} (d : decode bytes pc = .ok (.iload_n k, 1)) (hp : pc + 1 = pc') (hl : L[k.val]? = some (.val (.int v)))
    (q : own_Fin p e below G (T.setTop (mkF m pc' L ((.int v) :: st)))) : own_Fin p e below G (T.setTop (mkF m pc L (st))) := by
  obtain ⟨locs, X, N, eT, hx, hZ, hown, hby, hml, hnm, hret, hlk⟩ := X
  subst hp
  exact own_go (fun t k => XS.iloadN X.here hx rfl (hb hby d) hl k) q
theorem own_lloadN (X : own_Cx Z p l e R s m args below meth c n0 own bytes maxL nm ret T h cells slots) {k : Fin 4} {v : Int64} (d : decode bytes pc = .ok (.lload_n k, 1)) (hp : pc + 1 = pc') (hl : L[k.val]? = some (.val (.long v)))
    (q : own_Fin p e below G (T.setTop (mkF m pc' L ((.long v) :: st)))) : own_Fin p e below G (T.setTop (mkF m pc L (st))) := by
  obtain ⟨locs, X, N, eT, hx, hZ, hown, hby, hml, hnm, hret, hlk⟩ := X
  subst hp
  exact own_go (fun t k => XT.lloadN X.here hx rfl (hb hby d) hl k) q
theorem own_aload (X : own_Cx Z p l e R s m args below meth c n0 own bytes maxL nm ret T h cells slots) {k : Nat} {v : Value} (d : decode bytes pc = .ok (.aload k, 2)) (hp : pc + 2 = pc') (hl : L[k]? = some (.val v)) (hv : v.isRef = true)
    (q : own_Fin p e below G (T.setTop (mkF m pc' L (v :: st)))) : own_Fin p e below G (T.setTop (mkF m pc L (st))) := by
  obtain ⟨locs, X, N, eT, hx, hZ, hown, hby, hml, hnm, hret, hlk⟩ := X
  subst hp
  exact own_go (fun t k => XS.aload X.here hx rfl (hb hby d) hl hv k) q
theorem own_aloadN (X : own_Cx Z p l e R s m args below meth c n0 own bytes maxL nm ret T h cells slots) {k : Fin 4} {v : Value} (d : decode bytes pc = .ok (.aload_n k, 1)) (hp : pc + 1 = pc') (hl : L[k.val]? = some (.val v)) (hv : v.isRef = true)
    (q : own_Fin p e below G (T.setTop (mkF m pc' L (v :: st)))) : own_Fin p e below G (T.setTop (mkF m pc L (st))) := by
  obtain ⟨locs, X, N, eT, hx, hZ, hown, hby, hml, hnm, hret, hlk⟩ := X
  subst hp
  exact own_go (fun t k => XS.aloadN X.here hx rfl (hb hby d) hl hv k) q
theorem own_istore (X : own_Cx Z p l e R s m args below meth c n0 own bytes maxL nm ret T h cells slots) {k : Nat} {v : Int32} {L' : Array Slot} (d : decode bytes pc = .ok (.istore k, 2)) (hp : pc + 2 = pc') (hl : storeLocals L k (.int v) = some L')
    (q : own_Fin p e below G (T.setTop (mkF m pc' L' (st)))) : own_Fin p e below G (T.setTop (mkF m pc L ((.int v) :: st))) := by
  obtain ⟨locs, X, N, eT, hx, hZ, hown, hby, hml, hnm, hret, hlk⟩ := X
  subst hp
  exact own_go (fun t k => XS.istore X.here hx rfl (hb hby d) rfl hl k) q
theorem own_lstore (X : own_Cx Z p l e R s m args below meth c n0 own bytes maxL nm ret T h cells slots) {k : Nat} {v : Int64} {L' : Array Slot} (d : decode bytes pc = .ok (.lstore k, 2)) (hp : pc + 2 = pc') (hl : storeLocals L k (.long v) = some L')
    (q : own_Fin p e below G (T.setTop (mkF m pc' L' (st)))) : own_Fin p e below G (T.setTop (mkF m pc L ((.long v) :: st))) := by
  obtain ⟨locs, X, N, eT, hx, hZ, hown, hby, hml, hnm, hret, hlk⟩ := X
  subst hp
  exact own_go (fun t k => XT.lstore X.here hx rfl (hb hby d) rfl hl k) q
theorem own_istoreN (X : own_Cx Z p l e R s m args below meth c n0 own bytes maxL nm ret T h cells slots) {k : Fin 4} {v : Int32} {L' : Array Slot} (d : decode bytes pc = .ok (.istore_n k, 1)) (hp : pc + 1 = pc') (hl : storeLocals L k.val (.int v) = some L')
    (q : own_Fin p e below G (T.setTop (mkF m pc' L' (st)))) : own_Fin p e below G (T.setTop (mkF m pc L ((.int v) :: st))) := by
  obtain ⟨locs, X, N, eT, hx, hZ, hown, hby, hml, hnm, hret, hlk⟩ := X
  subst hp
  exact own_go (fun t k => XS.istoreN X.here hx rfl (hb hby d) rfl hl k) q
theorem own_lstoreN (X : own_Cx Z p l e R s m args below meth c n0 own bytes maxL nm ret T h cells slots) {k : Fin 4} {v : Int64} {L' : Array Slot} (d : decode bytes pc = .ok (.lstore_n k, 1)) (hp : pc + 1 = pc') (hl : storeLocals L k.val (.long v) = some L')
    (q : own_Fin p e below G (T.setTop (mkF m pc' L' (st)))) : own_Fin p e below G (T.setTop (mkF m pc L ((.long v) :: st))) := by
  obtain ⟨locs, X, N, eT, hx, hZ, hown, hby, hml, hnm, hret, hlk⟩ := X
  subst hp
  exact own_go (fun t k => XT.lstoreN X.here hx rfl (hb hby d) rfl hl k) q
theorem own_astore (X : own_Cx Z p l e R s m args below meth c n0 own bytes maxL nm ret T h cells slots) {k : Nat} {v : Value} {L' : Array Slot} (d : decode bytes pc = .ok (.astore k, 2)) (hp : pc + 2 = pc') (hv : v.isRef = true) (hl : storeLocals L k v = some L')
    (q : own_Fin p e below G (T.setTop (mkF m pc' L' (st)))) : own_Fin p e below G (T.setTop (mkF m pc L (v :: st))) := by
  obtain ⟨locs, X, N, eT, hx, hZ, hown, hby, hml, hnm, hret, hlk⟩ := X
  subst hp
  exact own_go (fun t k => XS.astore X.here hx rfl (hb hby d) rfl hv hl k) q
theorem own_astoreN (X : own_Cx Z p l e R s m args below meth c n0 own bytes maxL nm ret T h cells slots) {k : Fin 4} {v : Value} {L' : Array Slot} (d : decode bytes pc = .ok (.astore_n k, 1)) (hp : pc + 1 = pc') (hv : v.isRef = true) (hl : storeLocals L k.val v = some L')
    (q : own_Fin p e below G (T.setTop (mkF m pc' L' (st)))) : own_Fin p e below G (T.setTop (mkF m pc L (v :: st))) := by
  obtain ⟨locs, X, N, eT, hx, hZ, hown, hby, hml, hnm, hret, hlk⟩ := X
  subst hp
  exact own_go (fun t k => XS.astoreN X.here hx rfl (hb hby d) rfl hv hl k) q
theorem own_iinc (X : own_Cx Z p l e R s m args below meth c n0 own bytes maxL nm ret T h cells slots) {k : Nat} {x : Int32} {i : Int} {L' : Array Slot} (v : Int32) (d : decode bytes pc = .ok (.iinc k i, 3)) (hp : pc + 3 = pc') (hv : Int32.ofInt i = v) (hl : L[k]? = some (.val (.int x))) (hl' : storeLocals L k (.int (x + v)) = some L')
    (q : own_Fin p e below G (T.setTop (mkF m pc' L' (st)))) : own_Fin p e below G (T.setTop (mkF m pc L (st))) := by
  obtain ⟨locs, X, N, eT, hx, hZ, hown, hby, hml, hnm, hret, hlk⟩ := X
  subst hp
  exact own_go (fun t k => XT.iincV X.here hx rfl v (hb hby d) hv hl hl' k) q
theorem own_iconst (X : own_Cx Z p l e R s m args below meth c n0 own bytes maxL nm ret T h cells slots) {i : Int} (v : Int32) (d : decode bytes pc = .ok (.iconst i, 1)) (hp : pc + 1 = pc') (hv : Int32.ofInt i = v)
    (q : own_Fin p e below G (T.setTop (mkF m pc' L ((.int v) :: st)))) : own_Fin p e below G (T.setTop (mkF m pc L (st))) := by
  obtain ⟨locs, X, N, eT, hx, hZ, hown, hby, hml, hnm, hret, hlk⟩ := X
  subst hp
  exact own_go (fun t k => XT.iconstV X.here hx rfl v (hb hby d) hv k) q
theorem own_bipush (X : own_Cx Z p l e R s m args below meth c n0 own bytes maxL nm ret T h cells slots) {i : Int} (v : Int32) (d : decode bytes pc = .ok (.bipush i, 2)) (hp : pc + 2 = pc') (hv : (Int8.ofInt i).toInt32 = v)
    (q : own_Fin p e below G (T.setTop (mkF m pc' L ((.int v) :: st)))) : own_Fin p e below G (T.setTop (mkF m pc L (st))) := by
  obtain ⟨locs, X, N, eT, hx, hZ, hown, hby, hml, hnm, hret, hlk⟩ := X
  subst hp
  exact own_go (fun t k => XT.bipushV X.here hx rfl v (hb hby d) hv k) q
theorem own_sipush (X : own_Cx Z p l e R s m args below meth c n0 own bytes maxL nm ret T h cells slots) {i : Int} (v : Int32) (d : decode bytes pc = .ok (.sipush i, 3)) (hp : pc + 3 = pc') (hv : (Int16.ofInt i).toInt32 = v)
    (q : own_Fin p e below G (T.setTop (mkF m pc' L ((.int v) :: st)))) : own_Fin p e below G (T.setTop (mkF m pc L (st))) := by
  obtain ⟨locs, X, N, eT, hx, hZ, hown, hby, hml, hnm, hret, hlk⟩ := X
  subst hp
  exact own_go (fun t k => XT.sipushV X.here hx rfl v (hb hby d) hv k) q
theorem own_lconst (X : own_Cx Z p l e R s m args below meth c n0 own bytes maxL nm ret T h cells slots) {i : Fin 2} (v : Int64) (d : decode bytes pc = .ok (.lconst i, 1)) (hp : pc + 1 = pc') (hv : Int64.ofNat i = v)
    (q : own_Fin p e below G (T.setTop (mkF m pc' L ((.long v) :: st)))) : own_Fin p e below G (T.setTop (mkF m pc L (st))) := by
  obtain ⟨locs, X, N, eT, hx, hZ, hown, hby, hml, hnm, hret, hlk⟩ := X
  subst hp
  exact own_go (fun t k => XT.lconstV X.here hx rfl v (hb hby d) hv k) q
theorem own_aconst_null (X : own_Cx Z p l e R s m args below meth c n0 own bytes maxL nm ret T h cells slots)  (d : decode bytes pc = .ok (.aconst_null, 1)) (hp : pc + 1 = pc') 
    (q : own_Fin p e below G (T.setTop (mkF m pc' L (.null :: st)))) : own_Fin p e below G (T.setTop (mkF m pc L (st))) := by
  obtain ⟨locs, X, N, eT, hx, hZ, hown, hby, hml, hnm, hret, hlk⟩ := X
  subst hp
  exact own_go (fun t k => XS.aconstNull X.here hx rfl (hb hby d) k) q
theorem own_iadd (X : own_Cx Z p l e R s m args below meth c n0 own bytes maxL nm ret T h cells slots) {x y : Int32} (d : decode bytes pc = .ok (.iadd, 1)) (hp : pc + 1 = pc') 
    (q : own_Fin p e below G (T.setTop (mkF m pc' L ((.int (x + y)) :: st)))) : own_Fin p e below G (T.setTop (mkF m pc L ((.int y) :: (.int x) :: st))) := by
  obtain ⟨locs, X, N, eT, hx, hZ, hown, hby, hml, hnm, hret, hlk⟩ := X
  subst hp
  exact own_go (fun t k => XS.iadd X.here hx rfl (hb hby d) rfl k) q
theorem own_isub (X : own_Cx Z p l e R s m args below meth c n0 own bytes maxL nm ret T h cells slots) {x y : Int32} (d : decode bytes pc = .ok (.isub, 1)) (hp : pc + 1 = pc') 
    (q : own_Fin p e below G (T.setTop (mkF m pc' L ((.int (x - y)) :: st)))) : own_Fin p e below G (T.setTop (mkF m pc L ((.int y) :: (.int x) :: st))) := by
  obtain ⟨locs, X, N, eT, hx, hZ, hown, hby, hml, hnm, hret, hlk⟩ := X
  subst hp
  exact own_go (fun t k => XS.isub X.here hx rfl (hb hby d) rfl k) q
theorem own_iand (X : own_Cx Z p l e R s m args below meth c n0 own bytes maxL nm ret T h cells slots) {x y : Int32} (d : decode bytes pc = .ok (.iand, 1)) (hp : pc + 1 = pc') 
    (q : own_Fin p e below G (T.setTop (mkF m pc' L ((.int (x &&& y)) :: st)))) : own_Fin p e below G (T.setTop (mkF m pc L ((.int y) :: (.int x) :: st))) := by
  obtain ⟨locs, X, N, eT, hx, hZ, hown, hby, hml, hnm, hret, hlk⟩ := X
  subst hp
  exact own_go (fun t k => XS.iand X.here hx rfl (hb hby d) rfl k) q
theorem own_imul (X : own_Cx Z p l e R s m args below meth c n0 own bytes maxL nm ret T h cells slots) {x y : Int32} (d : decode bytes pc = .ok (.imul, 1)) (hp : pc + 1 = pc') 
    (q : own_Fin p e below G (T.setTop (mkF m pc' L ((.int (x * y)) :: st)))) : own_Fin p e below G (T.setTop (mkF m pc L ((.int y) :: (.int x) :: st))) := by
  obtain ⟨locs, X, N, eT, hx, hZ, hown, hby, hml, hnm, hret, hlk⟩ := X
  subst hp
  exact own_go (fun t k => XS.imul X.here hx rfl (hb hby d) rfl k) q
theorem own_irem (X : own_Cx Z p l e R s m args below meth c n0 own bytes maxL nm ret T h cells slots) {x y : Int32} (d : decode bytes pc = .ok (.irem, 1)) (hp : pc + 1 = pc') (hy : y ≠ 0)
    (q : own_Fin p e below G (T.setTop (mkF m pc' L ((.int (x % y)) :: st)))) : own_Fin p e below G (T.setTop (mkF m pc L ((.int y) :: (.int x) :: st))) := by
  obtain ⟨locs, X, N, eT, hx, hZ, hown, hby, hml, hnm, hret, hlk⟩ := X
  subst hp
  exact own_go (fun t k => iremM X hx rfl (hb hby d) rfl hy k) q
theorem own_ixor (X : own_Cx Z p l e R s m args below meth c n0 own bytes maxL nm ret T h cells slots) {x y : Int32} (d : decode bytes pc = .ok (.ixor, 1)) (hp : pc + 1 = pc') 
    (q : own_Fin p e below G (T.setTop (mkF m pc' L ((.int (x ^^^ y)) :: st)))) : own_Fin p e below G (T.setTop (mkF m pc L ((.int y) :: (.int x) :: st))) := by
  obtain ⟨locs, X, N, eT, hx, hZ, hown, hby, hml, hnm, hret, hlk⟩ := X
  subst hp
  exact own_go (fun t k => XT.ixor X.here hx rfl (hb hby d) rfl k) q
theorem own_ior (X : own_Cx Z p l e R s m args below meth c n0 own bytes maxL nm ret T h cells slots) {x y : Int32} (d : decode bytes pc = .ok (.ior, 1)) (hp : pc + 1 = pc') 
    (q : own_Fin p e below G (T.setTop (mkF m pc' L ((.int (x ||| y)) :: st)))) : own_Fin p e below G (T.setTop (mkF m pc L ((.int y) :: (.int x) :: st))) := by
  obtain ⟨locs, X, N, eT, hx, hZ, hown, hby, hml, hnm, hret, hlk⟩ := X
  subst hp
  exact own_go (fun t k => XT.ior X.here hx rfl (hb hby d) rfl k) q
theorem own_ishl (X : own_Cx Z p l e R s m args below meth c n0 own bytes maxL nm ret T h cells slots) {x y : Int32} (d : decode bytes pc = .ok (.ishl, 1)) (hp : pc + 1 = pc') 
    (q : own_Fin p e below G (T.setTop (mkF m pc' L ((.int (x <<< (y &&& 31))) :: st)))) : own_Fin p e below G (T.setTop (mkF m pc L ((.int y) :: (.int x) :: st))) := by
  obtain ⟨locs, X, N, eT, hx, hZ, hown, hby, hml, hnm, hret, hlk⟩ := X
  subst hp
  exact own_go (fun t k => XT.ishl X.here hx rfl (hb hby d) rfl k) q
theorem own_ishr (X : own_Cx Z p l e R s m args below meth c n0 own bytes maxL nm ret T h cells slots) {x y : Int32} (d : decode bytes pc = .ok (.ishr, 1)) (hp : pc + 1 = pc') 
    (q : own_Fin p e below G (T.setTop (mkF m pc' L ((.int (x >>> (y &&& 31))) :: st)))) : own_Fin p e below G (T.setTop (mkF m pc L ((.int y) :: (.int x) :: st))) := by
  obtain ⟨locs, X, N, eT, hx, hZ, hown, hby, hml, hnm, hret, hlk⟩ := X
  subst hp
  exact own_go (fun t k => XT.ishr X.here hx rfl (hb hby d) rfl k) q
theorem own_iushr (X : own_Cx Z p l e R s m args below meth c n0 own bytes maxL nm ret T h cells slots) {x y : Int32} (d : decode bytes pc = .ok (.iushr, 1)) (hp : pc + 1 = pc') 
    (q : own_Fin p e below G (T.setTop (mkF m pc' L ((.int (XT.ushr x y)) :: st)))) : own_Fin p e below G (T.setTop (mkF m pc L ((.int y) :: (.int x) :: st))) := by
  obtain ⟨locs, X, N, eT, hx, hZ, hown, hby, hml, hnm, hret, hlk⟩ := X
  subst hp
  exact own_go (fun t k => XT.iushr X.here hx rfl (hb hby d) rfl k) q
theorem own_ladd (X : own_Cx Z p l e R s m args below meth c n0 own bytes maxL nm ret T h cells slots) {x y : Int64} (d : decode bytes pc = .ok (.ladd, 1)) (hp : pc + 1 = pc') 
    (q : own_Fin p e below G (T.setTop (mkF m pc' L ((.long (x + y)) :: st)))) : own_Fin p e below G (T.setTop (mkF m pc L ((.long y) :: (.long x) :: st))) := by
  obtain ⟨locs, X, N, eT, hx, hZ, hown, hby, hml, hnm, hret, hlk⟩ := X
  subst hp
  exact own_go (fun t k => XT.ladd X.here hx rfl (hb hby d) rfl k) q
theorem own_lsub (X : own_Cx Z p l e R s m args below meth c n0 own bytes maxL nm ret T h cells slots) {x y : Int64} (d : decode bytes pc = .ok (.lsub, 1)) (hp : pc + 1 = pc') 
    (q : own_Fin p e below G (T.setTop (mkF m pc' L ((.long (x - y)) :: st)))) : own_Fin p e below G (T.setTop (mkF m pc L ((.long y) :: (.long x) :: st))) := by
  obtain ⟨locs, X, N, eT, hx, hZ, hown, hby, hml, hnm, hret, hlk⟩ := X
  subst hp
  exact own_go (fun t k => XT.lsub X.here hx rfl (hb hby d) rfl k) q
theorem own_lmul (X : own_Cx Z p l e R s m args below meth c n0 own bytes maxL nm ret T h cells slots) {x y : Int64} (d : decode bytes pc = .ok (.lmul, 1)) (hp : pc + 1 = pc') 
    (q : own_Fin p e below G (T.setTop (mkF m pc' L ((.long (x * y)) :: st)))) : own_Fin p e below G (T.setTop (mkF m pc L ((.long y) :: (.long x) :: st))) := by
  obtain ⟨locs, X, N, eT, hx, hZ, hown, hby, hml, hnm, hret, hlk⟩ := X
  subst hp
  exact own_go (fun t k => XT.lmul X.here hx rfl (hb hby d) rfl k) q
theorem own_land (X : own_Cx Z p l e R s m args below meth c n0 own bytes maxL nm ret T h cells slots) {x y : Int64} (d : decode bytes pc = .ok (.land, 1)) (hp : pc + 1 = pc') 
    (q : own_Fin p e below G (T.setTop (mkF m pc' L ((.long (x &&& y)) :: st)))) : own_Fin p e below G (T.setTop (mkF m pc L ((.long y) :: (.long x) :: st))) := by
  obtain ⟨locs, X, N, eT, hx, hZ, hown, hby, hml, hnm, hret, hlk⟩ := X
  subst hp
  exact own_go (fun t k => XT.land X.here hx rfl (hb hby d) rfl k) q
theorem own_lor (X : own_Cx Z p l e R s m args below meth c n0 own bytes maxL nm ret T h cells slots) {x y : Int64} (d : decode bytes pc = .ok (.lor, 1)) (hp : pc + 1 = pc') 
    (q : own_Fin p e below G (T.setTop (mkF m pc' L ((.long (x ||| y)) :: st)))) : own_Fin p e below G (T.setTop (mkF m pc L ((.long y) :: (.long x) :: st))) := by
  obtain ⟨locs, X, N, eT, hx, hZ, hown, hby, hml, hnm, hret, hlk⟩ := X
  subst hp
  exact own_go (fun t k => XT.lor X.here hx rfl (hb hby d) rfl k) q
theorem own_lxor (X : own_Cx Z p l e R s m args below meth c n0 own bytes maxL nm ret T h cells slots) {x y : Int64} (d : decode bytes pc = .ok (.lxor, 1)) (hp : pc + 1 = pc') 
    (q : own_Fin p e below G (T.setTop (mkF m pc' L ((.long (x ^^^ y)) :: st)))) : own_Fin p e below G (T.setTop (mkF m pc L ((.long y) :: (.long x) :: st))) := by
  obtain ⟨locs, X, N, eT, hx, hZ, hown, hby, hml, hnm, hret, hlk⟩ := X
  subst hp
  exact own_go (fun t k => XT.lxor X.here hx rfl (hb hby d) rfl k) q
theorem own_lshl (X : own_Cx Z p l e R s m args below meth c n0 own bytes maxL nm ret T h cells slots) {x : Int64} {y : Int32} (d : decode bytes pc = .ok (.lshl, 1)) (hp : pc + 1 = pc') 
    (q : own_Fin p e below G (T.setTop (mkF m pc' L ((.long (x <<< (y.toInt64 &&& 63))) :: st)))) : own_Fin p e below G (T.setTop (mkF m pc L ((.int y) :: (.long x) :: st))) := by
  obtain ⟨locs, X, N, eT, hx, hZ, hown, hby, hml, hnm, hret, hlk⟩ := X
  subst hp
  exact own_go (fun t k => XT.lshl X.here hx rfl (hb hby d) rfl k) q
theorem own_lshr (X : own_Cx Z p l e R s m args below meth c n0 own bytes maxL nm ret T h cells slots) {x : Int64} {y : Int32} (d : decode bytes pc = .ok (.lshr, 1)) (hp : pc + 1 = pc') 
    (q : own_Fin p e below G (T.setTop (mkF m pc' L ((.long (x >>> (y.toInt64 &&& 63))) :: st)))) : own_Fin p e below G (T.setTop (mkF m pc L ((.int y) :: (.long x) :: st))) := by
  obtain ⟨locs, X, N, eT, hx, hZ, hown, hby, hml, hnm, hret, hlk⟩ := X
  subst hp
  exact own_go (fun t k => XT.lshr X.here hx rfl (hb hby d) rfl k) q
theorem own_lushr (X : own_Cx Z p l e R s m args below meth c n0 own bytes maxL nm ret T h cells slots) {x : Int64} {y : Int32} (d : decode bytes pc = .ok (.lushr, 1)) (hp : pc + 1 = pc') 
    (q : own_Fin p e below G (T.setTop (mkF m pc' L ((.long (XT.ushrL x y)) :: st)))) : own_Fin p e below G (T.setTop (mkF m pc L ((.int y) :: (.long x) :: st))) := by
  obtain ⟨locs, X, N, eT, hx, hZ, hown, hby, hml, hnm, hret, hlk⟩ := X
  subst hp
  exact own_go (fun t k => XT.lushr X.here hx rfl (hb hby d) rfl k) q
theorem own_lneg (X : own_Cx Z p l e R s m args below meth c n0 own bytes maxL nm ret T h cells slots) {x : Int64} (d : decode bytes pc = .ok (.lneg, 1)) (hp : pc + 1 = pc') 
    (q : own_Fin p e below G (T.setTop (mkF m pc' L ((.long (-x)) :: st)))) : own_Fin p e below G (T.setTop (mkF m pc L ((.long x) :: st))) := by
  obtain ⟨locs, X, N, eT, hx, hZ, hown, hby, hml, hnm, hret, hlk⟩ := X
  subst hp
  exact own_go (fun t k => XT.lneg X.here hx rfl (hb hby d) rfl k) q
theorem own_i2l (X : own_Cx Z p l e R s m args below meth c n0 own bytes maxL nm ret T h cells slots) {x : Int32} (d : decode bytes pc = .ok (.i2l, 1)) (hp : pc + 1 = pc') 
    (q : own_Fin p e below G (T.setTop (mkF m pc' L ((.long x.toInt64) :: st)))) : own_Fin p e below G (T.setTop (mkF m pc L ((.int x) :: st))) := by
  obtain ⟨locs, X, N, eT, hx, hZ, hown, hby, hml, hnm, hret, hlk⟩ := X
  subst hp
  exact own_go (fun t k => XT.i2l X.here hx rfl (hb hby d) rfl k) q
theorem own_l2i (X : own_Cx Z p l e R s m args below meth c n0 own bytes maxL nm ret T h cells slots) {x : Int64} (d : decode bytes pc = .ok (.l2i, 1)) (hp : pc + 1 = pc') 
    (q : own_Fin p e below G (T.setTop (mkF m pc' L ((.int x.toInt32) :: st)))) : own_Fin p e below G (T.setTop (mkF m pc L ((.long x) :: st))) := by
  obtain ⟨locs, X, N, eT, hx, hZ, hown, hby, hml, hnm, hret, hlk⟩ := X
  subst hp
  exact own_go (fun t k => XT.l2i X.here hx rfl (hb hby d) rfl k) q
theorem own_i2c (X : own_Cx Z p l e R s m args below meth c n0 own bytes maxL nm ret T h cells slots) {x : Int32} (d : decode bytes pc = .ok (.i2c, 1)) (hp : pc + 1 = pc') 
    (q : own_Fin p e below G (T.setTop (mkF m pc' L ((.int x.toUInt32.toUInt16.toUInt32.toInt32) :: st)))) : own_Fin p e below G (T.setTop (mkF m pc L ((.int x) :: st))) := by
  obtain ⟨locs, X, N, eT, hx, hZ, hown, hby, hml, hnm, hret, hlk⟩ := X
  subst hp
  exact own_go (fun t k => XT.i2c X.here hx rfl (hb hby d) rfl k) q
theorem own_dup (X : own_Cx Z p l e R s m args below meth c n0 own bytes maxL nm ret T h cells slots) {v : Value} (d : decode bytes pc = .ok (.dup, 1)) (hp : pc + 1 = pc') (hc : v.category = 1)
    (q : own_Fin p e below G (T.setTop (mkF m pc' L (v :: v :: st)))) : own_Fin p e below G (T.setTop (mkF m pc L (v :: st))) := by
  obtain ⟨locs, X, N, eT, hx, hZ, hown, hby, hml, hnm, hret, hlk⟩ := X
  subst hp
  exact own_go (fun t k => XS.dup X.here hx rfl (hb hby d) rfl hc k) q
theorem own_pop (X : own_Cx Z p l e R s m args below meth c n0 own bytes maxL nm ret T h cells slots) {v : Value} (d : decode bytes pc = .ok (.pop, 1)) (hp : pc + 1 = pc') (hc : v.category = 1)
    (q : own_Fin p e below G (T.setTop (mkF m pc' L (st)))) : own_Fin p e below G (T.setTop (mkF m pc L (v :: st))) := by
  obtain ⟨locs, X, N, eT, hx, hZ, hown, hby, hml, hnm, hret, hlk⟩ := X
  subst hp
  exact own_go (fun t k => XT.pop X.here hx rfl (hb hby d) rfl hc k) q
theorem own_ldcI (X : own_Cx Z p l e R s m args below meth c n0 own bytes maxL nm ret T h cells slots) {i : Nat} {v : Int32} (d : decode bytes pc = .ok (.ldc i, 2)) (hp : pc + 2 = pc') (w : (Jvm.Cond.constant own i v).before a0 Z = true)
    (q : own_Fin p e below G (T.setTop (mkF m pc' L ((.int v) :: st)))) : own_Fin p e below G (T.setTop (mkF m pc L (st))) := by
  obtain ⟨locs, X, N, eT, hx, hZ, hown, hby, hml, hnm, hret, hlk⟩ := X
  subst hp
  exact own_go (fun t k => X.ldcInt hx hown (mvT hZ w) (g := mkF m pc L st) rfl (hb hby d) t k) q
theorem own_ldc2J (X : own_Cx Z p l e R s m args below meth c n0 own bytes maxL nm ret T h cells slots) {i : Nat} {v : Int64} (d : decode bytes pc = .ok (.ldc2_w i, 3)) (hp : pc + 3 = pc') (w : (Jvm.Cond.constantLong own i v).before a0 Z = true)
    (q : own_Fin p e below G (T.setTop (mkF m pc' L ((.long v) :: st)))) : own_Fin p e below G (T.setTop (mkF m pc L (st))) := by
  obtain ⟨locs, X, N, eT, hx, hZ, hown, hby, hml, hnm, hret, hlk⟩ := X
  subst hp
  exact own_go (fun t k => X.ldc2Long hx hown (mvT hZ w) (g := mkF m pc L st) rfl (hb hby d) t k) q
theorem own_ldcF (X : own_Cx Z p l e R s m args below meth c n0 own bytes maxL nm ret T h cells slots) {i : Nat} {v : UInt32} (d : decode bytes pc = .ok (.ldc i, 2)) (hp : pc + 2 = pc') (w : (Jvm.Cond.constantFloat own i v).before a0 Z = true)
    (q : own_Fin p e below G (T.setTop (mkF m pc' L ((.float v) :: st)))) : own_Fin p e below G (T.setTop (mkF m pc L (st))) := by
  obtain ⟨locs, X, N, eT, hx, hZ, hown, hby, hml, hnm, hret, hlk⟩ := X
  subst hp
  exact own_go (fun t k => X.ldcFloatC hx hown (mvT hZ w) (g := mkF m pc L st) rfl (hb hby d) t k) q
theorem own_goto (X : own_Cx Z p l e R s m args below meth c n0 own bytes maxL nm ret T h cells slots) {o : Int} (d : decode bytes pc = .ok (.goto o, 3)) (ho : 0 ≤ (pc : Int) + o) (hp : ((pc : Int) + o).toNat = pc')
    (q : own_Fin p e below G (T.setTop (mkF m pc' L (st)))) : own_Fin p e below G (T.setTop (mkF m pc L (st))) := by
  obtain ⟨locs, X, N, eT, hx, hZ, hown, hby, hml, hnm, hret, hlk⟩ := X
  exact own_go (fun t k => XS.goto X.here hx rfl rfl (hb hby d) ho hp k) q
theorem own_icmp_eq (X : own_Cx Z p l e R s m args below meth c n0 own bytes maxL nm ret T h cells slots) {x y : Int32} {o : Int} {pcT pcF : Nat} (d : decode bytes pc = .ok (.if_icmp .eq o, 3)) (ho : 0 ≤ (pc : Int) + o) (hT : ((pc : Int) + o).toNat = pcT) (hF : pc + 3 = pcF)
    (qT : (x = y) → own_Fin p e below G (T.setTop (mkF m pcT L (st)))) (qF : (¬ (x = y)) → own_Fin p e below G (T.setTop (mkF m pcF L (st)))) : own_Fin p e below G (T.setTop (mkF m pc L ((.int y) :: (.int x) :: st))) := by
  obtain ⟨locs, X, N, eT, hx, hZ, hown, hby, hml, hnm, hret, hlk⟩ := X
  subst hF
  by_cases hc : x = y
  · exact own_go (fun t k => XS.icmpYes X.here hx rfl rfl (hb hby d) rfl (XT.ii_eq_t hc) ho hT k) (qT hc)
  · exact own_go (fun t k => XS.icmpNo X.here hx rfl (hb hby d) rfl (XT.ii_eq_f hc) k) (qF hc)
theorem own_if_eq (X : own_Cx Z p l e R s m args below meth c n0 own bytes maxL nm ret T h cells slots) {x : Int32} {o : Int} {pcT pcF : Nat} (d : decode bytes pc = .ok (.ifCond .eq o, 3)) (ho : 0 ≤ (pc : Int) + o) (hT : ((pc : Int) + o).toNat = pcT) (hF : pc + 3 = pcF)
    (qT : (x = 0) → own_Fin p e below G (T.setTop (mkF m pcT L (st)))) (qF : (¬ (x = 0)) → own_Fin p e below G (T.setTop (mkF m pcF L (st)))) : own_Fin p e below G (T.setTop (mkF m pc L ((.int x) :: st))) := by
  obtain ⟨locs, X, N, eT, hx, hZ, hown, hby, hml, hnm, hret, hlk⟩ := X
  subst hF
  by_cases hc : x = 0
  · exact own_go (fun t k => XS.ifYes X.here hx rfl rfl (hb hby d) rfl (XT.i0_eq_t hc) ho hT k) (qT hc)
  · exact own_go (fun t k => XS.ifNo X.here hx rfl (hb hby d) rfl (XT.i0_eq_f hc) k) (qF hc)
theorem own_lcmp_eq (X : own_Cx Z p l e R s m args below meth c n0 own bytes maxL nm ret T h cells slots) {x y : Int64} {pc1 : Nat} {o : Int} {pcT pcF : Nat} (d0 : decode bytes pc = .ok (.lcmp, 1)) (h1 : pc + 1 = pc1) (d : decode bytes pc1 = .ok (.ifCond .eq o, 3)) (ho : 0 ≤ (pc1 : Int) + o) (hT : ((pc1 : Int) + o).toNat = pcT) (hF : pc1 + 3 = pcF)
    (qT : (x = y) → own_Fin p e below G (T.setTop (mkF m pcT L (st)))) (qF : (¬ (x = y)) → own_Fin p e below G (T.setTop (mkF m pcF L (st)))) : own_Fin p e below G (T.setTop (mkF m pc L ((.long y) :: (.long x) :: st))) := by
  obtain ⟨locs, X, N, eT, hx, hZ, hown, hby, hml, hnm, hret, hlk⟩ := X
  subst h1
  subst hF
  by_cases hc : x = y
  · exact own_go (fun t k => XT.lcmp X.here hx rfl (hb hby d0) rfl (XS.ifYes X.here hx rfl rfl (hb hby d) rfl (XT.ll_eq_t hc) ho hT k)) (qT hc)
  · exact own_go (fun t k => XT.lcmp X.here hx rfl (hb hby d0) rfl (XS.ifNo X.here hx rfl (hb hby d) rfl (XT.ll_eq_f hc) k)) (qF hc)
theorem own_icmp_ne (X : own_Cx Z p l e R s m args below meth c n0 own bytes maxL nm ret T h cells slots) {x y : Int32} {o : Int} {pcT pcF : Nat} (d : decode bytes pc = .ok (.if_icmp .ne o, 3)) (ho : 0 ≤ (pc : Int) + o) (hT : ((pc : Int) + o).toNat = pcT) (hF : pc + 3 = pcF)
    (qT : (¬ (x = y)) → own_Fin p e below G (T.setTop (mkF m pcT L (st)))) (qF : (x = y) → own_Fin p e below G (T.setTop (mkF m pcF L (st)))) : own_Fin p e below G (T.setTop (mkF m pc L ((.int y) :: (.int x) :: st))) := by
  obtain ⟨locs, X, N, eT, hx, hZ, hown, hby, hml, hnm, hret, hlk⟩ := X
  subst hF
  by_cases hc : x = y
  · exact own_go (fun t k => XS.icmpNo X.here hx rfl (hb hby d) rfl (XT.ii_ne_f hc) k) (qF hc)
  · exact own_go (fun t k => XS.icmpYes X.here hx rfl rfl (hb hby d) rfl (XT.ii_ne_t hc) ho hT k) (qT hc)
theorem own_if_ne (X : own_Cx Z p l e R s m args below meth c n0 own bytes maxL nm ret T h cells slots) {x : Int32} {o : Int} {pcT pcF : Nat} (d : decode bytes pc = .ok (.ifCond .ne o, 3)) (ho : 0 ≤ (pc : Int) + o) (hT : ((pc : Int) + o).toNat = pcT) (hF : pc + 3 = pcF)
    (qT : (¬ (x = 0)) → own_Fin p e below G (T.setTop (mkF m pcT L (st)))) (qF : (x = 0) → own_Fin p e below G (T.setTop (mkF m pcF L (st)))) : own_Fin p e below G (T.setTop (mkF m pc L ((.int x) :: st))) := by
  obtain ⟨locs, X, N, eT, hx, hZ, hown, hby, hml, hnm, hret, hlk⟩ := X
  subst hF
  by_cases hc : x = 0
  · exact own_go (fun t k => XS.ifNo X.here hx rfl (hb hby d) rfl (XT.i0_ne_f hc) k) (qF hc)
  · exact own_go (fun t k => XS.ifYes X.here hx rfl rfl (hb hby d) rfl (XT.i0_ne_t hc) ho hT k) (qT hc)
theorem own_lcmp_ne (X : own_Cx Z p l e R s m args below meth c n0 own bytes maxL nm ret T h cells slots) {x y : Int64} {pc1 : Nat} {o : Int} {pcT pcF : Nat} (d0 : decode bytes pc = .ok (.lcmp, 1)) (h1 : pc + 1 = pc1) (d : decode bytes pc1 = .ok (.ifCond .ne o, 3)) (ho : 0 ≤ (pc1 : Int) + o) (hT : ((pc1 : Int) + o).toNat = pcT) (hF : pc1 + 3 = pcF)
    (qT : (¬ (x = y)) → own_Fin p e below G (T.setTop (mkF m pcT L (st)))) (qF : (x = y) → own_Fin p e below G (T.setTop (mkF m pcF L (st)))) : own_Fin p e below G (T.setTop (mkF m pc L ((.long y) :: (.long x) :: st))) := by
  obtain ⟨locs, X, N, eT, hx, hZ, hown, hby, hml, hnm, hret, hlk⟩ := X
  subst h1
  subst hF
  by_cases hc : x = y
  · exact own_go (fun t k => XT.lcmp X.here hx rfl (hb hby d0) rfl (XS.ifNo X.here hx rfl (hb hby d) rfl (XT.ll_ne_f hc) k)) (qF hc)
  · exact own_go (fun t k => XT.lcmp X.here hx rfl (hb hby d0) rfl (XS.ifYes X.here hx rfl rfl (hb hby d) rfl (XT.ll_ne_t hc) ho hT k)) (qT hc)
theorem own_icmp_lt (X : own_Cx Z p l e R s m args below meth c n0 own bytes maxL nm ret T h cells slots) {x y : Int32} {o : Int} {pcT pcF : Nat} (d : decode bytes pc = .ok (.if_icmp .lt o, 3)) (ho : 0 ≤ (pc : Int) + o) (hT : ((pc : Int) + o).toNat = pcT) (hF : pc + 3 = pcF)
    (qT : (x < y) → own_Fin p e below G (T.setTop (mkF m pcT L (st)))) (qF : (¬ (x < y)) → own_Fin p e below G (T.setTop (mkF m pcF L (st)))) : own_Fin p e below G (T.setTop (mkF m pc L ((.int y) :: (.int x) :: st))) := by
  obtain ⟨locs, X, N, eT, hx, hZ, hown, hby, hml, hnm, hret, hlk⟩ := X
  subst hF
  by_cases hc : x < y
  · exact own_go (fun t k => XS.icmpYes X.here hx rfl rfl (hb hby d) rfl (XT.ii_lt_t hc) ho hT k) (qT hc)
  · exact own_go (fun t k => XS.icmpNo X.here hx rfl (hb hby d) rfl (XT.ii_lt_f hc) k) (qF hc)
theorem own_if_lt (X : own_Cx Z p l e R s m args below meth c n0 own bytes maxL nm ret T h cells slots) {x : Int32} {o : Int} {pcT pcF : Nat} (d : decode bytes pc = .ok (.ifCond .lt o, 3)) (ho : 0 ≤ (pc : Int) + o) (hT : ((pc : Int) + o).toNat = pcT) (hF : pc + 3 = pcF)
    (qT : (x < 0) → own_Fin p e below G (T.setTop (mkF m pcT L (st)))) (qF : (¬ (x < 0)) → own_Fin p e below G (T.setTop (mkF m pcF L (st)))) : own_Fin p e below G (T.setTop (mkF m pc L ((.int x) :: st))) := by
  obtain ⟨locs, X, N, eT, hx, hZ, hown, hby, hml, hnm, hret, hlk⟩ := X
  subst hF
  by_cases hc : x < 0
  · exact own_go (fun t k => XS.ifYes X.here hx rfl rfl (hb hby d) rfl (XT.i0_lt_t hc) ho hT k) (qT hc)
  · exact own_go (fun t k => XS.ifNo X.here hx rfl (hb hby d) rfl (XT.i0_lt_f hc) k) (qF hc)
theorem own_lcmp_lt (X : own_Cx Z p l e R s m args below meth c n0 own bytes maxL nm ret T h cells slots) {x y : Int64} {pc1 : Nat} {o : Int} {pcT pcF : Nat} (d0 : decode bytes pc = .ok (.lcmp, 1)) (h1 : pc + 1 = pc1) (d : decode bytes pc1 = .ok (.ifCond .lt o, 3)) (ho : 0 ≤ (pc1 : Int) + o) (hT : ((pc1 : Int) + o).toNat = pcT) (hF : pc1 + 3 = pcF)
    (qT : (x < y) → own_Fin p e below G (T.setTop (mkF m pcT L (st)))) (qF : (¬ (x < y)) → own_Fin p e below G (T.setTop (mkF m pcF L (st)))) : own_Fin p e below G (T.setTop (mkF m pc L ((.long y) :: (.long x) :: st))) := by
  obtain ⟨locs, X, N, eT, hx, hZ, hown, hby, hml, hnm, hret, hlk⟩ := X
  subst h1
  subst hF
  by_cases hc : x < y
  · exact own_go (fun t k => XT.lcmp X.here hx rfl (hb hby d0) rfl (XS.ifYes X.here hx rfl rfl (hb hby d) rfl (XT.ll_lt_t hc) ho hT k)) (qT hc)
  · exact own_go (fun t k => XT.lcmp X.here hx rfl (hb hby d0) rfl (XS.ifNo X.here hx rfl (hb hby d) rfl (XT.ll_lt_f hc) k)) (qF hc)
theorem own_icmp_ge (X : own_Cx Z p l e R s m args below meth c n0 own bytes maxL nm ret T h cells slots) {x y : Int32} {o : Int} {pcT pcF : Nat} (d : decode bytes pc = .ok (.if_icmp .ge o, 3)) (ho : 0 ≤ (pc : Int) + o) (hT : ((pc : Int) + o).toNat = pcT) (hF : pc + 3 = pcF)
    (qT : (¬ (x < y)) → own_Fin p e below G (T.setTop (mkF m pcT L (st)))) (qF : (x < y) → own_Fin p e below G (T.setTop (mkF m pcF L (st)))) : own_Fin p e below G (T.setTop (mkF m pc L ((.int y) :: (.int x) :: st))) := by
  obtain ⟨locs, X, N, eT, hx, hZ, hown, hby, hml, hnm, hret, hlk⟩ := X
  subst hF
  by_cases hc : x < y
  · exact own_go (fun t k => XS.icmpNo X.here hx rfl (hb hby d) rfl (XT.ii_ge_f hc) k) (qF hc)
  · exact own_go (fun t k => XS.icmpYes X.here hx rfl rfl (hb hby d) rfl (XT.ii_ge_t hc) ho hT k) (qT hc)
theorem own_if_ge (X : own_Cx Z p l e R s m args below meth c n0 own bytes maxL nm ret T h cells slots) {x : Int32} {o : Int} {pcT pcF : Nat} (d : decode bytes pc = .ok (.ifCond .ge o, 3)) (ho : 0 ≤ (pc : Int) + o) (hT : ((pc : Int) + o).toNat = pcT) (hF : pc + 3 = pcF)
    (qT : (¬ (x < 0)) → own_Fin p e below G (T.setTop (mkF m pcT L (st)))) (qF : (x < 0) → own_Fin p e below G (T.setTop (mkF m pcF L (st)))) : own_Fin p e below G (T.setTop (mkF m pc L ((.int x) :: st))) := by
  obtain ⟨locs, X, N, eT, hx, hZ, hown, hby, hml, hnm, hret, hlk⟩ := X
  subst hF
  by_cases hc : x < 0
  · exact own_go (fun t k => XS.ifNo X.here hx rfl (hb hby d) rfl (XT.i0_ge_f hc) k) (qF hc)
  · exact own_go (fun t k => XS.ifYes X.here hx rfl rfl (hb hby d) rfl (XT.i0_ge_t hc) ho hT k) (qT hc)
theorem own_lcmp_ge (X : own_Cx Z p l e R s m args below meth c n0 own bytes maxL nm ret T h cells slots) {x y : Int64} {pc1 : Nat} {o : Int} {pcT pcF : Nat} (d0 : decode bytes pc = .ok (.lcmp, 1)) (h1 : pc + 1 = pc1) (d : decode bytes pc1 = .ok (.ifCond .ge o, 3)) (ho : 0 ≤ (pc1 : Int) + o) (hT : ((pc1 : Int) + o).toNat = pcT) (hF : pc1 + 3 = pcF)
    (qT : (¬ (x < y)) → own_Fin p e below G (T.setTop (mkF m pcT L (st)))) (qF : (x < y) → own_Fin p e below G (T.setTop (mkF m pcF L (st)))) : own_Fin p e below G (T.setTop (mkF m pc L ((.long y) :: (.long x) :: st))) := by
  obtain ⟨locs, X, N, eT, hx, hZ, hown, hby, hml, hnm, hret, hlk⟩ := X
  subst h1
  subst hF
  by_cases hc : x < y
  · exact own_go (fun t k => XT.lcmp X.here hx rfl (hb hby d0) rfl (XS.ifNo X.here hx rfl (hb hby d) rfl (XT.ll_ge_f hc) k)) (qF hc)
  · exact own_go (fun t k => XT.lcmp X.here hx rfl (hb hby d0) rfl (XS.ifYes X.here hx rfl rfl (hb hby d) rfl (XT.ll_ge_t hc) ho hT k)) (qT hc)
theorem own_icmp_gt (X : own_Cx Z p l e R s m args below meth c n0 own bytes maxL nm ret T h cells slots) {x y : Int32} {o : Int} {pcT pcF : Nat} (d : decode bytes pc = .ok (.if_icmp .gt o, 3)) (ho : 0 ≤ (pc : Int) + o) (hT : ((pc : Int) + o).toNat = pcT) (hF : pc + 3 = pcF)
    (qT : (y < x) → own_Fin p e below G (T.setTop (mkF m pcT L (st)))) (qF : (¬ (y < x)) → own_Fin p e below G (T.setTop (mkF m pcF L (st)))) : own_Fin p e below G (T.setTop (mkF m pc L ((.int y) :: (.int x) :: st))) := by
  obtain ⟨locs, X, N, eT, hx, hZ, hown, hby, hml, hnm, hret, hlk⟩ := X
  subst hF
  by_cases hc : y < x
  · exact own_go (fun t k => XS.icmpYes X.here hx rfl rfl (hb hby d) rfl (XT.ii_gt_t hc) ho hT k) (qT hc)
  · exact own_go (fun t k => XS.icmpNo X.here hx rfl (hb hby d) rfl (XT.ii_gt_f hc) k) (qF hc)
theorem own_if_gt (X : own_Cx Z p l e R s m args below meth c n0 own bytes maxL nm ret T h cells slots) {x : Int32} {o : Int} {pcT pcF : Nat} (d : decode bytes pc = .ok (.ifCond .gt o, 3)) (ho : 0 ≤ (pc : Int) + o) (hT : ((pc : Int) + o).toNat = pcT) (hF : pc + 3 = pcF)
    (qT : (0 < x) → own_Fin p e below G (T.setTop (mkF m pcT L (st)))) (qF : (¬ (0 < x)) → own_Fin p e below G (T.setTop (mkF m pcF L (st)))) : own_Fin p e below G (T.setTop (mkF m pc L ((.int x) :: st))) := by
  obtain ⟨locs, X, N, eT, hx, hZ, hown, hby, hml, hnm, hret, hlk⟩ := X
  subst hF
  by_cases hc : 0 < x
  · exact own_go (fun t k => XS.ifYes X.here hx rfl rfl (hb hby d) rfl (XT.i0_gt_t hc) ho hT k) (qT hc)
  · exact own_go (fun t k => XS.ifNo X.here hx rfl (hb hby d) rfl (XT.i0_gt_f hc) k) (qF hc)
theorem own_lcmp_gt (X : own_Cx Z p l e R s m args below meth c n0 own bytes maxL nm ret T h cells slots) {x y : Int64} {pc1 : Nat} {o : Int} {pcT pcF : Nat} (d0 : decode bytes pc = .ok (.lcmp, 1)) (h1 : pc + 1 = pc1) (d : decode bytes pc1 = .ok (.ifCond .gt o, 3)) (ho : 0 ≤ (pc1 : Int) + o) (hT : ((pc1 : Int) + o).toNat = pcT) (hF : pc1 + 3 = pcF)
    (qT : (y < x) → own_Fin p e below G (T.setTop (mkF m pcT L (st)))) (qF : (¬ (y < x)) → own_Fin p e below G (T.setTop (mkF m pcF L (st)))) : own_Fin p e below G (T.setTop (mkF m pc L ((.long y) :: (.long x) :: st))) := by
  obtain ⟨locs, X, N, eT, hx, hZ, hown, hby, hml, hnm, hret, hlk⟩ := X
  subst h1
  subst hF
  by_cases hc : y < x
  · exact own_go (fun t k => XT.lcmp X.here hx rfl (hb hby d0) rfl (XS.ifYes X.here hx rfl rfl (hb hby d) rfl (XT.ll_gt_t hc) ho hT k)) (qT hc)
  · exact own_go (fun t k => XT.lcmp X.here hx rfl (hb hby d0) rfl (XS.ifNo X.here hx rfl (hb hby d) rfl (XT.ll_gt_f hc) k)) (qF hc)
theorem own_icmp_le (X : own_Cx Z p l e R s m args below meth c n0 own bytes maxL nm ret T h cells slots) {x y : Int32} {o : Int} {pcT pcF : Nat} (d : decode bytes pc = .ok (.if_icmp .le o, 3)) (ho : 0 ≤ (pc : Int) + o) (hT : ((pc : Int) + o).toNat = pcT) (hF : pc + 3 = pcF)
    (qT : (¬ (y < x)) → own_Fin p e below G (T.setTop (mkF m pcT L (st)))) (qF : (y < x) → own_Fin p e below G (T.setTop (mkF m pcF L (st)))) : own_Fin p e below G (T.setTop (mkF m pc L ((.int y) :: (.int x) :: st))) := by
  obtain ⟨locs, X, N, eT, hx, hZ, hown, hby, hml, hnm, hret, hlk⟩ := X
  subst hF
  by_cases hc : y < x
  · exact own_go (fun t k => XS.icmpNo X.here hx rfl (hb hby d) rfl (XT.ii_le_f hc) k) (qF hc)
  · exact own_go (fun t k => XS.icmpYes X.here hx rfl rfl (hb hby d) rfl (XT.ii_le_t hc) ho hT k) (qT hc)
theorem own_if_le (X : own_Cx Z p l e R s m args below meth c n0 own bytes maxL nm ret T h cells slots) {x : Int32} {o : Int} {pcT pcF : Nat} (d : decode bytes pc = .ok (.ifCond .le o, 3)) (ho : 0 ≤ (pc : Int) + o) (hT : ((pc : Int) + o).toNat = pcT) (hF : pc + 3 = pcF)
    (qT : (¬ (0 < x)) → own_Fin p e below G (T.setTop (mkF m pcT L (st)))) (qF : (0 < x) → own_Fin p e below G (T.setTop (mkF m pcF L (st)))) : own_Fin p e below G (T.setTop (mkF m pc L ((.int x) :: st))) := by
  obtain ⟨locs, X, N, eT, hx, hZ, hown, hby, hml, hnm, hret, hlk⟩ := X
  subst hF
  by_cases hc : 0 < x
  · exact own_go (fun t k => XS.ifNo X.here hx rfl (hb hby d) rfl (XT.i0_le_f hc) k) (qF hc)
  · exact own_go (fun t k => XS.ifYes X.here hx rfl rfl (hb hby d) rfl (XT.i0_le_t hc) ho hT k) (qT hc)
theorem own_lcmp_le (X : own_Cx Z p l e R s m args below meth c n0 own bytes maxL nm ret T h cells slots) {x y : Int64} {pc1 : Nat} {o : Int} {pcT pcF : Nat} (d0 : decode bytes pc = .ok (.lcmp, 1)) (h1 : pc + 1 = pc1) (d : decode bytes pc1 = .ok (.ifCond .le o, 3)) (ho : 0 ≤ (pc1 : Int) + o) (hT : ((pc1 : Int) + o).toNat = pcT) (hF : pc1 + 3 = pcF)
    (qT : (¬ (y < x)) → own_Fin p e below G (T.setTop (mkF m pcT L (st)))) (qF : (y < x) → own_Fin p e below G (T.setTop (mkF m pcF L (st)))) : own_Fin p e below G (T.setTop (mkF m pc L ((.long y) :: (.long x) :: st))) := by
  obtain ⟨locs, X, N, eT, hx, hZ, hown, hby, hml, hnm, hret, hlk⟩ := X
  subst h1
  subst hF
  by_cases hc : y < x
  · exact own_go (fun t k => XT.lcmp X.here hx rfl (hb hby d0) rfl (XS.ifNo X.here hx rfl (hb hby d) rfl (XT.ll_le_f hc) k)) (qF hc)
  · exact own_go (fun t k => XT.lcmp X.here hx rfl (hb hby d0) rfl (XS.ifYes X.here hx rfl rfl (hb hby d) rfl (XT.ll_le_t hc) ho hT k)) (qT hc)
theorem own_acmp_eq (X : own_Cx Z p l e R s m args below meth c n0 own bytes maxL nm ret T h cells slots) {x y : Value} {o : Int} {pcT pcF : Nat} (d : decode bytes pc = .ok (.if_acmp .eq o, 3)) (hx1 : x.isRef = true) (hy1 : y.isRef = true) (ho : 0 ≤ (pc : Int) + o) (hT : ((pc : Int) + o).toNat = pcT) (hF : pc + 3 = pcF)
    (qT : (x = y) → own_Fin p e below G (T.setTop (mkF m pcT L (st)))) (qF : (¬ (x = y)) → own_Fin p e below G (T.setTop (mkF m pcF L (st)))) : own_Fin p e below G (T.setTop (mkF m pc L (y :: x :: st))) := by
  obtain ⟨locs, X, N, eT, hx, hZ, hown, hby, hml, hnm, hret, hlk⟩ := X
  subst hF
  by_cases hc : x = y
  · exact own_go (fun t k => XT.acmpYes X.here hx rfl rfl (hb hby d) rfl hx1 hy1 (XT.aa_eq_t hc) ho hT k) (qT hc)
  · exact own_go (fun t k => XT.acmpNo X.here hx rfl (hb hby d) rfl hx1 hy1 (XT.aa_eq_f hc) k) (qF hc)
theorem own_acmp_ne (X : own_Cx Z p l e R s m args below meth c n0 own bytes maxL nm ret T h cells slots) {x y : Value} {o : Int} {pcT pcF : Nat} (d : decode bytes pc = .ok (.if_acmp .ne o, 3)) (hx1 : x.isRef = true) (hy1 : y.isRef = true) (ho : 0 ≤ (pc : Int) + o) (hT : ((pc : Int) + o).toNat = pcT) (hF : pc + 3 = pcF)
    (qT : (¬ (x = y)) → own_Fin p e below G (T.setTop (mkF m pcT L (st)))) (qF : (x = y) → own_Fin p e below G (T.setTop (mkF m pcF L (st)))) : own_Fin p e below G (T.setTop (mkF m pc L (y :: x :: st))) := by
  obtain ⟨locs, X, N, eT, hx, hZ, hown, hby, hml, hnm, hret, hlk⟩ := X
  subst hF
  by_cases hc : x = y
  · exact own_go (fun t k => XT.acmpNo X.here hx rfl (hb hby d) rfl hx1 hy1 (XT.aa_ne_f hc) k) (qF hc)
  · exact own_go (fun t k => XT.acmpYes X.here hx rfl rfl (hb hby d) rfl hx1 hy1 (XT.aa_ne_t hc) ho hT k) (qT hc)
theorem own_nonnullN (X : own_Cx Z p l e R s m args below meth c n0 own bytes maxL nm ret T h cells slots) {o : Int} (d : decode bytes pc = .ok (.ifnonnull o, 3)) (hp : pc + 3 = pc') 
    (q : own_Fin p e below G (T.setTop (mkF m pc' L (st)))) : own_Fin p e below G (T.setTop (mkF m pc L (.null :: st))) := by
  obtain ⟨locs, X, N, eT, hx, hZ, hown, hby, hml, hnm, hret, hlk⟩ := X
  subst hp
  exact own_go (fun t k => XT.nonnullNo X.here hx rfl (hb hby d) rfl rfl k) q
theorem own_more (X : own_Cx Z p l e R s m args below meth c n0 own bytes maxL nm ret T h cells slots) {cells' slots' : Nat} (h1 : cells ≤ cells') (h2 : slots ≤ slots') : own_Cx Z p l e R s m args below meth c n0 own bytes maxL nm ret T h cells' slots' := by
  obtain ⟨locs, X, N, eT, hx, hZ, hown, hby, hml, hnm, hret, hlk⟩ := X
  exact ⟨locs, X.more h1 h2, N, eT, hx, hZ, hown, hby, hml, hnm, hret, hlk⟩
theorem own_nar {ty : FieldType} {z : Value} (h : ty.isReference = true) : narrow ty z = z := by cases ty <;> first | rfl | (cases h; done)
theorem own_retI (X : own_Cx Z p l e R s m args below meth c n0 own bytes maxL nm ret T h cells slots) {z : Int32} {q : Option Value → Heap → Prop} {k n : Nat} (hr0 : ret = some .int) (d : decode bytes pc = .ok (.ireturn, 1)) (hq : q (some (.int z)) h) (hc : cells ≤ k) (hs : slots ≤ n) :
    own_Fin p e below (own_End s n0 q k n) (T.setTop (mkF m pc L ((.int z) :: st))) := by
  obtain ⟨locs, X, N, eT, hx, hZ, hown, hby, hml, hnm, hret, hlk⟩ := X
  obtain ⟨fs, hr, hrun, hended, hW, hsame⟩ := X.leave (v := some (.int z)) (fun h => by first | rfl | (rw [hret, hr0] at h; cases h)) hlk
  refine ⟨_, _, retOut X hx (hret.trans hr0) rfl (Or.inl ⟨rfl, Or.inl rfl, _, rfl⟩) (hb hby d) hr, hrun, hended, _, _, rfl, ⟨?_, N⟩, ⟨_, rfl⟩, hW, hsame.mono hc hs⟩
  show q _ T.heap
  rw [eT]
  exact hq
theorem own_retJ (X : own_Cx Z p l e R s m args below meth c n0 own bytes maxL nm ret T h cells slots) {z : Int64} {q : Option Value → Heap → Prop} {k n : Nat} (hr0 : ret = some .long) (d : decode bytes pc = .ok (.lreturn, 1)) (hq : q (some (.long z)) h) (hc : cells ≤ k) (hs : slots ≤ n) :
    own_Fin p e below (own_End s n0 q k n) (T.setTop (mkF m pc L ((.long z) :: st))) := by
  obtain ⟨locs, X, N, eT, hx, hZ, hown, hby, hml, hnm, hret, hlk⟩ := X
  obtain ⟨fs, hr, hrun, hended, hW, hsame⟩ := X.leave (v := some (.long z)) (fun h => by first | rfl | (rw [hret, hr0] at h; cases h)) hlk
  refine ⟨_, _, retOut X hx (hret.trans hr0) rfl (Or.inr (Or.inl ⟨rfl, rfl, _, rfl⟩)) (hb hby d) hr, hrun, hended, _, _, rfl, ⟨?_, N⟩, ⟨_, rfl⟩, hW, hsame.mono hc hs⟩
  show q _ T.heap
  rw [eT]
  exact hq
theorem own_retZ (X : own_Cx Z p l e R s m args below meth c n0 own bytes maxL nm ret T h cells slots) {z : Int32} {q : Option Value → Heap → Prop} {k n : Nat} (hr0 : ret = some .boolean) (d : decode bytes pc = .ok (.ireturn, 1)) (hz : narrow .boolean (.int z) = .int z) (hq : q (some (.int z)) h) (hc : cells ≤ k) (hs : slots ≤ n) :
    own_Fin p e below (own_End s n0 q k n) (T.setTop (mkF m pc L ((.int z) :: st))) := by
  obtain ⟨locs, X, N, eT, hx, hZ, hown, hby, hml, hnm, hret, hlk⟩ := X
  obtain ⟨fs, hr, hrun, hended, hW, hsame⟩ := X.leave (v := some (.int z)) (fun h => by first | rfl | (rw [hret, hr0] at h; cases h)) hlk
  refine ⟨_, _, retOut X hx (hret.trans hr0) hz (Or.inl ⟨rfl, Or.inr (Or.inl rfl), _, rfl⟩) (hb hby d) hr, hrun, hended, _, _, rfl, ⟨?_, N⟩, ⟨_, rfl⟩, hW, hsame.mono hc hs⟩
  show q _ T.heap
  rw [eT]
  exact hq
theorem own_retC (X : own_Cx Z p l e R s m args below meth c n0 own bytes maxL nm ret T h cells slots) {z : Int32} {q : Option Value → Heap → Prop} {k n : Nat} (hr0 : ret = some .char) (d : decode bytes pc = .ok (.ireturn, 1)) (hz : narrow .char (.int z) = .int z) (hq : q (some (.int z)) h) (hc : cells ≤ k) (hs : slots ≤ n) :
    own_Fin p e below (own_End s n0 q k n) (T.setTop (mkF m pc L ((.int z) :: st))) := by
  obtain ⟨locs, X, N, eT, hx, hZ, hown, hby, hml, hnm, hret, hlk⟩ := X
  obtain ⟨fs, hr, hrun, hended, hW, hsame⟩ := X.leave (v := some (.int z)) (fun h => by first | rfl | (rw [hret, hr0] at h; cases h)) hlk
  refine ⟨_, _, retOut X hx (hret.trans hr0) hz (Or.inl ⟨rfl, Or.inr (Or.inr (Or.inr (Or.inl rfl))), _, rfl⟩) (hb hby d) hr, hrun, hended, _, _, rfl, ⟨?_, N⟩, ⟨_, rfl⟩, hW, hsame.mono hc hs⟩
  show q _ T.heap
  rw [eT]
  exact hq
theorem own_retA (X : own_Cx Z p l e R s m args below meth c n0 own bytes maxL nm ret T h cells slots) {z : Value} {ty : FieldType} {q : Option Value → Heap → Prop} {k n : Nat} (hr0 : ret = some ty) (hty : ty.isReference = true) (hz : z.isRef = true) (d : decode bytes pc = .ok (.areturn, 1)) (hq : q (some z) h) (hc : cells ≤ k) (hs : slots ≤ n) :
    own_Fin p e below (own_End s n0 q k n) (T.setTop (mkF m pc L (z :: st))) := by
  obtain ⟨locs, X, N, eT, hx, hZ, hown, hby, hml, hnm, hret, hlk⟩ := X
  obtain ⟨fs, hr, hrun, hended, hW, hsame⟩ := X.leave (v := some z) (fun h => by first | rfl | (rw [hret, hr0] at h; cases h)) hlk
  refine ⟨_, _, retOut X hx (hret.trans hr0) (own_nar hty) (Or.inr (Or.inr (Or.inr (Or.inr ⟨rfl, hty, hz⟩)))) (hb hby d) hr, hrun, hended, _, _, rfl, ⟨?_, N⟩, ⟨_, rfl⟩, hW, hsame.mono hc hs⟩
  show q _ T.heap
  rw [eT]
  exact hq
theorem own_retV (X : own_Cx Z p l e R s m args below meth c n0 own bytes maxL nm ret T h cells slots)  {q : Option Value → Heap → Prop} {k n : Nat} (hr0 : ret = none) (d : decode bytes pc = .ok (.return_, 1)) (hq : q (none) h) (hc : cells ≤ k) (hs : slots ≤ n) :
    own_Fin p e below (own_End s n0 q k n) (T.setTop (mkF m pc L ([]))) := by
  obtain ⟨locs, X, N, eT, hx, hZ, hown, hby, hml, hnm, hret, hlk⟩ := X
  obtain ⟨fs, hr, hrun, hended, hW, hsame⟩ := X.leave (v := none) (fun h => by first | rfl | (rw [hret, hr0] at h; cases h)) hlk
  refine ⟨_, _, X.returnOut hx (hret.trans hr0) (hb hby d) hr, hrun, hended, _, _, rfl, ⟨?_, N⟩, ⟨_, rfl⟩, hW, hsame.mono hc hs⟩
  show q _ T.heap
  rw [eT]
  exact hq
theorem own_eqF {a : Addr} {C n d : String} {v w : Value} (F : Fld Z h a C n d v) (e : v = w) : Fld Z h a C n d w := e ▸ F
theorem own_getf (X : own_Cx Z p l e R s m args below meth c n0 own bytes maxL nm ret T h cells slots) {R0 n d0 : String} {i : Nat} {a : Addr} {v : Value} (w : (Jvm.Cond.fieldLink own i R0 n d0).before a0 Z = true) (F : Fld Z h a R0 n d0 v) (d : decode bytes pc = .ok (.getfield i, 3)) (hp : pc + 3 = pc')
    (q : ∀ T', own_Cx Z p l e R s m args below meth c n0 own bytes maxL nm ret T' h cells slots → own_Fin p e below G (T'.setTop (mkF m pc' L (v :: st)))) : own_Fin p e below G (T.setTop (mkF m pc L ((.ref a) :: st))) := by
  obtain ⟨locs, X, N, eT, hx, hZ, hown, hby, hml, hnm, hret, hlk⟩ := X
  subst hp
  obtain ⟨T1, X1, e1, st1⟩ := getF X hx hZ hown (host := "") (Or.inl w) Via.refl eT F (g := mkF m pc L ((.ref a) :: st)) rfl rfl (hb hby d)
  exact own_go st1 (q T1 ⟨locs, X1, N, e1, hx, hZ, hown, hby, hml, hnm, hret, hlk⟩)
theorem own_gets (X : own_Cx Z p l e R s m args below meth c n0 own bytes maxL nm ret T h cells slots) {R0 n d0 : String} {i : Nat} {v : Value} (w : (Jvm.Cond.fieldLink own i R0 n d0).before a0 Z = true) (F : Sta Z h R0 n d0 v) (d : decode bytes pc = .ok (.getstatic i, 3)) (hp : pc + 3 = pc')
    (q : ∀ T', own_Cx Z p l e R s m args below meth c n0 own bytes maxL nm ret T' h cells slots → own_Fin p e below G (T'.setTop (mkF m pc' L (v :: st)))) : own_Fin p e below G (T.setTop (mkF m pc L (st))) := by
  obtain ⟨locs, X, N, eT, hx, hZ, hown, hby, hml, hnm, hret, hlk⟩ := X
  subst hp
  obtain ⟨T1, X1, e1, st1⟩ := getS X hx hZ hown (host := "") w Via.refl eT F (g := mkF m pc L st) rfl (hb hby d)
  exact own_go st1 (q T1 ⟨locs, X1, N, e1, hx, hZ, hown, hby, hml, hnm, hret, hlk⟩)
theorem own_putf (X : own_Cx Z p l e R s m args below meth c n0 own bytes maxL nm ret T h cells slots) {R0 n d0 C : String} {i kk : Nat} {a : Addr} {v old : Value} {ty : FieldType} (w : (Jvm.Cond.fieldLink own i R0 n d0).before a0 Z = true) (F : Fld Z h a R0 n d0 old) (E : Exa Z h a C) (Ly : (Jvm.Cond.lays C R0 n d0).before a0 Z = true ∨ ((Jvm.Cond.laysFinal C R0 n d0).before a0 Z = true ∧ own = R0 ∧ nm = "<init>")) (wi : (Jvm.Cond.instantiable C kk).before a0 Z = true) (hty : parseFieldDescriptor d0 = some ty) (hn : narrow ty v = v) (hf : fits ty v = true) (hge : n0 ≤ a) (d : decode bytes pc = .ok (.putfield i, 3)) (hp : pc + 3 = pc')
    (q : ∀ T' h', own_Cx Z p l e R s m args below meth c n0 own bytes maxL nm ret T' h' cells slots → Wr h h' a (Jvm.RoadKit.slotOf Z R0 n d0) v → own_Fin p e below G (T'.setTop (mkF m pc' L (st)))) : own_Fin p e below G (T.setTop (mkF m pc L (v :: (.ref a) :: st))) := by
  obtain ⟨locs, X, N, eT, hx, hZ, hown, hby, hml, hnm, hret, hlk⟩ := X
  subst hp
  have Ly' : (Jvm.Cond.lays C R0 n d0).before a0 Z = true ∨ ((Jvm.Cond.laysFinal C R0 n d0).before a0 Z = true ∧ own = R0 ∧ meth.name = "<init>") := by
    rcases Ly with q | ⟨q1, q2, q3⟩
    · exact Or.inl q
    · exact Or.inr ⟨q1, q2, hnm.trans q3⟩
  obtain ⟨T1, h1, X1, e1, W1, st1⟩ := putF X hx hZ hown (host := "") (Or.inl w) Via.refl eT F E Ly' wi hty hn hf (g := mkF m pc L (v :: (.ref a) :: st)) rfl rfl (hb hby d)
  exact own_go st1 (q T1 h1 ⟨_, X1, Fr.snoc X1 N hge, e1, hx, hZ, hown, hby, hml, hnm, hret, hlk⟩ W1)
theorem own_new (X : own_Cx Z p l e R s m args below meth c n0 own bytes maxL nm ret T h cells slots) {C : String} {i n : Nat} (w : (Jvm.Cond.classLink own i C).before a0 Z = true) (wi : (Jvm.Cond.instantiable C n).before a0 Z = true) (wz : (Jvm.Cond.initialized C).before a0 Z = true) (d : decode bytes pc = .ok (.new i, 3)) (hp : pc + 3 = pc') {cells' slots' : Nat} (ec : cells + 1 = cells') (es : slots + n = slots') (hc : cells' ≤ R.cells) (hl : slots' ≤ R.slots)
    (q : ∀ T' h' a, a = h.size → own_Cx Z p l e R s m args below meth c n0 own bytes maxL nm ret T' h' cells' slots' → Ext h h' → Exa Z h' a C → (∀ {O nm d : String} {ty : FieldType}, Laid Z a0 C O nm d → parseFieldDescriptor d = some ty → Fld Z h' a O nm d (defaultValue ty)) → own_Fin p e below G (T'.setTop (mkF m pc' L ((.ref a) :: st)))) : own_Fin p e below G (T.setTop (mkF m pc L (st))) := by
  obtain ⟨locs, X, N, eT, hx, hZ, hown, hby, hml, hnm, hret, hlk⟩ := X
  subst hp ec es
  obtain ⟨T1, h1, X1, e1, E1, A1, D1, -, st1⟩ := newO X hx hZ hown w wi wz eT (g := mkF m pc L st) rfl (hb hby d) hc hl
  exact own_go st1 (q T1 h1 _ rfl ⟨_, X1, N, e1, hx, hZ, hown, hby, hml, hnm, hret, hlk⟩ E1 A1 D1)
theorem own_newarray (X : own_Cx Z p l e R s m args below meth c n0 own bytes maxL nm ret T h cells slots) {aty : ArrayType} (w : (Jvm.Cond.arrayClass (newarray.typeOf aty)).before a0 Z = true) {n : Int32} (cap : Nat) (hn : ¬ n < 0) (hcap : n.toNatClampNeg ≤ cap) (hb8 : cap * 8 ≤ 536870912) (d : decode bytes pc = .ok (.newarray aty, 2)) (hp : pc + 2 = pc') {cells' slots' : Nat} (ec : cells + 1 = cells') (es : slots + cap = slots') (hc : cells' ≤ R.cells) (hl : slots' ≤ R.slots)
    (q : ∀ T' h' cA a, a = h.size → own_Cx Z p l e R s m args below meth c n0 own bytes maxL nm ret T' h' cells' slots' → Ext h h' → Arr Z h' a (newA cA (newarray.typeOf aty) n) (newarray.typeOf aty) → own_Fin p e below G (T'.setTop (mkF m pc' L ((.ref a) :: st)))) : own_Fin p e below G (T.setTop (mkF m pc L ((.int n) :: st))) := by
  obtain ⟨locs, X, N, eT, hx, hZ, hown, hby, hml, hnm, hret, hlk⟩ := X
  subst hp ec es
  obtain ⟨T1, h1, cA, X1, e1, E1, A1, st1⟩ := newP X hx hZ w eT (g := mkF m pc L ((.int n) :: st)) rfl (hb hby d) rfl hn hcap hb8 hc hl
  exact own_go st1 (q T1 h1 cA _ rfl ⟨_, X1, N, e1, hx, hZ, hown, hby, hml, hnm, hret, hlk⟩ E1 A1)
theorem own_anewarray (X : own_Cx Z p l e R s m args below meth c n0 own bytes maxL nm ret T h cells slots) {C : String} {i : Nat} (w : (Jvm.Cond.classLink own i C).before a0 Z = true) (w2 : (Jvm.Cond.arrayOver (.object C)).before a0 Z = true) {n : Int32} (cap : Nat) (hn : ¬ n < 0) (hcap : n.toNatClampNeg ≤ cap) (hb8 : cap * 8 ≤ 536870912) (d : decode bytes pc = .ok (.anewarray i, 3)) (hp : pc + 3 = pc') {cells' slots' : Nat} (ec : cells + 1 = cells') (es : slots + cap = slots') (hc : cells' ≤ R.cells) (hl : slots' ≤ R.slots)
    (q : ∀ T' h' cA a, a = h.size → own_Cx Z p l e R s m args below meth c n0 own bytes maxL nm ret T' h' cells' slots' → Ext h h' → Arr Z h' a (newA cA (.object C) n) (.object C) → own_Fin p e below G (T'.setTop (mkF m pc' L ((.ref a) :: st)))) : own_Fin p e below G (T.setTop (mkF m pc L ((.int n) :: st))) := by
  obtain ⟨locs, X, N, eT, hx, hZ, hown, hby, hml, hnm, hret, hlk⟩ := X
  subst hp ec es
  obtain ⟨T1, h1, cA, X1, e1, E1, A1, -, st1⟩ := newR X hx hZ hown w w2 eT (g := mkF m pc L ((.int n) :: st)) rfl (hb hby d) rfl hn hcap hb8 hc hl
  exact own_go st1 (q T1 h1 cA _ rfl ⟨_, X1, N, e1, hx, hZ, hown, hby, hml, hnm, hret, hlk⟩ E1 A1)
theorem own_iaload (X : own_Cx Z p l e R s m args below meth c n0 own bytes maxL nm ret T h cells slots) {a : Addr} {cl : Cell} {j : Int32} {v : Value} (A : Arr Z h a cl .int) (hj : ¬ (j < 0 ∨ cl.slots.size ≤ j.toNatClampNeg)) (hv : cl.slots[j.toNatClampNeg]? = some v) (d : decode bytes pc = .ok (.iaload, 1)) (hp : pc + 1 = pc')
    (q : own_Fin p e below G (T.setTop (mkF m pc' L (v :: st)))) : own_Fin p e below G (T.setTop (mkF m pc L ((.int j) :: (.ref a) :: st))) := by
  obtain ⟨locs, X, N, eT, hx, hZ, hown, hby, hml, hnm, hret, hlk⟩ := X
  subst hp
  exact own_go (fun t k => X.iaload hx (by rw [eT]; exact A.1) (State.isArrayOf_alike hZ.alike A.2.1) A.2.2 hj hv (g := mkF m pc L ((.int j) :: (.ref a) :: st)) rfl rfl (hb hby d) t k) q
theorem own_laload (X : own_Cx Z p l e R s m args below meth c n0 own bytes maxL nm ret T h cells slots) {a : Addr} {cl : Cell} {j : Int32} {v : Value} (A : Arr Z h a cl .long) (hj : ¬ (j < 0 ∨ cl.slots.size ≤ j.toNatClampNeg)) (hv : cl.slots[j.toNatClampNeg]? = some v) (d : decode bytes pc = .ok (.laload, 1)) (hp : pc + 1 = pc')
    (q : own_Fin p e below G (T.setTop (mkF m pc' L (v :: st)))) : own_Fin p e below G (T.setTop (mkF m pc L ((.int j) :: (.ref a) :: st))) := by
  obtain ⟨locs, X, N, eT, hx, hZ, hown, hby, hml, hnm, hret, hlk⟩ := X
  subst hp
  exact own_go (fun t k => X.laload hx (by rw [eT]; exact A.1) (State.isArrayOf_alike hZ.alike A.2.1) A.2.2 hj hv (g := mkF m pc L ((.int j) :: (.ref a) :: st)) rfl rfl (hb hby d) t k) q
theorem own_baload (X : own_Cx Z p l e R s m args below meth c n0 own bytes maxL nm ret T h cells slots) {a : Addr} {cl : Cell} {j : Int32} {v : Value} (A : Arr Z h a cl .byte) (hj : ¬ (j < 0 ∨ cl.slots.size ≤ j.toNatClampNeg)) (hv : cl.slots[j.toNatClampNeg]? = some v) (d : decode bytes pc = .ok (.baload, 1)) (hp : pc + 1 = pc')
    (q : own_Fin p e below G (T.setTop (mkF m pc' L (v :: st)))) : own_Fin p e below G (T.setTop (mkF m pc L ((.int j) :: (.ref a) :: st))) := by
  obtain ⟨locs, X, N, eT, hx, hZ, hown, hby, hml, hnm, hret, hlk⟩ := X
  subst hp
  exact own_go (fun t k => X.baloadBytes hx (by rw [eT]; exact A.1) (State.isArrayOf_alike hZ.alike A.2.1) A.2.2 hj hv (g := mkF m pc L ((.int j) :: (.ref a) :: st)) rfl rfl (hb hby d) t k) q
theorem own_arraylength (X : own_Cx Z p l e R s m args below meth c n0 own bytes maxL nm ret T h cells slots) {a : Addr} {cl : Cell} {ty : FieldType} {z : Int32} (A : Arr Z h a cl ty) (hz : cl.slots.size.toInt32 = z) (d : decode bytes pc = .ok (.arraylength, 1)) (hp : pc + 1 = pc')
    (q : own_Fin p e below G (T.setTop (mkF m pc' L ((.int z) :: st)))) : own_Fin p e below G (T.setTop (mkF m pc L ((.ref a) :: st))) := by
  obtain ⟨locs, X, N, eT, hx, hZ, hown, hby, hml, hnm, hret, hlk⟩ := X
  subst hp hz
  exact own_go (fun t k => X.arraylength hx (by rw [eT]; exact A.1) (State.isArrayOf_alike hZ.alike A.2.1) (g := mkF m pc L ((.ref a) :: st)) rfl rfl (hb hby d) t k) q
theorem own_iastore (X : own_Cx Z p l e R s m args below meth c n0 own bytes maxL nm ret T h cells slots) {a : Addr} {cl : Cell} {j : Int32} {x : Int32} (A : Arr Z h a cl .int) (hj : ¬ (j < 0 ∨ cl.slots.size ≤ j.toNatClampNeg)) (hge : n0 ≤ a) (d : decode bytes pc = .ok (.iastore, 1)) (hp : pc + 1 = pc')
    (q : ∀ T' h', own_Cx Z p l e R s m args below meth c n0 own bytes maxL nm ret T' h' cells slots → Wr h h' a j.toNatClampNeg (.int x) → own_Fin p e below G (T'.setTop (mkF m pc' L (st)))) : own_Fin p e below G (T.setTop (mkF m pc L ((.int x) :: (.int j) :: (.ref a) :: st))) := by
  obtain ⟨locs, X, N, eT, hx, hZ, hown, hby, hml, hnm, hret, hlk⟩ := X
  subst hp
  obtain ⟨T1, h1, X1, e1, W1, st1⟩ := stI X hx hZ eT A hj (g := mkF m pc L ((.int x) :: (.int j) :: (.ref a) :: st)) rfl rfl (hb hby d)
  exact own_go st1 (q T1 h1 ⟨_, X1, Fr.snoc X1 N hge, e1, hx, hZ, hown, hby, hml, hnm, hret, hlk⟩ W1)
theorem own_lastore (X : own_Cx Z p l e R s m args below meth c n0 own bytes maxL nm ret T h cells slots) {a : Addr} {cl : Cell} {j : Int32} {x : Int64} (A : Arr Z h a cl .long) (hj : ¬ (j < 0 ∨ cl.slots.size ≤ j.toNatClampNeg)) (hge : n0 ≤ a) (d : decode bytes pc = .ok (.lastore, 1)) (hp : pc + 1 = pc')
    (q : ∀ T' h', own_Cx Z p l e R s m args below meth c n0 own bytes maxL nm ret T' h' cells slots → Wr h h' a j.toNatClampNeg (.long x) → own_Fin p e below G (T'.setTop (mkF m pc' L (st)))) : own_Fin p e below G (T.setTop (mkF m pc L ((.long x) :: (.int j) :: (.ref a) :: st))) := by
  obtain ⟨locs, X, N, eT, hx, hZ, hown, hby, hml, hnm, hret, hlk⟩ := X
  subst hp
  obtain ⟨T1, h1, X1, e1, W1, st1⟩ := stJ X hx hZ eT A hj (g := mkF m pc L ((.long x) :: (.int j) :: (.ref a) :: st)) rfl rfl (hb hby d)
  exact own_go st1 (q T1 h1 ⟨_, X1, Fr.snoc X1 N hge, e1, hx, hZ, hown, hby, hml, hnm, hret, hlk⟩ W1)
theorem own_initO (X : own_Cx Z p l e R s m args below meth c n0 own bytes maxL nm ret T h cells slots) {i : Nat} {a : Addr} (w1 : (Jvm.Cond.methodLink own i Lib.objectInit).before a0 Z = true) (w2 : (Jvm.Cond.instanceMethod Lib.objectInit).before a0 Z = true) (w3 : (Jvm.Cond.code Lib.objectInit ⟨#[0xb1]⟩ 1 none).before a0 Z = true) (d : decode bytes pc = .ok (.invokespecial i, 3)) (hp : pc + 3 = pc') (hsz : L.size = maxL) (hf : 1 ≤ R.frames) {W : Nat} (hW : (st.map fun v => v.category).sum = W) (hl : W + 12 ≤ R.locals)
    (q : ∀ T', own_Cx Z p l e R s m args below meth c n0 own bytes maxL nm ret T' h cells slots → own_Fin p e below G (T'.setTop (mkF m pc' L (st)))) : own_Fin p e below G (T.setTop (mkF m pc L ((.ref a) :: st))) := by
  obtain ⟨locs, X, N, eT, hx, hZ, hown, hby, hml, hnm, hret, hlk⟩ := X
  subst hp
  obtain ⟨T1, X1, e1, st1⟩ := initO X hx hZ hown w1 w2 w3 eT (g := mkF m pc L ((.ref a) :: st)) rfl (hsz.trans hml.symm) rfl (hb hby d) hf (W := W) (by show 2 * 0 + _ ≤ _; omega) hl
  exact own_go st1 (q T1 ⟨locs, X1, N, e1, hx, hZ, hown, hby, hml, hnm, hret, hlk⟩)
theorem own_callS (X : own_Cx Z p l e R s m args below meth c n0 own bytes maxL nm ret T h cells slots) {y : MethodName} {yb : ByteArray} {ymax : Nat} {yr : Option FieldType} {i : Nat} (w1 : (Jvm.Cond.methodLink own i y).before a0 Z = true) (w2 : (Jvm.Cond.static y).before a0 Z = true) (w3 : (Jvm.Cond.initialized y.cls).before a0 Z = true) (w4 : (Jvm.Cond.code y yb ymax yr).before a0 Z = true) (hy : y.cls ≠ "java/lang/invoke/MethodHandle" ∧ y.cls ≠ "java/lang/invoke/VarHandle")
    {rm : Room} {argsL rest : List Value} {q : Option Value → Heap → Prop} (hM : own_Met l Z y yb ymax yr [] rm argsL.toArray h n0 q) {ps : List FieldType} {r : Option FieldType} (pd : parseMethodDescriptor y.desc = some ⟨ps, r⟩) (hlen : argsL.length = ps.length) (d : decode bytes pc = .ok (.invokestatic i, 3)) (hp : pc + 3 = pc') (hsz : L.size = maxL) (hst : st = argsL.reverse ++ rest) {W : Nat} (hW : (rest.map fun v => v.category).sum = W) (hfr : rm.frames + 1 ≤ R.frames) (hlo : W + (ymax + 11) + rm.locals ≤ R.locals) {cells' slots' : Nat} (ec : cells + rm.cells = cells') (es : slots + rm.slots = slots') (hc : cells' ≤ R.cells) (hs : slots' ≤ R.slots)
    (k : ∀ v T' h', own_Cx Z p l e R s m args below meth c n0 own bytes maxL nm ret T' h' cells' slots' → q v h' → own_Fin p e below G (T'.setTop (mkF m pc' L (v.toList ++ rest)))) : own_Fin p e below G (T.setTop (mkF m pc L st)) := by
  obtain ⟨locs, X, N, eT, hx, hZ, hown, hby, hml, hnm, hret, hlk⟩ := X
  subst hp ec es
  obtain ⟨v, _, ⟨T1, L1, k1, n1⟩, -, X1, ⟨Lc, hQ, l1, y1, z1⟩, st1⟩ := Jvm.LawKit.callS X hx (y := y) hown (mvT hZ w1) (mvT hZ w2) (mvT hZ w3) (mvT hZ w4) hy (backOf (W := W) (Q := fun v h L => q v h ∧ Fr n0 L) hM hZ w4 w3 hfr hlo) (g := mkF m pc L st) rfl (hsz.trans hml.symm) (argsL := argsL) (rest := rest) (lenOf pd hlen) hst (by show 2 * 0 + _ ≤ _; omega) (hb hby d) (fun _ _ => ⟨rfl, eT, hc, hs⟩)
  dsimp only [Pt.U, Pt.locs, Pt.cells, Pt.slots] at X1 l1 y1 z1 st1 hQ
  subst l1 y1 z1
  exact own_go st1 (k v T1 _ ⟨_, X1, Fr.app N hQ.2, rfl, hx, hZ, hown, hby, hml, hnm, hret, hlk⟩ hQ.1)
theorem own_callI (X : own_Cx Z p l e R s m args below meth c n0 own bytes maxL nm ret T h cells slots) {y : MethodName} {yb : ByteArray} {ymax : Nat} {i : Nat} (hi : y.name = "<init>") (w1 : (Jvm.Cond.methodLink own i y).before a0 Z = true) (w2 : (Jvm.Cond.instanceMethod y).before a0 Z = true) (w3 : (Jvm.Cond.initialized y.cls).before a0 Z = true) (w4 : (Jvm.Cond.code y yb ymax none).before a0 Z = true) (hy : y.cls ≠ "java/lang/invoke/MethodHandle" ∧ y.cls ≠ "java/lang/invoke/VarHandle")
    {rm : Room} {a : Addr} {argsL rest : List Value} {q : Option Value → Heap → Prop} (hM : own_Met l Z y yb ymax none [] rm (Value.ref a :: argsL).toArray h n0 q) {ps : List FieldType} {r : Option FieldType} (pd : parseMethodDescriptor y.desc = some ⟨ps, r⟩) (hlen : argsL.length = ps.length) (d : decode bytes pc = .ok (.invokespecial i, 3)) (hp : pc + 3 = pc') (hsz : L.size = maxL) (hst : st = argsL.reverse ++ .ref a :: rest) {W : Nat} (hW : (rest.map fun v => v.category).sum = W) (hfr : rm.frames + 1 ≤ R.frames) (hlo : W + (ymax + 11) + rm.locals ≤ R.locals) {cells' slots' : Nat} (ec : cells + rm.cells = cells') (es : slots + rm.slots = slots') (hc : cells' ≤ R.cells) (hs : slots' ≤ R.slots)
    (k : ∀ v T' h', own_Cx Z p l e R s m args below meth c n0 own bytes maxL nm ret T' h' cells' slots' → q v h' → own_Fin p e below G (T'.setTop (mkF m pc' L (v.toList ++ rest)))) : own_Fin p e below G (T.setTop (mkF m pc L st)) := by
  obtain ⟨locs, X, N, eT, hx, hZ, hown, hby, hml, hnm, hret, hlk⟩ := X
  subst hp ec es
  obtain ⟨v, _, ⟨T1, L1, k1, n1⟩, -, X1, ⟨Lc, hQ, l1, y1, z1⟩, st1⟩ := X.specialBack hx (y := y) hi hown (mvT hZ w1) (mvT hZ w2) (mvT hZ w4) hy (backOf (W := W) (Q := fun v h L => q v h ∧ Fr n0 L) hM hZ w4 w3 hfr hlo) (g := mkF m pc L st) rfl (hsz.trans hml.symm) (Steps.refl _) (a := a) (argsL := argsL) (rest := rest) (lenOf pd hlen) hst (by show 2 * 0 + _ ≤ _; omega) (hb hby d) (fun _ _ => ⟨rfl, eT, hc, hs⟩)
  dsimp only [Pt.U, Pt.locs, Pt.cells, Pt.slots] at X1 l1 y1 z1 st1 hQ
  subst l1 y1 z1
  exact own_go (fun t k => st1.trans k) (k v T1 _ ⟨_, X1, Fr.app N hQ.2, rfl, hx, hZ, hown, hby, hml, hnm, hret, hlk⟩ hQ.1)
theorem own_callV (X : own_Cx Z p l e R s m args below meth c n0 own bytes maxL nm ret T h cells slots) {y : MethodName} {yb : ByteArray} {ymax : Nat} {yr : Option FieldType} {i : Nat} {C : String} (w1 : (Jvm.Cond.methodLink own i y).before a0 Z = true) (w2 : (Jvm.Cond.declares y).before a0 Z = true) (w5 : (Jvm.Cond.selects C y y).before a0 Z = true) (w6 : (Jvm.Cond.instanceMethod y).before a0 Z = true) (w3 : (Jvm.Cond.initialized y.cls).before a0 Z = true) (w4 : (Jvm.Cond.code y yb ymax yr).before a0 Z = true) (hy : y.cls ≠ "java/lang/invoke/MethodHandle" ∧ y.cls ≠ "java/lang/invoke/VarHandle")
    {rm : Room} {a : Addr} {argsL rest : List Value} {q : Option Value → Heap → Prop} (hM : own_Met l Z y yb ymax yr [] rm (Value.ref a :: argsL).toArray h n0 q) (E : Exa Z h a C) {ps : List FieldType} {r : Option FieldType} (pd : parseMethodDescriptor y.desc = some ⟨ps, r⟩) (hlen : argsL.length = ps.length) (d : decode bytes pc = .ok (.invokevirtual i, 3)) (hp : pc + 3 = pc') (hsz : L.size = maxL) (hst : st = argsL.reverse ++ .ref a :: rest) {W : Nat} (hW : (rest.map fun v => v.category).sum = W) (hfr : rm.frames + 1 ≤ R.frames) (hlo : W + (ymax + 11) + rm.locals ≤ R.locals) {cells' slots' : Nat} (ec : cells + rm.cells = cells') (es : slots + rm.slots = slots') (hc : cells' ≤ R.cells) (hs : slots' ≤ R.slots)
    (k : ∀ v T' h', own_Cx Z p l e R s m args below meth c n0 own bytes maxL nm ret T' h' cells' slots' → q v h' → own_Fin p e below G (T'.setTop (mkF m pc' L (v.toList ++ rest)))) : own_Fin p e below G (T.setTop (mkF m pc L st)) := by
  obtain ⟨locs, X, N, eT, hx, hZ, hown, hby, hml, hnm, hret, hlk⟩ := X
  subst hp ec es
  obtain ⟨cq, kq, qa, qb, qc⟩ := isOf (T := T) hZ eT E
  obtain ⟨v, _, ⟨T1, L1, k1, n1⟩, -, X1, ⟨Lc, hQ, l1, y1, z1⟩, st1⟩ := X.virtualBack hx (y := y) (z := y) hown (mvT hZ w1) (mvT hZ w2) (notFace_of_selects (args := #[]) (mvT hZ w5)) (mvT hZ w5) (mvT hZ w6) hy (backOf (W := W) (Q := fun v h L => q v h ∧ Fr n0 L) hM hZ w4 w3 hfr hlo) qa qc (g := mkF m pc L st) rfl (hsz.trans hml.symm) (Steps.refl _) (argsL := argsL) (rest := rest) (lenOf pd hlen) hst (by show 2 * 0 + _ ≤ _; omega) (hb hby d) (fun _ _ => ⟨rfl, eT, hc, hs⟩)
  dsimp only [Pt.U, Pt.locs, Pt.cells, Pt.slots] at X1 l1 y1 z1 st1 hQ
  subst l1 y1 z1
  exact own_go (fun t k => st1.trans k) (k v T1 _ ⟨_, X1, Fr.app N hQ.2, rfl, hx, hZ, hown, hby, hml, hnm, hret, hlk⟩ hQ.1)
end OwnKit
theorem pd_1 : parseMethodDescriptor "()V" = some ⟨[], none⟩ := by decide +kernel
theorem pd_3 : parseMethodDescriptor "(ILcom/example/racewright/racewright/happensbefore/VectorClock;Z)V" = some ⟨[.int, (.object "com/example/racewright/racewright/happensbefore/VectorClock"), .boolean], none⟩ := by decide +kernel
theorem pd_4 : parseMethodDescriptor "()V" = some ⟨[], none⟩ := by decide +kernel
theorem pd_5 : parseMethodDescriptor "()V" = some ⟨[], none⟩ := by decide +kernel
theorem pd_6 : parseMethodDescriptor "()V" = some ⟨[], none⟩ := by decide +kernel
theorem pd_7 : parseMethodDescriptor "()V" = some ⟨[], none⟩ := by decide +kernel
theorem pd_8 : parseMethodDescriptor "()V" = some ⟨[], none⟩ := by decide +kernel
theorem pd_9 : parseMethodDescriptor "(II)V" = some ⟨[.int, .int], none⟩ := by decide +kernel
theorem pd_10 : parseMethodDescriptor "([III)[I" = some ⟨[(.array .int), .int, .int], some (.array .int)⟩ := by decide +kernel
theorem pd_12 : parseMethodDescriptor "([II)[I" = some ⟨[(.array .int), .int], some (.array .int)⟩ := by decide +kernel
theorem pd_14 : parseMethodDescriptor "()V" = some ⟨[], none⟩ := by decide +kernel
theorem pd_15 : parseMethodDescriptor "(IZ)Z" = some ⟨[.int, .boolean], some .boolean⟩ := by decide +kernel
theorem pd_16 : parseMethodDescriptor "(Lcom/example/racewright/racewright/happensbefore/ThreadState;)V" = some ⟨[(.object "com/example/racewright/racewright/happensbefore/ThreadState")], none⟩ := by decide +kernel

section OwnIA
variable {Z : State} {p : Program} {l : Launch} {e : Env} {R : Room} {s : State} {m : MethodId} {args : Array Value} {below : List Frame} {meth : Method} {c : Code} {n0 : Nat} {own : String} {bytes : ByteArray} {maxL : Nat} {nm : String} {ret : Option FieldType} {T : State} {h h' : Heap} {cells slots : Nat} {G : Outcome → State → Prop} {L : Array Slot} {st : List Value} {pc pc' : Nat} {a0 : Array Value} {a b : Addr} {n n2 : Nat} {sl : Nat} {v : Value} {ws : List Addr}
theorem own_i32 {n : Nat} (h : n < 2 ^ 31) : n.toInt32.toInt = n := len_toInt h
theorem own_nat {n : Nat} (h : n < 2 ^ 31) : n.toInt32.toNatClampNeg = n := by simp only [Int32.toNatClampNeg, own_i32 h]; omega
theorem own_nneg {n : Nat} (h : n < 2 ^ 31) : ¬ n.toInt32 < 0 := by rw [Int32.lt_iff_toInt_lt, own_i32 h]; show ¬ (n : Int) < 0; omega
def own_IA (Z : State) (h : Heap) (a : Addr) (n : Nat) : Prop := n < 2 ^ 31 ∧ ∃ (k : ClassId) (vs : List Value), vs.length = n ∧ Arv Z h a k .int n.toInt32 vs (.int 0)
theorem own_IA.lt (F : own_IA Z h a n) : a < h.size := by obtain ⟨_, _, _, _, V⟩ := F; exact V.lt
theorem own_IA.ext (F : own_IA Z h a n) (E : Ext h h') : own_IA Z h' a n := by obtain ⟨q, k, vs, hl, V⟩ := F; exact ⟨q, k, vs, hl, V.ext E⟩
theorem own_IA.other (F : own_IA Z h a n) (W : Wr h h' b sl v) (q : a ≠ b) : own_IA Z h' a n := by obtain ⟨q0, k, vs, hl, V⟩ := F; exact ⟨q0, k, vs, hl, V.other W q⟩
theorem own_IA.keep (F : own_IA Z h a n) (K : Keep h h' ws) (q : a ∉ ws) : own_IA Z h' a n := by obtain ⟨q0, k, vs, hl, V⟩ := F; exact ⟨q0, k, vs, hl, V.keep K q⟩
theorem own_IA_new {cA : ClassId} {z : Int32} (A : Arr Z h a (newA cA .int z) .int) (hz : z = n.toInt32) (hn : n < 2 ^ 31) : own_IA Z h a n := by
  subst hz
  refine ⟨hn, cA, [] ++ List.replicate n (.int 0), by simp, ?_⟩
  exact (Arv.new A (own_nneg hn)).pad (pad_rep _ _ _)
theorem own_alenI (X : own_Cx Z p l e R s m args below meth c n0 own bytes maxL nm ret T h cells slots) (A : own_IA Z h a n) (d : decode bytes pc = .ok (.arraylength, 1)) (hp : pc + 1 = pc')
    (q : own_Fin p e below G (T.setTop (mkF m pc' L ((.int n.toInt32) :: st)))) : own_Fin p e below G (T.setTop (mkF m pc L ((.ref a) :: st))) := by
  obtain ⟨q0, k, vs, hl, cl, A, -, S, M, -⟩ := A
  exact own_arraylength X A (len_of S M) d hp q
theorem own_iastoreI (X : own_Cx Z p l e R s m args below meth c n0 own bytes maxL nm ret T h cells slots) {x : Int32} {j : Nat} (A : own_IA Z h a n) (hj : j < n) (hge : n0 ≤ a) (d : decode bytes pc = .ok (.iastore, 1)) (hp : pc + 1 = pc')
    (q : ∀ T' h', own_Cx Z p l e R s m args below meth c n0 own bytes maxL nm ret T' h' cells slots → Wr h h' a j (.int x) → own_IA Z h' a n → own_Fin p e below G (T'.setTop (mkF m pc' L st))) : own_Fin p e below G (T.setTop (mkF m pc L ((.int x) :: (.int j.toInt32) :: (.ref a) :: st))) := by
  obtain ⟨q0, k, vs, hl, cl, A, kk, S, M, H, G0⟩ := A
  have ej : j.toInt32.toNatClampNeg = j := own_nat (by omega)
  have hin : ¬ (j.toInt32 < 0 ∨ cl.slots.size ≤ j.toInt32.toNatClampNeg) := by
    rw [ej, S, own_nat q0]
    exact fun z => z.elim (own_nneg (by omega)) (by omega)
  refine own_iastore X A hin hge d hp (fun T' h' X' W => ?_)
  have V := Arv.set A kk S M H G0 (v := .int x) rfl W j ej (by omega)
  rw [ej] at W
  exact q T' h' X' W ⟨q0, k, _, by simp [hl], V⟩
theorem own_ialoadI (X : own_Cx Z p l e R s m args below meth c n0 own bytes maxL nm ret T h cells slots) {j : Nat} (A : own_IA Z h a n) (hj : j < n) (d : decode bytes pc = .ok (.iaload, 1)) (hp : pc + 1 = pc')
    (q : ∀ y : Int32, own_Fin p e below G (T.setTop (mkF m pc' L ((.int y) :: st)))) : own_Fin p e below G (T.setTop (mkF m pc L ((.int j.toInt32) :: (.ref a) :: st))) := by
  obtain ⟨q0, k, vs, hl, cl, A, kk, S, M, H, G0⟩ := A
  have ej : j.toInt32.toNatClampNeg = j := own_nat (by omega)
  have hs : cl.slots.size = n := by rw [S, own_nat q0]
  obtain ⟨y, hy⟩ := fit_I (G0 j (by omega)) (Or.inl rfl)
  refine own_iaload X A (v := .int y) ?_ ?_ d hp (q y)
  · rw [ej, hs]; exact fun z => z.elim (own_nneg (by omega)) (by omega)
  · rw [ej, H j (by omega), hy]
theorem own_cpI (X : own_Cx Z p l e R s m args below meth c n0 own bytes maxL nm ret T h cells slots) {i k : Nat} (w1 : (Jvm.Cond.methodLink own i Jvm.Stand.acN).before a0 Z = true) (w2 : (Jvm.Cond.native Jvm.Stand.acN).before a0 Z = true) (w3 : (Jvm.Cond.static Jvm.Stand.acN).before a0 Z = true) (w4 : (Jvm.Cond.initialized "java/lang/System").before a0 Z = true)
    (A : own_IA Z h a n) (B : own_IA Z h b n2) (h1 : k ≤ n) (h2 : k ≤ n2) (hge : n0 ≤ b) (d : decode bytes pc = .ok (.invokestatic i, 3)) (hp : pc + 3 = pc') (hsz : L.size = maxL) (hf : 1 ≤ R.frames) {W : Nat} (hW : (st.map fun v => v.category).sum = W) (hlo : W + (nativeFrameWords "java/lang/System" "arraycopy" 5 + 11) ≤ R.locals)
    (q : ∀ T' h', own_Cx Z p l e R s m args below meth c n0 own bytes maxL nm ret T' h' cells slots → Keep h h' [b] → own_IA Z h' b n2 → own_Fin p e below G (T'.setTop (mkF m pc' L st))) : own_Fin p e below G (T.setTop (mkF m pc L ((.int k.toInt32) :: (.int 0) :: (.ref b) :: (.int 0) :: (.ref a) :: st))) := by
  obtain ⟨q0, ka, vs, hl, V⟩ := A
  obtain ⟨q2, kb, vd, hd2, V2⟩ := B
  obtain ⟨locs, X, N, eT, hx, hZ, hown, hby, hml, hnm, hret, hlk⟩ := X
  subst hp
  have ek : k.toInt32.toNatClampNeg = k := own_nat (by omega)
  obtain ⟨T1, h1', L1, X1, e1, N1, K1, V1, st1⟩ := cpA X hx hZ hown w1 w2 w3 w4 eT (sp := 0) (dp := 0) (nn := k.toInt32) V V2 (Or.inl ⟨rfl, rfl⟩) (by decide) (by decide) (own_nneg (by omega)) (by rw [ek, own_nat q0]; show 0 + k ≤ n; omega) (by rw [ek, own_nat q2]; show 0 + k ≤ n2; omega) rfl (by rw [ek, hd2]; show 0 + k ≤ n2; omega) N hge (g := mkF m pc L ((.int k.toInt32) :: (.int 0) :: (.ref b) :: (.int 0) :: (.ref a) :: st)) rfl (hsz.trans hml.symm) rfl (hb hby d) hf (W := W) (by show 2 * 0 + _ ≤ _; omega) hlo
  refine own_go st1 (q T1 h1' ⟨_, X1, N1, e1, hx, hZ, hown, hby, hml, hnm, hret, hlk⟩ K1 ⟨q2, kb, _, ?_, V1⟩)
  have z0 : (0 : Int32).toNatClampNeg = 0 := rfl
  simp only [z0, ek]
  simp
  omega
end OwnIA
theorem d11_0 : decode jdk_29_method_65_code 0 = .ok (.iload_n 0, 1) := by decide +kernel
theorem d11_1 : decode jdk_29_method_65_code 1 = .ok (.iload_n 1, 1) := by decide +kernel
theorem d11_2 : decode jdk_29_method_65_code 2 = .ok (.if_icmp .lt 7, 3) := by decide +kernel
theorem d11_5 : decode jdk_29_method_65_code 5 = .ok (.iload_n 0, 1) := by decide +kernel
theorem d11_6 : decode jdk_29_method_65_code 6 = .ok (.goto 4, 3) := by decide +kernel
theorem d11_9 : decode jdk_29_method_65_code 9 = .ok (.iload_n 1, 1) := by decide +kernel
theorem d11_10 : decode jdk_29_method_65_code 10 = .ok (.ireturn, 1) := by decide +kernel
theorem own_pnmx : plainFor (⟨"java/lang/Math", "max", "(II)I"⟩ : MethodName) = true := by first | exact plainFor_of_name (by first | (simp [plainName, overriddenIn, x]; done) | decide +kernel) | decide +kernel
theorem own_efmx (p1 : Int32) (p2 : Int32) (m : MethodId) : entryFrame m #[(.int p1), (.int p2)] 2 = mkF m 0 #[.val (.int p1), .val (.int p2)] [] := by
  first | (simp [entryFrame, mkF, argsToLocals, Value.category]; done) | rfl
theorem own_pdmx : parseMethodDescriptor "(II)I" = some ⟨[.int, .int], some .int⟩ := by decide +kernel
def own_fmx (p1 : Int32) (p2 : Int32) : Int32 := (if p1 < p2 then p2 else p1)
set_option maxRecDepth 65536 in
set_option maxHeartbeats 40000000 in
theorem own_mmx (l : Launch) (Z : State) (a0 : Array Value) (hw : ∀ d ∈ tables_1, d.before a0 Z = true) (ws : List Jvm.Cond) (p1 : Int32) (p2 : Int32) (h0 : Heap) (n0 : Nat) :
    own_Met l Z (⟨"java/lang/Math", "max", "(II)I"⟩ : MethodName) jdk_29_method_65_code 2 (some .int) ws ({ frames := 0, cells := 0, slots := 0, locals := 0 } : Room) #[(.int p1), (.int p2)] h0 n0 (fun v h => v = some (.int (own_fmx p1 p2)) ∧ h0 = h) := by
  refine own_enter (own := "java/lang/Math") (nm := "max") rfl rfl own_pnmx (own_efmx p1 p2) ?_
  intro p e s m below meth c T0 X0
  refine own_iloadN X0 d11_0 rfl rfl ?_
  refine own_iloadN X0 d11_1 rfl rfl ?_
  refine own_icmp_lt X0 d11_2 (by decide) (pcT := 9) (by decide) rfl (fun hc1 => ?_) (fun hc1 => ?_)
  · skip
    refine own_iloadN X0 d11_9 rfl rfl ?_
    exact own_retI X0 rfl d11_10 ⟨by rw [own_fmx, if_pos hc1], rfl⟩ (Nat.le_refl _) (Nat.le_refl _)
  · skip
    refine own_iloadN X0 d11_5 rfl rfl ?_
    refine own_goto X0 d11_6 (by decide) (pc' := 10) (by decide) ?_
    exact own_retI X0 rfl d11_10 ⟨by rw [own_fmx, if_neg hc1], rfl⟩ (Nat.le_refl _) (Nat.le_refl _)
theorem d13_0 : decode jdk_29_method_69_code 0 = .ok (.iload_n 0, 1) := by decide +kernel
theorem d13_1 : decode jdk_29_method_69_code 1 = .ok (.iload_n 1, 1) := by decide +kernel
theorem d13_2 : decode jdk_29_method_69_code 2 = .ok (.if_icmp .gt 7, 3) := by decide +kernel
theorem d13_5 : decode jdk_29_method_69_code 5 = .ok (.iload_n 0, 1) := by decide +kernel
theorem d13_6 : decode jdk_29_method_69_code 6 = .ok (.goto 4, 3) := by decide +kernel
theorem d13_9 : decode jdk_29_method_69_code 9 = .ok (.iload_n 1, 1) := by decide +kernel
theorem d13_10 : decode jdk_29_method_69_code 10 = .ok (.ireturn, 1) := by decide +kernel
theorem own_pnmn : plainFor (⟨"java/lang/Math", "min", "(II)I"⟩ : MethodName) = true := by first | exact plainFor_of_name (by first | (simp [plainName, overriddenIn, x]; done) | decide +kernel) | decide +kernel
theorem own_efmn (p1 : Int32) (p2 : Int32) (m : MethodId) : entryFrame m #[(.int p1), (.int p2)] 2 = mkF m 0 #[.val (.int p1), .val (.int p2)] [] := by
  first | (simp [entryFrame, mkF, argsToLocals, Value.category]; done) | rfl
theorem own_pdmn : parseMethodDescriptor "(II)I" = some ⟨[.int, .int], some .int⟩ := by decide +kernel
def own_fmn (p1 : Int32) (p2 : Int32) : Int32 := (if p2 < p1 then p2 else p1)
set_option maxRecDepth 65536 in
set_option maxHeartbeats 40000000 in
theorem own_mmn (l : Launch) (Z : State) (a0 : Array Value) (hw : ∀ d ∈ tables_1, d.before a0 Z = true) (ws : List Jvm.Cond) (p1 : Int32) (p2 : Int32) (h0 : Heap) (n0 : Nat) :
    own_Met l Z (⟨"java/lang/Math", "min", "(II)I"⟩ : MethodName) jdk_29_method_69_code 2 (some .int) ws ({ frames := 0, cells := 0, slots := 0, locals := 0 } : Room) #[(.int p1), (.int p2)] h0 n0 (fun v h => v = some (.int (own_fmn p1 p2)) ∧ h0 = h) := by
  refine own_enter (own := "java/lang/Math") (nm := "min") rfl rfl own_pnmn (own_efmn p1 p2) ?_
  intro p e s m below meth c T0 X0
  refine own_iloadN X0 d13_0 rfl rfl ?_
  refine own_iloadN X0 d13_1 rfl rfl ?_
  refine own_icmp_gt X0 d13_2 (by decide) (pcT := 9) (by decide) rfl (fun hc1 => ?_) (fun hc1 => ?_)
  · skip
    refine own_iloadN X0 d13_9 rfl rfl ?_
    exact own_retI X0 rfl d13_10 ⟨by rw [own_fmn, if_pos hc1], rfl⟩ (Nat.le_refl _) (Nat.le_refl _)
  · skip
    refine own_iloadN X0 d13_5 rfl rfl ?_
    refine own_goto X0 d13_6 (by decide) (pc' := 10) (by decide) ?_
    exact own_retI X0 rfl d13_10 ⟨by rw [own_fmn, if_neg hc1], rfl⟩ (Nat.le_refl _) (Nat.le_refl _)

def own_len (i n : Nat) : Nat := if i < n then n else max (i + 1) (2 * n)
theorem own_len_hi (i n : Nat) : i < own_len i n := by unfold own_len; split <;> omega
theorem own_len_8 {i n : Nat} (h1 : i < 8) (h2 : n ≤ i → 2 * n ≤ 8) (h3 : n ≤ 8) : own_len i n ≤ 8 := by unfold own_len; split <;> omega
theorem own_len_6 {i n : Nat} (h1 : i ≤ 3) (h2 : n ≤ 6) : own_len i n ≤ 6 := by unfold own_len; split <;> omega
theorem own_lt32 {i n : Nat} (hi : i < 2 ^ 31) (hn : n < 2 ^ 31) : i.toInt32 < n.toInt32 ↔ i < n := by rw [Int32.lt_iff_toInt_lt, own_i32 hi, own_i32 hn]; omega
theorem own_mxN {i n : Nat} (h1 : i < 8) (h2 : ¬ i < n) : own_fmx (i.toInt32 + (1 : Int32)) (n.toInt32 * (2 : Int32)) = (own_len i n).toInt32 := by
  have e1 : (i.toInt32 + (1 : Int32)).toInt = (i + 1 : Nat) := by
    have h := own_i32 (n := i) (by omega)
    rw [XT.add32, h]
    · rfl
    · rw [h]; exact ⟨by show _ ≤ (i : Int) + 1; omega, by show (i : Int) + 1 < _; omega⟩
  have e2 : (n.toInt32 * (2 : Int32)).toInt = (2 * n : Nat) := by
    have h := own_i32 (n := n) (by omega)
    rw [XT.mul32, h]
    · show (n : Int) * 2 = _; omega
    · rw [h]; exact ⟨by show _ ≤ (n : Int) * 2; omega, by show (n : Int) * 2 < _; omega⟩
  have e3 : (own_len i n).toInt32.toInt = (own_len i n : Nat) := own_i32 (by unfold own_len; split <;> omega)
  rw [← Int32.toInt_inj, e3]
  unfold own_fmx own_len
  rw [if_neg h2]
  by_cases q : (i.toInt32 + (1 : Int32)) < (n.toInt32 * (2 : Int32))
  · rw [if_pos q, e2]; rw [Int32.lt_iff_toInt_lt, e1, e2] at q; omega
  · rw [if_neg q, e1]; rw [Int32.lt_iff_toInt_lt, e1, e2] at q; omega
theorem own_mnN {n N : Nat} (h1 : n < N) (h2 : N ≤ 8) : own_fmn n.toInt32 N.toInt32 = n.toInt32 := by
  unfold own_fmn
  rw [if_neg (fun z => by rw [own_lt32 (by omega) (by omega)] at z; omega)]
theorem d12_0 : decode jdk_65_method_123_code 0 = .ok (.iload_n 1, 1) := by decide +kernel
theorem d12_1 : decode jdk_65_method_123_code 1 = .ok (.aload_n 0, 1) := by decide +kernel
theorem d12_2 : decode jdk_65_method_123_code 2 = .ok (.arraylength, 1) := by decide +kernel
theorem d12_3 : decode jdk_65_method_123_code 3 = .ok (.if_icmp .ne 11, 3) := by decide +kernel
theorem d12_14 : decode jdk_65_method_123_code 14 = .ok (.iload_n 1, 1) := by decide +kernel
theorem d12_15 : decode jdk_65_method_123_code 15 = .ok (.newarray .int, 2) := by decide +kernel
theorem d12_17 : decode jdk_65_method_123_code 17 = .ok (.astore_n 2, 1) := by decide +kernel
theorem d12_18 : decode jdk_65_method_123_code 18 = .ok (.aload_n 0, 1) := by decide +kernel
theorem d12_19 : decode jdk_65_method_123_code 19 = .ok (.iconst 0, 1) := by decide +kernel
theorem d12_20 : decode jdk_65_method_123_code 20 = .ok (.aload_n 2, 1) := by decide +kernel
theorem d12_21 : decode jdk_65_method_123_code 21 = .ok (.iconst 0, 1) := by decide +kernel
theorem d12_22 : decode jdk_65_method_123_code 22 = .ok (.aload_n 0, 1) := by decide +kernel
theorem d12_23 : decode jdk_65_method_123_code 23 = .ok (.arraylength, 1) := by decide +kernel
theorem d12_24 : decode jdk_65_method_123_code 24 = .ok (.iload_n 1, 1) := by decide +kernel
theorem d12_25 : decode jdk_65_method_123_code 25 = .ok (.invokestatic 304, 3) := by decide +kernel
theorem d12_28 : decode jdk_65_method_123_code 28 = .ok (.invokestatic 150, 3) := by decide +kernel
theorem d12_31 : decode jdk_65_method_123_code 31 = .ok (.aload_n 2, 1) := by decide +kernel
theorem d12_32 : decode jdk_65_method_123_code 32 = .ok (.areturn, 1) := by decide +kernel
theorem own_pncp : plainFor (⟨"java/util/Arrays", "copyOf", "([II)[I"⟩ : MethodName) = true := by first | exact plainFor_of_name (by first | (simp [plainName, overriddenIn, x]; done) | decide +kernel) | decide +kernel
theorem own_efcp (t_ : Addr) (z_ : Int32) (m : MethodId) : entryFrame m #[(.ref t_), (.int z_)] 3 = mkF m 0 #[.val (.ref t_), .val (.int z_), .unset] [] := by
  first | (simp [entryFrame, mkF, argsToLocals, Value.category]; done) | rfl
def own_qcp (t_ : Addr) (z_ : Int32) (n : Nat) (N : Nat) (Z : State) (h0 : Heap) (v : Option Value) (h : Heap) : Prop := ∃ (r_ : Addr), v = some (.ref r_) ∧ Keep h0 h [] ∧ own_IA Z h r_ N ∧ h0.size ≤ r_
set_option maxRecDepth 65536 in
set_option maxHeartbeats 40000000 in
theorem own_mcp (l : Launch) (Z : State) (a0 : Array Value) (hw : ∀ d ∈ tables_1, d.before a0 Z = true) (ws : List Jvm.Cond) (t_ : Addr) (z_ : Int32) (n : Nat) (N : Nat) (h0 : Heap) (n0 : Nat) (Z0 : n0 ≤ h0.size) (F1 : own_IA Z h0 t_ n) (hz : z_ = N.toInt32) (hnN : n < N) (hN : N ≤ 8) :
    own_Met l Z (⟨"java/util/Arrays", "copyOf", "([II)[I"⟩ : MethodName) jdk_65_method_123_code 3 (some (.array .int)) ws ({ frames := 1, cells := 1, slots := 8, locals := 24 } : Room) #[(.ref t_), (.int z_)] h0 n0 (own_qcp t_ z_ n N Z h0) := by
  refine own_enter (own := "java/util/Arrays") (nm := "copyOf") rfl rfl own_pncp (own_efcp t_ z_) ?_
  intro p e s m below meth c T0 X0
  have K2 := (Keep.refl h0 [])
  subst hz
  refine own_iloadN X0 d12_0 rfl rfl ?_
  refine own_aloadN X0 d12_1 rfl rfl rfl ?_
  refine own_alenI X0 F1 d12_2 rfl ?_
  refine own_icmp_ne X0 d12_3 (by decide) (pcT := 14) (by decide) rfl (fun hc => ?_) (fun hc => absurd hc (fun z => absurd (congrArg Int32.toInt z) (by rw [own_i32 (by omega), own_i32 (by omega)]; omega)))
  refine own_iloadN X0 d12_14 rfl rfl ?_
  refine own_newarray X0 (hw _ (List.mem_of_getElem? (i := 9) rfl)) (n := N.toInt32) 8 (own_nneg (by omega)) (by rw [own_nat (by omega)]; exact hN) (by decide) d12_15 rfl (cells' := 1) (slots' := 8) rfl rfl (by decide) (by decide) (fun T3 h5 cA10 a8 g9 X4 E6 A7 => ?_)
  have ge_a8 : n0 ≤ a8 := Nat.le_trans Z0 (Nat.le_of_eq g9.symm)
  have ne_t__a8 : t_ ≠ a8 := Nat.ne_of_lt (g9 ▸ F1.lt)
  have fr_a8 : h0.size ≤ a8 := Nat.le_trans K2.1 (Nat.le_of_eq g9.symm)
  have F11 := own_IA_new (n := N) A7 rfl (by omega)
  have F12 := (F1.ext E6)
  have Z13 : n0 ≤ h5.size := (Nat.le_trans Z0 E6.1)
  have K14 := (K2.ext E6)
  refine own_astoreN X4 (L' := #[.val (.ref t_), .val (.int N.toInt32), .val (.ref a8)]) d12_17 rfl rfl rfl ?_
  refine own_aloadN X4 d12_18 rfl rfl rfl ?_
  refine own_iconst X4 (0 : Int32) d12_19 rfl (by decide) ?_
  refine own_aloadN X4 d12_20 rfl rfl rfl ?_
  refine own_iconst X4 (0 : Int32) d12_21 rfl (by decide) ?_
  refine own_aloadN X4 d12_22 rfl rfl rfl ?_
  refine own_alenI X4 F12 d12_23 rfl ?_
  refine own_iloadN X4 d12_24 rfl rfl ?_
  refine own_callS X4 (hw _ (List.mem_of_getElem? (i := 81) rfl)) (hw _ (List.mem_of_getElem? (i := 82) rfl)) (hw _ (List.mem_of_getElem? (i := 75) rfl)) (hw _ (List.mem_of_getElem? (i := 83) rfl)) (by decide) (argsL := [(.int n.toInt32), (.int N.toInt32)]) (rest := [(.int (0 : Int32)), (.ref a8), (.int (0 : Int32)), (.ref t_)]) (own_mmn l Z a0 hw [] n.toInt32 N.toInt32 _ _) own_pdmn rfl d12_25 rfl rfl rfl (W := 4) rfl (by decide) (by decide) (cells' := 1) (slots' := 8) rfl rfl (by decide) (by decide) (fun v T15 h17 X16 q18 => ?_)
  obtain ⟨rfl, rfl⟩ := q18
  show own_Fin p e below (own_End s n0 (own_qcp t_ (N.toInt32) n N Z h0) ({ frames := 1, cells := 1, slots := 8, locals := 24 } : Room).cells ({ frames := 1, cells := 1, slots := 8, locals := 24 } : Room).slots) (T15.setTop (mkF m 28 #[.val (.ref t_), .val (.int N.toInt32), .val (.ref a8)] [(.int (own_fmn n.toInt32 N.toInt32)), (.int (0 : Int32)), (.ref a8), (.int (0 : Int32)), (.ref t_)]))
  rw [own_mnN hnN hN]
  show own_Fin p e below (own_End s n0 (own_qcp t_ (N.toInt32) n N Z h0) ({ frames := 1, cells := 1, slots := 8, locals := 24 } : Room).cells ({ frames := 1, cells := 1, slots := 8, locals := 24 } : Room).slots) (T15.setTop (mkF m 28 #[.val (.ref t_), .val (.int N.toInt32), .val (.ref a8)] [(.int n.toInt32), (.int (0 : Int32)), (.ref a8), (.int (0 : Int32)), (.ref t_)]))
  refine own_cpI X16 (k := n) (hw _ (List.mem_of_getElem? (i := 84) rfl)) (hw _ (List.mem_of_getElem? (i := 87) rfl)) (hw _ (List.mem_of_getElem? (i := 85) rfl)) (hw _ (List.mem_of_getElem? (i := 86) rfl)) F12 F11 (Nat.le_refl _) (Nat.le_of_lt hnN) ge_a8 d12_28 rfl rfl (by decide) (W := 0) rfl (by decide) (fun T19 h21 X20 K22 F23 => ?_)
  have F24 := (F12.keep K22 (ninS ne_t__a8 nin0))
  have Z25 : n0 ≤ h21.size := (Nat.le_trans Z13 K22.1)
  have K26 := (K14.trans K22 (allS (P := fun x => x ∈ _ ∨ _ ≤ x) (Or.inr fr_a8) all0))
  refine own_aloadN X20 d12_31 rfl rfl rfl ?_
  exact own_retA X20 rfl rfl rfl d12_32 ⟨_, rfl, K26, F23, fr_a8⟩ (by decide) (by decide)
theorem d10_0 : decode prog_63_method_10_code 0 = .ok (.iload_n 1, 1) := by decide +kernel
theorem d10_1 : decode prog_63_method_10_code 1 = .ok (.aload_n 0, 1) := by decide +kernel
theorem d10_2 : decode prog_63_method_10_code 2 = .ok (.arraylength, 1) := by decide +kernel
theorem d10_3 : decode prog_63_method_10_code 3 = .ok (.if_icmp .ge 7, 3) := by decide +kernel
theorem d10_6 : decode prog_63_method_10_code 6 = .ok (.aload_n 0, 1) := by decide +kernel
theorem d10_7 : decode prog_63_method_10_code 7 = .ok (.goto 17, 3) := by decide +kernel
theorem d10_10 : decode prog_63_method_10_code 10 = .ok (.aload_n 0, 1) := by decide +kernel
theorem d10_11 : decode prog_63_method_10_code 11 = .ok (.iload_n 1, 1) := by decide +kernel
theorem d10_12 : decode prog_63_method_10_code 12 = .ok (.iconst 1, 1) := by decide +kernel
theorem d10_13 : decode prog_63_method_10_code 13 = .ok (.iadd, 1) := by decide +kernel
theorem d10_14 : decode prog_63_method_10_code 14 = .ok (.aload_n 0, 1) := by decide +kernel
theorem d10_15 : decode prog_63_method_10_code 15 = .ok (.arraylength, 1) := by decide +kernel
theorem d10_16 : decode prog_63_method_10_code 16 = .ok (.iconst 2, 1) := by decide +kernel
theorem d10_17 : decode prog_63_method_10_code 17 = .ok (.imul, 1) := by decide +kernel
theorem d10_18 : decode prog_63_method_10_code 18 = .ok (.invokestatic 45, 3) := by decide +kernel
theorem d10_21 : decode prog_63_method_10_code 21 = .ok (.invokestatic 51, 3) := by decide +kernel
theorem d10_24 : decode prog_63_method_10_code 24 = .ok (.astore_n 3, 1) := by decide +kernel
theorem d10_25 : decode prog_63_method_10_code 25 = .ok (.aload_n 3, 1) := by decide +kernel
theorem d10_26 : decode prog_63_method_10_code 26 = .ok (.iload_n 1, 1) := by decide +kernel
theorem d10_27 : decode prog_63_method_10_code 27 = .ok (.iload_n 2, 1) := by decide +kernel
theorem d10_28 : decode prog_63_method_10_code 28 = .ok (.iastore, 1) := by decide +kernel
theorem d10_29 : decode prog_63_method_10_code 29 = .ok (.aload_n 3, 1) := by decide +kernel
theorem d10_30 : decode prog_63_method_10_code 30 = .ok (.areturn, 1) := by decide +kernel
theorem own_pnsa : plainFor (⟨"com/example/racewright/racewright/happensbefore/VectorClock", "set", "([III)[I"⟩ : MethodName) = true := by first | exact plainFor_of_name (by first | (simp [plainName, overriddenIn, x]; done) | decide +kernel) | decide +kernel
theorem own_efsa (t_ : Addr) (ni : Nat) (v_ : Int32) (m : MethodId) : entryFrame m #[(.ref t_), (.int ni.toInt32), (.int v_)] 4 = mkF m 0 #[.val (.ref t_), .val (.int ni.toInt32), .val (.int v_), .unset] [] := by
  first | (simp [entryFrame, mkF, argsToLocals, Value.category]; done) | rfl
def own_qsa (t_ : Addr) (ni : Nat) (v_ : Int32) (n : Nat) (Z : State) (h0 : Heap) (v : Option Value) (h : Heap) : Prop := ∃ (r_ : Addr), v = some (.ref r_) ∧ Keep h0 h [t_] ∧ own_IA Z h r_ (own_len ni n) ∧ (r_ = t_ ∨ h0.size ≤ r_)
set_option maxRecDepth 65536 in
set_option maxHeartbeats 40000000 in
theorem own_msa (l : Launch) (Z : State) (a0 : Array Value) (hw : ∀ d ∈ tables_1, d.before a0 Z = true) (ws : List Jvm.Cond) (t_ : Addr) (ni : Nat) (v_ : Int32) (n : Nat) (h0 : Heap) (n0 : Nat) (Z0 : n0 ≤ h0.size) (F1 : own_IA Z h0 t_ n) (ge_t_ : n0 ≤ t_) (hni : ni < 8) (hn : n ≤ ni → 2 * n ≤ 8) (hn8 : n ≤ 8) :
    own_Met l Z (⟨"com/example/racewright/racewright/happensbefore/VectorClock", "set", "([III)[I"⟩ : MethodName) prog_63_method_10_code 4 (some (.array .int)) ws ({ frames := 2, cells := 1, slots := 8, locals := 38 } : Room) #[(.ref t_), (.int ni.toInt32), (.int v_)] h0 n0 (own_qsa t_ ni v_ n Z h0) := by
  refine own_enter (own := "com/example/racewright/racewright/happensbefore/VectorClock") (nm := "set") rfl rfl own_pnsa (own_efsa t_ ni v_) ?_
  intro p e s m below meth c T0 X0
  have K2 := (Keep.refl h0 [t_])
  refine own_iloadN X0 d10_0 rfl rfl ?_
  refine own_aloadN X0 d10_1 rfl rfl rfl ?_
  refine own_alenI X0 F1 d10_2 rfl ?_
  refine own_icmp_ge X0 d10_3 (by decide) (pcT := 10) (by decide) rfl (fun hc3 => ?_) (fun hc3 => ?_)
  · skip
    refine own_aloadN X0 d10_10 rfl rfl rfl ?_
    refine own_iloadN X0 d10_11 rfl rfl ?_
    refine own_iconst X0 (1 : Int32) d10_12 rfl (by decide) ?_
    refine own_iadd X0 d10_13 rfl ?_
    refine own_aloadN X0 d10_14 rfl rfl rfl ?_
    refine own_alenI X0 F1 d10_15 rfl ?_
    refine own_iconst X0 (2 : Int32) d10_16 rfl (by decide) ?_
    refine own_imul X0 d10_17 rfl ?_
    refine own_callS X0 (hw _ (List.mem_of_getElem? (i := 73) rfl)) (hw _ (List.mem_of_getElem? (i := 74) rfl)) (hw _ (List.mem_of_getElem? (i := 75) rfl)) (hw _ (List.mem_of_getElem? (i := 76) rfl)) (by decide) (argsL := [(.int (ni.toInt32 + (1 : Int32))), (.int (n.toInt32 * (2 : Int32)))]) (rest := [(.ref t_)]) (own_mmx l Z a0 hw [] (ni.toInt32 + (1 : Int32)) (n.toInt32 * (2 : Int32)) _ _) own_pdmx rfl d10_18 rfl rfl rfl (W := 1) rfl (by decide) (by decide) (cells' := 0) (slots' := 0) rfl rfl (by decide) (by decide) (fun v T4 h6 X5 q7 => ?_)
    obtain ⟨rfl, rfl⟩ := q7
    show own_Fin p e below (own_End s n0 (own_qsa t_ ni v_ n Z h0) ({ frames := 2, cells := 1, slots := 8, locals := 38 } : Room).cells ({ frames := 2, cells := 1, slots := 8, locals := 38 } : Room).slots) (T4.setTop (mkF m 21 #[.val (.ref t_), .val (.int ni.toInt32), .val (.int v_), .unset] [(.int (own_fmx (ni.toInt32 + (1 : Int32)) (n.toInt32 * (2 : Int32)))), (.ref t_)]))
    refine own_callS X5 (hw _ (List.mem_of_getElem? (i := 77) rfl)) (hw _ (List.mem_of_getElem? (i := 78) rfl)) (hw _ (List.mem_of_getElem? (i := 79) rfl)) (hw _ (List.mem_of_getElem? (i := 80) rfl)) (by decide) (argsL := [(.ref t_), (.int (own_fmx (ni.toInt32 + (1 : Int32)) (n.toInt32 * (2 : Int32))))]) (rest := []) (own_mcp l Z a0 hw [] t_ (own_fmx (ni.toInt32 + (1 : Int32)) (n.toInt32 * (2 : Int32))) n (own_len ni n) _ _ Z0 F1 (own_mxN hni (fun z => hc3 ((own_lt32 (by omega) (by omega)).mpr z))) (Nat.lt_of_le_of_lt (Nat.le_of_not_lt fun z => hc3 ((own_lt32 (by omega) (by omega)).mpr z)) (own_len_hi ni n)) (own_len_8 hni hn hn8)) (pd_12) rfl d10_21 rfl rfl rfl (W := 0) rfl (by decide) (by decide) (cells' := 1) (slots' := 8) rfl rfl (by decide) (by decide) (fun v T12 h14 X13 q15 => ?_)
    obtain ⟨r8, rfl, K11, F9, F10⟩ := q15
    show own_Fin p e below (own_End s n0 (own_qsa t_ ni v_ n Z h0) ({ frames := 2, cells := 1, slots := 8, locals := 38 } : Room).cells ({ frames := 2, cells := 1, slots := 8, locals := 38 } : Room).slots) (T12.setTop (mkF m 24 #[.val (.ref t_), .val (.int ni.toInt32), .val (.int v_), .unset] [(.ref r8)]))
    have F16 := (F1.keep K11 nin0)
    have Z17 : n0 ≤ h14.size := (Nat.le_trans Z0 K11.1)
    have K18 := (K2.trans K11 all0)
    have ge_r8 : n0 ≤ r8 := Nat.le_trans Z0 F10
    have ne_t__r8 : t_ ≠ r8 := (fun q => Nat.ne_of_lt (Nat.lt_of_lt_of_le F1.lt q)) F10
    have fr_r8 : h0.size ≤ r8 := Nat.le_trans K2.1 F10
    refine own_astoreN X13 (L' := #[.val (.ref t_), .val (.int ni.toInt32), .val (.int v_), .val (.ref r8)]) d10_24 rfl rfl rfl ?_
    refine own_aloadN X13 d10_25 rfl rfl rfl ?_
    refine own_iloadN X13 d10_26 rfl rfl ?_
    refine own_iloadN X13 d10_27 rfl rfl ?_
    refine own_iastoreI X13 F9 (own_len_hi ni n) ge_r8 d10_28 rfl (fun T19 h21 X20 W22 F23 => ?_)
    have F24 := (F16.other W22 ne_t__r8)
    have Z25 : n0 ≤ h21.size := (Nat.le_trans Z17 (Nat.le_of_eq W22.size.symm))
    have K26 := (K18.wr W22 (Or.inr fr_r8))
    refine own_aloadN X20 d10_29 rfl rfl rfl ?_
    exact own_retA X20 rfl rfl rfl d10_30 ⟨r8, rfl, K26, F23, (Or.inr fr_r8)⟩ (by decide) (by decide)
  · skip
    refine own_aloadN X0 d10_6 rfl rfl rfl ?_
    refine own_goto X0 d10_7 (by decide) (pc' := 24) (by decide) ?_
    refine own_astoreN X0 (L' := #[.val (.ref t_), .val (.int ni.toInt32), .val (.int v_), .val (.ref t_)]) d10_24 rfl rfl rfl ?_
    refine own_aloadN X0 d10_25 rfl rfl rfl ?_
    refine own_iloadN X0 d10_26 rfl rfl ?_
    refine own_iloadN X0 d10_27 rfl rfl ?_
    refine own_iastoreI X0 F1 ((own_lt32 (by omega) (by omega)).mp hc3) ge_t_ d10_28 rfl (fun T27 h29 X28 W30 F31 => ?_)
    have Z32 : n0 ≤ h29.size := (Nat.le_trans Z0 (Nat.le_of_eq W30.size.symm))
    have K33 := (K2.wr W30 (Or.inl (List.mem_of_getElem? (i := 0) rfl)))
    have el : n = own_len ni n := by rw [own_len, if_pos ((own_lt32 (by omega) (by omega)).mp hc3)]
    refine own_aloadN X28 d10_29 rfl rfl rfl ?_
    exact own_retA X28 rfl rfl rfl d10_30 ⟨t_, rfl, K33, (el ▸ F31), (Or.inl rfl)⟩ (by decide) (by decide)
theorem d9_0 : decode prog_63_method_4_code 0 = .ok (.aload_n 0, 1) := by decide +kernel
theorem d9_1 : decode prog_63_method_4_code 1 = .ok (.aload_n 0, 1) := by decide +kernel
theorem d9_2 : decode prog_63_method_4_code 2 = .ok (.getfield 7, 3) := by decide +kernel
theorem d9_5 : decode prog_63_method_4_code 5 = .ok (.iload_n 1, 1) := by decide +kernel
theorem d9_6 : decode prog_63_method_4_code 6 = .ok (.iload_n 2, 1) := by decide +kernel
theorem d9_7 : decode prog_63_method_4_code 7 = .ok (.invokestatic 16, 3) := by decide +kernel
theorem d9_10 : decode prog_63_method_4_code 10 = .ok (.putfield 7, 3) := by decide +kernel
theorem d9_13 : decode prog_63_method_4_code 13 = .ok (.aload_n 0, 1) := by decide +kernel
theorem d9_14 : decode prog_63_method_4_code 14 = .ok (.aload_n 0, 1) := by decide +kernel
theorem d9_15 : decode prog_63_method_4_code 15 = .ok (.getfield 13, 3) := by decide +kernel
theorem d9_18 : decode prog_63_method_4_code 18 = .ok (.iload_n 1, 1) := by decide +kernel
theorem d9_19 : decode prog_63_method_4_code 19 = .ok (.iload_n 2, 1) := by decide +kernel
theorem d9_20 : decode prog_63_method_4_code 20 = .ok (.invokestatic 16, 3) := by decide +kernel
theorem d9_23 : decode prog_63_method_4_code 23 = .ok (.putfield 13, 3) := by decide +kernel
theorem d9_26 : decode prog_63_method_4_code 26 = .ok (.return_, 1) := by decide +kernel
theorem own_pnsv : plainFor (⟨"com/example/racewright/racewright/happensbefore/VectorClock", "set", "(II)V"⟩ : MethodName) = true := by first | exact plainFor_of_name (by first | (simp [plainName, overriddenIn, x]; done) | decide +kernel) | decide +kernel
theorem own_efsv (a0_ : Addr) (ni : Nat) (v_ : Int32) (m : MethodId) : entryFrame m #[(.ref a0_), (.int ni.toInt32), (.int v_)] 3 = mkF m 0 #[.val (.ref a0_), .val (.int ni.toInt32), .val (.int v_)] [] := by
  first | (simp [entryFrame, mkF, argsToLocals, Value.category]; done) | rfl
def own_qsv (a0_ : Addr) (ni : Nat) (v_ : Int32) (t_ : Addr) (u_ : Addr) (n : Nat) (k : Nat) (Z : State) (h0 : Heap) (v : Option Value) (h : Heap) : Prop := ∃ (t2_ : Addr) (u2_ : Addr), v = none ∧ Keep h0 h [a0_, t_, u_] ∧ Fld Z h a0_ "com/example/racewright/racewright/happensbefore/VectorClock" "ticks" "[I" (.ref t2_) ∧ Fld Z h a0_ "com/example/racewright/racewright/happensbefore/VectorClock" "apart" "[I" (.ref u2_) ∧ own_IA Z h t2_ (own_len ni n) ∧ own_IA Z h u2_ (own_len ni k) ∧ (t2_ = t_ ∨ h0.size ≤ t2_) ∧ (u2_ = u_ ∨ h0.size ≤ u2_) ∧ t2_ ≠ u2_
set_option maxRecDepth 65536 in
set_option maxHeartbeats 40000000 in
theorem own_msv (l : Launch) (Z : State) (a0 : Array Value) (hw : ∀ d ∈ tables_1, d.before a0 Z = true) (ws : List Jvm.Cond) (a0_ : Addr) (ni : Nat) (v_ : Int32) (t_ : Addr) (u_ : Addr) (n : Nat) (k : Nat) (h0 : Heap) (n0 : Nat) (Z0 : n0 ≤ h0.size) (F1 : Exa Z h0 a0_ "com/example/racewright/racewright/happensbefore/VectorClock") (F2 : Fld Z h0 a0_ "com/example/racewright/racewright/happensbefore/VectorClock" "ticks" "[I" (.ref t_)) (F3 : Fld Z h0 a0_ "com/example/racewright/racewright/happensbefore/VectorClock" "apart" "[I" (.ref u_)) (F4 : own_IA Z h0 t_ n) (F5 : own_IA Z h0 u_ k) (ge_a0_ : n0 ≤ a0_) (ge_t_ : n0 ≤ t_) (ge_u_ : n0 ≤ u_) (ne_a0__t_ : a0_ ≠ t_) (ne_a0__u_ : a0_ ≠ u_) (ne_t__u_ : t_ ≠ u_) (hni : ni < 8) (hn : n ≤ ni → 2 * n ≤ 8) (hn8 : n ≤ 8) (hk : k ≤ ni → 2 * k ≤ 8) (hk8 : k ≤ 8) :
    own_Met l Z (⟨"com/example/racewright/racewright/happensbefore/VectorClock", "set", "(II)V"⟩ : MethodName) prog_63_method_4_code 3 none ws ({ frames := 3, cells := 2, slots := 16, locals := 54 } : Room) #[(.ref a0_), (.int ni.toInt32), (.int v_)] h0 n0 (own_qsv a0_ ni v_ t_ u_ n k Z h0) := by
  refine own_enter (own := "com/example/racewright/racewright/happensbefore/VectorClock") (nm := "set") rfl rfl own_pnsv (own_efsv a0_ ni v_) ?_
  intro p e s m below meth c T0 X0
  have K6 := (Keep.refl h0 [a0_, t_, u_])
  refine own_aloadN X0 d9_0 rfl rfl rfl ?_
  refine own_aloadN X0 d9_1 rfl rfl rfl ?_
  refine own_getf X0 (hw _ (List.mem_of_getElem? (i := 10) rfl)) F2 d9_2 rfl (fun T7 X8 => ?_)
  refine own_iloadN X8 d9_5 rfl rfl ?_
  refine own_iloadN X8 d9_6 rfl rfl ?_
  refine own_callS X8 (hw _ (List.mem_of_getElem? (i := 70) rfl)) (hw _ (List.mem_of_getElem? (i := 71) rfl)) (hw _ (List.mem_of_getElem? (i := 2) rfl)) (hw _ (List.mem_of_getElem? (i := 72) rfl)) (by decide) (argsL := [(.ref t_), (.int ni.toInt32), (.int v_)]) (rest := [(.ref a0_)]) (own_msa l Z a0 hw [] t_ ni v_ n _ _ Z0 F4 ge_t_ hni hn hn8) (pd_10) rfl d9_7 rfl rfl rfl (W := 1) rfl (by decide) (by decide) (cells' := 1) (slots' := 8) rfl rfl (by decide) (by decide) (fun v T13 h15 X14 q16 => ?_)
  obtain ⟨r9, rfl, K12, F10, F11⟩ := q16
  show own_Fin p e below (own_End s n0 (own_qsv a0_ ni v_ t_ u_ n k Z h0) ({ frames := 3, cells := 2, slots := 16, locals := 54 } : Room).cells ({ frames := 3, cells := 2, slots := 16, locals := 54 } : Room).slots) (T13.setTop (mkF m 10 #[.val (.ref a0_), .val (.int ni.toInt32), .val (.int v_)] [(.ref r9), (.ref a0_)]))
  have F17 := (F1.keep K12)
  have F18 := (F2.keep K12 (ninS ne_a0__t_ nin0))
  have F19 := (F3.keep K12 (ninS ne_a0__t_ nin0))
  have F20 := (F5.keep K12 (ninS (Ne.symm ne_t__u_) nin0))
  have Z21 : n0 ≤ h15.size := (Nat.le_trans Z0 K12.1)
  have K22 := (K6.trans K12 (allS (P := fun x => x ∈ _ ∨ _ ≤ x) (Or.inl (List.mem_of_getElem? (i := 1) rfl)) all0))
  have ge_r9 : n0 ≤ r9 := F11.elim (fun q => q ▸ ge_t_) (fun q => Nat.le_trans Z0 q)
  have ne_a0__r9 : a0_ ≠ r9 := F11.elim (fun q => q ▸ ne_a0__t_) (fun q => Nat.ne_of_lt (Nat.lt_of_lt_of_le F1.lt q))
  have ne_u__r9 : u_ ≠ r9 := F11.elim (fun q => q ▸ (Ne.symm ne_t__u_)) (fun q => Nat.ne_of_lt (Nat.lt_of_lt_of_le F5.lt q))
  have pt : r9 = t_ ∨ h0.size ≤ r9 := F11.imp id (fun q => Nat.le_trans K6.1 q)
  refine own_putf X14 (hw _ (List.mem_of_getElem? (i := 10) rfl)) F18 F17 (Or.inl (hw _ (List.mem_of_getElem? (i := 11) rfl))) (hw _ (List.mem_of_getElem? (i := 1) rfl)) (ty := (.array .int)) (by decide) rfl rfl ge_a0_ d9_10 rfl (fun T23 h25 X24 W26 => ?_)
  have F27 := (F17.wr W26)
  have F28 := (F18.same W26)
  have F29 := (F19.other W26 (Or.inr (slot_ne (Or.inl (hw _ (List.mem_of_getElem? (i := 13) rfl))) (Or.inl (hw _ (List.mem_of_getElem? (i := 11) rfl))) (by decide) (t := (.array .int)) (t' := (.array .int)) (by decide) (by decide))))
  have F30 := (F20.other W26 (Ne.symm ne_a0__u_))
  have F31 := (F10.other W26 (Ne.symm ne_a0__r9))
  have Z32 : n0 ≤ h25.size := (Nat.le_trans Z21 (Nat.le_of_eq W26.size.symm))
  have K33 := (K22.wr W26 (Or.inl (List.mem_of_getElem? (i := 0) rfl)))
  refine own_aloadN X24 d9_13 rfl rfl rfl ?_
  refine own_aloadN X24 d9_14 rfl rfl rfl ?_
  refine own_getf X24 (hw _ (List.mem_of_getElem? (i := 12) rfl)) F29 d9_15 rfl (fun T34 X35 => ?_)
  refine own_iloadN X35 d9_18 rfl rfl ?_
  refine own_iloadN X35 d9_19 rfl rfl ?_
  refine own_callS X35 (hw _ (List.mem_of_getElem? (i := 70) rfl)) (hw _ (List.mem_of_getElem? (i := 71) rfl)) (hw _ (List.mem_of_getElem? (i := 2) rfl)) (hw _ (List.mem_of_getElem? (i := 72) rfl)) (by decide) (argsL := [(.ref u_), (.int ni.toInt32), (.int v_)]) (rest := [(.ref a0_)]) (own_msa l Z a0 hw [] u_ ni v_ k _ _ Z32 F30 ge_u_ hni hk hk8) (pd_10) rfl d9_20 rfl rfl rfl (W := 1) rfl (by decide) (by decide) (cells' := 2) (slots' := 16) rfl rfl (by decide) (by decide) (fun v T40 h42 X41 q43 => ?_)
  obtain ⟨r36, rfl, K39, F37, F38⟩ := q43
  show own_Fin p e below (own_End s n0 (own_qsv a0_ ni v_ t_ u_ n k Z h0) ({ frames := 3, cells := 2, slots := 16, locals := 54 } : Room).cells ({ frames := 3, cells := 2, slots := 16, locals := 54 } : Room).slots) (T40.setTop (mkF m 23 #[.val (.ref a0_), .val (.int ni.toInt32), .val (.int v_)] [(.ref r36), (.ref a0_)]))
  have F44 := (F27.keep K39)
  have F45 := (F28.keep K39 (ninS ne_a0__u_ nin0))
  have F46 := (F29.keep K39 (ninS ne_a0__u_ nin0))
  have F47 := (F31.keep K39 (ninS (Ne.symm ne_u__r9) nin0))
  have Z48 : n0 ≤ h42.size := (Nat.le_trans Z32 K39.1)
  have K49 := (K33.trans K39 (allS (P := fun x => x ∈ _ ∨ _ ≤ x) (Or.inl (List.mem_of_getElem? (i := 2) rfl)) all0))
  have ge_r36 : n0 ≤ r36 := F38.elim (fun q => q ▸ ge_u_) (fun q => Nat.le_trans Z32 q)
  have ne_a0__r36 : a0_ ≠ r36 := F38.elim (fun q => q ▸ ne_a0__u_) (fun q => Nat.ne_of_lt (Nat.lt_of_lt_of_le F27.lt q))
  have ne_r9_r36 : r9 ≠ r36 := F38.elim (fun q => q ▸ (Ne.symm ne_u__r9)) (fun q => Nat.ne_of_lt (Nat.lt_of_lt_of_le F31.lt q))
  have pu : r36 = u_ ∨ h0.size ≤ r36 := F38.imp id (fun q => Nat.le_trans K33.1 q)
  refine own_putf X41 (hw _ (List.mem_of_getElem? (i := 12) rfl)) F46 F44 (Or.inl (hw _ (List.mem_of_getElem? (i := 13) rfl))) (hw _ (List.mem_of_getElem? (i := 1) rfl)) (ty := (.array .int)) (by decide) rfl rfl ge_a0_ d9_23 rfl (fun T50 h52 X51 W53 => ?_)
  have F54 := (F44.wr W53)
  have F55 := (F45.other W53 (Or.inr (slot_ne (Or.inl (hw _ (List.mem_of_getElem? (i := 11) rfl))) (Or.inl (hw _ (List.mem_of_getElem? (i := 13) rfl))) (by decide) (t := (.array .int)) (t' := (.array .int)) (by decide) (by decide))))
  have F56 := (F46.same W53)
  have F57 := (F47.other W53 (Ne.symm ne_a0__r9))
  have F58 := (F37.other W53 (Ne.symm ne_a0__r36))
  have Z59 : n0 ≤ h52.size := (Nat.le_trans Z48 (Nat.le_of_eq W53.size.symm))
  have K60 := (K49.wr W53 (Or.inl (List.mem_of_getElem? (i := 0) rfl)))
  exact own_retV X51 rfl d9_26 ⟨r9, r36, rfl, K60, F55, F56, F57, F58, pt, pu, ne_r9_r36⟩ (by decide) (by decide)
theorem d1_0 : decode prog_63_method_1_code 0 = .ok (.aload_n 0, 1) := by decide +kernel
theorem d1_1 : decode prog_63_method_1_code 1 = .ok (.invokespecial 1, 3) := by decide +kernel
theorem d1_4 : decode prog_63_method_1_code 4 = .ok (.aload_n 0, 1) := by decide +kernel
theorem d1_5 : decode prog_63_method_1_code 5 = .ok (.iconst 0, 1) := by decide +kernel
theorem d1_6 : decode prog_63_method_1_code 6 = .ok (.newarray .int, 2) := by decide +kernel
theorem d1_8 : decode prog_63_method_1_code 8 = .ok (.putfield 7, 3) := by decide +kernel
theorem d1_11 : decode prog_63_method_1_code 11 = .ok (.aload_n 0, 1) := by decide +kernel
theorem d1_12 : decode prog_63_method_1_code 12 = .ok (.iconst 0, 1) := by decide +kernel
theorem d1_13 : decode prog_63_method_1_code 13 = .ok (.newarray .int, 2) := by decide +kernel
theorem d1_15 : decode prog_63_method_1_code 15 = .ok (.putfield 13, 3) := by decide +kernel
theorem d1_18 : decode prog_63_method_1_code 18 = .ok (.return_, 1) := by decide +kernel
theorem own_pnvi : plainFor (⟨"com/example/racewright/racewright/happensbefore/VectorClock", "<init>", "()V"⟩ : MethodName) = true := by first | exact plainFor_of_name (by first | (simp [plainName, overriddenIn, x]; done) | decide +kernel) | decide +kernel
theorem own_efvi (a0_ : Addr) (m : MethodId) : entryFrame m #[(.ref a0_)] 1 = mkF m 0 #[.val (.ref a0_)] [] := by
  first | (simp [entryFrame, mkF, argsToLocals, Value.category]; done) | rfl
def own_qvi (a0_ : Addr) (Z : State) (h0 : Heap) (v : Option Value) (h : Heap) : Prop := ∃ (t_ : Addr) (u_ : Addr), v = none ∧ Keep h0 h [a0_] ∧ Fld Z h a0_ "com/example/racewright/racewright/happensbefore/VectorClock" "ticks" "[I" (.ref t_) ∧ Fld Z h a0_ "com/example/racewright/racewright/happensbefore/VectorClock" "apart" "[I" (.ref u_) ∧ own_IA Z h t_ 0 ∧ own_IA Z h u_ 0 ∧ h0.size ≤ t_ ∧ h0.size ≤ u_ ∧ t_ ≠ u_
set_option maxRecDepth 65536 in
set_option maxHeartbeats 40000000 in
theorem own_mvi (l : Launch) (Z : State) (a0 : Array Value) (hw : ∀ d ∈ tables_1, d.before a0 Z = true) (ws : List Jvm.Cond) (a0_ : Addr) (h0 : Heap) (n0 : Nat) (Z0 : n0 ≤ h0.size) (F1 : Exa Z h0 a0_ "com/example/racewright/racewright/happensbefore/VectorClock") (F2 : Fld Z h0 a0_ "com/example/racewright/racewright/happensbefore/VectorClock" "ticks" "[I" (.null)) (F3 : Fld Z h0 a0_ "com/example/racewright/racewright/happensbefore/VectorClock" "apart" "[I" (.null)) (ge_a0_ : n0 ≤ a0_) :
    own_Met l Z (⟨"com/example/racewright/racewright/happensbefore/VectorClock", "<init>", "()V"⟩ : MethodName) prog_63_method_1_code 1 none ws ({ frames := 1, cells := 2, slots := 0, locals := 12 } : Room) #[(.ref a0_)] h0 n0 (own_qvi a0_ Z h0) := by
  refine own_enter (own := "com/example/racewright/racewright/happensbefore/VectorClock") (nm := "<init>") rfl rfl own_pnvi (own_efvi a0_) ?_
  intro p e s m below meth c T0 X0
  have K4 := (Keep.refl h0 [a0_])
  refine own_aloadN X0 d1_0 rfl rfl rfl ?_
  refine own_initO X0 (hw _ (List.mem_of_getElem? (i := 6) rfl)) (hw _ (List.mem_of_getElem? (i := 7) rfl)) (hw _ (List.mem_of_getElem? (i := 8) rfl)) d1_1 rfl rfl (by decide) (W := 0) rfl (by decide) (fun T5 X6 => ?_)
  refine own_aloadN X6 d1_4 rfl rfl rfl ?_
  refine own_iconst X6 (0 : Int32) d1_5 rfl (by decide) ?_
  refine own_newarray X6 (hw _ (List.mem_of_getElem? (i := 9) rfl)) (n := (0 : Int32)) 0 (by decide) (by decide) (by decide) d1_6 rfl (cells' := 1) (slots' := 0) rfl rfl (by decide) (by decide) (fun T7 h9 cA14 a12 g13 X8 E10 A11 => ?_)
  have ge_a12 : n0 ≤ a12 := Nat.le_trans Z0 (Nat.le_of_eq g13.symm)
  have ne_a0__a12 : a0_ ≠ a12 := Nat.ne_of_lt (g13 ▸ F1.lt)
  have fr_a12 : h0.size ≤ a12 := Nat.le_trans K4.1 (Nat.le_of_eq g13.symm)
  have F15 := (F1.ext E10)
  have F16 := (F2.ext E10)
  have F17 := (F3.ext E10)
  have Z18 : n0 ≤ h9.size := (Nat.le_trans Z0 E10.1)
  have K19 := (K4.ext E10)
  have F20 := own_IA_new (n := 0) A11 (by decide) (by decide)
  refine own_putf X8 (hw _ (List.mem_of_getElem? (i := 10) rfl)) F16 F15 (Or.inl (hw _ (List.mem_of_getElem? (i := 11) rfl))) (hw _ (List.mem_of_getElem? (i := 1) rfl)) (ty := (.array .int)) (by decide) rfl rfl ge_a0_ d1_8 rfl (fun T21 h23 X22 W24 => ?_)
  have F25 := (F15.wr W24)
  have F26 := (F16.same W24)
  have F27 := (F17.other W24 (Or.inr (slot_ne (Or.inl (hw _ (List.mem_of_getElem? (i := 13) rfl))) (Or.inl (hw _ (List.mem_of_getElem? (i := 11) rfl))) (by decide) (t := (.array .int)) (t' := (.array .int)) (by decide) (by decide))))
  have F28 := (F20.other W24 (Ne.symm ne_a0__a12))
  have Z29 : n0 ≤ h23.size := (Nat.le_trans Z18 (Nat.le_of_eq W24.size.symm))
  have K30 := (K19.wr W24 (Or.inl (List.mem_of_getElem? (i := 0) rfl)))
  refine own_aloadN X22 d1_11 rfl rfl rfl ?_
  refine own_iconst X22 (0 : Int32) d1_12 rfl (by decide) ?_
  refine own_newarray X22 (hw _ (List.mem_of_getElem? (i := 9) rfl)) (n := (0 : Int32)) 0 (by decide) (by decide) (by decide) d1_13 rfl (cells' := 2) (slots' := 0) rfl rfl (by decide) (by decide) (fun T31 h33 cA38 a36 g37 X32 E34 A35 => ?_)
  have ge_a36 : n0 ≤ a36 := Nat.le_trans Z29 (Nat.le_of_eq g37.symm)
  have ne_a0__a36 : a0_ ≠ a36 := Nat.ne_of_lt (g37 ▸ F25.lt)
  have ne_a12_a36 : a12 ≠ a36 := Nat.ne_of_lt (g37 ▸ F28.lt)
  have fr_a36 : h0.size ≤ a36 := Nat.le_trans K30.1 (Nat.le_of_eq g37.symm)
  have F39 := (F25.ext E34)
  have F40 := (F26.ext E34)
  have F41 := (F27.ext E34)
  have F42 := (F28.ext E34)
  have Z43 : n0 ≤ h33.size := (Nat.le_trans Z29 E34.1)
  have K44 := (K30.ext E34)
  have F45 := own_IA_new (n := 0) A35 (by decide) (by decide)
  refine own_putf X32 (hw _ (List.mem_of_getElem? (i := 12) rfl)) F41 F39 (Or.inl (hw _ (List.mem_of_getElem? (i := 13) rfl))) (hw _ (List.mem_of_getElem? (i := 1) rfl)) (ty := (.array .int)) (by decide) rfl rfl ge_a0_ d1_15 rfl (fun T46 h48 X47 W49 => ?_)
  have F50 := (F39.wr W49)
  have F51 := (F40.other W49 (Or.inr (slot_ne (Or.inl (hw _ (List.mem_of_getElem? (i := 11) rfl))) (Or.inl (hw _ (List.mem_of_getElem? (i := 13) rfl))) (by decide) (t := (.array .int)) (t' := (.array .int)) (by decide) (by decide))))
  have F52 := (F41.same W49)
  have F53 := (F42.other W49 (Ne.symm ne_a0__a12))
  have F54 := (F45.other W49 (Ne.symm ne_a0__a36))
  have Z55 : n0 ≤ h48.size := (Nat.le_trans Z43 (Nat.le_of_eq W49.size.symm))
  have K56 := (K44.wr W49 (Or.inl (List.mem_of_getElem? (i := 0) rfl)))
  exact own_retV X47 rfl d1_18 ⟨a12, a36, rfl, K56, F51, F52, F53, F54, fr_a12, fr_a36, ne_a12_a36⟩ (by decide) (by decide)
theorem d6_0 : decode jdk_22_method_1_code 0 = .ok (.aload_n 0, 1) := by decide +kernel
theorem d6_1 : decode jdk_22_method_1_code 1 = .ok (.invokespecial 1, 3) := by decide +kernel
theorem d6_4 : decode jdk_22_method_1_code 4 = .ok (.return_, 1) := by decide +kernel
theorem own_pnac : plainFor (⟨"java/util/AbstractCollection", "<init>", "()V"⟩ : MethodName) = true := by first | exact plainFor_of_name (by first | (simp [plainName, overriddenIn, x]; done) | decide +kernel) | decide +kernel
theorem own_efac (a0_ : Addr) (m : MethodId) : entryFrame m #[(.ref a0_)] 1 = mkF m 0 #[.val (.ref a0_)] [] := by
  first | (simp [entryFrame, mkF, argsToLocals, Value.category]; done) | rfl
def own_qac (a0_ : Addr) (Z : State) (h0 : Heap) (v : Option Value) (h : Heap) : Prop := v = none ∧ h0 = h
set_option maxRecDepth 65536 in
set_option maxHeartbeats 40000000 in
theorem own_mac (l : Launch) (Z : State) (a0 : Array Value) (hw : ∀ d ∈ tables_1, d.before a0 Z = true) (ws : List Jvm.Cond) (a0_ : Addr) (h0 : Heap) (n0 : Nat) (Z0 : n0 ≤ h0.size)  :
    own_Met l Z (⟨"java/util/AbstractCollection", "<init>", "()V"⟩ : MethodName) jdk_22_method_1_code 1 none ws ({ frames := 1, cells := 0, slots := 0, locals := 12 } : Room) #[(.ref a0_)] h0 n0 (own_qac a0_ Z h0) := by
  refine own_enter (own := "java/util/AbstractCollection") (nm := "<init>") rfl rfl own_pnac (own_efac a0_) ?_
  intro p e s m below meth c T0 X0
  refine own_aloadN X0 d6_0 rfl rfl rfl ?_
  refine own_initO X0 (hw _ (List.mem_of_getElem? (i := 39) rfl)) (hw _ (List.mem_of_getElem? (i := 7) rfl)) (hw _ (List.mem_of_getElem? (i := 8) rfl)) d6_1 rfl rfl (by decide) (W := 0) rfl (by decide) (fun T1 X2 => ?_)
  exact own_retV X2 rfl d6_4 ⟨rfl, rfl⟩ (by decide) (by decide)
theorem d5_0 : decode jdk_91_method_1_code 0 = .ok (.aload_n 0, 1) := by decide +kernel
theorem d5_1 : decode jdk_91_method_1_code 1 = .ok (.invokespecial 1, 3) := by decide +kernel
theorem d5_4 : decode jdk_91_method_1_code 4 = .ok (.return_, 1) := by decide +kernel
theorem own_pnas : plainFor (⟨"java/util/AbstractSet", "<init>", "()V"⟩ : MethodName) = true := by first | exact plainFor_of_name (by first | (simp [plainName, overriddenIn, x]; done) | decide +kernel) | decide +kernel
theorem own_efas (a0_ : Addr) (m : MethodId) : entryFrame m #[(.ref a0_)] 1 = mkF m 0 #[.val (.ref a0_)] [] := by
  first | (simp [entryFrame, mkF, argsToLocals, Value.category]; done) | rfl
def own_qas (a0_ : Addr) (Z : State) (h0 : Heap) (v : Option Value) (h : Heap) : Prop := v = none ∧ h0 = h
set_option maxRecDepth 65536 in
set_option maxHeartbeats 40000000 in
theorem own_mas (l : Launch) (Z : State) (a0 : Array Value) (hw : ∀ d ∈ tables_1, d.before a0 Z = true) (ws : List Jvm.Cond) (a0_ : Addr) (h0 : Heap) (n0 : Nat) (Z0 : n0 ≤ h0.size)  :
    own_Met l Z (⟨"java/util/AbstractSet", "<init>", "()V"⟩ : MethodName) jdk_91_method_1_code 1 none ws ({ frames := 2, cells := 0, slots := 0, locals := 24 } : Room) #[(.ref a0_)] h0 n0 (own_qas a0_ Z h0) := by
  refine own_enter (own := "java/util/AbstractSet") (nm := "<init>") rfl rfl own_pnas (own_efas a0_) ?_
  intro p e s m below meth c T0 X0
  refine own_aloadN X0 d5_0 rfl rfl rfl ?_
  refine own_callI X0 rfl (hw _ (List.mem_of_getElem? (i := 33) rfl)) (hw _ (List.mem_of_getElem? (i := 34) rfl)) (hw _ (List.mem_of_getElem? (i := 37) rfl)) (hw _ (List.mem_of_getElem? (i := 38) rfl)) (by decide) (a := a0_) (argsL := []) (rest := []) (own_mac l Z a0 hw [] a0_ _ _ Z0 ) (pd_6) rfl d5_1 rfl rfl rfl (W := 0) rfl (by decide) (by decide) (cells' := 0) (slots' := 0) rfl rfl (by decide) (by decide) (fun v T2 h4 X3 q5 => ?_)
  obtain ⟨rfl, rfl⟩ := q5
  show own_Fin p e below (own_End s n0 (own_qas a0_ Z h0) ({ frames := 2, cells := 0, slots := 0, locals := 24 } : Room).cells ({ frames := 2, cells := 0, slots := 0, locals := 24 } : Room).slots) (T2.setTop (mkF m 4 #[.val (.ref a0_)] []))
  exact own_retV X3 rfl d5_4 ⟨rfl, rfl⟩ (by decide) (by decide)
theorem d8_0 : decode jdk_71_method_1_code 0 = .ok (.aload_n 0, 1) := by decide +kernel
theorem d8_1 : decode jdk_71_method_1_code 1 = .ok (.invokespecial 1, 3) := by decide +kernel
theorem d8_4 : decode jdk_71_method_1_code 4 = .ok (.return_, 1) := by decide +kernel
theorem own_pnam : plainFor (⟨"java/util/AbstractMap", "<init>", "()V"⟩ : MethodName) = true := by first | exact plainFor_of_name (by first | (simp [plainName, overriddenIn, x]; done) | decide +kernel) | decide +kernel
theorem own_efam (a0_ : Addr) (m : MethodId) : entryFrame m #[(.ref a0_)] 1 = mkF m 0 #[.val (.ref a0_)] [] := by
  first | (simp [entryFrame, mkF, argsToLocals, Value.category]; done) | rfl
def own_qam (a0_ : Addr) (Z : State) (h0 : Heap) (v : Option Value) (h : Heap) : Prop := v = none ∧ h0 = h
set_option maxRecDepth 65536 in
set_option maxHeartbeats 40000000 in
theorem own_mam (l : Launch) (Z : State) (a0 : Array Value) (hw : ∀ d ∈ tables_1, d.before a0 Z = true) (ws : List Jvm.Cond) (a0_ : Addr) (h0 : Heap) (n0 : Nat) (Z0 : n0 ≤ h0.size)  :
    own_Met l Z (⟨"java/util/AbstractMap", "<init>", "()V"⟩ : MethodName) jdk_71_method_1_code 1 none ws ({ frames := 1, cells := 0, slots := 0, locals := 12 } : Room) #[(.ref a0_)] h0 n0 (own_qam a0_ Z h0) := by
  refine own_enter (own := "java/util/AbstractMap") (nm := "<init>") rfl rfl own_pnam (own_efam a0_) ?_
  intro p e s m below meth c T0 X0
  refine own_aloadN X0 d8_0 rfl rfl rfl ?_
  refine own_initO X0 (hw _ (List.mem_of_getElem? (i := 53) rfl)) (hw _ (List.mem_of_getElem? (i := 7) rfl)) (hw _ (List.mem_of_getElem? (i := 8) rfl)) d8_1 rfl rfl (by decide) (W := 0) rfl (by decide) (fun T1 X2 => ?_)
  exact own_retV X2 rfl d8_4 ⟨rfl, rfl⟩ (by decide) (by decide)
theorem d7_0 : decode jdk_69_method_7_code 0 = .ok (.aload_n 0, 1) := by decide +kernel
theorem d7_1 : decode jdk_69_method_7_code 1 = .ok (.invokespecial 43, 3) := by decide +kernel
theorem d7_4 : decode jdk_69_method_7_code 4 = .ok (.aload_n 0, 1) := by decide +kernel
theorem d7_5 : decode jdk_69_method_7_code 5 = .ok (.ldc 92, 2) := by decide +kernel
theorem d7_7 : decode jdk_69_method_7_code 7 = .ok (.putfield 81, 3) := by decide +kernel
theorem d7_10 : decode jdk_69_method_7_code 10 = .ok (.return_, 1) := by decide +kernel
theorem own_pnhm : plainFor (⟨"java/util/HashMap", "<init>", "()V"⟩ : MethodName) = true := by first | exact plainFor_of_name (by first | (simp [plainName, overriddenIn, x]; done) | decide +kernel) | decide +kernel
theorem own_efhm (a0_ : Addr) (m : MethodId) : entryFrame m #[(.ref a0_)] 1 = mkF m 0 #[.val (.ref a0_)] [] := by
  first | (simp [entryFrame, mkF, argsToLocals, Value.category]; done) | rfl
def own_qhm (a0_ : Addr) (Z : State) (h0 : Heap) (v : Option Value) (h : Heap) : Prop := v = none ∧ Keep h0 h [a0_]
set_option maxRecDepth 65536 in
set_option maxHeartbeats 40000000 in
theorem own_mhm (l : Launch) (Z : State) (a0 : Array Value) (hw : ∀ d ∈ tables_1, d.before a0 Z = true) (ws : List Jvm.Cond) (a0_ : Addr) (h0 : Heap) (n0 : Nat) (Z0 : n0 ≤ h0.size) (F1 : Exa Z h0 a0_ "java/util/HashMap") (F2 : Fld Z h0 a0_ "java/util/HashMap" "loadFactor" "F" (.float 0)) (ge_a0_ : n0 ≤ a0_) :
    own_Met l Z (⟨"java/util/HashMap", "<init>", "()V"⟩ : MethodName) jdk_69_method_7_code 1 none ws ({ frames := 2, cells := 0, slots := 0, locals := 24 } : Room) #[(.ref a0_)] h0 n0 (own_qhm a0_ Z h0) := by
  refine own_enter (own := "java/util/HashMap") (nm := "<init>") rfl rfl own_pnhm (own_efhm a0_) ?_
  intro p e s m below meth c T0 X0
  have K3 := (Keep.refl h0 [a0_])
  refine own_aloadN X0 d7_0 rfl rfl rfl ?_
  refine own_callI X0 rfl (hw _ (List.mem_of_getElem? (i := 47) rfl)) (hw _ (List.mem_of_getElem? (i := 48) rfl)) (hw _ (List.mem_of_getElem? (i := 51) rfl)) (hw _ (List.mem_of_getElem? (i := 52) rfl)) (by decide) (a := a0_) (argsL := []) (rest := []) (own_mam l Z a0 hw [] a0_ _ _ Z0 ) (pd_8) rfl d7_1 rfl rfl rfl (W := 0) rfl (by decide) (by decide) (cells' := 0) (slots' := 0) rfl rfl (by decide) (by decide) (fun v T5 h7 X6 q8 => ?_)
  obtain ⟨rfl, rfl⟩ := q8
  show own_Fin p e below (own_End s n0 (own_qhm a0_ Z h0) ({ frames := 2, cells := 0, slots := 0, locals := 24 } : Room).cells ({ frames := 2, cells := 0, slots := 0, locals := 24 } : Room).slots) (T5.setTop (mkF m 4 #[.val (.ref a0_)] []))
  refine own_aloadN X6 d7_4 rfl rfl rfl ?_
  refine own_ldcF X6 (v := (1061158912 : UInt32)) d7_5 rfl (hw _ (List.mem_of_getElem? (i := 54) rfl)) ?_
  refine own_putf X6 (hw _ (List.mem_of_getElem? (i := 55) rfl)) F2 F1 (Or.inr ⟨(hw _ (List.mem_of_getElem? (i := 56) rfl)), rfl, rfl⟩) (hw _ (List.mem_of_getElem? (i := 41) rfl)) (ty := .float) (by decide) rfl rfl ge_a0_ d7_7 rfl (fun T9 h11 X10 W12 => ?_)
  have F13 := (F1.wr W12)
  have F14 := (F2.same W12)
  have Z15 : n0 ≤ h11.size := (Nat.le_trans Z0 (Nat.le_of_eq W12.size.symm))
  have K16 := (K3.wr W12 (Or.inl (List.mem_of_getElem? (i := 0) rfl)))
  exact own_retV X10 rfl d7_10 ⟨rfl, K16⟩ (by decide) (by decide)
theorem d4_0 : decode jdk_93_method_1_code 0 = .ok (.aload_n 0, 1) := by decide +kernel
theorem d4_1 : decode jdk_93_method_1_code 1 = .ok (.invokespecial 1, 3) := by decide +kernel
theorem d4_4 : decode jdk_93_method_1_code 4 = .ok (.aload_n 0, 1) := by decide +kernel
theorem d4_5 : decode jdk_93_method_1_code 5 = .ok (.new 7, 3) := by decide +kernel
theorem d4_8 : decode jdk_93_method_1_code 8 = .ok (.dup, 1) := by decide +kernel
theorem d4_9 : decode jdk_93_method_1_code 9 = .ok (.invokespecial 9, 3) := by decide +kernel
theorem d4_12 : decode jdk_93_method_1_code 12 = .ok (.putfield 10, 3) := by decide +kernel
theorem d4_15 : decode jdk_93_method_1_code 15 = .ok (.return_, 1) := by decide +kernel
theorem own_pnhs : plainFor (⟨"java/util/HashSet", "<init>", "()V"⟩ : MethodName) = true := by first | exact plainFor_of_name (by first | (simp [plainName, overriddenIn, x]; done) | decide +kernel) | decide +kernel
theorem own_efhs (a0_ : Addr) (m : MethodId) : entryFrame m #[(.ref a0_)] 1 = mkF m 0 #[.val (.ref a0_)] [] := by
  first | (simp [entryFrame, mkF, argsToLocals, Value.category]; done) | rfl
def own_qhs (a0_ : Addr) (Z : State) (h0 : Heap) (v : Option Value) (h : Heap) : Prop := v = none ∧ Keep h0 h [a0_]
set_option maxRecDepth 65536 in
set_option maxHeartbeats 40000000 in
theorem own_mhs (l : Launch) (Z : State) (a0 : Array Value) (hw : ∀ d ∈ tables_1, d.before a0 Z = true) (ws : List Jvm.Cond) (a0_ : Addr) (h0 : Heap) (n0 : Nat) (Z0 : n0 ≤ h0.size) (F1 : Exa Z h0 a0_ "java/util/HashSet") (F2 : Fld Z h0 a0_ "java/util/HashSet" "map" "Ljava/util/HashMap;" (.null)) (ge_a0_ : n0 ≤ a0_) :
    own_Met l Z (⟨"java/util/HashSet", "<init>", "()V"⟩ : MethodName) jdk_93_method_1_code 1 none ws ({ frames := 3, cells := 1, slots := 8, locals := 38 } : Room) #[(.ref a0_)] h0 n0 (own_qhs a0_ Z h0) := by
  refine own_enter (own := "java/util/HashSet") (nm := "<init>") rfl rfl own_pnhs (own_efhs a0_) ?_
  intro p e s m below meth c T0 X0
  have K3 := (Keep.refl h0 [a0_])
  refine own_aloadN X0 d4_0 rfl rfl rfl ?_
  refine own_callI X0 rfl (hw _ (List.mem_of_getElem? (i := 27) rfl)) (hw _ (List.mem_of_getElem? (i := 28) rfl)) (hw _ (List.mem_of_getElem? (i := 31) rfl)) (hw _ (List.mem_of_getElem? (i := 32) rfl)) (by decide) (a := a0_) (argsL := []) (rest := []) (own_mas l Z a0 hw [] a0_ _ _ Z0 ) (pd_5) rfl d4_1 rfl rfl rfl (W := 0) rfl (by decide) (by decide) (cells' := 0) (slots' := 0) rfl rfl (by decide) (by decide) (fun v T5 h7 X6 q8 => ?_)
  obtain ⟨rfl, rfl⟩ := q8
  show own_Fin p e below (own_End s n0 (own_qhs a0_ Z h0) ({ frames := 3, cells := 1, slots := 8, locals := 38 } : Room).cells ({ frames := 3, cells := 1, slots := 8, locals := 38 } : Room).slots) (T5.setTop (mkF m 4 #[.val (.ref a0_)] []))
  refine own_aloadN X6 d4_4 rfl rfl rfl ?_
  refine own_new X6 (hw _ (List.mem_of_getElem? (i := 40) rfl)) (hw _ (List.mem_of_getElem? (i := 41) rfl)) (hw _ (List.mem_of_getElem? (i := 42) rfl)) d4_5 rfl (cells' := 1) (slots' := 8) rfl rfl (by decide) (by decide) (fun T9 h11 a15 g16 X10 E12 A13 D14 => ?_)
  have ge_a15 : n0 ≤ a15 := Nat.le_trans Z0 (Nat.le_of_eq g16.symm)
  have ne_a0__a15 : a0_ ≠ a15 := Nat.ne_of_lt (g16 ▸ F1.lt)
  have fr_a15 : h0.size ≤ a15 := Nat.le_trans K3.1 (Nat.le_of_eq g16.symm)
  have F17 := D14 (Or.inr (hw _ (List.mem_of_getElem? (i := 56) rfl))) (ty := .float) (by decide)
  replace F17 : Fld Z h11 a15 "java/util/HashMap" "loadFactor" "F" (.float 0) := F17
  have F18 := (F1.ext E12)
  have F19 := (F2.ext E12)
  have Z20 : n0 ≤ h11.size := (Nat.le_trans Z0 E12.1)
  have K21 := (K3.ext E12)
  refine own_dup X10 d4_8 rfl rfl ?_
  refine own_callI X10 rfl (hw _ (List.mem_of_getElem? (i := 43) rfl)) (hw _ (List.mem_of_getElem? (i := 44) rfl)) (hw _ (List.mem_of_getElem? (i := 42) rfl)) (hw _ (List.mem_of_getElem? (i := 46) rfl)) (by decide) (a := a15) (argsL := []) (rest := [(.ref a15), (.ref a0_)]) (own_mhm l Z a0 hw [] a15 _ _ Z20 A13 F17 ge_a15) (pd_7) rfl d4_9 rfl rfl rfl (W := 2) rfl (by decide) (by decide) (cells' := 1) (slots' := 8) rfl rfl (by decide) (by decide) (fun v T23 h25 X24 q26 => ?_)
  obtain ⟨rfl, K22⟩ := q26
  show own_Fin p e below (own_End s n0 (own_qhs a0_ Z h0) ({ frames := 3, cells := 1, slots := 8, locals := 38 } : Room).cells ({ frames := 3, cells := 1, slots := 8, locals := 38 } : Room).slots) (T23.setTop (mkF m 12 #[.val (.ref a0_)] [(.ref a15), (.ref a0_)]))
  have F27 := (F18.keep K22)
  have F28 := (F19.keep K22 (ninS ne_a0__a15 nin0))
  have F29 := (A13.keep K22)
  have Z30 : n0 ≤ h25.size := (Nat.le_trans Z20 K22.1)
  have K31 := (K21.trans K22 (allS (P := fun x => x ∈ _ ∨ _ ≤ x) (Or.inr fr_a15) all0))
  refine own_putf X24 (hw _ (List.mem_of_getElem? (i := 57) rfl)) F28 F27 (Or.inl (hw _ (List.mem_of_getElem? (i := 58) rfl))) (hw _ (List.mem_of_getElem? (i := 22) rfl)) (ty := (.object "java/util/HashMap")) (by decide) rfl rfl ge_a0_ d4_12 rfl (fun T32 h34 X33 W35 => ?_)
  have F36 := (F27.wr W35)
  have F37 := (F28.same W35)
  have F38 := (F29.wr W35)
  have Z39 : n0 ≤ h34.size := (Nat.le_trans Z30 (Nat.le_of_eq W35.size.symm))
  have K40 := (K31.wr W35 (Or.inl (List.mem_of_getElem? (i := 0) rfl)))
  exact own_retV X33 rfl d4_15 ⟨rfl, K40⟩ (by decide) (by decide)
theorem d3_0 : decode prog_61_method_1_code 0 = .ok (.aload_n 0, 1) := by decide +kernel
theorem d3_1 : decode prog_61_method_1_code 1 = .ok (.invokespecial 1, 3) := by decide +kernel
theorem d3_4 : decode prog_61_method_1_code 4 = .ok (.aload_n 0, 1) := by decide +kernel
theorem d3_5 : decode prog_61_method_1_code 5 = .ok (.new 7, 3) := by decide +kernel
theorem d3_8 : decode prog_61_method_1_code 8 = .ok (.dup, 1) := by decide +kernel
theorem d3_9 : decode prog_61_method_1_code 9 = .ok (.invokespecial 9, 3) := by decide +kernel
theorem d3_12 : decode prog_61_method_1_code 12 = .ok (.putfield 10, 3) := by decide +kernel
theorem d3_15 : decode prog_61_method_1_code 15 = .ok (.aload_n 0, 1) := by decide +kernel
theorem d3_16 : decode prog_61_method_1_code 16 = .ok (.iload_n 1, 1) := by decide +kernel
theorem d3_17 : decode prog_61_method_1_code 17 = .ok (.putfield 16, 3) := by decide +kernel
theorem d3_20 : decode prog_61_method_1_code 20 = .ok (.aload_n 0, 1) := by decide +kernel
theorem d3_21 : decode prog_61_method_1_code 21 = .ok (.aload_n 2, 1) := by decide +kernel
theorem d3_22 : decode prog_61_method_1_code 22 = .ok (.putfield 20, 3) := by decide +kernel
theorem d3_25 : decode prog_61_method_1_code 25 = .ok (.aload_n 0, 1) := by decide +kernel
theorem d3_26 : decode prog_61_method_1_code 26 = .ok (.getfield 20, 3) := by decide +kernel
theorem d3_29 : decode prog_61_method_1_code 29 = .ok (.iload_n 1, 1) := by decide +kernel
theorem d3_30 : decode prog_61_method_1_code 30 = .ok (.iconst 1, 1) := by decide +kernel
theorem d3_31 : decode prog_61_method_1_code 31 = .ok (.invokevirtual 24, 3) := by decide +kernel
theorem d3_34 : decode prog_61_method_1_code 34 = .ok (.aload_n 0, 1) := by decide +kernel
theorem d3_35 : decode prog_61_method_1_code 35 = .ok (.iload_n 3, 1) := by decide +kernel
theorem d3_36 : decode prog_61_method_1_code 36 = .ok (.ifCond .eq 13, 3) := by decide +kernel
theorem d3_49 : decode prog_61_method_1_code 49 = .ok (.aconst_null, 1) := by decide +kernel
theorem d3_50 : decode prog_61_method_1_code 50 = .ok (.putfield 33, 3) := by decide +kernel
theorem d3_53 : decode prog_61_method_1_code 53 = .ok (.aload_n 0, 1) := by decide +kernel
theorem d3_54 : decode prog_61_method_1_code 54 = .ok (.iload_n 3, 1) := by decide +kernel
theorem d3_55 : decode prog_61_method_1_code 55 = .ok (.ifCond .eq 13, 3) := by decide +kernel
theorem d3_68 : decode prog_61_method_1_code 68 = .ok (.aconst_null, 1) := by decide +kernel
theorem d3_69 : decode prog_61_method_1_code 69 = .ok (.putfield 41, 3) := by decide +kernel
theorem d3_72 : decode prog_61_method_1_code 72 = .ok (.return_, 1) := by decide +kernel
theorem own_pnts : plainFor (⟨"com/example/racewright/racewright/happensbefore/ThreadState", "<init>", "(ILcom/example/racewright/racewright/happensbefore/VectorClock;Z)V"⟩ : MethodName) = true := by first | exact plainFor_of_name (by first | (simp [plainName, overriddenIn, x]; done) | decide +kernel) | decide +kernel
theorem own_efts (a0_ : Addr) (ni : Nat) (c_ : Addr) (m : MethodId) : entryFrame m #[(.ref a0_), (.int ni.toInt32), (.ref c_), (.int (0 : Int32))] 4 = mkF m 0 #[.val (.ref a0_), .val (.int ni.toInt32), .val (.ref c_), .val (.int (0 : Int32))] [] := by
  first | (simp [entryFrame, mkF, argsToLocals, Value.category]; done) | rfl
def own_qts (a0_ : Addr) (ni : Nat) (c_ : Addr) (t_ : Addr) (u_ : Addr) (n : Nat) (k : Nat) (Z : State) (h0 : Heap) (v : Option Value) (h : Heap) : Prop := ∃ (t2_ : Addr) (u2_ : Addr), v = none ∧ Keep h0 h [a0_, c_, t_, u_] ∧ Fld Z h a0_ "com/example/racewright/racewright/happensbefore/ThreadState" "id" "I" (.int ni.toInt32) ∧ Fld Z h a0_ "com/example/racewright/racewright/happensbefore/ThreadState" "clock" "Lcom/example/racewright/racewright/happensbefore/VectorClock;" (.ref c_) ∧ Fld Z h a0_ "com/example/racewright/racewright/happensbefore/ThreadState" "unscheduled" "Z" (.int (0 : Int32)) ∧ Fld Z h c_ "com/example/racewright/racewright/happensbefore/VectorClock" "ticks" "[I" (.ref t2_) ∧ Fld Z h c_ "com/example/racewright/racewright/happensbefore/VectorClock" "apart" "[I" (.ref u2_) ∧ own_IA Z h t2_ (own_len ni n) ∧ own_IA Z h u2_ (own_len ni k) ∧ (t2_ = t_ ∨ h0.size ≤ t2_) ∧ (u2_ = u_ ∨ h0.size ≤ u2_) ∧ t2_ ≠ u2_
set_option maxRecDepth 65536 in
set_option maxHeartbeats 40000000 in
theorem own_mts (l : Launch) (Z : State) (a0 : Array Value) (hw : ∀ d ∈ tables_1, d.before a0 Z = true) (ws : List Jvm.Cond) (a0_ : Addr) (ni : Nat) (c_ : Addr) (t_ : Addr) (u_ : Addr) (n : Nat) (k : Nat) (h0 : Heap) (n0 : Nat) (Z0 : n0 ≤ h0.size) (F1 : Exa Z h0 a0_ "com/example/racewright/racewright/happensbefore/ThreadState") (F2 : Fld Z h0 a0_ "com/example/racewright/racewright/happensbefore/ThreadState" "usedClasses" "Ljava/util/Set;" (.null)) (F3 : Fld Z h0 a0_ "com/example/racewright/racewright/happensbefore/ThreadState" "id" "I" (.int (0 : Int32))) (F4 : Fld Z h0 a0_ "com/example/racewright/racewright/happensbefore/ThreadState" "clock" "Lcom/example/racewright/racewright/happensbefore/VectorClock;" (.null)) (F5 : Fld Z h0 a0_ "com/example/racewright/racewright/happensbefore/ThreadState" "acquisitions" "Ljava/util/List;" (.null)) (F6 : Fld Z h0 a0_ "com/example/racewright/racewright/happensbefore/ThreadState" "started" "Lcom/example/racewright/racewright/happensbefore/VectorClock;" (.null)) (F7 : Fld Z h0 a0_ "com/example/racewright/racewright/happensbefore/ThreadState" "unscheduled" "Z" (.int (0 : Int32))) (F8 : Exa Z h0 c_ "com/example/racewright/racewright/happensbefore/VectorClock") (F9 : Fld Z h0 c_ "com/example/racewright/racewright/happensbefore/VectorClock" "ticks" "[I" (.ref t_)) (F10 : Fld Z h0 c_ "com/example/racewright/racewright/happensbefore/VectorClock" "apart" "[I" (.ref u_)) (F11 : own_IA Z h0 t_ n) (F12 : own_IA Z h0 u_ k) (ge_a0_ : n0 ≤ a0_) (ge_c_ : n0 ≤ c_) (ge_t_ : n0 ≤ t_) (ge_u_ : n0 ≤ u_) (ne_a0__c_ : a0_ ≠ c_) (ne_a0__t_ : a0_ ≠ t_) (ne_a0__u_ : a0_ ≠ u_) (ne_c__t_ : c_ ≠ t_) (ne_c__u_ : c_ ≠ u_) (ne_t__u_ : t_ ≠ u_) (hni : ni < 8) (hn : n ≤ ni → 2 * n ≤ 8) (hn8 : n ≤ 8) (hk : k ≤ ni → 2 * k ≤ 8) (hk8 : k ≤ 8) :
    own_Met l Z (⟨"com/example/racewright/racewright/happensbefore/ThreadState", "<init>", "(ILcom/example/racewright/racewright/happensbefore/VectorClock;Z)V"⟩ : MethodName) prog_61_method_1_code 4 none ws ({ frames := 4, cells := 4, slots := 25, locals := 68 } : Room) #[(.ref a0_), (.int ni.toInt32), (.ref c_), (.int (0 : Int32))] h0 n0 (own_qts a0_ ni c_ t_ u_ n k Z h0) := by
  refine own_enter (own := "com/example/racewright/racewright/happensbefore/ThreadState") (nm := "<init>") rfl rfl own_pnts (own_efts a0_ ni c_) ?_
  intro p e s m below meth c T0 X0
  have K13 := (Keep.refl h0 [a0_, c_, t_, u_])
  refine own_aloadN X0 d3_0 rfl rfl rfl ?_
  refine own_initO X0 (hw _ (List.mem_of_getElem? (i := 20) rfl)) (hw _ (List.mem_of_getElem? (i := 7) rfl)) (hw _ (List.mem_of_getElem? (i := 8) rfl)) d3_1 rfl rfl (by decide) (W := 0) rfl (by decide) (fun T14 X15 => ?_)
  refine own_aloadN X15 d3_4 rfl rfl rfl ?_
  refine own_new X15 (hw _ (List.mem_of_getElem? (i := 21) rfl)) (hw _ (List.mem_of_getElem? (i := 22) rfl)) (hw _ (List.mem_of_getElem? (i := 23) rfl)) d3_5 rfl (cells' := 1) (slots' := 1) rfl rfl (by decide) (by decide) (fun T16 h18 a22 g23 X17 E19 A20 D21 => ?_)
  have ge_a22 : n0 ≤ a22 := Nat.le_trans Z0 (Nat.le_of_eq g23.symm)
  have ne_a0__a22 : a0_ ≠ a22 := Nat.ne_of_lt (g23 ▸ F1.lt)
  have ne_c__a22 : c_ ≠ a22 := Nat.ne_of_lt (g23 ▸ F8.lt)
  have ne_t__a22 : t_ ≠ a22 := Nat.ne_of_lt (g23 ▸ F11.lt)
  have ne_u__a22 : u_ ≠ a22 := Nat.ne_of_lt (g23 ▸ F12.lt)
  have fr_a22 : h0.size ≤ a22 := Nat.le_trans K13.1 (Nat.le_of_eq g23.symm)
  have F24 := D21 (Or.inl (hw _ (List.mem_of_getElem? (i := 58) rfl))) (ty := (.object "java/util/HashMap")) (by decide)
  replace F24 : Fld Z h18 a22 "java/util/HashSet" "map" "Ljava/util/HashMap;" (.null) := F24
  have F25 := (F1.ext E19)
  have F26 := (F2.ext E19)
  have F27 := (F3.ext E19)
  have F28 := (F4.ext E19)
  have F29 := (F5.ext E19)
  have F30 := (F6.ext E19)
  have F31 := (F7.ext E19)
  have F32 := (F8.ext E19)
  have F33 := (F9.ext E19)
  have F34 := (F10.ext E19)
  have F35 := (F11.ext E19)
  have F36 := (F12.ext E19)
  have Z37 : n0 ≤ h18.size := (Nat.le_trans Z0 E19.1)
  have K38 := (K13.ext E19)
  refine own_dup X17 d3_8 rfl rfl ?_
  refine own_callI X17 rfl (hw _ (List.mem_of_getElem? (i := 24) rfl)) (hw _ (List.mem_of_getElem? (i := 25) rfl)) (hw _ (List.mem_of_getElem? (i := 23) rfl)) (hw _ (List.mem_of_getElem? (i := 26) rfl)) (by decide) (a := a22) (argsL := []) (rest := [(.ref a22), (.ref a0_)]) (own_mhs l Z a0 hw [] a22 _ _ Z37 A20 F24 ge_a22) (pd_4) rfl d3_9 rfl rfl rfl (W := 2) rfl (by decide) (by decide) (cells' := 2) (slots' := 9) rfl rfl (by decide) (by decide) (fun v T40 h42 X41 q43 => ?_)
  obtain ⟨rfl, K39⟩ := q43
  show own_Fin p e below (own_End s n0 (own_qts a0_ ni c_ t_ u_ n k Z h0) ({ frames := 4, cells := 4, slots := 25, locals := 68 } : Room).cells ({ frames := 4, cells := 4, slots := 25, locals := 68 } : Room).slots) (T40.setTop (mkF m 12 #[.val (.ref a0_), .val (.int ni.toInt32), .val (.ref c_), .val (.int (0 : Int32))] [(.ref a22), (.ref a0_)]))
  have F44 := (F25.keep K39)
  have F45 := (F26.keep K39 (ninS ne_a0__a22 nin0))
  have F46 := (F27.keep K39 (ninS ne_a0__a22 nin0))
  have F47 := (F28.keep K39 (ninS ne_a0__a22 nin0))
  have F48 := (F29.keep K39 (ninS ne_a0__a22 nin0))
  have F49 := (F30.keep K39 (ninS ne_a0__a22 nin0))
  have F50 := (F31.keep K39 (ninS ne_a0__a22 nin0))
  have F51 := (F32.keep K39)
  have F52 := (F33.keep K39 (ninS ne_c__a22 nin0))
  have F53 := (F34.keep K39 (ninS ne_c__a22 nin0))
  have F54 := (F35.keep K39 (ninS ne_t__a22 nin0))
  have F55 := (F36.keep K39 (ninS ne_u__a22 nin0))
  have F56 := (A20.keep K39)
  have Z57 : n0 ≤ h42.size := (Nat.le_trans Z37 K39.1)
  have K58 := (K38.trans K39 (allS (P := fun x => x ∈ _ ∨ _ ≤ x) (Or.inr fr_a22) all0))
  refine own_putf X41 (hw _ (List.mem_of_getElem? (i := 59) rfl)) F45 F44 (Or.inr ⟨(hw _ (List.mem_of_getElem? (i := 60) rfl)), rfl, rfl⟩) (hw _ (List.mem_of_getElem? (i := 15) rfl)) (ty := (.object "java/util/Set")) (by decide) rfl rfl ge_a0_ d3_12 rfl (fun T59 h61 X60 W62 => ?_)
  have F63 := (F44.wr W62)
  have F64 := (F45.same W62)
  have F65 := (F46.other W62 (Or.inr (slot_ne (Or.inr (hw _ (List.mem_of_getElem? (i := 62) rfl))) (Or.inr (hw _ (List.mem_of_getElem? (i := 60) rfl))) (by decide) (t := .int) (t' := (.object "java/util/Set")) (by decide) (by decide))))
  have F66 := (F47.other W62 (Or.inr (slot_ne (Or.inr (hw _ (List.mem_of_getElem? (i := 64) rfl))) (Or.inr (hw _ (List.mem_of_getElem? (i := 60) rfl))) (by decide) (t := (.object "com/example/racewright/racewright/happensbefore/VectorClock")) (t' := (.object "java/util/Set")) (by decide) (by decide))))
  have F67 := (F48.other W62 (Or.inr (slot_ne (Or.inr (hw _ (List.mem_of_getElem? (i := 89) rfl))) (Or.inr (hw _ (List.mem_of_getElem? (i := 60) rfl))) (by decide) (t := (.object "java/util/List")) (t' := (.object "java/util/Set")) (by decide) (by decide))))
  have F68 := (F49.other W62 (Or.inr (slot_ne (Or.inr (hw _ (List.mem_of_getElem? (i := 91) rfl))) (Or.inr (hw _ (List.mem_of_getElem? (i := 60) rfl))) (by decide) (t := (.object "com/example/racewright/racewright/happensbefore/VectorClock")) (t' := (.object "java/util/Set")) (by decide) (by decide))))
  have F69 := (F50.other W62 (Or.inr (slot_ne (Or.inl (hw _ (List.mem_of_getElem? (i := 93) rfl))) (Or.inr (hw _ (List.mem_of_getElem? (i := 60) rfl))) (by decide) (t := .boolean) (t' := (.object "java/util/Set")) (by decide) (by decide))))
  have F70 := (F51.wr W62)
  have F71 := (F52.other W62 (Or.inl (Ne.symm ne_a0__c_)))
  have F72 := (F53.other W62 (Or.inl (Ne.symm ne_a0__c_)))
  have F73 := (F54.other W62 (Ne.symm ne_a0__t_))
  have F74 := (F55.other W62 (Ne.symm ne_a0__u_))
  have F75 := (F56.wr W62)
  have Z76 : n0 ≤ h61.size := (Nat.le_trans Z57 (Nat.le_of_eq W62.size.symm))
  have K77 := (K58.wr W62 (Or.inl (List.mem_of_getElem? (i := 0) rfl)))
  refine own_aloadN X60 d3_15 rfl rfl rfl ?_
  refine own_iloadN X60 d3_16 rfl rfl ?_
  refine own_putf X60 (hw _ (List.mem_of_getElem? (i := 61) rfl)) F65 F63 (Or.inr ⟨(hw _ (List.mem_of_getElem? (i := 62) rfl)), rfl, rfl⟩) (hw _ (List.mem_of_getElem? (i := 15) rfl)) (ty := .int) (by decide) rfl rfl ge_a0_ d3_17 rfl (fun T78 h80 X79 W81 => ?_)
  have F82 := (F63.wr W81)
  have F83 := (F64.other W81 (Or.inr (slot_ne (Or.inr (hw _ (List.mem_of_getElem? (i := 60) rfl))) (Or.inr (hw _ (List.mem_of_getElem? (i := 62) rfl))) (by decide) (t := (.object "java/util/Set")) (t' := .int) (by decide) (by decide))))
  have F84 := (F65.same W81)
  have F85 := (F66.other W81 (Or.inr (slot_ne (Or.inr (hw _ (List.mem_of_getElem? (i := 64) rfl))) (Or.inr (hw _ (List.mem_of_getElem? (i := 62) rfl))) (by decide) (t := (.object "com/example/racewright/racewright/happensbefore/VectorClock")) (t' := .int) (by decide) (by decide))))
  have F86 := (F67.other W81 (Or.inr (slot_ne (Or.inr (hw _ (List.mem_of_getElem? (i := 89) rfl))) (Or.inr (hw _ (List.mem_of_getElem? (i := 62) rfl))) (by decide) (t := (.object "java/util/List")) (t' := .int) (by decide) (by decide))))
  have F87 := (F68.other W81 (Or.inr (slot_ne (Or.inr (hw _ (List.mem_of_getElem? (i := 91) rfl))) (Or.inr (hw _ (List.mem_of_getElem? (i := 62) rfl))) (by decide) (t := (.object "com/example/racewright/racewright/happensbefore/VectorClock")) (t' := .int) (by decide) (by decide))))
  have F88 := (F69.other W81 (Or.inr (slot_ne (Or.inl (hw _ (List.mem_of_getElem? (i := 93) rfl))) (Or.inr (hw _ (List.mem_of_getElem? (i := 62) rfl))) (by decide) (t := .boolean) (t' := .int) (by decide) (by decide))))
  have F89 := (F70.wr W81)
  have F90 := (F71.other W81 (Or.inl (Ne.symm ne_a0__c_)))
  have F91 := (F72.other W81 (Or.inl (Ne.symm ne_a0__c_)))
  have F92 := (F73.other W81 (Ne.symm ne_a0__t_))
  have F93 := (F74.other W81 (Ne.symm ne_a0__u_))
  have F94 := (F75.wr W81)
  have Z95 : n0 ≤ h80.size := (Nat.le_trans Z76 (Nat.le_of_eq W81.size.symm))
  have K96 := (K77.wr W81 (Or.inl (List.mem_of_getElem? (i := 0) rfl)))
  refine own_aloadN X79 d3_20 rfl rfl rfl ?_
  refine own_aloadN X79 d3_21 rfl rfl rfl ?_
  refine own_putf X79 (hw _ (List.mem_of_getElem? (i := 63) rfl)) F85 F82 (Or.inr ⟨(hw _ (List.mem_of_getElem? (i := 64) rfl)), rfl, rfl⟩) (hw _ (List.mem_of_getElem? (i := 15) rfl)) (ty := (.object "com/example/racewright/racewright/happensbefore/VectorClock")) (by decide) rfl rfl ge_a0_ d3_22 rfl (fun T97 h99 X98 W100 => ?_)
  have F101 := (F82.wr W100)
  have F102 := (F83.other W100 (Or.inr (slot_ne (Or.inr (hw _ (List.mem_of_getElem? (i := 60) rfl))) (Or.inr (hw _ (List.mem_of_getElem? (i := 64) rfl))) (by decide) (t := (.object "java/util/Set")) (t' := (.object "com/example/racewright/racewright/happensbefore/VectorClock")) (by decide) (by decide))))
  have F103 := (F84.other W100 (Or.inr (slot_ne (Or.inr (hw _ (List.mem_of_getElem? (i := 62) rfl))) (Or.inr (hw _ (List.mem_of_getElem? (i := 64) rfl))) (by decide) (t := .int) (t' := (.object "com/example/racewright/racewright/happensbefore/VectorClock")) (by decide) (by decide))))
  have F104 := (F85.same W100)
  have F105 := (F86.other W100 (Or.inr (slot_ne (Or.inr (hw _ (List.mem_of_getElem? (i := 89) rfl))) (Or.inr (hw _ (List.mem_of_getElem? (i := 64) rfl))) (by decide) (t := (.object "java/util/List")) (t' := (.object "com/example/racewright/racewright/happensbefore/VectorClock")) (by decide) (by decide))))
  have F106 := (F87.other W100 (Or.inr (slot_ne (Or.inr (hw _ (List.mem_of_getElem? (i := 91) rfl))) (Or.inr (hw _ (List.mem_of_getElem? (i := 64) rfl))) (by decide) (t := (.object "com/example/racewright/racewright/happensbefore/VectorClock")) (t' := (.object "com/example/racewright/racewright/happensbefore/VectorClock")) (by decide) (by decide))))
  have F107 := (F88.other W100 (Or.inr (slot_ne (Or.inl (hw _ (List.mem_of_getElem? (i := 93) rfl))) (Or.inr (hw _ (List.mem_of_getElem? (i := 64) rfl))) (by decide) (t := .boolean) (t' := (.object "com/example/racewright/racewright/happensbefore/VectorClock")) (by decide) (by decide))))
  have F108 := (F89.wr W100)
  have F109 := (F90.other W100 (Or.inl (Ne.symm ne_a0__c_)))
  have F110 := (F91.other W100 (Or.inl (Ne.symm ne_a0__c_)))
  have F111 := (F92.other W100 (Ne.symm ne_a0__t_))
  have F112 := (F93.other W100 (Ne.symm ne_a0__u_))
  have F113 := (F94.wr W100)
  have Z114 : n0 ≤ h99.size := (Nat.le_trans Z95 (Nat.le_of_eq W100.size.symm))
  have K115 := (K96.wr W100 (Or.inl (List.mem_of_getElem? (i := 0) rfl)))
  refine own_aloadN X98 d3_25 rfl rfl rfl ?_
  refine own_getf X98 (hw _ (List.mem_of_getElem? (i := 63) rfl)) F104 d3_26 rfl (fun T116 X117 => ?_)
  refine own_iloadN X117 d3_29 rfl rfl ?_
  refine own_iconst X117 (1 : Int32) d3_30 rfl (by decide) ?_
  refine own_callV X117 (hw _ (List.mem_of_getElem? (i := 65) rfl)) (hw _ (List.mem_of_getElem? (i := 66) rfl)) (hw _ (List.mem_of_getElem? (i := 68) rfl)) (hw _ (List.mem_of_getElem? (i := 67) rfl)) (hw _ (List.mem_of_getElem? (i := 2) rfl)) (hw _ (List.mem_of_getElem? (i := 69) rfl)) (by decide) (a := c_) (argsL := [(.int ni.toInt32), (.int (1 : Int32))]) (rest := []) (own_msv l Z a0 hw [] c_ ni (1 : Int32) t_ u_ n k _ _ Z114 F108 F109 F110 F111 F112 ge_c_ ge_t_ ge_u_ ne_c__t_ ne_c__u_ ne_t__u_ hni hn hn8 hk hk8) F108 (pd_9) rfl d3_31 rfl rfl rfl (W := 0) rfl (by decide) (by decide) (cells' := 4) (slots' := 25) rfl rfl (by decide) (by decide) (fun v T128 h130 X129 q131 => ?_)
  obtain ⟨t2118, u2119, rfl, K127, F120, F121, F122, F123, F124, F125, F126⟩ := q131
  show own_Fin p e below (own_End s n0 (own_qts a0_ ni c_ t_ u_ n k Z h0) ({ frames := 4, cells := 4, slots := 25, locals := 68 } : Room).cells ({ frames := 4, cells := 4, slots := 25, locals := 68 } : Room).slots) (T128.setTop (mkF m 34 #[.val (.ref a0_), .val (.int ni.toInt32), .val (.ref c_), .val (.int (0 : Int32))] []))
  have F132 := (F101.keep K127)
  have F133 := (F102.keep K127 (ninS ne_a0__c_ (ninS ne_a0__t_ (ninS ne_a0__u_ nin0))))
  have F134 := (F103.keep K127 (ninS ne_a0__c_ (ninS ne_a0__t_ (ninS ne_a0__u_ nin0))))
  have F135 := (F104.keep K127 (ninS ne_a0__c_ (ninS ne_a0__t_ (ninS ne_a0__u_ nin0))))
  have F136 := (F105.keep K127 (ninS ne_a0__c_ (ninS ne_a0__t_ (ninS ne_a0__u_ nin0))))
  have F137 := (F106.keep K127 (ninS ne_a0__c_ (ninS ne_a0__t_ (ninS ne_a0__u_ nin0))))
  have F138 := (F107.keep K127 (ninS ne_a0__c_ (ninS ne_a0__t_ (ninS ne_a0__u_ nin0))))
  have F139 := (F108.keep K127)
  have F140 := (F113.keep K127)
  have Z141 : n0 ≤ h130.size := (Nat.le_trans Z114 K127.1)
  have K142 := (K115.trans K127 (allS (P := fun x => x ∈ _ ∨ _ ≤ x) (Or.inl (List.mem_of_getElem? (i := 1) rfl)) (allS (P := fun x => x ∈ _ ∨ _ ≤ x) (Or.inl (List.mem_of_getElem? (i := 2) rfl)) (allS (P := fun x => x ∈ _ ∨ _ ≤ x) (Or.inl (List.mem_of_getElem? (i := 3) rfl)) all0))))
  have ge_t2118 : n0 ≤ t2118 := F124.elim (fun q => q ▸ ge_t_) (fun q => Nat.le_trans Z114 q)
  have ne_a0__t2118 : a0_ ≠ t2118 := F124.elim (fun q => q ▸ ne_a0__t_) (fun q => Nat.ne_of_lt (Nat.lt_of_lt_of_le F101.lt q))
  have ne_c__t2118 : c_ ≠ t2118 := F124.elim (fun q => q ▸ ne_c__t_) (fun q => Nat.ne_of_lt (Nat.lt_of_lt_of_le F108.lt q))
  have ne_u__t2118 : u_ ≠ t2118 := F124.elim (fun q => q ▸ (Ne.symm ne_t__u_)) (fun q => Nat.ne_of_lt (Nat.lt_of_lt_of_le F112.lt q))
  have ne_a22_t2118 : a22 ≠ t2118 := F124.elim (fun q => q ▸ (Ne.symm ne_t__a22)) (fun q => Nat.ne_of_lt (Nat.lt_of_lt_of_le F113.lt q))
  have ge_u2119 : n0 ≤ u2119 := F125.elim (fun q => q ▸ ge_u_) (fun q => Nat.le_trans Z114 q)
  have ne_a0__u2119 : a0_ ≠ u2119 := F125.elim (fun q => q ▸ ne_a0__u_) (fun q => Nat.ne_of_lt (Nat.lt_of_lt_of_le F101.lt q))
  have ne_c__u2119 : c_ ≠ u2119 := F125.elim (fun q => q ▸ ne_c__u_) (fun q => Nat.ne_of_lt (Nat.lt_of_lt_of_le F108.lt q))
  have ne_t__u2119 : t_ ≠ u2119 := F125.elim (fun q => q ▸ ne_t__u_) (fun q => Nat.ne_of_lt (Nat.lt_of_lt_of_le F111.lt q))
  have ne_a22_u2119 : a22 ≠ u2119 := F125.elim (fun q => q ▸ (Ne.symm ne_u__a22)) (fun q => Nat.ne_of_lt (Nat.lt_of_lt_of_le F113.lt q))
  have pt : t2118 = t_ ∨ h0.size ≤ t2118 := F124.imp id (fun q => Nat.le_trans K115.1 q)
  have pu : u2119 = u_ ∨ h0.size ≤ u2119 := F125.imp id (fun q => Nat.le_trans K115.1 q)
  refine own_aloadN X129 d3_34 rfl rfl rfl ?_
  refine own_iloadN X129 d3_35 rfl rfl ?_
  refine own_if_eq X129 d3_36 (by decide) (pcT := 49) (by decide) rfl (fun hc => ?_) (fun hc => absurd hc (by decide))
  refine own_aconst_null X129 d3_49 rfl ?_
  refine own_putf X129 (hw _ (List.mem_of_getElem? (i := 88) rfl)) F136 F132 (Or.inr ⟨(hw _ (List.mem_of_getElem? (i := 89) rfl)), rfl, rfl⟩) (hw _ (List.mem_of_getElem? (i := 15) rfl)) (ty := (.object "java/util/List")) (by decide) rfl rfl ge_a0_ d3_50 rfl (fun T143 h145 X144 W146 => ?_)
  have F147 := (F132.wr W146)
  have F148 := (F133.other W146 (Or.inr (slot_ne (Or.inr (hw _ (List.mem_of_getElem? (i := 60) rfl))) (Or.inr (hw _ (List.mem_of_getElem? (i := 89) rfl))) (by decide) (t := (.object "java/util/Set")) (t' := (.object "java/util/List")) (by decide) (by decide))))
  have F149 := (F134.other W146 (Or.inr (slot_ne (Or.inr (hw _ (List.mem_of_getElem? (i := 62) rfl))) (Or.inr (hw _ (List.mem_of_getElem? (i := 89) rfl))) (by decide) (t := .int) (t' := (.object "java/util/List")) (by decide) (by decide))))
  have F150 := (F135.other W146 (Or.inr (slot_ne (Or.inr (hw _ (List.mem_of_getElem? (i := 64) rfl))) (Or.inr (hw _ (List.mem_of_getElem? (i := 89) rfl))) (by decide) (t := (.object "com/example/racewright/racewright/happensbefore/VectorClock")) (t' := (.object "java/util/List")) (by decide) (by decide))))
  have F151 := (F136.same W146)
  have F152 := (F137.other W146 (Or.inr (slot_ne (Or.inr (hw _ (List.mem_of_getElem? (i := 91) rfl))) (Or.inr (hw _ (List.mem_of_getElem? (i := 89) rfl))) (by decide) (t := (.object "com/example/racewright/racewright/happensbefore/VectorClock")) (t' := (.object "java/util/List")) (by decide) (by decide))))
  have F153 := (F138.other W146 (Or.inr (slot_ne (Or.inl (hw _ (List.mem_of_getElem? (i := 93) rfl))) (Or.inr (hw _ (List.mem_of_getElem? (i := 89) rfl))) (by decide) (t := .boolean) (t' := (.object "java/util/List")) (by decide) (by decide))))
  have F154 := (F139.wr W146)
  have F155 := (F140.wr W146)
  have F156 := (F120.other W146 (Or.inl (Ne.symm ne_a0__c_)))
  have F157 := (F121.other W146 (Or.inl (Ne.symm ne_a0__c_)))
  have F158 := (F122.other W146 (Ne.symm ne_a0__t2118))
  have F159 := (F123.other W146 (Ne.symm ne_a0__u2119))
  have Z160 : n0 ≤ h145.size := (Nat.le_trans Z141 (Nat.le_of_eq W146.size.symm))
  have K161 := (K142.wr W146 (Or.inl (List.mem_of_getElem? (i := 0) rfl)))
  refine own_aloadN X144 d3_53 rfl rfl rfl ?_
  refine own_iloadN X144 d3_54 rfl rfl ?_
  refine own_if_eq X144 d3_55 (by decide) (pcT := 68) (by decide) rfl (fun hc => ?_) (fun hc => absurd hc (by decide))
  refine own_aconst_null X144 d3_68 rfl ?_
  refine own_putf X144 (hw _ (List.mem_of_getElem? (i := 90) rfl)) F152 F147 (Or.inr ⟨(hw _ (List.mem_of_getElem? (i := 91) rfl)), rfl, rfl⟩) (hw _ (List.mem_of_getElem? (i := 15) rfl)) (ty := (.object "com/example/racewright/racewright/happensbefore/VectorClock")) (by decide) rfl rfl ge_a0_ d3_69 rfl (fun T162 h164 X163 W165 => ?_)
  have F166 := (F147.wr W165)
  have F167 := (F148.other W165 (Or.inr (slot_ne (Or.inr (hw _ (List.mem_of_getElem? (i := 60) rfl))) (Or.inr (hw _ (List.mem_of_getElem? (i := 91) rfl))) (by decide) (t := (.object "java/util/Set")) (t' := (.object "com/example/racewright/racewright/happensbefore/VectorClock")) (by decide) (by decide))))
  have F168 := (F149.other W165 (Or.inr (slot_ne (Or.inr (hw _ (List.mem_of_getElem? (i := 62) rfl))) (Or.inr (hw _ (List.mem_of_getElem? (i := 91) rfl))) (by decide) (t := .int) (t' := (.object "com/example/racewright/racewright/happensbefore/VectorClock")) (by decide) (by decide))))
  have F169 := (F150.other W165 (Or.inr (slot_ne (Or.inr (hw _ (List.mem_of_getElem? (i := 64) rfl))) (Or.inr (hw _ (List.mem_of_getElem? (i := 91) rfl))) (by decide) (t := (.object "com/example/racewright/racewright/happensbefore/VectorClock")) (t' := (.object "com/example/racewright/racewright/happensbefore/VectorClock")) (by decide) (by decide))))
  have F170 := (F151.other W165 (Or.inr (slot_ne (Or.inr (hw _ (List.mem_of_getElem? (i := 89) rfl))) (Or.inr (hw _ (List.mem_of_getElem? (i := 91) rfl))) (by decide) (t := (.object "java/util/List")) (t' := (.object "com/example/racewright/racewright/happensbefore/VectorClock")) (by decide) (by decide))))
  have F171 := (F152.same W165)
  have F172 := (F153.other W165 (Or.inr (slot_ne (Or.inl (hw _ (List.mem_of_getElem? (i := 93) rfl))) (Or.inr (hw _ (List.mem_of_getElem? (i := 91) rfl))) (by decide) (t := .boolean) (t' := (.object "com/example/racewright/racewright/happensbefore/VectorClock")) (by decide) (by decide))))
  have F173 := (F154.wr W165)
  have F174 := (F155.wr W165)
  have F175 := (F156.other W165 (Or.inl (Ne.symm ne_a0__c_)))
  have F176 := (F157.other W165 (Or.inl (Ne.symm ne_a0__c_)))
  have F177 := (F158.other W165 (Ne.symm ne_a0__t2118))
  have F178 := (F159.other W165 (Ne.symm ne_a0__u2119))
  have Z179 : n0 ≤ h164.size := (Nat.le_trans Z160 (Nat.le_of_eq W165.size.symm))
  have K180 := (K161.wr W165 (Or.inl (List.mem_of_getElem? (i := 0) rfl)))
  exact own_retV X163 rfl d3_72 ⟨t2118, u2119, rfl, K180, F168, F169, F172, F175, F176, F177, F178, pt, pu, F126⟩ (by decide) (by decide)

def own_rs (un rs : Int32) : Int32 := if un = (0 : Int32) then (1 : Int32) else rs
def own_ur (un ur id : Int32) : Int32 := if un = (0 : Int32) then ur else (if ur = ((-1) : Int32) then id else (if ur = id then id else ((-2) : Int32)))
def own_ra (ur rs q un : Int32) : Int32 := if un = (0 : Int32) then (if ur = ((-1) : Int32) then (0 : Int32) else (1 : Int32)) else (if rs = (0 : Int32) then (if ur = ((-1) : Int32) then (0 : Int32) else (if ur = q then (0 : Int32) else (1 : Int32))) else (1 : Int32))
/-- what the location knows: A some scheduled thread has read, B some unscheduled one, O q: one whose number isn't q -/
def own_Inv (rs ur : Int32) (A B : Prop) (O : Int32 → Prop) : Prop := (rs = 0 ↔ ¬ A) ∧ (ur = -1 ↔ ¬ B) ∧ (∀ q : Int32, ¬ q < 0 → ((¬ ur = -1 ∧ ¬ ur = q) ↔ O q))
theorem own_inv0 : own_Inv 0 (-1) False False (fun _ => False) := ⟨by simp, by simp, by simp⟩
theorem own_inv_read {rs ur un id : Int32} {A B : Prop} {O : Int32 → Prop} (h : own_Inv rs ur A B O) (hid : ¬ id < 0) : own_Inv (own_rs un rs) (own_ur un ur id) (A ∨ un = 0) (B ∨ ¬ un = 0) (fun q => O q ∨ (¬ un = 0 ∧ ¬ id = q)) := by
  obtain ⟨h1, h2, h3⟩ := h
  have i1 : ¬ id = -1 := fun z => hid (by rw [z]; decide)
  by_cases q0 : un = 0
  · simp only [own_rs, own_ur, q0, if_true, not_true, or_false, false_and, or_true, not_true]
    exact ⟨by simp, h2, h3⟩
  · simp only [own_rs, own_ur, q0, if_false, not_false_iff, or_false, or_true, true_and, not_true]
    refine ⟨h1, ?_, fun q hq => ?_⟩
    · by_cases q1 : ur = -1
      · simp [q1, i1]
      · by_cases q2 : ur = id
        · simp [q1, q2, i1]
        · simp [q1, q2]
    · have g3 := h3 q hq
      have n2 : ¬ (-2 : Int32) = q := fun z => hq (by rw [← z]; decide)
      by_cases q1 : ur = -1
      · have : ¬ O q := fun z => (g3.mpr z).1 q1
        simp [q1, i1, this]
      · by_cases q2 : ur = id
        · subst q2
          simp only [q1, if_true, if_false, not_false_iff, true_and] at g3 ⊢
          exact ⟨fun z => Or.inr z, fun z => z.elim g3.mpr id⟩
        · simp only [q1, q2, if_false]
          refine ⟨fun _ => ?_, fun _ => ⟨by decide, n2⟩⟩
          by_cases q3 : id = q
          · exact Or.inl (g3.mp ⟨q1, fun z => q2 (z.trans q3.symm)⟩)
          · exact Or.inr q3
theorem own_inv_if {P : Prop} [Decidable P] {rs ur rs' ur' z1 z2 : Int32} {A B A' B' : Prop} {O O' : Int32 → Prop} (h : own_Inv rs ur A B O) (h' : own_Inv rs' ur' A' B' O') (e1 : z1 = if P then rs else rs') (e2 : z2 = if P then ur else ur') :
    own_Inv z1 z2 ((P ∧ A) ∨ (¬ P ∧ A')) ((P ∧ B) ∨ (¬ P ∧ B')) (fun q => (P ∧ O q) ∨ (¬ P ∧ O' q)) := by
  by_cases q : P
  · simp only [q, if_true] at e1 e2
    subst e1 e2
    simpa [q] using h
  · simp only [q, if_false] at e1 e2
    subst e1 e2
    simpa [q] using h'
theorem own_ra1 {rs ur q : Int32} {A B : Prop} {O : Int32 → Prop} (h : own_Inv rs ur A B O) (hq : ¬ q < 0) {un : Int32} (hu : ¬ un = 0) : (own_ra ur rs q un = 1 ∧ (A ∨ O q)) ∨ (own_ra ur rs q un = 0 ∧ ¬ (A ∨ O q)) := by
  obtain ⟨h1, h2, h3⟩ := h
  have g3 := h3 q hq
  unfold own_ra
  simp only [hu, if_false]
  by_cases q1 : rs = 0
  · have : ¬ A := h1.mp q1
    simp only [q1, if_true, this, false_or]
    by_cases q2 : ur = -1
    · refine Or.inr ⟨by simp [q2], fun z => (g3.mpr z).1 q2⟩
    · by_cases q3 : ur = q
      · exact Or.inr ⟨by simp [q2, q3], fun z => (g3.mpr z).2 q3⟩
      · exact Or.inl ⟨by simp [q2, q3], g3.mp ⟨q2, q3⟩⟩
  · have : A := Classical.byContradiction fun z => q1 (h1.mpr z)
    exact Or.inl ⟨by simp [q1], Or.inl this⟩
theorem own_ra0 {rs ur q : Int32} {A B : Prop} {O : Int32 → Prop} (h : own_Inv rs ur A B O) : (own_ra ur rs q 0 = 1 ∧ B) ∨ (own_ra ur rs q 0 = 0 ∧ ¬ B) := by
  obtain ⟨h1, h2, h3⟩ := h
  unfold own_ra
  simp only [if_true]
  by_cases q2 : ur = -1
  · exact Or.inr ⟨by simp [q2], h2.mp q2⟩
  · exact Or.inl ⟨by simp [q2], Classical.byContradiction fun z => q2 (h2.mpr z)⟩
theorem own_b01 {z : Int32} {P : Prop} [Decidable P] (h : z = if P then (0 : Int32) else (1 : Int32)) : narrow .boolean (.int z) = .int z ∧ fits .boolean (.int z) = true := by
  by_cases q : P
  · rw [if_pos q] at h; subst h; exact ⟨rfl, rfl⟩
  · rw [if_neg q] at h; subst h; exact ⟨rfl, rfl⟩
theorem own_mask (x : Int32) (k : Nat) (mk : Int32) (hk : k ≤ 31) (hm : mk.toBitVec.toNat = 2 ^ k - 1) : ∃ n : Nat, n < 2 ^ k ∧ x &&& mk = n.toInt32 := by
  have h1 : (x &&& mk).toBitVec.toNat = x.toBitVec.toNat % 2 ^ k := by
    rw [Int32.toBitVec_and, BitVec.toNat_and, hm]
    exact Nat.and_two_pow_sub_one_eq_mod _ k
  have hp : 2 ^ k ≤ 2 ^ 31 := Nat.pow_le_pow_right (by decide) hk
  have h2 : x.toBitVec.toNat % 2 ^ k < 2 ^ k := Nat.mod_lt _ (Nat.two_pow_pos k)
  refine ⟨x.toBitVec.toNat % 2 ^ k, h2, ?_⟩
  rw [← Int32.toInt_inj, own_i32 (by omega)]
  show (x &&& mk).toBitVec.toInt = _
  rw [BitVec.toInt_eq_toNat_of_lt, h1]
  rw [h1]
  have : (2 : Nat) ^ 31 * 2 = 2 ^ 32 := by decide
  omega
theorem d14_0 : decode prog_47_method_1_code 0 = .ok (.aload_n 0, 1) := by decide +kernel
theorem d14_1 : decode prog_47_method_1_code 1 = .ok (.invokespecial 1, 3) := by decide +kernel
theorem d14_4 : decode prog_47_method_1_code 4 = .ok (.aload_n 0, 1) := by decide +kernel
theorem d14_5 : decode prog_47_method_1_code 5 = .ok (.iconst (-1), 1) := by decide +kernel
theorem d14_6 : decode prog_47_method_1_code 6 = .ok (.putfield 9, 3) := by decide +kernel
theorem d14_9 : decode prog_47_method_1_code 9 = .ok (.return_, 1) := by decide +kernel
theorem own_pnli : plainFor (⟨"com/example/racewright/racewright/happensbefore/Location", "<init>", "()V"⟩ : MethodName) = true := by first | exact plainFor_of_name (by first | (simp [plainName, overriddenIn, x]; done) | decide +kernel) | decide +kernel
theorem own_efli (a0_ : Addr) (m : MethodId) : entryFrame m #[(.ref a0_)] 1 = mkF m 0 #[.val (.ref a0_)] [] := by
  first | (simp [entryFrame, mkF, argsToLocals, Value.category]; done) | rfl
def own_qli (a0_ : Addr) (Z : State) (h0 : Heap) (v : Option Value) (h : Heap) : Prop := v = none ∧ Keep h0 h [a0_] ∧ Fld Z h a0_ "com/example/racewright/racewright/happensbefore/Location" "readScheduled" "Z" (.int (0 : Int32)) ∧ Fld Z h a0_ "com/example/racewright/racewright/happensbefore/Location" "unscheduledReader" "I" (.int ((-1) : Int32))
set_option maxRecDepth 65536 in
set_option maxHeartbeats 40000000 in
theorem own_mli (l : Launch) (Z : State) (a0 : Array Value) (hw : ∀ d ∈ tables_1, d.before a0 Z = true) (ws : List Jvm.Cond) (a0_ : Addr) (h0 : Heap) (n0 : Nat) (Z0 : n0 ≤ h0.size) (F1 : Exa Z h0 a0_ "com/example/racewright/racewright/happensbefore/Location") (F2 : Fld Z h0 a0_ "com/example/racewright/racewright/happensbefore/Location" "unscheduledReader" "I" (.int (0 : Int32))) (F3 : Fld Z h0 a0_ "com/example/racewright/racewright/happensbefore/Location" "readScheduled" "Z" (.int (0 : Int32))) (ge_a0_ : n0 ≤ a0_) :
    own_Met l Z (⟨"com/example/racewright/racewright/happensbefore/Location", "<init>", "()V"⟩ : MethodName) prog_47_method_1_code 1 none ws ({ frames := 1, cells := 0, slots := 0, locals := 12 } : Room) #[(.ref a0_)] h0 n0 (own_qli a0_ Z h0) := by
  refine own_enter (own := "com/example/racewright/racewright/happensbefore/Location") (nm := "<init>") rfl rfl own_pnli (own_efli a0_) ?_
  intro p e s m below meth c T0 X0
  have K4 := (Keep.refl h0 [a0_])
  refine own_aloadN X0 d14_0 rfl rfl rfl ?_
  refine own_initO X0 (hw _ (List.mem_of_getElem? (i := 100) rfl)) (hw _ (List.mem_of_getElem? (i := 7) rfl)) (hw _ (List.mem_of_getElem? (i := 8) rfl)) d14_1 rfl rfl (by decide) (W := 0) rfl (by decide) (fun T5 X6 => ?_)
  refine own_aloadN X6 d14_4 rfl rfl rfl ?_
  refine own_iconst X6 ((-1) : Int32) d14_5 rfl (by decide) ?_
  refine own_putf X6 (hw _ (List.mem_of_getElem? (i := 101) rfl)) F2 F1 (Or.inl (hw _ (List.mem_of_getElem? (i := 102) rfl))) (hw _ (List.mem_of_getElem? (i := 95) rfl)) (ty := .int) (by decide) rfl rfl ge_a0_ d14_6 rfl (fun T7 h9 X8 W10 => ?_)
  have F11 := (F1.wr W10)
  have F12 := (F2.same W10)
  have F13 := (F3.other W10 (Or.inr (slot_ne (Or.inl (hw _ (List.mem_of_getElem? (i := 109) rfl))) (Or.inl (hw _ (List.mem_of_getElem? (i := 102) rfl))) (by decide) (t := .boolean) (t' := .int) (by decide) (by decide))))
  have Z14 : n0 ≤ h9.size := (Nat.le_trans Z0 (Nat.le_of_eq W10.size.symm))
  have K15 := (K4.wr W10 (Or.inl (List.mem_of_getElem? (i := 0) rfl)))
  exact own_retV X8 rfl d14_9 ⟨rfl, K15, F13, F12⟩ (by decide) (by decide)
theorem d16_0 : decode prog_47_method_5_code 0 = .ok (.aload_n 1, 1) := by decide +kernel
theorem d16_1 : decode prog_47_method_5_code 1 = .ok (.getfield 94, 3) := by decide +kernel
theorem d16_4 : decode prog_47_method_5_code 4 = .ok (.ifCond .ne 11, 3) := by decide +kernel
theorem d16_7 : decode prog_47_method_5_code 7 = .ok (.aload_n 0, 1) := by decide +kernel
theorem d16_8 : decode prog_47_method_5_code 8 = .ok (.iconst 1, 1) := by decide +kernel
theorem d16_9 : decode prog_47_method_5_code 9 = .ok (.putfield 90, 3) := by decide +kernel
theorem d16_12 : decode prog_47_method_5_code 12 = .ok (.goto 39, 3) := by decide +kernel
theorem d16_15 : decode prog_47_method_5_code 15 = .ok (.aload_n 0, 1) := by decide +kernel
theorem d16_16 : decode prog_47_method_5_code 16 = .ok (.getfield 9, 3) := by decide +kernel
theorem d16_19 : decode prog_47_method_5_code 19 = .ok (.iconst (-1), 1) := by decide +kernel
theorem d16_20 : decode prog_47_method_5_code 20 = .ok (.if_icmp .eq 14, 3) := by decide +kernel
theorem d16_23 : decode prog_47_method_5_code 23 = .ok (.aload_n 0, 1) := by decide +kernel
theorem d16_24 : decode prog_47_method_5_code 24 = .ok (.getfield 9, 3) := by decide +kernel
theorem d16_27 : decode prog_47_method_5_code 27 = .ok (.aload_n 1, 1) := by decide +kernel
theorem d16_28 : decode prog_47_method_5_code 28 = .ok (.getfield 30, 3) := by decide +kernel
theorem d16_31 : decode prog_47_method_5_code 31 = .ok (.if_icmp .ne 14, 3) := by decide +kernel
theorem d16_34 : decode prog_47_method_5_code 34 = .ok (.aload_n 0, 1) := by decide +kernel
theorem d16_35 : decode prog_47_method_5_code 35 = .ok (.aload_n 1, 1) := by decide +kernel
theorem d16_36 : decode prog_47_method_5_code 36 = .ok (.getfield 30, 3) := by decide +kernel
theorem d16_39 : decode prog_47_method_5_code 39 = .ok (.putfield 9, 3) := by decide +kernel
theorem d16_42 : decode prog_47_method_5_code 42 = .ok (.goto 9, 3) := by decide +kernel
theorem d16_45 : decode prog_47_method_5_code 45 = .ok (.aload_n 0, 1) := by decide +kernel
theorem d16_46 : decode prog_47_method_5_code 46 = .ok (.bipush (-2), 2) := by decide +kernel
theorem d16_48 : decode prog_47_method_5_code 48 = .ok (.putfield 9, 3) := by decide +kernel
theorem d16_51 : decode prog_47_method_5_code 51 = .ok (.return_, 1) := by decide +kernel
theorem own_pnrd : plainFor (⟨"com/example/racewright/racewright/happensbefore/Location", "read", "(Lcom/example/racewright/racewright/happensbefore/ThreadState;)V"⟩ : MethodName) = true := by first | exact plainFor_of_name (by first | (simp [plainName, overriddenIn, x]; done) | decide +kernel) | decide +kernel
theorem own_efrd (a0_ : Addr) (th : Addr) (m : MethodId) : entryFrame m #[(.ref a0_), (.ref th)] 2 = mkF m 0 #[.val (.ref a0_), .val (.ref th)] [] := by
  first | (simp [entryFrame, mkF, argsToLocals, Value.category]; done) | rfl
def own_qrd (a0_ : Addr) (th : Addr) (un : Int32) (id : Int32) (rs : Int32) (ur : Int32) (Z : State) (h0 : Heap) (v : Option Value) (h : Heap) : Prop := v = none ∧ Keep h0 h [a0_] ∧ Fld Z h a0_ "com/example/racewright/racewright/happensbefore/Location" "readScheduled" "Z" (.int (own_rs un rs)) ∧ Fld Z h a0_ "com/example/racewright/racewright/happensbefore/Location" "unscheduledReader" "I" (.int (own_ur un ur id))
set_option maxRecDepth 65536 in
set_option maxHeartbeats 40000000 in
theorem own_mrd (l : Launch) (Z : State) (a0 : Array Value) (hw : ∀ d ∈ tables_1, d.before a0 Z = true) (ws : List Jvm.Cond) (a0_ : Addr) (th : Addr) (un : Int32) (id : Int32) (rs : Int32) (ur : Int32) (h0 : Heap) (n0 : Nat) (Z0 : n0 ≤ h0.size) (F1 : Exa Z h0 a0_ "com/example/racewright/racewright/happensbefore/Location") (F2 : Fld Z h0 a0_ "com/example/racewright/racewright/happensbefore/Location" "readScheduled" "Z" (.int rs)) (F3 : Fld Z h0 a0_ "com/example/racewright/racewright/happensbefore/Location" "unscheduledReader" "I" (.int ur)) (F4 : Fld Z h0 th "com/example/racewright/racewright/happensbefore/ThreadState" "unscheduled" "Z" (.int un)) (F5 : Fld Z h0 th "com/example/racewright/racewright/happensbefore/ThreadState" "id" "I" (.int id)) (ge_a0_ : n0 ≤ a0_) (ne_th_a0_ : th ≠ a0_) :
    own_Met l Z (⟨"com/example/racewright/racewright/happensbefore/Location", "read", "(Lcom/example/racewright/racewright/happensbefore/ThreadState;)V"⟩ : MethodName) prog_47_method_5_code 2 none ws ({ frames := 0, cells := 0, slots := 0, locals := 0 } : Room) #[(.ref a0_), (.ref th)] h0 n0 (own_qrd a0_ th un id rs ur Z h0) := by
  refine own_enter (own := "com/example/racewright/racewright/happensbefore/Location") (nm := "read") rfl rfl own_pnrd (own_efrd a0_ th) ?_
  intro p e s m below meth c T0 X0
  have K6 := (Keep.refl h0 [a0_])
  refine own_aloadN X0 d16_0 rfl rfl rfl ?_
  refine own_getf X0 (hw _ (List.mem_of_getElem? (i := 115) rfl)) F4 d16_1 rfl (fun T7 X8 => ?_)
  refine own_if_ne X8 d16_4 (by decide) (pcT := 15) (by decide) rfl (fun hc9 => ?_) (fun hc9 => ?_)
  · skip
    refine own_aloadN X8 d16_15 rfl rfl rfl ?_
    refine own_getf X8 (hw _ (List.mem_of_getElem? (i := 101) rfl)) F3 d16_16 rfl (fun T10 X11 => ?_)
    refine own_iconst X11 ((-1) : Int32) d16_19 rfl (by decide) ?_
    refine own_icmp_eq X11 d16_20 (by decide) (pcT := 34) (by decide) rfl (fun hc12 => ?_) (fun hc12 => ?_)
    · skip
      refine own_aloadN X11 d16_34 rfl rfl rfl ?_
      refine own_aloadN X11 d16_35 rfl rfl rfl ?_
      refine own_getf X11 (hw _ (List.mem_of_getElem? (i := 116) rfl)) F5 d16_36 rfl (fun T13 X14 => ?_)
      refine own_putf X14 (hw _ (List.mem_of_getElem? (i := 101) rfl)) F3 F1 (Or.inl (hw _ (List.mem_of_getElem? (i := 102) rfl))) (hw _ (List.mem_of_getElem? (i := 95) rfl)) (ty := .int) (by decide) rfl rfl ge_a0_ d16_39 rfl (fun T15 h17 X16 W18 => ?_)
      have F19 := (F1.wr W18)
      have F20 := (F2.other W18 (Or.inr (slot_ne (Or.inl (hw _ (List.mem_of_getElem? (i := 109) rfl))) (Or.inl (hw _ (List.mem_of_getElem? (i := 102) rfl))) (by decide) (t := .boolean) (t' := .int) (by decide) (by decide))))
      have F21 := (F3.same W18)
      have F22 := (F4.other W18 (Or.inl ne_th_a0_))
      have F23 := (F5.other W18 (Or.inl ne_th_a0_))
      have Z24 : n0 ≤ h17.size := (Nat.le_trans Z0 (Nat.le_of_eq W18.size.symm))
      have K25 := (K6.wr W18 (Or.inl (List.mem_of_getElem? (i := 0) rfl)))
      refine own_goto X16 d16_42 (by decide) (pc' := 51) (by decide) ?_
      have e26 : own_rs un rs = rs := by rw [own_rs, if_neg hc9]
      have e27 : own_ur un ur id = id := by rw [own_ur, if_neg hc9, if_pos hc12]
      exact own_retV X16 rfl d16_51 ⟨rfl, K25, (own_eqF F20 (congrArg Value.int e26.symm)), (own_eqF F21 (congrArg Value.int e27.symm))⟩ (by decide) (by decide)
    · skip
      refine own_aloadN X11 d16_23 rfl rfl rfl ?_
      refine own_getf X11 (hw _ (List.mem_of_getElem? (i := 101) rfl)) F3 d16_24 rfl (fun T28 X29 => ?_)
      refine own_aloadN X29 d16_27 rfl rfl rfl ?_
      refine own_getf X29 (hw _ (List.mem_of_getElem? (i := 116) rfl)) F5 d16_28 rfl (fun T30 X31 => ?_)
      refine own_icmp_ne X31 d16_31 (by decide) (pcT := 45) (by decide) rfl (fun hc32 => ?_) (fun hc32 => ?_)
      · skip
        refine own_aloadN X31 d16_45 rfl rfl rfl ?_
        refine own_bipush X31 ((-2) : Int32) d16_46 rfl (by decide) ?_
        refine own_putf X31 (hw _ (List.mem_of_getElem? (i := 101) rfl)) F3 F1 (Or.inl (hw _ (List.mem_of_getElem? (i := 102) rfl))) (hw _ (List.mem_of_getElem? (i := 95) rfl)) (ty := .int) (by decide) rfl rfl ge_a0_ d16_48 rfl (fun T33 h35 X34 W36 => ?_)
        have F37 := (F1.wr W36)
        have F38 := (F2.other W36 (Or.inr (slot_ne (Or.inl (hw _ (List.mem_of_getElem? (i := 109) rfl))) (Or.inl (hw _ (List.mem_of_getElem? (i := 102) rfl))) (by decide) (t := .boolean) (t' := .int) (by decide) (by decide))))
        have F39 := (F3.same W36)
        have F40 := (F4.other W36 (Or.inl ne_th_a0_))
        have F41 := (F5.other W36 (Or.inl ne_th_a0_))
        have Z42 : n0 ≤ h35.size := (Nat.le_trans Z0 (Nat.le_of_eq W36.size.symm))
        have K43 := (K6.wr W36 (Or.inl (List.mem_of_getElem? (i := 0) rfl)))
        have e44 : own_rs un rs = rs := by rw [own_rs, if_neg hc9]
        have e45 : own_ur un ur id = ((-2) : Int32) := by rw [own_ur, if_neg hc9, if_neg hc12, if_neg hc32]
        exact own_retV X34 rfl d16_51 ⟨rfl, K43, (own_eqF F38 (congrArg Value.int e44.symm)), (own_eqF F39 (congrArg Value.int e45.symm))⟩ (by decide) (by decide)
      · skip
        refine own_aloadN X31 d16_34 rfl rfl rfl ?_
        refine own_aloadN X31 d16_35 rfl rfl rfl ?_
        refine own_getf X31 (hw _ (List.mem_of_getElem? (i := 116) rfl)) F5 d16_36 rfl (fun T46 X47 => ?_)
        refine own_putf X47 (hw _ (List.mem_of_getElem? (i := 101) rfl)) F3 F1 (Or.inl (hw _ (List.mem_of_getElem? (i := 102) rfl))) (hw _ (List.mem_of_getElem? (i := 95) rfl)) (ty := .int) (by decide) rfl rfl ge_a0_ d16_39 rfl (fun T48 h50 X49 W51 => ?_)
        have F52 := (F1.wr W51)
        have F53 := (F2.other W51 (Or.inr (slot_ne (Or.inl (hw _ (List.mem_of_getElem? (i := 109) rfl))) (Or.inl (hw _ (List.mem_of_getElem? (i := 102) rfl))) (by decide) (t := .boolean) (t' := .int) (by decide) (by decide))))
        have F54 := (F3.same W51)
        have F55 := (F4.other W51 (Or.inl ne_th_a0_))
        have F56 := (F5.other W51 (Or.inl ne_th_a0_))
        have Z57 : n0 ≤ h50.size := (Nat.le_trans Z0 (Nat.le_of_eq W51.size.symm))
        have K58 := (K6.wr W51 (Or.inl (List.mem_of_getElem? (i := 0) rfl)))
        refine own_goto X49 d16_42 (by decide) (pc' := 51) (by decide) ?_
        have e59 : own_rs un rs = rs := by rw [own_rs, if_neg hc9]
        have e60 : own_ur un ur id = id := by rw [own_ur, if_neg hc9, if_neg hc12, if_pos hc32]
        exact own_retV X49 rfl d16_51 ⟨rfl, K58, (own_eqF F53 (congrArg Value.int e59.symm)), (own_eqF F54 (congrArg Value.int e60.symm))⟩ (by decide) (by decide)
  · skip
    refine own_aloadN X8 d16_7 rfl rfl rfl ?_
    refine own_iconst X8 (1 : Int32) d16_8 rfl (by decide) ?_
    refine own_putf X8 (hw _ (List.mem_of_getElem? (i := 108) rfl)) F2 F1 (Or.inl (hw _ (List.mem_of_getElem? (i := 109) rfl))) (hw _ (List.mem_of_getElem? (i := 95) rfl)) (ty := .boolean) (by decide) rfl rfl ge_a0_ d16_9 rfl (fun T61 h63 X62 W64 => ?_)
    have F65 := (F1.wr W64)
    have F66 := (F2.same W64)
    have F67 := (F3.other W64 (Or.inr (slot_ne (Or.inl (hw _ (List.mem_of_getElem? (i := 102) rfl))) (Or.inl (hw _ (List.mem_of_getElem? (i := 109) rfl))) (by decide) (t := .int) (t' := .boolean) (by decide) (by decide))))
    have F68 := (F4.other W64 (Or.inl ne_th_a0_))
    have F69 := (F5.other W64 (Or.inl ne_th_a0_))
    have Z70 : n0 ≤ h63.size := (Nat.le_trans Z0 (Nat.le_of_eq W64.size.symm))
    have K71 := (K6.wr W64 (Or.inl (List.mem_of_getElem? (i := 0) rfl)))
    refine own_goto X62 d16_12 (by decide) (pc' := 51) (by decide) ?_
    have e72 : own_rs un rs = (1 : Int32) := by rw [own_rs, if_pos hc9]
    have e73 : own_ur un ur id = ur := by rw [own_ur, if_pos hc9]
    exact own_retV X62 rfl d16_51 ⟨rfl, K71, (own_eqF F66 (congrArg Value.int e72.symm)), (own_eqF F67 (congrArg Value.int e73.symm))⟩ (by decide) (by decide)
theorem d15_0 : decode prog_47_method_6_code 0 = .ok (.aload_n 0, 1) := by decide +kernel
theorem d15_1 : decode prog_47_method_6_code 1 = .ok (.getfield 9, 3) := by decide +kernel
theorem d15_4 : decode prog_47_method_6_code 4 = .ok (.iconst (-1), 1) := by decide +kernel
theorem d15_5 : decode prog_47_method_6_code 5 = .ok (.if_icmp .eq 15, 3) := by decide +kernel
theorem d15_8 : decode prog_47_method_6_code 8 = .ok (.aload_n 0, 1) := by decide +kernel
theorem d15_9 : decode prog_47_method_6_code 9 = .ok (.getfield 9, 3) := by decide +kernel
theorem d15_12 : decode prog_47_method_6_code 12 = .ok (.iload_n 1, 1) := by decide +kernel
theorem d15_13 : decode prog_47_method_6_code 13 = .ok (.if_icmp .eq 7, 3) := by decide +kernel
theorem d15_16 : decode prog_47_method_6_code 16 = .ok (.iconst 1, 1) := by decide +kernel
theorem d15_17 : decode prog_47_method_6_code 17 = .ok (.goto 4, 3) := by decide +kernel
theorem d15_20 : decode prog_47_method_6_code 20 = .ok (.iconst 0, 1) := by decide +kernel
theorem d15_21 : decode prog_47_method_6_code 21 = .ok (.istore_n 3, 1) := by decide +kernel
theorem d15_22 : decode prog_47_method_6_code 22 = .ok (.iload_n 2, 1) := by decide +kernel
theorem d15_23 : decode prog_47_method_6_code 23 = .ok (.ifCond .eq 22, 3) := by decide +kernel
theorem d15_26 : decode prog_47_method_6_code 26 = .ok (.aload_n 0, 1) := by decide +kernel
theorem d15_27 : decode prog_47_method_6_code 27 = .ok (.getfield 90, 3) := by decide +kernel
theorem d15_30 : decode prog_47_method_6_code 30 = .ok (.ifCond .ne 7, 3) := by decide +kernel
theorem d15_33 : decode prog_47_method_6_code 33 = .ok (.iload_n 3, 1) := by decide +kernel
theorem d15_34 : decode prog_47_method_6_code 34 = .ok (.ifCond .eq 7, 3) := by decide +kernel
theorem d15_37 : decode prog_47_method_6_code 37 = .ok (.iconst 1, 1) := by decide +kernel
theorem d15_38 : decode prog_47_method_6_code 38 = .ok (.goto 20, 3) := by decide +kernel
theorem d15_41 : decode prog_47_method_6_code 41 = .ok (.iconst 0, 1) := by decide +kernel
theorem d15_42 : decode prog_47_method_6_code 42 = .ok (.goto 16, 3) := by decide +kernel
theorem d15_45 : decode prog_47_method_6_code 45 = .ok (.aload_n 0, 1) := by decide +kernel
theorem d15_46 : decode prog_47_method_6_code 46 = .ok (.getfield 9, 3) := by decide +kernel
theorem d15_49 : decode prog_47_method_6_code 49 = .ok (.iconst (-1), 1) := by decide +kernel
theorem d15_50 : decode prog_47_method_6_code 50 = .ok (.if_icmp .eq 7, 3) := by decide +kernel
theorem d15_53 : decode prog_47_method_6_code 53 = .ok (.iconst 1, 1) := by decide +kernel
theorem d15_54 : decode prog_47_method_6_code 54 = .ok (.goto 4, 3) := by decide +kernel
theorem d15_57 : decode prog_47_method_6_code 57 = .ok (.iconst 0, 1) := by decide +kernel
theorem d15_58 : decode prog_47_method_6_code 58 = .ok (.ireturn, 1) := by decide +kernel
theorem own_pnra : plainFor (⟨"com/example/racewright/racewright/happensbefore/Location", "readAcross", "(IZ)Z"⟩ : MethodName) = true := by first | exact plainFor_of_name (by first | (simp [plainName, overriddenIn, x]; done) | decide +kernel) | decide +kernel
theorem own_efra (a0_ : Addr) (q_ : Int32) (un : Int32) (m : MethodId) : entryFrame m #[(.ref a0_), (.int q_), (.int un)] 4 = mkF m 0 #[.val (.ref a0_), .val (.int q_), .val (.int un), .unset] [] := by
  first | (simp [entryFrame, mkF, argsToLocals, Value.category]; done) | rfl
def own_qra (a0_ : Addr) (q_ : Int32) (un : Int32) (rs : Int32) (ur : Int32) (Z : State) (h0 : Heap) (v : Option Value) (h : Heap) : Prop := v = some (.int (own_ra ur rs q_ un)) ∧ h0 = h
set_option maxRecDepth 65536 in
set_option maxHeartbeats 40000000 in
theorem own_mra (l : Launch) (Z : State) (a0 : Array Value) (hw : ∀ d ∈ tables_1, d.before a0 Z = true) (ws : List Jvm.Cond) (a0_ : Addr) (q_ : Int32) (un : Int32) (rs : Int32) (ur : Int32) (h0 : Heap) (n0 : Nat) (Z0 : n0 ≤ h0.size) (F1 : Fld Z h0 a0_ "com/example/racewright/racewright/happensbefore/Location" "readScheduled" "Z" (.int rs)) (F2 : Fld Z h0 a0_ "com/example/racewright/racewright/happensbefore/Location" "unscheduledReader" "I" (.int ur)) :
    own_Met l Z (⟨"com/example/racewright/racewright/happensbefore/Location", "readAcross", "(IZ)Z"⟩ : MethodName) prog_47_method_6_code 4 (some .boolean) ws ({ frames := 0, cells := 0, slots := 0, locals := 0 } : Room) #[(.ref a0_), (.int q_), (.int un)] h0 n0 (own_qra a0_ q_ un rs ur Z h0) := by
  refine own_enter (own := "com/example/racewright/racewright/happensbefore/Location") (nm := "readAcross") rfl rfl own_pnra (own_efra a0_ q_ un) ?_
  intro p e s m below meth c T0 X0
  refine own_aloadN X0 d15_0 rfl rfl rfl ?_
  refine own_getf X0 (hw _ (List.mem_of_getElem? (i := 101) rfl)) F2 d15_1 rfl (fun T3 X4 => ?_)
  refine own_iconst X4 ((-1) : Int32) d15_4 rfl (by decide) ?_
  refine own_icmp_eq X4 d15_5 (by decide) (pcT := 20) (by decide) rfl (fun hc5 => ?_) (fun hc5 => ?_)
  · skip
    refine own_iconst X4 (0 : Int32) d15_20 rfl (by decide) ?_
    refine own_istoreN X4 (L' := #[.val (.ref a0_), .val (.int q_), .val (.int un), .val (.int (0 : Int32))]) d15_21 rfl rfl ?_
    refine own_iloadN X4 d15_22 rfl rfl ?_
    refine own_if_eq X4 d15_23 (by decide) (pcT := 45) (by decide) rfl (fun hc6 => ?_) (fun hc6 => ?_)
    · skip
      refine own_aloadN X4 d15_45 rfl rfl rfl ?_
      refine own_getf X4 (hw _ (List.mem_of_getElem? (i := 101) rfl)) F2 d15_46 rfl (fun T7 X8 => ?_)
      refine own_iconst X8 ((-1) : Int32) d15_49 rfl (by decide) ?_
      refine own_icmp_eq X8 d15_50 (by decide) (pcT := 57) (by decide) rfl (fun hc => ?_) (fun hc => absurd hc5 hc)
      refine own_iconst X8 (0 : Int32) d15_57 rfl (by decide) ?_
      exact own_retZ X8 rfl d15_58 rfl ⟨by rw [own_ra, if_pos hc6, if_pos hc5], rfl⟩ (by decide) (by decide)
    · skip
      refine own_aloadN X4 d15_26 rfl rfl rfl ?_
      refine own_getf X4 (hw _ (List.mem_of_getElem? (i := 108) rfl)) F1 d15_27 rfl (fun T9 X10 => ?_)
      refine own_if_ne X10 d15_30 (by decide) (pcT := 37) (by decide) rfl (fun hc11 => ?_) (fun hc11 => ?_)
      · skip
        refine own_iconst X10 (1 : Int32) d15_37 rfl (by decide) ?_
        refine own_goto X10 d15_38 (by decide) (pc' := 58) (by decide) ?_
        exact own_retZ X10 rfl d15_58 rfl ⟨by rw [own_ra, if_neg hc6, if_neg hc11], rfl⟩ (by decide) (by decide)
      · skip
        refine own_iloadN X10 d15_33 rfl rfl ?_
        refine own_if_eq X10 d15_34 (by decide) (pcT := 41) (by decide) rfl (fun hc => ?_) (fun hc => absurd hc (by decide))
        refine own_iconst X10 (0 : Int32) d15_41 rfl (by decide) ?_
        refine own_goto X10 d15_42 (by decide) (pc' := 58) (by decide) ?_
        exact own_retZ X10 rfl d15_58 rfl ⟨by rw [own_ra, if_neg hc6, if_pos hc11, if_pos hc5], rfl⟩ (by decide) (by decide)
  · skip
    refine own_aloadN X4 d15_8 rfl rfl rfl ?_
    refine own_getf X4 (hw _ (List.mem_of_getElem? (i := 101) rfl)) F2 d15_9 rfl (fun T12 X13 => ?_)
    refine own_iloadN X13 d15_12 rfl rfl ?_
    refine own_icmp_eq X13 d15_13 (by decide) (pcT := 20) (by decide) rfl (fun hc14 => ?_) (fun hc14 => ?_)
    · skip
      refine own_iconst X13 (0 : Int32) d15_20 rfl (by decide) ?_
      refine own_istoreN X13 (L' := #[.val (.ref a0_), .val (.int q_), .val (.int un), .val (.int (0 : Int32))]) d15_21 rfl rfl ?_
      refine own_iloadN X13 d15_22 rfl rfl ?_
      refine own_if_eq X13 d15_23 (by decide) (pcT := 45) (by decide) rfl (fun hc15 => ?_) (fun hc15 => ?_)
      · skip
        refine own_aloadN X13 d15_45 rfl rfl rfl ?_
        refine own_getf X13 (hw _ (List.mem_of_getElem? (i := 101) rfl)) F2 d15_46 rfl (fun T16 X17 => ?_)
        refine own_iconst X17 ((-1) : Int32) d15_49 rfl (by decide) ?_
        refine own_icmp_eq X17 d15_50 (by decide) (pcT := 57) (by decide) rfl (fun hc => absurd hc hc5) (fun hc => ?_)
        refine own_iconst X17 (1 : Int32) d15_53 rfl (by decide) ?_
        refine own_goto X17 d15_54 (by decide) (pc' := 58) (by decide) ?_
        exact own_retZ X17 rfl d15_58 rfl ⟨by rw [own_ra, if_pos hc15, if_neg hc5], rfl⟩ (by decide) (by decide)
      · skip
        refine own_aloadN X13 d15_26 rfl rfl rfl ?_
        refine own_getf X13 (hw _ (List.mem_of_getElem? (i := 108) rfl)) F1 d15_27 rfl (fun T18 X19 => ?_)
        refine own_if_ne X19 d15_30 (by decide) (pcT := 37) (by decide) rfl (fun hc20 => ?_) (fun hc20 => ?_)
        · skip
          refine own_iconst X19 (1 : Int32) d15_37 rfl (by decide) ?_
          refine own_goto X19 d15_38 (by decide) (pc' := 58) (by decide) ?_
          exact own_retZ X19 rfl d15_58 rfl ⟨by rw [own_ra, if_neg hc15, if_neg hc20], rfl⟩ (by decide) (by decide)
        · skip
          refine own_iloadN X19 d15_33 rfl rfl ?_
          refine own_if_eq X19 d15_34 (by decide) (pcT := 41) (by decide) rfl (fun hc => ?_) (fun hc => absurd hc (by decide))
          refine own_iconst X19 (0 : Int32) d15_41 rfl (by decide) ?_
          refine own_goto X19 d15_42 (by decide) (pc' := 58) (by decide) ?_
          exact own_retZ X19 rfl d15_58 rfl ⟨by rw [own_ra, if_neg hc15, if_pos hc20, if_neg hc5, if_pos hc14], rfl⟩ (by decide) (by decide)
    · skip
      refine own_iconst X13 (1 : Int32) d15_16 rfl (by decide) ?_
      refine own_goto X13 d15_17 (by decide) (pc' := 21) (by decide) ?_
      refine own_istoreN X13 (L' := #[.val (.ref a0_), .val (.int q_), .val (.int un), .val (.int (1 : Int32))]) d15_21 rfl rfl ?_
      refine own_iloadN X13 d15_22 rfl rfl ?_
      refine own_if_eq X13 d15_23 (by decide) (pcT := 45) (by decide) rfl (fun hc21 => ?_) (fun hc21 => ?_)
      · skip
        refine own_aloadN X13 d15_45 rfl rfl rfl ?_
        refine own_getf X13 (hw _ (List.mem_of_getElem? (i := 101) rfl)) F2 d15_46 rfl (fun T22 X23 => ?_)
        refine own_iconst X23 ((-1) : Int32) d15_49 rfl (by decide) ?_
        refine own_icmp_eq X23 d15_50 (by decide) (pcT := 57) (by decide) rfl (fun hc => absurd hc hc5) (fun hc => ?_)
        refine own_iconst X23 (1 : Int32) d15_53 rfl (by decide) ?_
        refine own_goto X23 d15_54 (by decide) (pc' := 58) (by decide) ?_
        exact own_retZ X23 rfl d15_58 rfl ⟨by rw [own_ra, if_pos hc21, if_neg hc5], rfl⟩ (by decide) (by decide)
      · skip
        refine own_aloadN X13 d15_26 rfl rfl rfl ?_
        refine own_getf X13 (hw _ (List.mem_of_getElem? (i := 108) rfl)) F1 d15_27 rfl (fun T24 X25 => ?_)
        refine own_if_ne X25 d15_30 (by decide) (pcT := 37) (by decide) rfl (fun hc26 => ?_) (fun hc26 => ?_)
        · skip
          refine own_iconst X25 (1 : Int32) d15_37 rfl (by decide) ?_
          refine own_goto X25 d15_38 (by decide) (pc' := 58) (by decide) ?_
          exact own_retZ X25 rfl d15_58 rfl ⟨by rw [own_ra, if_neg hc21, if_neg hc26], rfl⟩ (by decide) (by decide)
        · skip
          refine own_iloadN X25 d15_33 rfl rfl ?_
          refine own_if_eq X25 d15_34 (by decide) (pcT := 41) (by decide) rfl (fun hc => absurd hc (by decide)) (fun hc => ?_)
          refine own_iconst X25 (1 : Int32) d15_37 rfl (by decide) ?_
          refine own_goto X25 d15_38 (by decide) (pc' := 58) (by decide) ?_
          exact own_retZ X25 rfl d15_58 rfl ⟨by rw [own_ra, if_neg hc21, if_pos hc26, if_neg hc5, if_neg hc14], rfl⟩ (by decide) (by decide)

theorem own_fin {n q u0 u1 u2 i0 i1 i2 rs ur z20 z21 z22 z23 z24 z25 z26 : Int32}
    (I : own_Inv rs ur ((n < 3 ∧ ((n < 2 ∧ ((n < 1 ∧ False) ∨ (¬ n < 1 ∧ (False ∨ u0 = 0)))) ∨ (¬ n < 2 ∧ (((n < 1 ∧ False) ∨ (¬ n < 1 ∧ (False ∨ u0 = 0))) ∨ u1 = 0)))) ∨ (¬ n < 3 ∧ (((n < 2 ∧ ((n < 1 ∧ False) ∨ (¬ n < 1 ∧ (False ∨ u0 = 0)))) ∨ (¬ n < 2 ∧ (((n < 1 ∧ False) ∨ (¬ n < 1 ∧ (False ∨ u0 = 0))) ∨ u1 = 0))) ∨ u2 = 0)))
      ((n < 3 ∧ ((n < 2 ∧ ((n < 1 ∧ False) ∨ (¬ n < 1 ∧ (False ∨ ¬ u0 = 0)))) ∨ (¬ n < 2 ∧ (((n < 1 ∧ False) ∨ (¬ n < 1 ∧ (False ∨ ¬ u0 = 0))) ∨ ¬ u1 = 0)))) ∨ (¬ n < 3 ∧ (((n < 2 ∧ ((n < 1 ∧ False) ∨ (¬ n < 1 ∧ (False ∨ ¬ u0 = 0)))) ∨ (¬ n < 2 ∧ (((n < 1 ∧ False) ∨ (¬ n < 1 ∧ (False ∨ ¬ u0 = 0))) ∨ ¬ u1 = 0))) ∨ ¬ u2 = 0)))
      (fun q => (n < 3 ∧ ((n < 2 ∧ ((n < 1 ∧ False) ∨ (¬ n < 1 ∧ (False ∨ (¬ u0 = 0 ∧ ¬ i0 = q))))) ∨ (¬ n < 2 ∧ (((n < 1 ∧ False) ∨ (¬ n < 1 ∧ (False ∨ (¬ u0 = 0 ∧ ¬ i0 = q)))) ∨ (¬ u1 = 0 ∧ ¬ i1 = q))))) ∨ (¬ n < 3 ∧ (((n < 2 ∧ ((n < 1 ∧ False) ∨ (¬ n < 1 ∧ (False ∨ (¬ u0 = 0 ∧ ¬ i0 = q))))) ∨ (¬ n < 2 ∧ (((n < 1 ∧ False) ∨ (¬ n < 1 ∧ (False ∨ (¬ u0 = 0 ∧ ¬ i0 = q)))) ∨ (¬ u1 = 0 ∧ ¬ i1 = q)))) ∨ (¬ u2 = 0 ∧ ¬ i2 = q)))))
    (hq : ¬ q < 0) (h20 : z20 = if n < (1 : Int32) then (0 : Int32) else (1 : Int32)) (h21 : z21 = if n < (2 : Int32) then (0 : Int32) else (1 : Int32)) (h22 : z22 = if n < (3 : Int32) then (0 : Int32) else (1 : Int32))
    (h23 : z23 = (if z20 = (0 : Int32) then (if z21 = (0 : Int32) then (if z22 = (0 : Int32) then (0 : Int32) else (if u2 = (0 : Int32) then (1 : Int32) else (0 : Int32))) else (if u1 = (0 : Int32) then (1 : Int32) else (if z22 = (0 : Int32) then (0 : Int32) else (if u2 = (0 : Int32) then (1 : Int32) else (0 : Int32))))) else (if u0 = (0 : Int32) then (1 : Int32) else (if z21 = (0 : Int32) then (if z22 = (0 : Int32) then (0 : Int32) else (if u2 = (0 : Int32) then (1 : Int32) else (0 : Int32))) else (if u1 = (0 : Int32) then (1 : Int32) else (if z22 = (0 : Int32) then (0 : Int32) else (if u2 = (0 : Int32) then (1 : Int32) else (0 : Int32)))))))) (h24 : z24 = (if z20 = (0 : Int32) then (if z21 = (0 : Int32) then (if z22 = (0 : Int32) then (0 : Int32) else (if u2 = (0 : Int32) then (0 : Int32) else (1 : Int32))) else (if u1 = (0 : Int32) then (if z22 = (0 : Int32) then (0 : Int32) else (if u2 = (0 : Int32) then (0 : Int32) else (1 : Int32))) else (1 : Int32))) else (if u0 = (0 : Int32) then (if z21 = (0 : Int32) then (if z22 = (0 : Int32) then (0 : Int32) else (if u2 = (0 : Int32) then (0 : Int32) else (1 : Int32))) else (if u1 = (0 : Int32) then (if z22 = (0 : Int32) then (0 : Int32) else (if u2 = (0 : Int32) then (0 : Int32) else (1 : Int32))) else (1 : Int32))) else (1 : Int32)))) (h25 : z25 = (if z20 = (0 : Int32) then (if z21 = (0 : Int32) then (if z22 = (0 : Int32) then (0 : Int32) else (if u2 = (0 : Int32) then (0 : Int32) else (if i2 = q then (0 : Int32) else (1 : Int32)))) else (if u1 = (0 : Int32) then (if z22 = (0 : Int32) then (0 : Int32) else (if u2 = (0 : Int32) then (0 : Int32) else (if i2 = q then (0 : Int32) else (1 : Int32)))) else (if i1 = q then (if z22 = (0 : Int32) then (0 : Int32) else (if u2 = (0 : Int32) then (0 : Int32) else (if i2 = q then (0 : Int32) else (1 : Int32)))) else (1 : Int32)))) else (if u0 = (0 : Int32) then (if z21 = (0 : Int32) then (if z22 = (0 : Int32) then (0 : Int32) else (if u2 = (0 : Int32) then (0 : Int32) else (if i2 = q then (0 : Int32) else (1 : Int32)))) else (if u1 = (0 : Int32) then (if z22 = (0 : Int32) then (0 : Int32) else (if u2 = (0 : Int32) then (0 : Int32) else (if i2 = q then (0 : Int32) else (1 : Int32)))) else (if i1 = q then (if z22 = (0 : Int32) then (0 : Int32) else (if u2 = (0 : Int32) then (0 : Int32) else (if i2 = q then (0 : Int32) else (1 : Int32)))) else (1 : Int32)))) else (if i0 = q then (if z21 = (0 : Int32) then (if z22 = (0 : Int32) then (0 : Int32) else (if u2 = (0 : Int32) then (0 : Int32) else (if i2 = q then (0 : Int32) else (1 : Int32)))) else (if u1 = (0 : Int32) then (if z22 = (0 : Int32) then (0 : Int32) else (if u2 = (0 : Int32) then (0 : Int32) else (if i2 = q then (0 : Int32) else (1 : Int32)))) else (if i1 = q then (if z22 = (0 : Int32) then (0 : Int32) else (if u2 = (0 : Int32) then (0 : Int32) else (if i2 = q then (0 : Int32) else (1 : Int32)))) else (1 : Int32)))) else (1 : Int32))))) (h26 : z26 = (if z23 = (0 : Int32) then (if z25 = (0 : Int32) then (0 : Int32) else (1 : Int32)) else (1 : Int32))) : own_ra ur rs q 1 = z26 ∧ own_ra ur rs q 0 = z24 := by
  have k1 := own_ra1 (q := q) I hq (un := 1) (by decide)
  have k0 := own_ra0 (q := q) I
  generalize own_ra ur rs q 1 = y1 at *
  generalize own_ra ur rs q 0 = y0 at *
  clear I
  by_cases c1 : n < 1 <;> by_cases c2 : n < 2 <;> by_cases c3 : n < 3 <;> by_cases d0 : u0 = 0 <;> by_cases d1 : u1 = 0 <;> by_cases d2 : u2 = 0 <;>
    simp [c1, c2, c3, d0, d1, d2] at h20 h21 h22 h23 h24 h25 h26 k1 k0 <;> subst h20 h21 h22 <;> simp at h23 h24 h25 h26 <;> (try subst h23) <;> (try subst h24) <;> simp_all
  all_goals (by_cases e0 : i0 = q <;> by_cases e1 : i1 = q <;> by_cases e2 : i2 = q <;> simp_all)
theorem own_pnlaw : plainFor x = true := by first | exact plainFor_of_name (by first | (simp [plainName, overriddenIn, x]; done) | decide +kernel) | decide +kernel
theorem own_eflaw (p1 : Int32) (p2 : Int32) (p3 : Int32) (p4 : Int32) (p5 : Int32) (m : MethodId) : entryFrame m #[(.int p1), (.int p2), (.int p3), (.int p4), (.int p5)] maxLocals = mkF m 0 #[.val (.int p1), .val (.int p2), .val (.int p3), .val (.int p4), .val (.int p5), .unset, .unset, .unset, .unset, .unset, .unset, .unset, .unset, .unset, .unset, .unset, .unset, .unset, .unset, .unset, .unset, .unset, .unset, .unset, .unset, .unset, .unset, .unset] [] := by
  first | (simp [entryFrame, mkF, argsToLocals, Value.category, maxLocals]; done) | rfl
set_option maxRecDepth 65536 in
set_option maxHeartbeats 40000000 in
theorem own_law (l : Launch) (Z : State) (a0 : Array Value) (hw : ∀ d ∈ tables_1, d.before a0 Z = true) (ws : List Jvm.Cond) (p1 : Int32) (p2 : Int32) (p3 : Int32) (p4 : Int32) (p5 : Int32) (h0 : Heap) (n0 : Nat) (Z0 : n0 ≤ h0.size) :
    own_Met l Z x code maxLocals ret ws room_1 #[(.int p1), (.int p2), (.int p3), (.int p4), (.int p5)] h0 n0 (fun v _ => v = some (.int 1)) := by
  refine own_enter (own := "com/example/racewright/racewright/happensbefore/LocationReadPinLaw") (nm := "law") rfl rfl own_pnlaw (own_eflaw p1 p2 p3 p4 p5) ?_
  intro p e s m below meth c T0 X0
  refine own_iloadN X0 at_0 rfl rfl ?_
  refine own_iconst X0 (3 : Int32) at_1 rfl (by decide) ?_
  refine own_iand X0 at_2 rfl ?_
  refine own_istore X0 (L' := #[.val (.int p1), .val (.int p2), .val (.int p3), .val (.int p4), .val (.int p5), .val (.int (p1 &&& (3 : Int32))), .unset, .unset, .unset, .unset, .unset, .unset, .unset, .unset, .unset, .unset, .unset, .unset, .unset, .unset, .unset, .unset, .unset, .unset, .unset, .unset, .unset, .unset]) at_3 rfl rfl ?_
  refine own_iloadN X0 at_5 rfl rfl ?_
  refine own_iconst X0 (3 : Int32) at_6 rfl (by decide) ?_
  refine own_iand X0 at_7 rfl ?_
  refine own_istore X0 (L' := #[.val (.int p1), .val (.int p2), .val (.int p3), .val (.int p4), .val (.int p5), .val (.int (p1 &&& (3 : Int32))), .val (.int (p2 &&& (3 : Int32))), .unset, .unset, .unset, .unset, .unset, .unset, .unset, .unset, .unset, .unset, .unset, .unset, .unset, .unset, .unset, .unset, .unset, .unset, .unset, .unset, .unset]) at_8 rfl rfl ?_
  refine own_iloadN X0 at_10 rfl rfl ?_
  refine own_iconst X0 (3 : Int32) at_11 rfl (by decide) ?_
  refine own_iand X0 at_12 rfl ?_
  refine own_istore X0 (L' := #[.val (.int p1), .val (.int p2), .val (.int p3), .val (.int p4), .val (.int p5), .val (.int (p1 &&& (3 : Int32))), .val (.int (p2 &&& (3 : Int32))), .val (.int (p3 &&& (3 : Int32))), .unset, .unset, .unset, .unset, .unset, .unset, .unset, .unset, .unset, .unset, .unset, .unset, .unset, .unset, .unset, .unset, .unset, .unset, .unset, .unset]) at_13 rfl rfl ?_
  obtain ⟨k1, hk1, ek1⟩ := own_mask p1 2 (3 : Int32) (by decide) (by decide)
  rw [ek1]
  obtain ⟨k2, hk2, ek2⟩ := own_mask p2 2 (3 : Int32) (by decide) (by decide)
  rw [ek2]
  obtain ⟨k3, hk3, ek3⟩ := own_mask p3 2 (3 : Int32) (by decide) (by decide)
  rw [ek3]
  show own_Fin p e below (own_End s n0 (fun v _ => v = some (.int 1)) room_1.cells room_1.slots) (T0.setTop (mkF m 15 #[.val (.int p1), .val (.int p2), .val (.int p3), .val (.int p4), .val (.int p5), .val (.int k1.toInt32), .val (.int k2.toInt32), .val (.int k3.toInt32), .unset, .unset, .unset, .unset, .unset, .unset, .unset, .unset, .unset, .unset, .unset, .unset, .unset, .unset, .unset, .unset, .unset, .unset, .unset, .unset] []))
  refine own_iload X0 at_15 rfl rfl ?_
  refine own_iconst X0 (1 : Int32) at_17 rfl (by decide) ?_
  refine own_iand X0 at_18 rfl ?_
  suffices J27_5 : ∀ (z4 : Int32), z4 = (if (p5 &&& (1 : Int32)) = (0 : Int32) then (0 : Int32) else (1 : Int32)) → own_Fin p e below (own_End s n0 (fun v _ => v = some (.int 1)) room_1.cells room_1.slots) (T0.setTop (mkF m 27 #[.val (.int p1), .val (.int p2), .val (.int p3), .val (.int p4), .val (.int p5), .val (.int k1.toInt32), .val (.int k2.toInt32), .val (.int k3.toInt32), .unset, .unset, .unset, .unset, .unset, .unset, .unset, .unset, .unset, .unset, .unset, .unset, .unset, .unset, .unset, .unset, .unset, .unset, .unset, .unset] [(.int z4)])) by
    refine own_if_eq X0 at_19 (by decide) (pcT := 26) (by decide) rfl (fun hc6 => ?_) (fun hc6 => ?_)
    · skip
      refine own_iconst X0 (0 : Int32) at_26 rfl (by decide) ?_
      exact J27_5 _ (by rw [if_pos hc6])
    · skip
      refine own_iconst X0 (1 : Int32) at_22 rfl (by decide) ?_
      refine own_goto X0 at_23 (by decide) (pc' := 27) (by decide) ?_
      exact J27_5 _ (by rw [if_neg hc6])
  intro z4 hz4
  refine own_istore X0 (L' := #[.val (.int p1), .val (.int p2), .val (.int p3), .val (.int p4), .val (.int p5), .val (.int k1.toInt32), .val (.int k2.toInt32), .val (.int k3.toInt32), .val (.int z4), .unset, .unset, .unset, .unset, .unset, .unset, .unset, .unset, .unset, .unset, .unset, .unset, .unset, .unset, .unset, .unset, .unset, .unset, .unset]) at_27 rfl rfl ?_
  refine own_iload X0 at_29 rfl rfl ?_
  refine own_iconst X0 (2 : Int32) at_31 rfl (by decide) ?_
  refine own_iand X0 at_32 rfl ?_
  suffices J41_8 : ∀ (z7 : Int32), z7 = (if (p5 &&& (2 : Int32)) = (0 : Int32) then (0 : Int32) else (1 : Int32)) → own_Fin p e below (own_End s n0 (fun v _ => v = some (.int 1)) room_1.cells room_1.slots) (T0.setTop (mkF m 41 #[.val (.int p1), .val (.int p2), .val (.int p3), .val (.int p4), .val (.int p5), .val (.int k1.toInt32), .val (.int k2.toInt32), .val (.int k3.toInt32), .val (.int z4), .unset, .unset, .unset, .unset, .unset, .unset, .unset, .unset, .unset, .unset, .unset, .unset, .unset, .unset, .unset, .unset, .unset, .unset, .unset] [(.int z7)])) by
    refine own_if_eq X0 at_33 (by decide) (pcT := 40) (by decide) rfl (fun hc9 => ?_) (fun hc9 => ?_)
    · skip
      refine own_iconst X0 (0 : Int32) at_40 rfl (by decide) ?_
      exact J41_8 _ (by rw [if_pos hc9])
    · skip
      refine own_iconst X0 (1 : Int32) at_36 rfl (by decide) ?_
      refine own_goto X0 at_37 (by decide) (pc' := 41) (by decide) ?_
      exact J41_8 _ (by rw [if_neg hc9])
  intro z7 hz7
  refine own_istore X0 (L' := #[.val (.int p1), .val (.int p2), .val (.int p3), .val (.int p4), .val (.int p5), .val (.int k1.toInt32), .val (.int k2.toInt32), .val (.int k3.toInt32), .val (.int z4), .val (.int z7), .unset, .unset, .unset, .unset, .unset, .unset, .unset, .unset, .unset, .unset, .unset, .unset, .unset, .unset, .unset, .unset, .unset, .unset]) at_41 rfl rfl ?_
  refine own_iload X0 at_43 rfl rfl ?_
  refine own_iconst X0 (4 : Int32) at_45 rfl (by decide) ?_
  refine own_iand X0 at_46 rfl ?_
  suffices J55_11 : ∀ (z10 : Int32), z10 = (if (p5 &&& (4 : Int32)) = (0 : Int32) then (0 : Int32) else (1 : Int32)) → own_Fin p e below (own_End s n0 (fun v _ => v = some (.int 1)) room_1.cells room_1.slots) (T0.setTop (mkF m 55 #[.val (.int p1), .val (.int p2), .val (.int p3), .val (.int p4), .val (.int p5), .val (.int k1.toInt32), .val (.int k2.toInt32), .val (.int k3.toInt32), .val (.int z4), .val (.int z7), .unset, .unset, .unset, .unset, .unset, .unset, .unset, .unset, .unset, .unset, .unset, .unset, .unset, .unset, .unset, .unset, .unset, .unset] [(.int z10)])) by
    refine own_if_eq X0 at_47 (by decide) (pcT := 54) (by decide) rfl (fun hc12 => ?_) (fun hc12 => ?_)
    · skip
      refine own_iconst X0 (0 : Int32) at_54 rfl (by decide) ?_
      exact J55_11 _ (by rw [if_pos hc12])
    · skip
      refine own_iconst X0 (1 : Int32) at_50 rfl (by decide) ?_
      refine own_goto X0 at_51 (by decide) (pc' := 55) (by decide) ?_
      exact J55_11 _ (by rw [if_neg hc12])
  intro z10 hz10
  refine own_istore X0 (L' := #[.val (.int p1), .val (.int p2), .val (.int p3), .val (.int p4), .val (.int p5), .val (.int k1.toInt32), .val (.int k2.toInt32), .val (.int k3.toInt32), .val (.int z4), .val (.int z7), .val (.int z10), .unset, .unset, .unset, .unset, .unset, .unset, .unset, .unset, .unset, .unset, .unset, .unset, .unset, .unset, .unset, .unset, .unset]) at_55 rfl rfl ?_
  refine own_iload X0 at_57 rfl rfl ?_
  refine own_iconst X0 (3 : Int32) at_59 rfl (by decide) ?_
  refine own_iushr X0 at_60 rfl ?_
  refine own_iconst X0 (3 : Int32) at_61 rfl (by decide) ?_
  refine own_iand X0 at_62 rfl ?_
  refine own_istore X0 (L' := #[.val (.int p1), .val (.int p2), .val (.int p3), .val (.int p4), .val (.int p5), .val (.int k1.toInt32), .val (.int k2.toInt32), .val (.int k3.toInt32), .val (.int z4), .val (.int z7), .val (.int z10), .val (.int ((XT.ushr p5 (3 : Int32)) &&& (3 : Int32))), .unset, .unset, .unset, .unset, .unset, .unset, .unset, .unset, .unset, .unset, .unset, .unset, .unset, .unset, .unset, .unset]) at_63 rfl rfl ?_
  suffices G65 : ∀ (u13 : Int32), own_Fin p e below (own_End s n0 (fun v _ => v = some (.int 1)) room_1.cells room_1.slots) (T0.setTop (mkF m 65 #[.val (.int p1), .val (.int p2), .val (.int p3), .val (.int p4), .val (.int p5), .val (.int k1.toInt32), .val (.int k2.toInt32), .val (.int k3.toInt32), .val (.int z4), .val (.int z7), .val (.int z10), .val (.int u13), .unset, .unset, .unset, .unset, .unset, .unset, .unset, .unset, .unset, .unset, .unset, .unset, .unset, .unset, .unset, .unset] [])) from G65 _ 
  intro u13
  refine own_iloadN X0 at_65 rfl rfl ?_
  refine own_bipush X0 (7 : Int32) at_66 rfl (by decide) ?_
  refine own_iand X0 at_68 rfl ?_
  refine own_istore X0 (L' := #[.val (.int p1), .val (.int p2), .val (.int p3), .val (.int p4), .val (.int p5), .val (.int k1.toInt32), .val (.int k2.toInt32), .val (.int k3.toInt32), .val (.int z4), .val (.int z7), .val (.int z10), .val (.int u13), .val (.int (p4 &&& (7 : Int32))), .unset, .unset, .unset, .unset, .unset, .unset, .unset, .unset, .unset, .unset, .unset, .unset, .unset, .unset, .unset]) at_69 rfl rfl ?_
  obtain ⟨k14, hk14, ek14⟩ := own_mask p4 3 (7 : Int32) (by decide) (by decide)
  rw [ek14]
  show own_Fin p e below (own_End s n0 (fun v _ => v = some (.int 1)) room_1.cells room_1.slots) (T0.setTop (mkF m 71 #[.val (.int p1), .val (.int p2), .val (.int p3), .val (.int p4), .val (.int p5), .val (.int k1.toInt32), .val (.int k2.toInt32), .val (.int k3.toInt32), .val (.int z4), .val (.int z7), .val (.int z10), .val (.int u13), .val (.int k14.toInt32), .unset, .unset, .unset, .unset, .unset, .unset, .unset, .unset, .unset, .unset, .unset, .unset, .unset, .unset, .unset] []))
  refine own_new X0 (hw _ (List.mem_of_getElem? (i := 0) rfl)) (hw _ (List.mem_of_getElem? (i := 1) rfl)) (hw _ (List.mem_of_getElem? (i := 2) rfl)) at_71 rfl (cells' := 1) (slots' := 2) rfl rfl (by decide) (by decide) (fun T15 h17 a21 g22 X16 E18 A19 D20 => ?_)
  have ge_a21 : n0 ≤ a21 := Nat.le_trans Z0 (Nat.le_of_eq g22.symm)
  have F23 := D20 (Or.inl (hw _ (List.mem_of_getElem? (i := 11) rfl))) (ty := (.array .int)) (by decide)
  replace F23 : Fld Z h17 a21 "com/example/racewright/racewright/happensbefore/VectorClock" "ticks" "[I" (.null) := F23
  have F24 := D20 (Or.inl (hw _ (List.mem_of_getElem? (i := 13) rfl))) (ty := (.array .int)) (by decide)
  replace F24 : Fld Z h17 a21 "com/example/racewright/racewright/happensbefore/VectorClock" "apart" "[I" (.null) := F24
  have Z25 : n0 ≤ h17.size := (Nat.le_trans Z0 E18.1)
  refine own_dup X16 at_74 rfl rfl ?_
  refine own_callI X16 rfl (hw _ (List.mem_of_getElem? (i := 3) rfl)) (hw _ (List.mem_of_getElem? (i := 4) rfl)) (hw _ (List.mem_of_getElem? (i := 2) rfl)) (hw _ (List.mem_of_getElem? (i := 5) rfl)) (by decide) (a := a21) (argsL := []) (rest := [(.ref a21)]) (own_mvi l Z a0 hw [] a21 _ _ Z25 A19 F23 F24 ge_a21) (pd_1) rfl at_75 rfl rfl rfl (W := 1) rfl (by decide) (by decide) (cells' := 3) (slots' := 2) rfl rfl (by decide) (by decide) (fun v T36 h38 X37 q39 => ?_)
  obtain ⟨t26, u27, rfl, K35, F28, F29, F30, F31, F32, F33, F34⟩ := q39
  show own_Fin p e below (own_End s n0 (fun v _ => v = some (.int 1)) room_1.cells room_1.slots) (T36.setTop (mkF m 78 #[.val (.int p1), .val (.int p2), .val (.int p3), .val (.int p4), .val (.int p5), .val (.int k1.toInt32), .val (.int k2.toInt32), .val (.int k3.toInt32), .val (.int z4), .val (.int z7), .val (.int z10), .val (.int u13), .val (.int k14.toInt32), .unset, .unset, .unset, .unset, .unset, .unset, .unset, .unset, .unset, .unset, .unset, .unset, .unset, .unset, .unset] [(.ref a21)]))
  have F40 := (A19.keep K35)
  have Z41 : n0 ≤ h38.size := (Nat.le_trans Z25 K35.1)
  have ge_t26 : n0 ≤ t26 := Nat.le_trans Z25 F32
  have ne_a21_t26 : a21 ≠ t26 := (fun q => Nat.ne_of_lt (Nat.lt_of_lt_of_le A19.lt q)) F32
  have ge_u27 : n0 ≤ u27 := Nat.le_trans Z25 F33
  have ne_a21_u27 : a21 ≠ u27 := (fun q => Nat.ne_of_lt (Nat.lt_of_lt_of_le A19.lt q)) F33
  refine own_astore X37 (L' := #[.val (.int p1), .val (.int p2), .val (.int p3), .val (.int p4), .val (.int p5), .val (.int k1.toInt32), .val (.int k2.toInt32), .val (.int k3.toInt32), .val (.int z4), .val (.int z7), .val (.int z10), .val (.int u13), .val (.int k14.toInt32), .val (.ref a21), .unset, .unset, .unset, .unset, .unset, .unset, .unset, .unset, .unset, .unset, .unset, .unset, .unset, .unset]) at_78 rfl rfl rfl ?_
  refine own_new X37 (hw _ (List.mem_of_getElem? (i := 14) rfl)) (hw _ (List.mem_of_getElem? (i := 15) rfl)) (hw _ (List.mem_of_getElem? (i := 16) rfl)) at_80 rfl (cells' := 4) (slots' := 10) rfl rfl (by decide) (by decide) (fun T42 h44 a48 g49 X43 E45 A46 D47 => ?_)
  have ge_a48 : n0 ≤ a48 := Nat.le_trans Z41 (Nat.le_of_eq g49.symm)
  have ne_a21_a48 : a21 ≠ a48 := Nat.ne_of_lt (g49 ▸ F40.lt)
  have ne_t26_a48 : t26 ≠ a48 := Nat.ne_of_lt (g49 ▸ F30.lt)
  have ne_u27_a48 : u27 ≠ a48 := Nat.ne_of_lt (g49 ▸ F31.lt)
  have F50 := D47 (Or.inr (hw _ (List.mem_of_getElem? (i := 60) rfl))) (ty := (.object "java/util/Set")) (by decide)
  replace F50 : Fld Z h44 a48 "com/example/racewright/racewright/happensbefore/ThreadState" "usedClasses" "Ljava/util/Set;" (.null) := F50
  have F51 := D47 (Or.inr (hw _ (List.mem_of_getElem? (i := 62) rfl))) (ty := .int) (by decide)
  replace F51 : Fld Z h44 a48 "com/example/racewright/racewright/happensbefore/ThreadState" "id" "I" (.int (0 : Int32)) := F51
  have F52 := D47 (Or.inr (hw _ (List.mem_of_getElem? (i := 64) rfl))) (ty := (.object "com/example/racewright/racewright/happensbefore/VectorClock")) (by decide)
  replace F52 : Fld Z h44 a48 "com/example/racewright/racewright/happensbefore/ThreadState" "clock" "Lcom/example/racewright/racewright/happensbefore/VectorClock;" (.null) := F52
  have F53 := D47 (Or.inr (hw _ (List.mem_of_getElem? (i := 89) rfl))) (ty := (.object "java/util/List")) (by decide)
  replace F53 : Fld Z h44 a48 "com/example/racewright/racewright/happensbefore/ThreadState" "acquisitions" "Ljava/util/List;" (.null) := F53
  have F54 := D47 (Or.inr (hw _ (List.mem_of_getElem? (i := 91) rfl))) (ty := (.object "com/example/racewright/racewright/happensbefore/VectorClock")) (by decide)
  replace F54 : Fld Z h44 a48 "com/example/racewright/racewright/happensbefore/ThreadState" "started" "Lcom/example/racewright/racewright/happensbefore/VectorClock;" (.null) := F54
  have F55 := D47 (Or.inl (hw _ (List.mem_of_getElem? (i := 93) rfl))) (ty := .boolean) (by decide)
  replace F55 : Fld Z h44 a48 "com/example/racewright/racewright/happensbefore/ThreadState" "unscheduled" "Z" (.int (0 : Int32)) := F55
  have F56 := (F40.ext E45)
  have F57 := (F28.ext E45)
  have F58 := (F29.ext E45)
  have F59 := (F30.ext E45)
  have F60 := (F31.ext E45)
  have Z61 : n0 ≤ h44.size := (Nat.le_trans Z41 E45.1)
  refine own_dup X43 at_83 rfl rfl ?_
  refine own_iload X43 at_84 rfl rfl ?_
  refine own_aload X43 at_86 rfl rfl rfl ?_
  refine own_iconst X43 (0 : Int32) at_88 rfl (by decide) ?_
  have b0 : (0 : Nat) ≤ 6 := by decide
  refine own_callI X43 rfl (hw _ (List.mem_of_getElem? (i := 17) rfl)) (hw _ (List.mem_of_getElem? (i := 18) rfl)) (hw _ (List.mem_of_getElem? (i := 16) rfl)) (hw _ (List.mem_of_getElem? (i := 19) rfl)) (by decide) (a := a48) (argsL := [(.int k1.toInt32), (.ref a21), (.int (0 : Int32))]) (rest := [(.ref a48)]) (own_mts l Z a0 hw [] a48 k1 a21 t26 u27 0 0 _ _ Z61 A46 F50 F51 F52 F53 F54 F55 F56 F57 F58 F59 F60 ge_a48 ge_a21 ge_t26 ge_u27 (Ne.symm ne_a21_a48) (Ne.symm ne_t26_a48) (Ne.symm ne_u27_a48) ne_a21_t26 ne_a21_u27 F34 (by omega) (fun z => by omega) (by omega) (fun z => by omega) (by omega)) (pd_3) rfl at_89 rfl rfl rfl (W := 1) rfl (by decide) (by decide) (cells' := 8) (slots' := 35) rfl rfl (by decide) (by decide) (fun v T75 h77 X76 q78 => ?_)
  obtain ⟨t262, u263, rfl, K74, F64, F65, F66, F67, F68, F69, F70, F71, F72, F73⟩ := q78
  show own_Fin p e below (own_End s n0 (fun v _ => v = some (.int 1)) room_1.cells room_1.slots) (T75.setTop (mkF m 92 #[.val (.int p1), .val (.int p2), .val (.int p3), .val (.int p4), .val (.int p5), .val (.int k1.toInt32), .val (.int k2.toInt32), .val (.int k3.toInt32), .val (.int z4), .val (.int z7), .val (.int z10), .val (.int u13), .val (.int k14.toInt32), .val (.ref a21), .unset, .unset, .unset, .unset, .unset, .unset, .unset, .unset, .unset, .unset, .unset, .unset, .unset, .unset] [(.ref a48)]))
  have F79 := (F56.keep K74)
  have F80 := (A46.keep K74)
  have Z81 : n0 ≤ h77.size := (Nat.le_trans Z61 K74.1)
  have ge_t262 : n0 ≤ t262 := F71.elim (fun q => q ▸ ge_t26) (fun q => Nat.le_trans Z61 q)
  have ne_a21_t262 : a21 ≠ t262 := F71.elim (fun q => q ▸ ne_a21_t26) (fun q => Nat.ne_of_lt (Nat.lt_of_lt_of_le F56.lt q))
  have ne_u27_t262 : u27 ≠ t262 := F71.elim (fun q => q ▸ (Ne.symm F34)) (fun q => Nat.ne_of_lt (Nat.lt_of_lt_of_le F60.lt q))
  have ne_a48_t262 : a48 ≠ t262 := F71.elim (fun q => q ▸ (Ne.symm ne_t26_a48)) (fun q => Nat.ne_of_lt (Nat.lt_of_lt_of_le A46.lt q))
  have ge_u263 : n0 ≤ u263 := F72.elim (fun q => q ▸ ge_u27) (fun q => Nat.le_trans Z61 q)
  have ne_a21_u263 : a21 ≠ u263 := F72.elim (fun q => q ▸ ne_a21_u27) (fun q => Nat.ne_of_lt (Nat.lt_of_lt_of_le F56.lt q))
  have ne_t26_u263 : t26 ≠ u263 := F72.elim (fun q => q ▸ F34) (fun q => Nat.ne_of_lt (Nat.lt_of_lt_of_le F59.lt q))
  have ne_a48_u263 : a48 ≠ u263 := F72.elim (fun q => q ▸ (Ne.symm ne_u27_a48)) (fun q => Nat.ne_of_lt (Nat.lt_of_lt_of_le A46.lt q))
  have b1 : own_len k1 0 ≤ 6 := own_len_6 (by omega) b0
  refine own_astore X76 (L' := #[.val (.int p1), .val (.int p2), .val (.int p3), .val (.int p4), .val (.int p5), .val (.int k1.toInt32), .val (.int k2.toInt32), .val (.int k3.toInt32), .val (.int z4), .val (.int z7), .val (.int z10), .val (.int u13), .val (.int k14.toInt32), .val (.ref a21), .val (.ref a48), .unset, .unset, .unset, .unset, .unset, .unset, .unset, .unset, .unset, .unset, .unset, .unset, .unset]) at_92 rfl rfl rfl ?_
  refine own_aload X76 at_94 rfl rfl rfl ?_
  refine own_iload X76 at_96 rfl rfl ?_
  refine own_putf X76 (hw _ (List.mem_of_getElem? (i := 92) rfl)) F66 F80 (Or.inl (hw _ (List.mem_of_getElem? (i := 93) rfl))) (hw _ (List.mem_of_getElem? (i := 15) rfl)) (ty := .boolean) (by decide) (own_b01 hz4).1 (own_b01 hz4).2 ge_a48 at_98 rfl (fun T82 h84 X83 W85 => ?_)
  have F86 := (F79.wr W85)
  have F87 := (F80.wr W85)
  have F88 := (F64.other W85 (Or.inr (slot_ne (Or.inr (hw _ (List.mem_of_getElem? (i := 62) rfl))) (Or.inl (hw _ (List.mem_of_getElem? (i := 93) rfl))) (by decide) (t := .int) (t' := .boolean) (by decide) (by decide))))
  have F89 := (F65.other W85 (Or.inr (slot_ne (Or.inr (hw _ (List.mem_of_getElem? (i := 64) rfl))) (Or.inl (hw _ (List.mem_of_getElem? (i := 93) rfl))) (by decide) (t := (.object "com/example/racewright/racewright/happensbefore/VectorClock")) (t' := .boolean) (by decide) (by decide))))
  have F90 := (F66.same W85)
  have F91 := (F67.other W85 (Or.inl ne_a21_a48))
  have F92 := (F68.other W85 (Or.inl ne_a21_a48))
  have F93 := (F69.other W85 (Ne.symm ne_a48_t262))
  have F94 := (F70.other W85 (Ne.symm ne_a48_u263))
  have Z95 : n0 ≤ h84.size := (Nat.le_trans Z81 (Nat.le_of_eq W85.size.symm))
  refine own_new X83 (hw _ (List.mem_of_getElem? (i := 14) rfl)) (hw _ (List.mem_of_getElem? (i := 15) rfl)) (hw _ (List.mem_of_getElem? (i := 16) rfl)) at_101 rfl (cells' := 9) (slots' := 43) rfl rfl (by decide) (by decide) (fun T96 h98 a102 g103 X97 E99 A100 D101 => ?_)
  have ge_a102 : n0 ≤ a102 := Nat.le_trans Z95 (Nat.le_of_eq g103.symm)
  have ne_a21_a102 : a21 ≠ a102 := Nat.ne_of_lt (g103 ▸ F86.lt)
  have ne_a48_a102 : a48 ≠ a102 := Nat.ne_of_lt (g103 ▸ F87.lt)
  have ne_t262_a102 : t262 ≠ a102 := Nat.ne_of_lt (g103 ▸ F93.lt)
  have ne_u263_a102 : u263 ≠ a102 := Nat.ne_of_lt (g103 ▸ F94.lt)
  have F104 := D101 (Or.inr (hw _ (List.mem_of_getElem? (i := 60) rfl))) (ty := (.object "java/util/Set")) (by decide)
  replace F104 : Fld Z h98 a102 "com/example/racewright/racewright/happensbefore/ThreadState" "usedClasses" "Ljava/util/Set;" (.null) := F104
  have F105 := D101 (Or.inr (hw _ (List.mem_of_getElem? (i := 62) rfl))) (ty := .int) (by decide)
  replace F105 : Fld Z h98 a102 "com/example/racewright/racewright/happensbefore/ThreadState" "id" "I" (.int (0 : Int32)) := F105
  have F106 := D101 (Or.inr (hw _ (List.mem_of_getElem? (i := 64) rfl))) (ty := (.object "com/example/racewright/racewright/happensbefore/VectorClock")) (by decide)
  replace F106 : Fld Z h98 a102 "com/example/racewright/racewright/happensbefore/ThreadState" "clock" "Lcom/example/racewright/racewright/happensbefore/VectorClock;" (.null) := F106
  have F107 := D101 (Or.inr (hw _ (List.mem_of_getElem? (i := 89) rfl))) (ty := (.object "java/util/List")) (by decide)
  replace F107 : Fld Z h98 a102 "com/example/racewright/racewright/happensbefore/ThreadState" "acquisitions" "Ljava/util/List;" (.null) := F107
  have F108 := D101 (Or.inr (hw _ (List.mem_of_getElem? (i := 91) rfl))) (ty := (.object "com/example/racewright/racewright/happensbefore/VectorClock")) (by decide)
  replace F108 : Fld Z h98 a102 "com/example/racewright/racewright/happensbefore/ThreadState" "started" "Lcom/example/racewright/racewright/happensbefore/VectorClock;" (.null) := F108
  have F109 := D101 (Or.inl (hw _ (List.mem_of_getElem? (i := 93) rfl))) (ty := .boolean) (by decide)
  replace F109 : Fld Z h98 a102 "com/example/racewright/racewright/happensbefore/ThreadState" "unscheduled" "Z" (.int (0 : Int32)) := F109
  have F110 := (F86.ext E99)
  have F111 := (F87.ext E99)
  have F112 := (F88.ext E99)
  have F113 := (F89.ext E99)
  have F114 := (F90.ext E99)
  have F115 := (F91.ext E99)
  have F116 := (F92.ext E99)
  have F117 := (F93.ext E99)
  have F118 := (F94.ext E99)
  have Z119 : n0 ≤ h98.size := (Nat.le_trans Z95 E99.1)
  refine own_dup X97 at_104 rfl rfl ?_
  refine own_iload X97 at_105 rfl rfl ?_
  refine own_aload X97 at_107 rfl rfl rfl ?_
  refine own_iconst X97 (0 : Int32) at_109 rfl (by decide) ?_
  refine own_callI X97 rfl (hw _ (List.mem_of_getElem? (i := 17) rfl)) (hw _ (List.mem_of_getElem? (i := 18) rfl)) (hw _ (List.mem_of_getElem? (i := 16) rfl)) (hw _ (List.mem_of_getElem? (i := 19) rfl)) (by decide) (a := a102) (argsL := [(.int k2.toInt32), (.ref a21), (.int (0 : Int32))]) (rest := [(.ref a102)]) (own_mts l Z a0 hw [] a102 k2 a21 t262 u263 (own_len k1 0) (own_len k1 0) _ _ Z119 A100 F104 F105 F106 F107 F108 F109 F110 F115 F116 F117 F118 ge_a102 ge_a21 ge_t262 ge_u263 (Ne.symm ne_a21_a102) (Ne.symm ne_t262_a102) (Ne.symm ne_u263_a102) ne_a21_t262 ne_a21_u263 F73 (by omega) (fun z => by omega) (by omega) (fun z => by omega) (by omega)) (pd_3) rfl at_110 rfl rfl rfl (W := 1) rfl (by decide) (by decide) (cells' := 13) (slots' := 68) rfl rfl (by decide) (by decide) (fun v T133 h135 X134 q136 => ?_)
  obtain ⟨t2120, u2121, rfl, K132, F122, F123, F124, F125, F126, F127, F128, F129, F130, F131⟩ := q136
  show own_Fin p e below (own_End s n0 (fun v _ => v = some (.int 1)) room_1.cells room_1.slots) (T133.setTop (mkF m 113 #[.val (.int p1), .val (.int p2), .val (.int p3), .val (.int p4), .val (.int p5), .val (.int k1.toInt32), .val (.int k2.toInt32), .val (.int k3.toInt32), .val (.int z4), .val (.int z7), .val (.int z10), .val (.int u13), .val (.int k14.toInt32), .val (.ref a21), .val (.ref a48), .unset, .unset, .unset, .unset, .unset, .unset, .unset, .unset, .unset, .unset, .unset, .unset, .unset] [(.ref a102)]))
  have F137 := (F110.keep K132)
  have F138 := (F111.keep K132)
  have F139 := (F112.keep K132 (ninS ne_a48_a102 (ninS (Ne.symm ne_a21_a48) (ninS ne_a48_t262 (ninS ne_a48_u263 nin0)))))
  have F140 := (F113.keep K132 (ninS ne_a48_a102 (ninS (Ne.symm ne_a21_a48) (ninS ne_a48_t262 (ninS ne_a48_u263 nin0)))))
  have F141 := (F114.keep K132 (ninS ne_a48_a102 (ninS (Ne.symm ne_a21_a48) (ninS ne_a48_t262 (ninS ne_a48_u263 nin0)))))
  have F142 := (A100.keep K132)
  have Z143 : n0 ≤ h135.size := (Nat.le_trans Z119 K132.1)
  have ge_t2120 : n0 ≤ t2120 := F129.elim (fun q => q ▸ ge_t262) (fun q => Nat.le_trans Z119 q)
  have ne_a21_t2120 : a21 ≠ t2120 := F129.elim (fun q => q ▸ ne_a21_t262) (fun q => Nat.ne_of_lt (Nat.lt_of_lt_of_le F110.lt q))
  have ne_a48_t2120 : a48 ≠ t2120 := F129.elim (fun q => q ▸ ne_a48_t262) (fun q => Nat.ne_of_lt (Nat.lt_of_lt_of_le F111.lt q))
  have ne_u263_t2120 : u263 ≠ t2120 := F129.elim (fun q => q ▸ (Ne.symm F73)) (fun q => Nat.ne_of_lt (Nat.lt_of_lt_of_le F118.lt q))
  have ne_a102_t2120 : a102 ≠ t2120 := F129.elim (fun q => q ▸ (Ne.symm ne_t262_a102)) (fun q => Nat.ne_of_lt (Nat.lt_of_lt_of_le A100.lt q))
  have ge_u2121 : n0 ≤ u2121 := F130.elim (fun q => q ▸ ge_u263) (fun q => Nat.le_trans Z119 q)
  have ne_a21_u2121 : a21 ≠ u2121 := F130.elim (fun q => q ▸ ne_a21_u263) (fun q => Nat.ne_of_lt (Nat.lt_of_lt_of_le F110.lt q))
  have ne_a48_u2121 : a48 ≠ u2121 := F130.elim (fun q => q ▸ ne_a48_u263) (fun q => Nat.ne_of_lt (Nat.lt_of_lt_of_le F111.lt q))
  have ne_t262_u2121 : t262 ≠ u2121 := F130.elim (fun q => q ▸ F73) (fun q => Nat.ne_of_lt (Nat.lt_of_lt_of_le F117.lt q))
  have ne_a102_u2121 : a102 ≠ u2121 := F130.elim (fun q => q ▸ (Ne.symm ne_u263_a102)) (fun q => Nat.ne_of_lt (Nat.lt_of_lt_of_le A100.lt q))
  have b2 : own_len k2 (own_len k1 0) ≤ 6 := own_len_6 (by omega) b1
  refine own_astore X134 (L' := #[.val (.int p1), .val (.int p2), .val (.int p3), .val (.int p4), .val (.int p5), .val (.int k1.toInt32), .val (.int k2.toInt32), .val (.int k3.toInt32), .val (.int z4), .val (.int z7), .val (.int z10), .val (.int u13), .val (.int k14.toInt32), .val (.ref a21), .val (.ref a48), .val (.ref a102), .unset, .unset, .unset, .unset, .unset, .unset, .unset, .unset, .unset, .unset, .unset, .unset]) at_113 rfl rfl rfl ?_
  refine own_aload X134 at_115 rfl rfl rfl ?_
  refine own_iload X134 at_117 rfl rfl ?_
  refine own_putf X134 (hw _ (List.mem_of_getElem? (i := 92) rfl)) F124 F142 (Or.inl (hw _ (List.mem_of_getElem? (i := 93) rfl))) (hw _ (List.mem_of_getElem? (i := 15) rfl)) (ty := .boolean) (by decide) (own_b01 hz7).1 (own_b01 hz7).2 ge_a102 at_119 rfl (fun T144 h146 X145 W147 => ?_)
  have F148 := (F137.wr W147)
  have F149 := (F138.wr W147)
  have F150 := (F139.other W147 (Or.inl ne_a48_a102))
  have F151 := (F140.other W147 (Or.inl ne_a48_a102))
  have F152 := (F141.other W147 (Or.inl ne_a48_a102))
  have F153 := (F142.wr W147)
  have F154 := (F122.other W147 (Or.inr (slot_ne (Or.inr (hw _ (List.mem_of_getElem? (i := 62) rfl))) (Or.inl (hw _ (List.mem_of_getElem? (i := 93) rfl))) (by decide) (t := .int) (t' := .boolean) (by decide) (by decide))))
  have F155 := (F123.other W147 (Or.inr (slot_ne (Or.inr (hw _ (List.mem_of_getElem? (i := 64) rfl))) (Or.inl (hw _ (List.mem_of_getElem? (i := 93) rfl))) (by decide) (t := (.object "com/example/racewright/racewright/happensbefore/VectorClock")) (t' := .boolean) (by decide) (by decide))))
  have F156 := (F124.same W147)
  have F157 := (F125.other W147 (Or.inl ne_a21_a102))
  have F158 := (F126.other W147 (Or.inl ne_a21_a102))
  have F159 := (F127.other W147 (Ne.symm ne_a102_t2120))
  have F160 := (F128.other W147 (Ne.symm ne_a102_u2121))
  have Z161 : n0 ≤ h146.size := (Nat.le_trans Z143 (Nat.le_of_eq W147.size.symm))
  refine own_new X145 (hw _ (List.mem_of_getElem? (i := 14) rfl)) (hw _ (List.mem_of_getElem? (i := 15) rfl)) (hw _ (List.mem_of_getElem? (i := 16) rfl)) at_122 rfl (cells' := 14) (slots' := 76) rfl rfl (by decide) (by decide) (fun T162 h164 a168 g169 X163 E165 A166 D167 => ?_)
  have ge_a168 : n0 ≤ a168 := Nat.le_trans Z161 (Nat.le_of_eq g169.symm)
  have ne_a21_a168 : a21 ≠ a168 := Nat.ne_of_lt (g169 ▸ F148.lt)
  have ne_a48_a168 : a48 ≠ a168 := Nat.ne_of_lt (g169 ▸ F149.lt)
  have ne_a102_a168 : a102 ≠ a168 := Nat.ne_of_lt (g169 ▸ F153.lt)
  have ne_t2120_a168 : t2120 ≠ a168 := Nat.ne_of_lt (g169 ▸ F159.lt)
  have ne_u2121_a168 : u2121 ≠ a168 := Nat.ne_of_lt (g169 ▸ F160.lt)
  have F170 := D167 (Or.inr (hw _ (List.mem_of_getElem? (i := 60) rfl))) (ty := (.object "java/util/Set")) (by decide)
  replace F170 : Fld Z h164 a168 "com/example/racewright/racewright/happensbefore/ThreadState" "usedClasses" "Ljava/util/Set;" (.null) := F170
  have F171 := D167 (Or.inr (hw _ (List.mem_of_getElem? (i := 62) rfl))) (ty := .int) (by decide)
  replace F171 : Fld Z h164 a168 "com/example/racewright/racewright/happensbefore/ThreadState" "id" "I" (.int (0 : Int32)) := F171
  have F172 := D167 (Or.inr (hw _ (List.mem_of_getElem? (i := 64) rfl))) (ty := (.object "com/example/racewright/racewright/happensbefore/VectorClock")) (by decide)
  replace F172 : Fld Z h164 a168 "com/example/racewright/racewright/happensbefore/ThreadState" "clock" "Lcom/example/racewright/racewright/happensbefore/VectorClock;" (.null) := F172
  have F173 := D167 (Or.inr (hw _ (List.mem_of_getElem? (i := 89) rfl))) (ty := (.object "java/util/List")) (by decide)
  replace F173 : Fld Z h164 a168 "com/example/racewright/racewright/happensbefore/ThreadState" "acquisitions" "Ljava/util/List;" (.null) := F173
  have F174 := D167 (Or.inr (hw _ (List.mem_of_getElem? (i := 91) rfl))) (ty := (.object "com/example/racewright/racewright/happensbefore/VectorClock")) (by decide)
  replace F174 : Fld Z h164 a168 "com/example/racewright/racewright/happensbefore/ThreadState" "started" "Lcom/example/racewright/racewright/happensbefore/VectorClock;" (.null) := F174
  have F175 := D167 (Or.inl (hw _ (List.mem_of_getElem? (i := 93) rfl))) (ty := .boolean) (by decide)
  replace F175 : Fld Z h164 a168 "com/example/racewright/racewright/happensbefore/ThreadState" "unscheduled" "Z" (.int (0 : Int32)) := F175
  have F176 := (F148.ext E165)
  have F177 := (F149.ext E165)
  have F178 := (F150.ext E165)
  have F179 := (F151.ext E165)
  have F180 := (F152.ext E165)
  have F181 := (F153.ext E165)
  have F182 := (F154.ext E165)
  have F183 := (F155.ext E165)
  have F184 := (F156.ext E165)
  have F185 := (F157.ext E165)
  have F186 := (F158.ext E165)
  have F187 := (F159.ext E165)
  have F188 := (F160.ext E165)
  have Z189 : n0 ≤ h164.size := (Nat.le_trans Z161 E165.1)
  refine own_dup X163 at_125 rfl rfl ?_
  refine own_iload X163 at_126 rfl rfl ?_
  refine own_aload X163 at_128 rfl rfl rfl ?_
  refine own_iconst X163 (0 : Int32) at_130 rfl (by decide) ?_
  refine own_callI X163 rfl (hw _ (List.mem_of_getElem? (i := 17) rfl)) (hw _ (List.mem_of_getElem? (i := 18) rfl)) (hw _ (List.mem_of_getElem? (i := 16) rfl)) (hw _ (List.mem_of_getElem? (i := 19) rfl)) (by decide) (a := a168) (argsL := [(.int k3.toInt32), (.ref a21), (.int (0 : Int32))]) (rest := [(.ref a168)]) (own_mts l Z a0 hw [] a168 k3 a21 t2120 u2121 (own_len k2 (own_len k1 0)) (own_len k2 (own_len k1 0)) _ _ Z189 A166 F170 F171 F172 F173 F174 F175 F176 F185 F186 F187 F188 ge_a168 ge_a21 ge_t2120 ge_u2121 (Ne.symm ne_a21_a168) (Ne.symm ne_t2120_a168) (Ne.symm ne_u2121_a168) ne_a21_t2120 ne_a21_u2121 F131 (by omega) (fun z => by omega) (by omega) (fun z => by omega) (by omega)) (pd_3) rfl at_131 rfl rfl rfl (W := 1) rfl (by decide) (by decide) (cells' := 18) (slots' := 101) rfl rfl (by decide) (by decide) (fun v T203 h205 X204 q206 => ?_)
  obtain ⟨t2190, u2191, rfl, K202, F192, F193, F194, F195, F196, F197, F198, F199, F200, F201⟩ := q206
  show own_Fin p e below (own_End s n0 (fun v _ => v = some (.int 1)) room_1.cells room_1.slots) (T203.setTop (mkF m 134 #[.val (.int p1), .val (.int p2), .val (.int p3), .val (.int p4), .val (.int p5), .val (.int k1.toInt32), .val (.int k2.toInt32), .val (.int k3.toInt32), .val (.int z4), .val (.int z7), .val (.int z10), .val (.int u13), .val (.int k14.toInt32), .val (.ref a21), .val (.ref a48), .val (.ref a102), .unset, .unset, .unset, .unset, .unset, .unset, .unset, .unset, .unset, .unset, .unset, .unset] [(.ref a168)]))
  have F207 := (F176.keep K202)
  have F208 := (F177.keep K202)
  have F209 := (F178.keep K202 (ninS ne_a48_a168 (ninS (Ne.symm ne_a21_a48) (ninS ne_a48_t2120 (ninS ne_a48_u2121 nin0)))))
  have F210 := (F179.keep K202 (ninS ne_a48_a168 (ninS (Ne.symm ne_a21_a48) (ninS ne_a48_t2120 (ninS ne_a48_u2121 nin0)))))
  have F211 := (F180.keep K202 (ninS ne_a48_a168 (ninS (Ne.symm ne_a21_a48) (ninS ne_a48_t2120 (ninS ne_a48_u2121 nin0)))))
  have F212 := (F181.keep K202)
  have F213 := (F182.keep K202 (ninS ne_a102_a168 (ninS (Ne.symm ne_a21_a102) (ninS ne_a102_t2120 (ninS ne_a102_u2121 nin0)))))
  have F214 := (F183.keep K202 (ninS ne_a102_a168 (ninS (Ne.symm ne_a21_a102) (ninS ne_a102_t2120 (ninS ne_a102_u2121 nin0)))))
  have F215 := (F184.keep K202 (ninS ne_a102_a168 (ninS (Ne.symm ne_a21_a102) (ninS ne_a102_t2120 (ninS ne_a102_u2121 nin0)))))
  have F216 := (A166.keep K202)
  have Z217 : n0 ≤ h205.size := (Nat.le_trans Z189 K202.1)
  have ge_t2190 : n0 ≤ t2190 := F199.elim (fun q => q ▸ ge_t2120) (fun q => Nat.le_trans Z189 q)
  have ne_a21_t2190 : a21 ≠ t2190 := F199.elim (fun q => q ▸ ne_a21_t2120) (fun q => Nat.ne_of_lt (Nat.lt_of_lt_of_le F176.lt q))
  have ne_a48_t2190 : a48 ≠ t2190 := F199.elim (fun q => q ▸ ne_a48_t2120) (fun q => Nat.ne_of_lt (Nat.lt_of_lt_of_le F177.lt q))
  have ne_a102_t2190 : a102 ≠ t2190 := F199.elim (fun q => q ▸ ne_a102_t2120) (fun q => Nat.ne_of_lt (Nat.lt_of_lt_of_le F181.lt q))
  have ne_u2121_t2190 : u2121 ≠ t2190 := F199.elim (fun q => q ▸ (Ne.symm F131)) (fun q => Nat.ne_of_lt (Nat.lt_of_lt_of_le F188.lt q))
  have ne_a168_t2190 : a168 ≠ t2190 := F199.elim (fun q => q ▸ (Ne.symm ne_t2120_a168)) (fun q => Nat.ne_of_lt (Nat.lt_of_lt_of_le A166.lt q))
  have ge_u2191 : n0 ≤ u2191 := F200.elim (fun q => q ▸ ge_u2121) (fun q => Nat.le_trans Z189 q)
  have ne_a21_u2191 : a21 ≠ u2191 := F200.elim (fun q => q ▸ ne_a21_u2121) (fun q => Nat.ne_of_lt (Nat.lt_of_lt_of_le F176.lt q))
  have ne_a48_u2191 : a48 ≠ u2191 := F200.elim (fun q => q ▸ ne_a48_u2121) (fun q => Nat.ne_of_lt (Nat.lt_of_lt_of_le F177.lt q))
  have ne_a102_u2191 : a102 ≠ u2191 := F200.elim (fun q => q ▸ ne_a102_u2121) (fun q => Nat.ne_of_lt (Nat.lt_of_lt_of_le F181.lt q))
  have ne_t2120_u2191 : t2120 ≠ u2191 := F200.elim (fun q => q ▸ F131) (fun q => Nat.ne_of_lt (Nat.lt_of_lt_of_le F187.lt q))
  have ne_a168_u2191 : a168 ≠ u2191 := F200.elim (fun q => q ▸ (Ne.symm ne_u2121_a168)) (fun q => Nat.ne_of_lt (Nat.lt_of_lt_of_le A166.lt q))
  have b3 : own_len k3 (own_len k2 (own_len k1 0)) ≤ 6 := own_len_6 (by omega) b2
  refine own_astore X204 (L' := #[.val (.int p1), .val (.int p2), .val (.int p3), .val (.int p4), .val (.int p5), .val (.int k1.toInt32), .val (.int k2.toInt32), .val (.int k3.toInt32), .val (.int z4), .val (.int z7), .val (.int z10), .val (.int u13), .val (.int k14.toInt32), .val (.ref a21), .val (.ref a48), .val (.ref a102), .val (.ref a168), .unset, .unset, .unset, .unset, .unset, .unset, .unset, .unset, .unset, .unset, .unset]) at_134 rfl rfl rfl ?_
  refine own_aload X204 at_136 rfl rfl rfl ?_
  refine own_iload X204 at_138 rfl rfl ?_
  refine own_putf X204 (hw _ (List.mem_of_getElem? (i := 92) rfl)) F194 F216 (Or.inl (hw _ (List.mem_of_getElem? (i := 93) rfl))) (hw _ (List.mem_of_getElem? (i := 15) rfl)) (ty := .boolean) (by decide) (own_b01 hz10).1 (own_b01 hz10).2 ge_a168 at_140 rfl (fun T218 h220 X219 W221 => ?_)
  have F222 := (F207.wr W221)
  have F223 := (F208.wr W221)
  have F224 := (F209.other W221 (Or.inl ne_a48_a168))
  have F225 := (F210.other W221 (Or.inl ne_a48_a168))
  have F226 := (F211.other W221 (Or.inl ne_a48_a168))
  have F227 := (F212.wr W221)
  have F228 := (F213.other W221 (Or.inl ne_a102_a168))
  have F229 := (F214.other W221 (Or.inl ne_a102_a168))
  have F230 := (F215.other W221 (Or.inl ne_a102_a168))
  have F231 := (F216.wr W221)
  have F232 := (F192.other W221 (Or.inr (slot_ne (Or.inr (hw _ (List.mem_of_getElem? (i := 62) rfl))) (Or.inl (hw _ (List.mem_of_getElem? (i := 93) rfl))) (by decide) (t := .int) (t' := .boolean) (by decide) (by decide))))
  have F233 := (F193.other W221 (Or.inr (slot_ne (Or.inr (hw _ (List.mem_of_getElem? (i := 64) rfl))) (Or.inl (hw _ (List.mem_of_getElem? (i := 93) rfl))) (by decide) (t := (.object "com/example/racewright/racewright/happensbefore/VectorClock")) (t' := .boolean) (by decide) (by decide))))
  have F234 := (F194.same W221)
  have F235 := (F195.other W221 (Or.inl ne_a21_a168))
  have F236 := (F196.other W221 (Or.inl ne_a21_a168))
  have F237 := (F197.other W221 (Ne.symm ne_a168_t2190))
  have F238 := (F198.other W221 (Ne.symm ne_a168_u2191))
  have Z239 : n0 ≤ h220.size := (Nat.le_trans Z217 (Nat.le_of_eq W221.size.symm))
  refine own_new X219 (hw _ (List.mem_of_getElem? (i := 94) rfl)) (hw _ (List.mem_of_getElem? (i := 95) rfl)) (hw _ (List.mem_of_getElem? (i := 96) rfl)) at_143 rfl (cells' := 19) (slots' := 108) rfl rfl (by decide) (by decide) (fun T240 h242 a246 g247 X241 E243 A244 D245 => ?_)
  have ge_a246 : n0 ≤ a246 := Nat.le_trans Z239 (Nat.le_of_eq g247.symm)
  have ne_a21_a246 : a21 ≠ a246 := Nat.ne_of_lt (g247 ▸ F222.lt)
  have ne_a48_a246 : a48 ≠ a246 := Nat.ne_of_lt (g247 ▸ F223.lt)
  have ne_a102_a246 : a102 ≠ a246 := Nat.ne_of_lt (g247 ▸ F227.lt)
  have ne_a168_a246 : a168 ≠ a246 := Nat.ne_of_lt (g247 ▸ F231.lt)
  have ne_t2190_a246 : t2190 ≠ a246 := Nat.ne_of_lt (g247 ▸ F237.lt)
  have ne_u2191_a246 : u2191 ≠ a246 := Nat.ne_of_lt (g247 ▸ F238.lt)
  have F248 := D245 (Or.inl (hw _ (List.mem_of_getElem? (i := 102) rfl))) (ty := .int) (by decide)
  replace F248 : Fld Z h242 a246 "com/example/racewright/racewright/happensbefore/Location" "unscheduledReader" "I" (.int (0 : Int32)) := F248
  have F249 := D245 (Or.inl (hw _ (List.mem_of_getElem? (i := 109) rfl))) (ty := .boolean) (by decide)
  replace F249 : Fld Z h242 a246 "com/example/racewright/racewright/happensbefore/Location" "readScheduled" "Z" (.int (0 : Int32)) := F249
  have F250 := (F222.ext E243)
  have F251 := (F223.ext E243)
  have F252 := (F224.ext E243)
  have F253 := (F225.ext E243)
  have F254 := (F226.ext E243)
  have F255 := (F227.ext E243)
  have F256 := (F228.ext E243)
  have F257 := (F229.ext E243)
  have F258 := (F230.ext E243)
  have F259 := (F231.ext E243)
  have F260 := (F232.ext E243)
  have F261 := (F233.ext E243)
  have F262 := (F234.ext E243)
  have F263 := (F235.ext E243)
  have F264 := (F236.ext E243)
  have F265 := (F237.ext E243)
  have F266 := (F238.ext E243)
  have Z267 : n0 ≤ h242.size := (Nat.le_trans Z239 E243.1)
  refine own_dup X241 at_146 rfl rfl ?_
  refine own_callI X241 rfl (hw _ (List.mem_of_getElem? (i := 97) rfl)) (hw _ (List.mem_of_getElem? (i := 98) rfl)) (hw _ (List.mem_of_getElem? (i := 96) rfl)) (hw _ (List.mem_of_getElem? (i := 99) rfl)) (by decide) (a := a246) (argsL := []) (rest := [(.ref a246)]) (own_mli l Z a0 hw [] a246 _ _ Z267 A244 F248 F249 ge_a246) (pd_14) rfl at_147 rfl rfl rfl (W := 1) rfl (by decide) (by decide) (cells' := 19) (slots' := 108) rfl rfl (by decide) (by decide) (fun v T271 h273 X272 q274 => ?_)
  obtain ⟨rfl, K270, F268, F269⟩ := q274
  show own_Fin p e below (own_End s n0 (fun v _ => v = some (.int 1)) room_1.cells room_1.slots) (T271.setTop (mkF m 150 #[.val (.int p1), .val (.int p2), .val (.int p3), .val (.int p4), .val (.int p5), .val (.int k1.toInt32), .val (.int k2.toInt32), .val (.int k3.toInt32), .val (.int z4), .val (.int z7), .val (.int z10), .val (.int u13), .val (.int k14.toInt32), .val (.ref a21), .val (.ref a48), .val (.ref a102), .val (.ref a168), .unset, .unset, .unset, .unset, .unset, .unset, .unset, .unset, .unset, .unset, .unset] [(.ref a246)]))
  have F275 := (F250.keep K270)
  have F276 := (F251.keep K270)
  have F277 := (F252.keep K270 (ninS ne_a48_a246 nin0))
  have F278 := (F253.keep K270 (ninS ne_a48_a246 nin0))
  have F279 := (F254.keep K270 (ninS ne_a48_a246 nin0))
  have F280 := (F255.keep K270)
  have F281 := (F256.keep K270 (ninS ne_a102_a246 nin0))
  have F282 := (F257.keep K270 (ninS ne_a102_a246 nin0))
  have F283 := (F258.keep K270 (ninS ne_a102_a246 nin0))
  have F284 := (F259.keep K270)
  have F285 := (F260.keep K270 (ninS ne_a168_a246 nin0))
  have F286 := (F261.keep K270 (ninS ne_a168_a246 nin0))
  have F287 := (F262.keep K270 (ninS ne_a168_a246 nin0))
  have F288 := (F263.keep K270 (ninS ne_a21_a246 nin0))
  have F289 := (F264.keep K270 (ninS ne_a21_a246 nin0))
  have F290 := (F265.keep K270 (ninS ne_t2190_a246 nin0))
  have F291 := (F266.keep K270 (ninS ne_u2191_a246 nin0))
  have F292 := (A244.keep K270)
  have Z293 : n0 ≤ h273.size := (Nat.le_trans Z267 K270.1)
  refine own_astore X272 (L' := #[.val (.int p1), .val (.int p2), .val (.int p3), .val (.int p4), .val (.int p5), .val (.int k1.toInt32), .val (.int k2.toInt32), .val (.int k3.toInt32), .val (.int z4), .val (.int z7), .val (.int z10), .val (.int u13), .val (.int k14.toInt32), .val (.ref a21), .val (.ref a48), .val (.ref a102), .val (.ref a168), .val (.ref a246), .unset, .unset, .unset, .unset, .unset, .unset, .unset, .unset, .unset, .unset]) at_150 rfl rfl rfl ?_
  refine own_iload X272 at_152 rfl rfl ?_
  refine own_iconst X272 (1 : Int32) at_154 rfl (by decide) ?_
  suffices H165_294 : ∀ (T321 : State) (h323 : Heap) (z325 : Int32) (z326 : Int32), own_Cx Z p l e room_1 s m #[(.int p1), (.int p2), (.int p3), (.int p4), (.int p5)] below meth c n0 "com/example/racewright/racewright/happensbefore/LocationReadPinLaw" code maxLocals "law" ret T321 h323 19 108 → z325 = (if u13 < (1 : Int32) then (0 : Int32) else (own_rs z4 (0 : Int32))) → z326 = (if u13 < (1 : Int32) then ((-1) : Int32) else (own_ur z4 ((-1) : Int32) k1.toInt32)) → Keep h273 h323 [a246] → Fld Z h323 a246 "com/example/racewright/racewright/happensbefore/Location" "readScheduled" "Z" (.int z325) → Fld Z h323 a246 "com/example/racewright/racewright/happensbefore/Location" "unscheduledReader" "I" (.int z326) → own_Fin p e below (own_End s n0 (fun v _ => v = some (.int 1)) room_1.cells room_1.slots) (T321.setTop (mkF m 165 #[.val (.int p1), .val (.int p2), .val (.int p3), .val (.int p4), .val (.int p5), .val (.int k1.toInt32), .val (.int k2.toInt32), .val (.int k3.toInt32), .val (.int z4), .val (.int z7), .val (.int z10), .val (.int u13), .val (.int k14.toInt32), .val (.ref a21), .val (.ref a48), .val (.ref a102), .val (.ref a168), .val (.ref a246), .unset, .unset, .unset, .unset, .unset, .unset, .unset, .unset, .unset, .unset] [])) by
    refine own_icmp_lt X272 at_155 (by decide) (pcT := 165) (by decide) rfl (fun hc329 => ?_) (fun hc329 => ?_)
    · skip
      exact H165_294 _ _ _ _ (own_more X272 (by decide) (by decide)) (by rw [if_pos hc329]) (by rw [if_pos hc329]) (Keep.refl _ _) F268 F269
    · skip
      have K330 := (Keep.refl h273 [a246])
      refine own_aload X272 at_158 rfl rfl rfl ?_
      refine own_aload X272 at_160 rfl rfl rfl ?_
      refine own_callV X272 (hw _ (List.mem_of_getElem? (i := 110) rfl)) (hw _ (List.mem_of_getElem? (i := 111) rfl)) (hw _ (List.mem_of_getElem? (i := 113) rfl)) (hw _ (List.mem_of_getElem? (i := 112) rfl)) (hw _ (List.mem_of_getElem? (i := 96) rfl)) (hw _ (List.mem_of_getElem? (i := 114) rfl)) (by decide) (a := a246) (argsL := [(.ref a48)]) (rest := []) (own_mrd l Z a0 hw [] a246 a48 z4 k1.toInt32 (0 : Int32) ((-1) : Int32) _ _ Z293 F292 F268 F269 F279 F277 ge_a246 ne_a48_a246) F292 (pd_16) rfl at_162 rfl rfl rfl (W := 0) rfl (by decide) (by decide) (cells' := 19) (slots' := 108) rfl rfl (by decide) (by decide) (fun v T334 h336 X335 q337 => ?_)
      obtain ⟨rfl, K333, F331, F332⟩ := q337
      show own_Fin p e below (own_End s n0 (fun v _ => v = some (.int 1)) room_1.cells room_1.slots) (T334.setTop (mkF m 165 #[.val (.int p1), .val (.int p2), .val (.int p3), .val (.int p4), .val (.int p5), .val (.int k1.toInt32), .val (.int k2.toInt32), .val (.int k3.toInt32), .val (.int z4), .val (.int z7), .val (.int z10), .val (.int u13), .val (.int k14.toInt32), .val (.ref a21), .val (.ref a48), .val (.ref a102), .val (.ref a168), .val (.ref a246), .unset, .unset, .unset, .unset, .unset, .unset, .unset, .unset, .unset, .unset] []))
      have F338 := (F275.keep K333)
      have F339 := (F276.keep K333)
      have F340 := (F277.keep K333 (ninS ne_a48_a246 nin0))
      have F341 := (F278.keep K333 (ninS ne_a48_a246 nin0))
      have F342 := (F279.keep K333 (ninS ne_a48_a246 nin0))
      have F343 := (F280.keep K333)
      have F344 := (F281.keep K333 (ninS ne_a102_a246 nin0))
      have F345 := (F282.keep K333 (ninS ne_a102_a246 nin0))
      have F346 := (F283.keep K333 (ninS ne_a102_a246 nin0))
      have F347 := (F284.keep K333)
      have F348 := (F285.keep K333 (ninS ne_a168_a246 nin0))
      have F349 := (F286.keep K333 (ninS ne_a168_a246 nin0))
      have F350 := (F287.keep K333 (ninS ne_a168_a246 nin0))
      have F351 := (F288.keep K333 (ninS ne_a21_a246 nin0))
      have F352 := (F289.keep K333 (ninS ne_a21_a246 nin0))
      have F353 := (F290.keep K333 (ninS ne_t2190_a246 nin0))
      have F354 := (F291.keep K333 (ninS ne_u2191_a246 nin0))
      have F355 := (F292.keep K333)
      have Z356 : n0 ≤ h336.size := (Nat.le_trans Z293 K333.1)
      have K357 := (K330.trans K333 (allS (P := fun x => x ∈ _ ∨ _ ≤ x) (Or.inl (List.mem_of_getElem? (i := 0) rfl)) all0))
      exact H165_294 _ _ _ _ (own_more X335 (by decide) (by decide)) (by rw [if_neg hc329]) (by rw [if_neg hc329]) K357 F331 F332
  intro T321 h323 z325 z326 X322 hz325 hz326 K324 F327 F328
  have F358 := (F275.keep K324)
  have F359 := (F276.keep K324)
  have F360 := (F277.keep K324 (ninS ne_a48_a246 nin0))
  have F361 := (F278.keep K324 (ninS ne_a48_a246 nin0))
  have F362 := (F279.keep K324 (ninS ne_a48_a246 nin0))
  have F363 := (F280.keep K324)
  have F364 := (F281.keep K324 (ninS ne_a102_a246 nin0))
  have F365 := (F282.keep K324 (ninS ne_a102_a246 nin0))
  have F366 := (F283.keep K324 (ninS ne_a102_a246 nin0))
  have F367 := (F284.keep K324)
  have F368 := (F285.keep K324 (ninS ne_a168_a246 nin0))
  have F369 := (F286.keep K324 (ninS ne_a168_a246 nin0))
  have F370 := (F287.keep K324 (ninS ne_a168_a246 nin0))
  have F371 := (F288.keep K324 (ninS ne_a21_a246 nin0))
  have F372 := (F289.keep K324 (ninS ne_a21_a246 nin0))
  have F373 := (F290.keep K324 (ninS ne_t2190_a246 nin0))
  have F374 := (F291.keep K324 (ninS ne_u2191_a246 nin0))
  have F375 := (F292.keep K324)
  have Z376 : n0 ≤ h323.size := (Nat.le_trans Z293 K324.1)
  refine own_iload X322 at_165 rfl rfl ?_
  refine own_iconst X322 (2 : Int32) at_167 rfl (by decide) ?_
  suffices H178_377 : ∀ (T404 : State) (h406 : Heap) (z408 : Int32) (z409 : Int32), own_Cx Z p l e room_1 s m #[(.int p1), (.int p2), (.int p3), (.int p4), (.int p5)] below meth c n0 "com/example/racewright/racewright/happensbefore/LocationReadPinLaw" code maxLocals "law" ret T404 h406 19 108 → z408 = (if u13 < (2 : Int32) then z325 else (own_rs z7 z325)) → z409 = (if u13 < (2 : Int32) then z326 else (own_ur z7 z326 k2.toInt32)) → Keep h323 h406 [a246] → Fld Z h406 a246 "com/example/racewright/racewright/happensbefore/Location" "readScheduled" "Z" (.int z408) → Fld Z h406 a246 "com/example/racewright/racewright/happensbefore/Location" "unscheduledReader" "I" (.int z409) → own_Fin p e below (own_End s n0 (fun v _ => v = some (.int 1)) room_1.cells room_1.slots) (T404.setTop (mkF m 178 #[.val (.int p1), .val (.int p2), .val (.int p3), .val (.int p4), .val (.int p5), .val (.int k1.toInt32), .val (.int k2.toInt32), .val (.int k3.toInt32), .val (.int z4), .val (.int z7), .val (.int z10), .val (.int u13), .val (.int k14.toInt32), .val (.ref a21), .val (.ref a48), .val (.ref a102), .val (.ref a168), .val (.ref a246), .unset, .unset, .unset, .unset, .unset, .unset, .unset, .unset, .unset, .unset] [])) by
    refine own_icmp_lt X322 at_168 (by decide) (pcT := 178) (by decide) rfl (fun hc412 => ?_) (fun hc412 => ?_)
    · skip
      exact H178_377 _ _ _ _ (own_more X322 (by decide) (by decide)) (by rw [if_pos hc412]) (by rw [if_pos hc412]) (Keep.refl _ _) F327 F328
    · skip
      have K413 := (Keep.refl h323 [a246])
      refine own_aload X322 at_171 rfl rfl rfl ?_
      refine own_aload X322 at_173 rfl rfl rfl ?_
      refine own_callV X322 (hw _ (List.mem_of_getElem? (i := 110) rfl)) (hw _ (List.mem_of_getElem? (i := 111) rfl)) (hw _ (List.mem_of_getElem? (i := 113) rfl)) (hw _ (List.mem_of_getElem? (i := 112) rfl)) (hw _ (List.mem_of_getElem? (i := 96) rfl)) (hw _ (List.mem_of_getElem? (i := 114) rfl)) (by decide) (a := a246) (argsL := [(.ref a102)]) (rest := []) (own_mrd l Z a0 hw [] a246 a102 z7 k2.toInt32 z325 z326 _ _ Z376 F375 F327 F328 F366 F364 ge_a246 ne_a102_a246) F375 (pd_16) rfl at_175 rfl rfl rfl (W := 0) rfl (by decide) (by decide) (cells' := 19) (slots' := 108) rfl rfl (by decide) (by decide) (fun v T417 h419 X418 q420 => ?_)
      obtain ⟨rfl, K416, F414, F415⟩ := q420
      show own_Fin p e below (own_End s n0 (fun v _ => v = some (.int 1)) room_1.cells room_1.slots) (T417.setTop (mkF m 178 #[.val (.int p1), .val (.int p2), .val (.int p3), .val (.int p4), .val (.int p5), .val (.int k1.toInt32), .val (.int k2.toInt32), .val (.int k3.toInt32), .val (.int z4), .val (.int z7), .val (.int z10), .val (.int u13), .val (.int k14.toInt32), .val (.ref a21), .val (.ref a48), .val (.ref a102), .val (.ref a168), .val (.ref a246), .unset, .unset, .unset, .unset, .unset, .unset, .unset, .unset, .unset, .unset] []))
      have F421 := (F358.keep K416)
      have F422 := (F359.keep K416)
      have F423 := (F360.keep K416 (ninS ne_a48_a246 nin0))
      have F424 := (F361.keep K416 (ninS ne_a48_a246 nin0))
      have F425 := (F362.keep K416 (ninS ne_a48_a246 nin0))
      have F426 := (F363.keep K416)
      have F427 := (F364.keep K416 (ninS ne_a102_a246 nin0))
      have F428 := (F365.keep K416 (ninS ne_a102_a246 nin0))
      have F429 := (F366.keep K416 (ninS ne_a102_a246 nin0))
      have F430 := (F367.keep K416)
      have F431 := (F368.keep K416 (ninS ne_a168_a246 nin0))
      have F432 := (F369.keep K416 (ninS ne_a168_a246 nin0))
      have F433 := (F370.keep K416 (ninS ne_a168_a246 nin0))
      have F434 := (F371.keep K416 (ninS ne_a21_a246 nin0))
      have F435 := (F372.keep K416 (ninS ne_a21_a246 nin0))
      have F436 := (F373.keep K416 (ninS ne_t2190_a246 nin0))
      have F437 := (F374.keep K416 (ninS ne_u2191_a246 nin0))
      have F438 := (F375.keep K416)
      have Z439 : n0 ≤ h419.size := (Nat.le_trans Z376 K416.1)
      have K440 := (K413.trans K416 (allS (P := fun x => x ∈ _ ∨ _ ≤ x) (Or.inl (List.mem_of_getElem? (i := 0) rfl)) all0))
      exact H178_377 _ _ _ _ (own_more X418 (by decide) (by decide)) (by rw [if_neg hc412]) (by rw [if_neg hc412]) K440 F414 F415
  intro T404 h406 z408 z409 X405 hz408 hz409 K407 F410 F411
  have F441 := (F358.keep K407)
  have F442 := (F359.keep K407)
  have F443 := (F360.keep K407 (ninS ne_a48_a246 nin0))
  have F444 := (F361.keep K407 (ninS ne_a48_a246 nin0))
  have F445 := (F362.keep K407 (ninS ne_a48_a246 nin0))
  have F446 := (F363.keep K407)
  have F447 := (F364.keep K407 (ninS ne_a102_a246 nin0))
  have F448 := (F365.keep K407 (ninS ne_a102_a246 nin0))
  have F449 := (F366.keep K407 (ninS ne_a102_a246 nin0))
  have F450 := (F367.keep K407)
  have F451 := (F368.keep K407 (ninS ne_a168_a246 nin0))
  have F452 := (F369.keep K407 (ninS ne_a168_a246 nin0))
  have F453 := (F370.keep K407 (ninS ne_a168_a246 nin0))
  have F454 := (F371.keep K407 (ninS ne_a21_a246 nin0))
  have F455 := (F372.keep K407 (ninS ne_a21_a246 nin0))
  have F456 := (F373.keep K407 (ninS ne_t2190_a246 nin0))
  have F457 := (F374.keep K407 (ninS ne_u2191_a246 nin0))
  have F458 := (F375.keep K407)
  have Z459 : n0 ≤ h406.size := (Nat.le_trans Z376 K407.1)
  refine own_iload X405 at_178 rfl rfl ?_
  refine own_iconst X405 (3 : Int32) at_180 rfl (by decide) ?_
  suffices H191_460 : ∀ (T487 : State) (h489 : Heap) (z491 : Int32) (z492 : Int32), own_Cx Z p l e room_1 s m #[(.int p1), (.int p2), (.int p3), (.int p4), (.int p5)] below meth c n0 "com/example/racewright/racewright/happensbefore/LocationReadPinLaw" code maxLocals "law" ret T487 h489 19 108 → z491 = (if u13 < (3 : Int32) then z408 else (own_rs z10 z408)) → z492 = (if u13 < (3 : Int32) then z409 else (own_ur z10 z409 k3.toInt32)) → Keep h406 h489 [a246] → Fld Z h489 a246 "com/example/racewright/racewright/happensbefore/Location" "readScheduled" "Z" (.int z491) → Fld Z h489 a246 "com/example/racewright/racewright/happensbefore/Location" "unscheduledReader" "I" (.int z492) → own_Fin p e below (own_End s n0 (fun v _ => v = some (.int 1)) room_1.cells room_1.slots) (T487.setTop (mkF m 191 #[.val (.int p1), .val (.int p2), .val (.int p3), .val (.int p4), .val (.int p5), .val (.int k1.toInt32), .val (.int k2.toInt32), .val (.int k3.toInt32), .val (.int z4), .val (.int z7), .val (.int z10), .val (.int u13), .val (.int k14.toInt32), .val (.ref a21), .val (.ref a48), .val (.ref a102), .val (.ref a168), .val (.ref a246), .unset, .unset, .unset, .unset, .unset, .unset, .unset, .unset, .unset, .unset] [])) by
    refine own_icmp_lt X405 at_181 (by decide) (pcT := 191) (by decide) rfl (fun hc495 => ?_) (fun hc495 => ?_)
    · skip
      exact H191_460 _ _ _ _ (own_more X405 (by decide) (by decide)) (by rw [if_pos hc495]) (by rw [if_pos hc495]) (Keep.refl _ _) F410 F411
    · skip
      have K496 := (Keep.refl h406 [a246])
      refine own_aload X405 at_184 rfl rfl rfl ?_
      refine own_aload X405 at_186 rfl rfl rfl ?_
      refine own_callV X405 (hw _ (List.mem_of_getElem? (i := 110) rfl)) (hw _ (List.mem_of_getElem? (i := 111) rfl)) (hw _ (List.mem_of_getElem? (i := 113) rfl)) (hw _ (List.mem_of_getElem? (i := 112) rfl)) (hw _ (List.mem_of_getElem? (i := 96) rfl)) (hw _ (List.mem_of_getElem? (i := 114) rfl)) (by decide) (a := a246) (argsL := [(.ref a168)]) (rest := []) (own_mrd l Z a0 hw [] a246 a168 z10 k3.toInt32 z408 z409 _ _ Z459 F458 F410 F411 F453 F451 ge_a246 ne_a168_a246) F458 (pd_16) rfl at_188 rfl rfl rfl (W := 0) rfl (by decide) (by decide) (cells' := 19) (slots' := 108) rfl rfl (by decide) (by decide) (fun v T500 h502 X501 q503 => ?_)
      obtain ⟨rfl, K499, F497, F498⟩ := q503
      show own_Fin p e below (own_End s n0 (fun v _ => v = some (.int 1)) room_1.cells room_1.slots) (T500.setTop (mkF m 191 #[.val (.int p1), .val (.int p2), .val (.int p3), .val (.int p4), .val (.int p5), .val (.int k1.toInt32), .val (.int k2.toInt32), .val (.int k3.toInt32), .val (.int z4), .val (.int z7), .val (.int z10), .val (.int u13), .val (.int k14.toInt32), .val (.ref a21), .val (.ref a48), .val (.ref a102), .val (.ref a168), .val (.ref a246), .unset, .unset, .unset, .unset, .unset, .unset, .unset, .unset, .unset, .unset] []))
      have F504 := (F441.keep K499)
      have F505 := (F442.keep K499)
      have F506 := (F443.keep K499 (ninS ne_a48_a246 nin0))
      have F507 := (F444.keep K499 (ninS ne_a48_a246 nin0))
      have F508 := (F445.keep K499 (ninS ne_a48_a246 nin0))
      have F509 := (F446.keep K499)
      have F510 := (F447.keep K499 (ninS ne_a102_a246 nin0))
      have F511 := (F448.keep K499 (ninS ne_a102_a246 nin0))
      have F512 := (F449.keep K499 (ninS ne_a102_a246 nin0))
      have F513 := (F450.keep K499)
      have F514 := (F451.keep K499 (ninS ne_a168_a246 nin0))
      have F515 := (F452.keep K499 (ninS ne_a168_a246 nin0))
      have F516 := (F453.keep K499 (ninS ne_a168_a246 nin0))
      have F517 := (F454.keep K499 (ninS ne_a21_a246 nin0))
      have F518 := (F455.keep K499 (ninS ne_a21_a246 nin0))
      have F519 := (F456.keep K499 (ninS ne_t2190_a246 nin0))
      have F520 := (F457.keep K499 (ninS ne_u2191_a246 nin0))
      have F521 := (F458.keep K499)
      have Z522 : n0 ≤ h502.size := (Nat.le_trans Z459 K499.1)
      have K523 := (K496.trans K499 (allS (P := fun x => x ∈ _ ∨ _ ≤ x) (Or.inl (List.mem_of_getElem? (i := 0) rfl)) all0))
      exact H191_460 _ _ _ _ (own_more X501 (by decide) (by decide)) (by rw [if_neg hc495]) (by rw [if_neg hc495]) K523 F497 F498
  intro T487 h489 z491 z492 X488 hz491 hz492 K490 F493 F494
  have F524 := (F441.keep K490)
  have F525 := (F442.keep K490)
  have F526 := (F443.keep K490 (ninS ne_a48_a246 nin0))
  have F527 := (F444.keep K490 (ninS ne_a48_a246 nin0))
  have F528 := (F445.keep K490 (ninS ne_a48_a246 nin0))
  have F529 := (F446.keep K490)
  have F530 := (F447.keep K490 (ninS ne_a102_a246 nin0))
  have F531 := (F448.keep K490 (ninS ne_a102_a246 nin0))
  have F532 := (F449.keep K490 (ninS ne_a102_a246 nin0))
  have F533 := (F450.keep K490)
  have F534 := (F451.keep K490 (ninS ne_a168_a246 nin0))
  have F535 := (F452.keep K490 (ninS ne_a168_a246 nin0))
  have F536 := (F453.keep K490 (ninS ne_a168_a246 nin0))
  have F537 := (F454.keep K490 (ninS ne_a21_a246 nin0))
  have F538 := (F455.keep K490 (ninS ne_a21_a246 nin0))
  have F539 := (F456.keep K490 (ninS ne_t2190_a246 nin0))
  have F540 := (F457.keep K490 (ninS ne_u2191_a246 nin0))
  have F541 := (F458.keep K490)
  have Z542 : n0 ≤ h489.size := (Nat.le_trans Z459 K490.1)
  refine own_aload X488 at_191 rfl rfl rfl ?_
  refine own_iload X488 at_193 rfl rfl ?_
  refine own_iconst X488 (1 : Int32) at_195 rfl (by decide) ?_
  refine own_callV X488 (hw _ (List.mem_of_getElem? (i := 103) rfl)) (hw _ (List.mem_of_getElem? (i := 104) rfl)) (hw _ (List.mem_of_getElem? (i := 106) rfl)) (hw _ (List.mem_of_getElem? (i := 105) rfl)) (hw _ (List.mem_of_getElem? (i := 96) rfl)) (hw _ (List.mem_of_getElem? (i := 107) rfl)) (by decide) (a := a246) (argsL := [(.int k14.toInt32), (.int (1 : Int32))]) (rest := []) (own_mra l Z a0 hw [] a246 k14.toInt32 (1 : Int32) z491 z492 _ _ Z542 F493 F494) F541 (pd_15) rfl at_196 rfl rfl rfl (W := 0) rfl (by decide) (by decide) (cells' := 19) (slots' := 108) rfl rfl (by decide) (by decide) (fun v T544 h546 X545 q547 => ?_)
  obtain ⟨rfl, rfl⟩ := q547
  show own_Fin p e below (own_End s n0 (fun v _ => v = some (.int 1)) room_1.cells room_1.slots) (T544.setTop (mkF m 199 #[.val (.int p1), .val (.int p2), .val (.int p3), .val (.int p4), .val (.int p5), .val (.int k1.toInt32), .val (.int k2.toInt32), .val (.int k3.toInt32), .val (.int z4), .val (.int z7), .val (.int z10), .val (.int u13), .val (.int k14.toInt32), .val (.ref a21), .val (.ref a48), .val (.ref a102), .val (.ref a168), .val (.ref a246), .unset, .unset, .unset, .unset, .unset, .unset, .unset, .unset, .unset, .unset] [(.int (own_ra z492 z491 k14.toInt32 (1 : Int32)))]))
  refine own_istore X545 (L' := #[.val (.int p1), .val (.int p2), .val (.int p3), .val (.int p4), .val (.int p5), .val (.int k1.toInt32), .val (.int k2.toInt32), .val (.int k3.toInt32), .val (.int z4), .val (.int z7), .val (.int z10), .val (.int u13), .val (.int k14.toInt32), .val (.ref a21), .val (.ref a48), .val (.ref a102), .val (.ref a168), .val (.ref a246), .val (.int (own_ra z492 z491 k14.toInt32 (1 : Int32))), .unset, .unset, .unset, .unset, .unset, .unset, .unset, .unset, .unset]) at_199 rfl rfl ?_
  refine own_aload X545 at_201 rfl rfl rfl ?_
  refine own_iload X545 at_203 rfl rfl ?_
  refine own_iconst X545 (0 : Int32) at_205 rfl (by decide) ?_
  refine own_callV X545 (hw _ (List.mem_of_getElem? (i := 103) rfl)) (hw _ (List.mem_of_getElem? (i := 104) rfl)) (hw _ (List.mem_of_getElem? (i := 106) rfl)) (hw _ (List.mem_of_getElem? (i := 105) rfl)) (hw _ (List.mem_of_getElem? (i := 96) rfl)) (hw _ (List.mem_of_getElem? (i := 107) rfl)) (by decide) (a := a246) (argsL := [(.int k14.toInt32), (.int (0 : Int32))]) (rest := []) (own_mra l Z a0 hw [] a246 k14.toInt32 (0 : Int32) z491 z492 _ _ Z542 F493 F494) F541 (pd_15) rfl at_206 rfl rfl rfl (W := 0) rfl (by decide) (by decide) (cells' := 19) (slots' := 108) rfl rfl (by decide) (by decide) (fun v T549 h551 X550 q552 => ?_)
  obtain ⟨rfl, rfl⟩ := q552
  show own_Fin p e below (own_End s n0 (fun v _ => v = some (.int 1)) room_1.cells room_1.slots) (T549.setTop (mkF m 209 #[.val (.int p1), .val (.int p2), .val (.int p3), .val (.int p4), .val (.int p5), .val (.int k1.toInt32), .val (.int k2.toInt32), .val (.int k3.toInt32), .val (.int z4), .val (.int z7), .val (.int z10), .val (.int u13), .val (.int k14.toInt32), .val (.ref a21), .val (.ref a48), .val (.ref a102), .val (.ref a168), .val (.ref a246), .val (.int (own_ra z492 z491 k14.toInt32 (1 : Int32))), .unset, .unset, .unset, .unset, .unset, .unset, .unset, .unset, .unset] [(.int (own_ra z492 z491 k14.toInt32 (0 : Int32)))]))
  refine own_istore X550 (L' := #[.val (.int p1), .val (.int p2), .val (.int p3), .val (.int p4), .val (.int p5), .val (.int k1.toInt32), .val (.int k2.toInt32), .val (.int k3.toInt32), .val (.int z4), .val (.int z7), .val (.int z10), .val (.int u13), .val (.int k14.toInt32), .val (.ref a21), .val (.ref a48), .val (.ref a102), .val (.ref a168), .val (.ref a246), .val (.int (own_ra z492 z491 k14.toInt32 (1 : Int32))), .val (.int (own_ra z492 z491 k14.toInt32 (0 : Int32))), .unset, .unset, .unset, .unset, .unset, .unset, .unset, .unset]) at_209 rfl rfl ?_
  refine own_iload X550 at_211 rfl rfl ?_
  refine own_iconst X550 (1 : Int32) at_213 rfl (by decide) ?_
  suffices J222_554 : ∀ (z553 : Int32), z553 = (if u13 < (1 : Int32) then (0 : Int32) else (1 : Int32)) → own_Fin p e below (own_End s n0 (fun v _ => v = some (.int 1)) room_1.cells room_1.slots) (T549.setTop (mkF m 222 #[.val (.int p1), .val (.int p2), .val (.int p3), .val (.int p4), .val (.int p5), .val (.int k1.toInt32), .val (.int k2.toInt32), .val (.int k3.toInt32), .val (.int z4), .val (.int z7), .val (.int z10), .val (.int u13), .val (.int k14.toInt32), .val (.ref a21), .val (.ref a48), .val (.ref a102), .val (.ref a168), .val (.ref a246), .val (.int (own_ra z492 z491 k14.toInt32 (1 : Int32))), .val (.int (own_ra z492 z491 k14.toInt32 (0 : Int32))), .unset, .unset, .unset, .unset, .unset, .unset, .unset, .unset] [(.int z553)])) by
    refine own_icmp_lt X550 at_214 (by decide) (pcT := 221) (by decide) rfl (fun hc555 => ?_) (fun hc555 => ?_)
    · skip
      refine own_iconst X550 (0 : Int32) at_221 rfl (by decide) ?_
      exact J222_554 _ (by rw [if_pos hc555])
    · skip
      refine own_iconst X550 (1 : Int32) at_217 rfl (by decide) ?_
      refine own_goto X550 at_218 (by decide) (pc' := 222) (by decide) ?_
      exact J222_554 _ (by rw [if_neg hc555])
  intro z553 hz553
  refine own_istore X550 (L' := #[.val (.int p1), .val (.int p2), .val (.int p3), .val (.int p4), .val (.int p5), .val (.int k1.toInt32), .val (.int k2.toInt32), .val (.int k3.toInt32), .val (.int z4), .val (.int z7), .val (.int z10), .val (.int u13), .val (.int k14.toInt32), .val (.ref a21), .val (.ref a48), .val (.ref a102), .val (.ref a168), .val (.ref a246), .val (.int (own_ra z492 z491 k14.toInt32 (1 : Int32))), .val (.int (own_ra z492 z491 k14.toInt32 (0 : Int32))), .val (.int z553), .unset, .unset, .unset, .unset, .unset, .unset, .unset]) at_222 rfl rfl ?_
  refine own_iload X550 at_224 rfl rfl ?_
  refine own_iconst X550 (2 : Int32) at_226 rfl (by decide) ?_
  suffices J235_557 : ∀ (z556 : Int32), z556 = (if u13 < (2 : Int32) then (0 : Int32) else (1 : Int32)) → own_Fin p e below (own_End s n0 (fun v _ => v = some (.int 1)) room_1.cells room_1.slots) (T549.setTop (mkF m 235 #[.val (.int p1), .val (.int p2), .val (.int p3), .val (.int p4), .val (.int p5), .val (.int k1.toInt32), .val (.int k2.toInt32), .val (.int k3.toInt32), .val (.int z4), .val (.int z7), .val (.int z10), .val (.int u13), .val (.int k14.toInt32), .val (.ref a21), .val (.ref a48), .val (.ref a102), .val (.ref a168), .val (.ref a246), .val (.int (own_ra z492 z491 k14.toInt32 (1 : Int32))), .val (.int (own_ra z492 z491 k14.toInt32 (0 : Int32))), .val (.int z553), .unset, .unset, .unset, .unset, .unset, .unset, .unset] [(.int z556)])) by
    refine own_icmp_lt X550 at_227 (by decide) (pcT := 234) (by decide) rfl (fun hc558 => ?_) (fun hc558 => ?_)
    · skip
      refine own_iconst X550 (0 : Int32) at_234 rfl (by decide) ?_
      exact J235_557 _ (by rw [if_pos hc558])
    · skip
      refine own_iconst X550 (1 : Int32) at_230 rfl (by decide) ?_
      refine own_goto X550 at_231 (by decide) (pc' := 235) (by decide) ?_
      exact J235_557 _ (by rw [if_neg hc558])
  intro z556 hz556
  refine own_istore X550 (L' := #[.val (.int p1), .val (.int p2), .val (.int p3), .val (.int p4), .val (.int p5), .val (.int k1.toInt32), .val (.int k2.toInt32), .val (.int k3.toInt32), .val (.int z4), .val (.int z7), .val (.int z10), .val (.int u13), .val (.int k14.toInt32), .val (.ref a21), .val (.ref a48), .val (.ref a102), .val (.ref a168), .val (.ref a246), .val (.int (own_ra z492 z491 k14.toInt32 (1 : Int32))), .val (.int (own_ra z492 z491 k14.toInt32 (0 : Int32))), .val (.int z553), .val (.int z556), .unset, .unset, .unset, .unset, .unset, .unset]) at_235 rfl rfl ?_
  refine own_iload X550 at_237 rfl rfl ?_
  refine own_iconst X550 (3 : Int32) at_239 rfl (by decide) ?_
  suffices J248_560 : ∀ (z559 : Int32), z559 = (if u13 < (3 : Int32) then (0 : Int32) else (1 : Int32)) → own_Fin p e below (own_End s n0 (fun v _ => v = some (.int 1)) room_1.cells room_1.slots) (T549.setTop (mkF m 248 #[.val (.int p1), .val (.int p2), .val (.int p3), .val (.int p4), .val (.int p5), .val (.int k1.toInt32), .val (.int k2.toInt32), .val (.int k3.toInt32), .val (.int z4), .val (.int z7), .val (.int z10), .val (.int u13), .val (.int k14.toInt32), .val (.ref a21), .val (.ref a48), .val (.ref a102), .val (.ref a168), .val (.ref a246), .val (.int (own_ra z492 z491 k14.toInt32 (1 : Int32))), .val (.int (own_ra z492 z491 k14.toInt32 (0 : Int32))), .val (.int z553), .val (.int z556), .unset, .unset, .unset, .unset, .unset, .unset] [(.int z559)])) by
    refine own_icmp_lt X550 at_240 (by decide) (pcT := 247) (by decide) rfl (fun hc561 => ?_) (fun hc561 => ?_)
    · skip
      refine own_iconst X550 (0 : Int32) at_247 rfl (by decide) ?_
      exact J248_560 _ (by rw [if_pos hc561])
    · skip
      refine own_iconst X550 (1 : Int32) at_243 rfl (by decide) ?_
      refine own_goto X550 at_244 (by decide) (pc' := 248) (by decide) ?_
      exact J248_560 _ (by rw [if_neg hc561])
  intro z559 hz559
  refine own_istore X550 (L' := #[.val (.int p1), .val (.int p2), .val (.int p3), .val (.int p4), .val (.int p5), .val (.int k1.toInt32), .val (.int k2.toInt32), .val (.int k3.toInt32), .val (.int z4), .val (.int z7), .val (.int z10), .val (.int u13), .val (.int k14.toInt32), .val (.ref a21), .val (.ref a48), .val (.ref a102), .val (.ref a168), .val (.ref a246), .val (.int (own_ra z492 z491 k14.toInt32 (1 : Int32))), .val (.int (own_ra z492 z491 k14.toInt32 (0 : Int32))), .val (.int z553), .val (.int z556), .val (.int z559), .unset, .unset, .unset, .unset, .unset]) at_248 rfl rfl ?_
  refine own_iload X550 at_250 rfl rfl ?_
  suffices J285_563 : ∀ (z562 : Int32), z562 = (if z553 = (0 : Int32) then (if z556 = (0 : Int32) then (if z559 = (0 : Int32) then (0 : Int32) else (if z10 = (0 : Int32) then (1 : Int32) else (0 : Int32))) else (if z7 = (0 : Int32) then (1 : Int32) else (if z559 = (0 : Int32) then (0 : Int32) else (if z10 = (0 : Int32) then (1 : Int32) else (0 : Int32))))) else (if z4 = (0 : Int32) then (1 : Int32) else (if z556 = (0 : Int32) then (if z559 = (0 : Int32) then (0 : Int32) else (if z10 = (0 : Int32) then (1 : Int32) else (0 : Int32))) else (if z7 = (0 : Int32) then (1 : Int32) else (if z559 = (0 : Int32) then (0 : Int32) else (if z10 = (0 : Int32) then (1 : Int32) else (0 : Int32))))))) → own_Fin p e below (own_End s n0 (fun v _ => v = some (.int 1)) room_1.cells room_1.slots) (T549.setTop (mkF m 285 #[.val (.int p1), .val (.int p2), .val (.int p3), .val (.int p4), .val (.int p5), .val (.int k1.toInt32), .val (.int k2.toInt32), .val (.int k3.toInt32), .val (.int z4), .val (.int z7), .val (.int z10), .val (.int u13), .val (.int k14.toInt32), .val (.ref a21), .val (.ref a48), .val (.ref a102), .val (.ref a168), .val (.ref a246), .val (.int (own_ra z492 z491 k14.toInt32 (1 : Int32))), .val (.int (own_ra z492 z491 k14.toInt32 (0 : Int32))), .val (.int z553), .val (.int z556), .val (.int z559), .unset, .unset, .unset, .unset, .unset] [(.int z562)])) by
    refine own_if_eq X550 at_252 (by decide) (pcT := 260) (by decide) rfl (fun hc564 => ?_) (fun hc564 => ?_)
    · skip
      refine own_iload X550 at_260 rfl rfl ?_
      refine own_if_eq X550 at_262 (by decide) (pcT := 270) (by decide) rfl (fun hc565 => ?_) (fun hc565 => ?_)
      · skip
        refine own_iload X550 at_270 rfl rfl ?_
        refine own_if_eq X550 at_272 (by decide) (pcT := 284) (by decide) rfl (fun hc566 => ?_) (fun hc566 => ?_)
        · skip
          refine own_iconst X550 (0 : Int32) at_284 rfl (by decide) ?_
          exact J285_563 _ (by rw [if_pos hc564, if_pos hc565, if_pos hc566])
        · skip
          refine own_iload X550 at_275 rfl rfl ?_
          refine own_if_ne X550 at_277 (by decide) (pcT := 284) (by decide) rfl (fun hc567 => ?_) (fun hc567 => ?_)
          · skip
            refine own_iconst X550 (0 : Int32) at_284 rfl (by decide) ?_
            exact J285_563 _ (by rw [if_pos hc564, if_pos hc565, if_neg hc566, if_neg hc567])
          · skip
            refine own_iconst X550 (1 : Int32) at_280 rfl (by decide) ?_
            refine own_goto X550 at_281 (by decide) (pc' := 285) (by decide) ?_
            exact J285_563 _ (by rw [if_pos hc564, if_pos hc565, if_neg hc566, if_pos hc567])
      · skip
        refine own_iload X550 at_265 rfl rfl ?_
        refine own_if_eq X550 at_267 (by decide) (pcT := 280) (by decide) rfl (fun hc568 => ?_) (fun hc568 => ?_)
        · skip
          refine own_iconst X550 (1 : Int32) at_280 rfl (by decide) ?_
          refine own_goto X550 at_281 (by decide) (pc' := 285) (by decide) ?_
          exact J285_563 _ (by rw [if_pos hc564, if_neg hc565, if_pos hc568])
        · skip
          refine own_iload X550 at_270 rfl rfl ?_
          refine own_if_eq X550 at_272 (by decide) (pcT := 284) (by decide) rfl (fun hc569 => ?_) (fun hc569 => ?_)
          · skip
            refine own_iconst X550 (0 : Int32) at_284 rfl (by decide) ?_
            exact J285_563 _ (by rw [if_pos hc564, if_neg hc565, if_neg hc568, if_pos hc569])
          · skip
            refine own_iload X550 at_275 rfl rfl ?_
            refine own_if_ne X550 at_277 (by decide) (pcT := 284) (by decide) rfl (fun hc570 => ?_) (fun hc570 => ?_)
            · skip
              refine own_iconst X550 (0 : Int32) at_284 rfl (by decide) ?_
              exact J285_563 _ (by rw [if_pos hc564, if_neg hc565, if_neg hc568, if_neg hc569, if_neg hc570])
            · skip
              refine own_iconst X550 (1 : Int32) at_280 rfl (by decide) ?_
              refine own_goto X550 at_281 (by decide) (pc' := 285) (by decide) ?_
              exact J285_563 _ (by rw [if_pos hc564, if_neg hc565, if_neg hc568, if_neg hc569, if_pos hc570])
    · skip
      refine own_iload X550 at_255 rfl rfl ?_
      refine own_if_eq X550 at_257 (by decide) (pcT := 280) (by decide) rfl (fun hc571 => ?_) (fun hc571 => ?_)
      · skip
        refine own_iconst X550 (1 : Int32) at_280 rfl (by decide) ?_
        refine own_goto X550 at_281 (by decide) (pc' := 285) (by decide) ?_
        exact J285_563 _ (by rw [if_neg hc564, if_pos hc571])
      · skip
        refine own_iload X550 at_260 rfl rfl ?_
        refine own_if_eq X550 at_262 (by decide) (pcT := 270) (by decide) rfl (fun hc572 => ?_) (fun hc572 => ?_)
        · skip
          refine own_iload X550 at_270 rfl rfl ?_
          refine own_if_eq X550 at_272 (by decide) (pcT := 284) (by decide) rfl (fun hc573 => ?_) (fun hc573 => ?_)
          · skip
            refine own_iconst X550 (0 : Int32) at_284 rfl (by decide) ?_
            exact J285_563 _ (by rw [if_neg hc564, if_neg hc571, if_pos hc572, if_pos hc573])
          · skip
            refine own_iload X550 at_275 rfl rfl ?_
            refine own_if_ne X550 at_277 (by decide) (pcT := 284) (by decide) rfl (fun hc574 => ?_) (fun hc574 => ?_)
            · skip
              refine own_iconst X550 (0 : Int32) at_284 rfl (by decide) ?_
              exact J285_563 _ (by rw [if_neg hc564, if_neg hc571, if_pos hc572, if_neg hc573, if_neg hc574])
            · skip
              refine own_iconst X550 (1 : Int32) at_280 rfl (by decide) ?_
              refine own_goto X550 at_281 (by decide) (pc' := 285) (by decide) ?_
              exact J285_563 _ (by rw [if_neg hc564, if_neg hc571, if_pos hc572, if_neg hc573, if_pos hc574])
        · skip
          refine own_iload X550 at_265 rfl rfl ?_
          refine own_if_eq X550 at_267 (by decide) (pcT := 280) (by decide) rfl (fun hc575 => ?_) (fun hc575 => ?_)
          · skip
            refine own_iconst X550 (1 : Int32) at_280 rfl (by decide) ?_
            refine own_goto X550 at_281 (by decide) (pc' := 285) (by decide) ?_
            exact J285_563 _ (by rw [if_neg hc564, if_neg hc571, if_neg hc572, if_pos hc575])
          · skip
            refine own_iload X550 at_270 rfl rfl ?_
            refine own_if_eq X550 at_272 (by decide) (pcT := 284) (by decide) rfl (fun hc576 => ?_) (fun hc576 => ?_)
            · skip
              refine own_iconst X550 (0 : Int32) at_284 rfl (by decide) ?_
              exact J285_563 _ (by rw [if_neg hc564, if_neg hc571, if_neg hc572, if_neg hc575, if_pos hc576])
            · skip
              refine own_iload X550 at_275 rfl rfl ?_
              refine own_if_ne X550 at_277 (by decide) (pcT := 284) (by decide) rfl (fun hc577 => ?_) (fun hc577 => ?_)
              · skip
                refine own_iconst X550 (0 : Int32) at_284 rfl (by decide) ?_
                exact J285_563 _ (by rw [if_neg hc564, if_neg hc571, if_neg hc572, if_neg hc575, if_neg hc576, if_neg hc577])
              · skip
                refine own_iconst X550 (1 : Int32) at_280 rfl (by decide) ?_
                refine own_goto X550 at_281 (by decide) (pc' := 285) (by decide) ?_
                exact J285_563 _ (by rw [if_neg hc564, if_neg hc571, if_neg hc572, if_neg hc575, if_neg hc576, if_pos hc577])
  intro z562 hz562
  refine own_istore X550 (L' := #[.val (.int p1), .val (.int p2), .val (.int p3), .val (.int p4), .val (.int p5), .val (.int k1.toInt32), .val (.int k2.toInt32), .val (.int k3.toInt32), .val (.int z4), .val (.int z7), .val (.int z10), .val (.int u13), .val (.int k14.toInt32), .val (.ref a21), .val (.ref a48), .val (.ref a102), .val (.ref a168), .val (.ref a246), .val (.int (own_ra z492 z491 k14.toInt32 (1 : Int32))), .val (.int (own_ra z492 z491 k14.toInt32 (0 : Int32))), .val (.int z553), .val (.int z556), .val (.int z559), .val (.int z562), .unset, .unset, .unset, .unset]) at_285 rfl rfl ?_
  refine own_iload X550 at_287 rfl rfl ?_
  suffices J322_579 : ∀ (z578 : Int32), z578 = (if z553 = (0 : Int32) then (if z556 = (0 : Int32) then (if z559 = (0 : Int32) then (0 : Int32) else (if z10 = (0 : Int32) then (0 : Int32) else (1 : Int32))) else (if z7 = (0 : Int32) then (if z559 = (0 : Int32) then (0 : Int32) else (if z10 = (0 : Int32) then (0 : Int32) else (1 : Int32))) else (1 : Int32))) else (if z4 = (0 : Int32) then (if z556 = (0 : Int32) then (if z559 = (0 : Int32) then (0 : Int32) else (if z10 = (0 : Int32) then (0 : Int32) else (1 : Int32))) else (if z7 = (0 : Int32) then (if z559 = (0 : Int32) then (0 : Int32) else (if z10 = (0 : Int32) then (0 : Int32) else (1 : Int32))) else (1 : Int32))) else (1 : Int32))) → own_Fin p e below (own_End s n0 (fun v _ => v = some (.int 1)) room_1.cells room_1.slots) (T549.setTop (mkF m 322 #[.val (.int p1), .val (.int p2), .val (.int p3), .val (.int p4), .val (.int p5), .val (.int k1.toInt32), .val (.int k2.toInt32), .val (.int k3.toInt32), .val (.int z4), .val (.int z7), .val (.int z10), .val (.int u13), .val (.int k14.toInt32), .val (.ref a21), .val (.ref a48), .val (.ref a102), .val (.ref a168), .val (.ref a246), .val (.int (own_ra z492 z491 k14.toInt32 (1 : Int32))), .val (.int (own_ra z492 z491 k14.toInt32 (0 : Int32))), .val (.int z553), .val (.int z556), .val (.int z559), .val (.int z562), .unset, .unset, .unset, .unset] [(.int z578)])) by
    refine own_if_eq X550 at_289 (by decide) (pcT := 297) (by decide) rfl (fun hc580 => ?_) (fun hc580 => ?_)
    · skip
      refine own_iload X550 at_297 rfl rfl ?_
      refine own_if_eq X550 at_299 (by decide) (pcT := 307) (by decide) rfl (fun hc581 => ?_) (fun hc581 => ?_)
      · skip
        refine own_iload X550 at_307 rfl rfl ?_
        refine own_if_eq X550 at_309 (by decide) (pcT := 321) (by decide) rfl (fun hc582 => ?_) (fun hc582 => ?_)
        · skip
          refine own_iconst X550 (0 : Int32) at_321 rfl (by decide) ?_
          exact J322_579 _ (by rw [if_pos hc580, if_pos hc581, if_pos hc582])
        · skip
          refine own_iload X550 at_312 rfl rfl ?_
          refine own_if_eq X550 at_314 (by decide) (pcT := 321) (by decide) rfl (fun hc583 => ?_) (fun hc583 => ?_)
          · skip
            refine own_iconst X550 (0 : Int32) at_321 rfl (by decide) ?_
            exact J322_579 _ (by rw [if_pos hc580, if_pos hc581, if_neg hc582, if_pos hc583])
          · skip
            refine own_iconst X550 (1 : Int32) at_317 rfl (by decide) ?_
            refine own_goto X550 at_318 (by decide) (pc' := 322) (by decide) ?_
            exact J322_579 _ (by rw [if_pos hc580, if_pos hc581, if_neg hc582, if_neg hc583])
      · skip
        refine own_iload X550 at_302 rfl rfl ?_
        refine own_if_ne X550 at_304 (by decide) (pcT := 317) (by decide) rfl (fun hc584 => ?_) (fun hc584 => ?_)
        · skip
          refine own_iconst X550 (1 : Int32) at_317 rfl (by decide) ?_
          refine own_goto X550 at_318 (by decide) (pc' := 322) (by decide) ?_
          exact J322_579 _ (by rw [if_pos hc580, if_neg hc581, if_neg hc584])
        · skip
          refine own_iload X550 at_307 rfl rfl ?_
          refine own_if_eq X550 at_309 (by decide) (pcT := 321) (by decide) rfl (fun hc585 => ?_) (fun hc585 => ?_)
          · skip
            refine own_iconst X550 (0 : Int32) at_321 rfl (by decide) ?_
            exact J322_579 _ (by rw [if_pos hc580, if_neg hc581, if_pos hc584, if_pos hc585])
          · skip
            refine own_iload X550 at_312 rfl rfl ?_
            refine own_if_eq X550 at_314 (by decide) (pcT := 321) (by decide) rfl (fun hc586 => ?_) (fun hc586 => ?_)
            · skip
              refine own_iconst X550 (0 : Int32) at_321 rfl (by decide) ?_
              exact J322_579 _ (by rw [if_pos hc580, if_neg hc581, if_pos hc584, if_neg hc585, if_pos hc586])
            · skip
              refine own_iconst X550 (1 : Int32) at_317 rfl (by decide) ?_
              refine own_goto X550 at_318 (by decide) (pc' := 322) (by decide) ?_
              exact J322_579 _ (by rw [if_pos hc580, if_neg hc581, if_pos hc584, if_neg hc585, if_neg hc586])
    · skip
      refine own_iload X550 at_292 rfl rfl ?_
      refine own_if_ne X550 at_294 (by decide) (pcT := 317) (by decide) rfl (fun hc587 => ?_) (fun hc587 => ?_)
      · skip
        refine own_iconst X550 (1 : Int32) at_317 rfl (by decide) ?_
        refine own_goto X550 at_318 (by decide) (pc' := 322) (by decide) ?_
        exact J322_579 _ (by rw [if_neg hc580, if_neg hc587])
      · skip
        refine own_iload X550 at_297 rfl rfl ?_
        refine own_if_eq X550 at_299 (by decide) (pcT := 307) (by decide) rfl (fun hc588 => ?_) (fun hc588 => ?_)
        · skip
          refine own_iload X550 at_307 rfl rfl ?_
          refine own_if_eq X550 at_309 (by decide) (pcT := 321) (by decide) rfl (fun hc589 => ?_) (fun hc589 => ?_)
          · skip
            refine own_iconst X550 (0 : Int32) at_321 rfl (by decide) ?_
            exact J322_579 _ (by rw [if_neg hc580, if_pos hc587, if_pos hc588, if_pos hc589])
          · skip
            refine own_iload X550 at_312 rfl rfl ?_
            refine own_if_eq X550 at_314 (by decide) (pcT := 321) (by decide) rfl (fun hc590 => ?_) (fun hc590 => ?_)
            · skip
              refine own_iconst X550 (0 : Int32) at_321 rfl (by decide) ?_
              exact J322_579 _ (by rw [if_neg hc580, if_pos hc587, if_pos hc588, if_neg hc589, if_pos hc590])
            · skip
              refine own_iconst X550 (1 : Int32) at_317 rfl (by decide) ?_
              refine own_goto X550 at_318 (by decide) (pc' := 322) (by decide) ?_
              exact J322_579 _ (by rw [if_neg hc580, if_pos hc587, if_pos hc588, if_neg hc589, if_neg hc590])
        · skip
          refine own_iload X550 at_302 rfl rfl ?_
          refine own_if_ne X550 at_304 (by decide) (pcT := 317) (by decide) rfl (fun hc591 => ?_) (fun hc591 => ?_)
          · skip
            refine own_iconst X550 (1 : Int32) at_317 rfl (by decide) ?_
            refine own_goto X550 at_318 (by decide) (pc' := 322) (by decide) ?_
            exact J322_579 _ (by rw [if_neg hc580, if_pos hc587, if_neg hc588, if_neg hc591])
          · skip
            refine own_iload X550 at_307 rfl rfl ?_
            refine own_if_eq X550 at_309 (by decide) (pcT := 321) (by decide) rfl (fun hc592 => ?_) (fun hc592 => ?_)
            · skip
              refine own_iconst X550 (0 : Int32) at_321 rfl (by decide) ?_
              exact J322_579 _ (by rw [if_neg hc580, if_pos hc587, if_neg hc588, if_pos hc591, if_pos hc592])
            · skip
              refine own_iload X550 at_312 rfl rfl ?_
              refine own_if_eq X550 at_314 (by decide) (pcT := 321) (by decide) rfl (fun hc593 => ?_) (fun hc593 => ?_)
              · skip
                refine own_iconst X550 (0 : Int32) at_321 rfl (by decide) ?_
                exact J322_579 _ (by rw [if_neg hc580, if_pos hc587, if_neg hc588, if_pos hc591, if_neg hc592, if_pos hc593])
              · skip
                refine own_iconst X550 (1 : Int32) at_317 rfl (by decide) ?_
                refine own_goto X550 at_318 (by decide) (pc' := 322) (by decide) ?_
                exact J322_579 _ (by rw [if_neg hc580, if_pos hc587, if_neg hc588, if_pos hc591, if_neg hc592, if_neg hc593])
  intro z578 hz578
  refine own_istore X550 (L' := #[.val (.int p1), .val (.int p2), .val (.int p3), .val (.int p4), .val (.int p5), .val (.int k1.toInt32), .val (.int k2.toInt32), .val (.int k3.toInt32), .val (.int z4), .val (.int z7), .val (.int z10), .val (.int u13), .val (.int k14.toInt32), .val (.ref a21), .val (.ref a48), .val (.ref a102), .val (.ref a168), .val (.ref a246), .val (.int (own_ra z492 z491 k14.toInt32 (1 : Int32))), .val (.int (own_ra z492 z491 k14.toInt32 (0 : Int32))), .val (.int z553), .val (.int z556), .val (.int z559), .val (.int z562), .val (.int z578), .unset, .unset, .unset]) at_322 rfl rfl ?_
  refine own_iload X550 at_324 rfl rfl ?_
  suffices J380_595 : ∀ (z594 : Int32), z594 = (if z553 = (0 : Int32) then (if z556 = (0 : Int32) then (if z559 = (0 : Int32) then (0 : Int32) else (if z10 = (0 : Int32) then (0 : Int32) else (if k3.toInt32 = k14.toInt32 then (0 : Int32) else (1 : Int32)))) else (if z7 = (0 : Int32) then (if z559 = (0 : Int32) then (0 : Int32) else (if z10 = (0 : Int32) then (0 : Int32) else (if k3.toInt32 = k14.toInt32 then (0 : Int32) else (1 : Int32)))) else (if k2.toInt32 = k14.toInt32 then (if z559 = (0 : Int32) then (0 : Int32) else (if z10 = (0 : Int32) then (0 : Int32) else (if k3.toInt32 = k14.toInt32 then (0 : Int32) else (1 : Int32)))) else (1 : Int32)))) else (if z4 = (0 : Int32) then (if z556 = (0 : Int32) then (if z559 = (0 : Int32) then (0 : Int32) else (if z10 = (0 : Int32) then (0 : Int32) else (if k3.toInt32 = k14.toInt32 then (0 : Int32) else (1 : Int32)))) else (if z7 = (0 : Int32) then (if z559 = (0 : Int32) then (0 : Int32) else (if z10 = (0 : Int32) then (0 : Int32) else (if k3.toInt32 = k14.toInt32 then (0 : Int32) else (1 : Int32)))) else (if k2.toInt32 = k14.toInt32 then (if z559 = (0 : Int32) then (0 : Int32) else (if z10 = (0 : Int32) then (0 : Int32) else (if k3.toInt32 = k14.toInt32 then (0 : Int32) else (1 : Int32)))) else (1 : Int32)))) else (if k1.toInt32 = k14.toInt32 then (if z556 = (0 : Int32) then (if z559 = (0 : Int32) then (0 : Int32) else (if z10 = (0 : Int32) then (0 : Int32) else (if k3.toInt32 = k14.toInt32 then (0 : Int32) else (1 : Int32)))) else (if z7 = (0 : Int32) then (if z559 = (0 : Int32) then (0 : Int32) else (if z10 = (0 : Int32) then (0 : Int32) else (if k3.toInt32 = k14.toInt32 then (0 : Int32) else (1 : Int32)))) else (if k2.toInt32 = k14.toInt32 then (if z559 = (0 : Int32) then (0 : Int32) else (if z10 = (0 : Int32) then (0 : Int32) else (if k3.toInt32 = k14.toInt32 then (0 : Int32) else (1 : Int32)))) else (1 : Int32)))) else (1 : Int32)))) → own_Fin p e below (own_End s n0 (fun v _ => v = some (.int 1)) room_1.cells room_1.slots) (T549.setTop (mkF m 380 #[.val (.int p1), .val (.int p2), .val (.int p3), .val (.int p4), .val (.int p5), .val (.int k1.toInt32), .val (.int k2.toInt32), .val (.int k3.toInt32), .val (.int z4), .val (.int z7), .val (.int z10), .val (.int u13), .val (.int k14.toInt32), .val (.ref a21), .val (.ref a48), .val (.ref a102), .val (.ref a168), .val (.ref a246), .val (.int (own_ra z492 z491 k14.toInt32 (1 : Int32))), .val (.int (own_ra z492 z491 k14.toInt32 (0 : Int32))), .val (.int z553), .val (.int z556), .val (.int z559), .val (.int z562), .val (.int z578), .unset, .unset, .unset] [(.int z594)])) by
    refine own_if_eq X550 at_326 (by decide) (pcT := 341) (by decide) rfl (fun hc596 => ?_) (fun hc596 => ?_)
    · skip
      refine own_iload X550 at_341 rfl rfl ?_
      refine own_if_eq X550 at_343 (by decide) (pcT := 358) (by decide) rfl (fun hc597 => ?_) (fun hc597 => ?_)
      · skip
        refine own_iload X550 at_358 rfl rfl ?_
        refine own_if_eq X550 at_360 (by decide) (pcT := 379) (by decide) rfl (fun hc598 => ?_) (fun hc598 => ?_)
        · skip
          refine own_iconst X550 (0 : Int32) at_379 rfl (by decide) ?_
          exact J380_595 _ (by rw [if_pos hc596, if_pos hc597, if_pos hc598])
        · skip
          refine own_iload X550 at_363 rfl rfl ?_
          refine own_if_eq X550 at_365 (by decide) (pcT := 379) (by decide) rfl (fun hc599 => ?_) (fun hc599 => ?_)
          · skip
            refine own_iconst X550 (0 : Int32) at_379 rfl (by decide) ?_
            exact J380_595 _ (by rw [if_pos hc596, if_pos hc597, if_neg hc598, if_pos hc599])
          · skip
            refine own_iload X550 at_368 rfl rfl ?_
            refine own_iload X550 at_370 rfl rfl ?_
            refine own_icmp_eq X550 at_372 (by decide) (pcT := 379) (by decide) rfl (fun hc600 => ?_) (fun hc600 => ?_)
            · skip
              refine own_iconst X550 (0 : Int32) at_379 rfl (by decide) ?_
              exact J380_595 _ (by rw [if_pos hc596, if_pos hc597, if_neg hc598, if_neg hc599, if_pos hc600])
            · skip
              refine own_iconst X550 (1 : Int32) at_375 rfl (by decide) ?_
              refine own_goto X550 at_376 (by decide) (pc' := 380) (by decide) ?_
              exact J380_595 _ (by rw [if_pos hc596, if_pos hc597, if_neg hc598, if_neg hc599, if_neg hc600])
      · skip
        refine own_iload X550 at_346 rfl rfl ?_
        refine own_if_eq X550 at_348 (by decide) (pcT := 358) (by decide) rfl (fun hc601 => ?_) (fun hc601 => ?_)
        · skip
          refine own_iload X550 at_358 rfl rfl ?_
          refine own_if_eq X550 at_360 (by decide) (pcT := 379) (by decide) rfl (fun hc602 => ?_) (fun hc602 => ?_)
          · skip
            refine own_iconst X550 (0 : Int32) at_379 rfl (by decide) ?_
            exact J380_595 _ (by rw [if_pos hc596, if_neg hc597, if_pos hc601, if_pos hc602])
          · skip
            refine own_iload X550 at_363 rfl rfl ?_
            refine own_if_eq X550 at_365 (by decide) (pcT := 379) (by decide) rfl (fun hc603 => ?_) (fun hc603 => ?_)
            · skip
              refine own_iconst X550 (0 : Int32) at_379 rfl (by decide) ?_
              exact J380_595 _ (by rw [if_pos hc596, if_neg hc597, if_pos hc601, if_neg hc602, if_pos hc603])
            · skip
              refine own_iload X550 at_368 rfl rfl ?_
              refine own_iload X550 at_370 rfl rfl ?_
              refine own_icmp_eq X550 at_372 (by decide) (pcT := 379) (by decide) rfl (fun hc604 => ?_) (fun hc604 => ?_)
              · skip
                refine own_iconst X550 (0 : Int32) at_379 rfl (by decide) ?_
                exact J380_595 _ (by rw [if_pos hc596, if_neg hc597, if_pos hc601, if_neg hc602, if_neg hc603, if_pos hc604])
              · skip
                refine own_iconst X550 (1 : Int32) at_375 rfl (by decide) ?_
                refine own_goto X550 at_376 (by decide) (pc' := 380) (by decide) ?_
                exact J380_595 _ (by rw [if_pos hc596, if_neg hc597, if_pos hc601, if_neg hc602, if_neg hc603, if_neg hc604])
        · skip
          refine own_iload X550 at_351 rfl rfl ?_
          refine own_iload X550 at_353 rfl rfl ?_
          refine own_icmp_ne X550 at_355 (by decide) (pcT := 375) (by decide) rfl (fun hc605 => ?_) (fun hc605 => ?_)
          · skip
            refine own_iconst X550 (1 : Int32) at_375 rfl (by decide) ?_
            refine own_goto X550 at_376 (by decide) (pc' := 380) (by decide) ?_
            exact J380_595 _ (by rw [if_pos hc596, if_neg hc597, if_neg hc601, if_neg hc605])
          · skip
            refine own_iload X550 at_358 rfl rfl ?_
            refine own_if_eq X550 at_360 (by decide) (pcT := 379) (by decide) rfl (fun hc606 => ?_) (fun hc606 => ?_)
            · skip
              refine own_iconst X550 (0 : Int32) at_379 rfl (by decide) ?_
              exact J380_595 _ (by rw [if_pos hc596, if_neg hc597, if_neg hc601, if_pos hc605, if_pos hc606])
            · skip
              refine own_iload X550 at_363 rfl rfl ?_
              refine own_if_eq X550 at_365 (by decide) (pcT := 379) (by decide) rfl (fun hc607 => ?_) (fun hc607 => ?_)
              · skip
                refine own_iconst X550 (0 : Int32) at_379 rfl (by decide) ?_
                exact J380_595 _ (by rw [if_pos hc596, if_neg hc597, if_neg hc601, if_pos hc605, if_neg hc606, if_pos hc607])
              · skip
                refine own_iload X550 at_368 rfl rfl ?_
                refine own_iload X550 at_370 rfl rfl ?_
                refine own_icmp_eq X550 at_372 (by decide) (pcT := 379) (by decide) rfl (fun hc608 => ?_) (fun hc608 => ?_)
                · skip
                  refine own_iconst X550 (0 : Int32) at_379 rfl (by decide) ?_
                  exact J380_595 _ (by rw [if_pos hc596, if_neg hc597, if_neg hc601, if_pos hc605, if_neg hc606, if_neg hc607, if_pos hc608])
                · skip
                  refine own_iconst X550 (1 : Int32) at_375 rfl (by decide) ?_
                  refine own_goto X550 at_376 (by decide) (pc' := 380) (by decide) ?_
                  exact J380_595 _ (by rw [if_pos hc596, if_neg hc597, if_neg hc601, if_pos hc605, if_neg hc606, if_neg hc607, if_neg hc608])
    · skip
      refine own_iload X550 at_329 rfl rfl ?_
      refine own_if_eq X550 at_331 (by decide) (pcT := 341) (by decide) rfl (fun hc609 => ?_) (fun hc609 => ?_)
      · skip
        refine own_iload X550 at_341 rfl rfl ?_
        refine own_if_eq X550 at_343 (by decide) (pcT := 358) (by decide) rfl (fun hc610 => ?_) (fun hc610 => ?_)
        · skip
          refine own_iload X550 at_358 rfl rfl ?_
          refine own_if_eq X550 at_360 (by decide) (pcT := 379) (by decide) rfl (fun hc611 => ?_) (fun hc611 => ?_)
          · skip
            refine own_iconst X550 (0 : Int32) at_379 rfl (by decide) ?_
            exact J380_595 _ (by rw [if_neg hc596, if_pos hc609, if_pos hc610, if_pos hc611])
          · skip
            refine own_iload X550 at_363 rfl rfl ?_
            refine own_if_eq X550 at_365 (by decide) (pcT := 379) (by decide) rfl (fun hc612 => ?_) (fun hc612 => ?_)
            · skip
              refine own_iconst X550 (0 : Int32) at_379 rfl (by decide) ?_
              exact J380_595 _ (by rw [if_neg hc596, if_pos hc609, if_pos hc610, if_neg hc611, if_pos hc612])
            · skip
              refine own_iload X550 at_368 rfl rfl ?_
              refine own_iload X550 at_370 rfl rfl ?_
              refine own_icmp_eq X550 at_372 (by decide) (pcT := 379) (by decide) rfl (fun hc613 => ?_) (fun hc613 => ?_)
              · skip
                refine own_iconst X550 (0 : Int32) at_379 rfl (by decide) ?_
                exact J380_595 _ (by rw [if_neg hc596, if_pos hc609, if_pos hc610, if_neg hc611, if_neg hc612, if_pos hc613])
              · skip
                refine own_iconst X550 (1 : Int32) at_375 rfl (by decide) ?_
                refine own_goto X550 at_376 (by decide) (pc' := 380) (by decide) ?_
                exact J380_595 _ (by rw [if_neg hc596, if_pos hc609, if_pos hc610, if_neg hc611, if_neg hc612, if_neg hc613])
        · skip
          refine own_iload X550 at_346 rfl rfl ?_
          refine own_if_eq X550 at_348 (by decide) (pcT := 358) (by decide) rfl (fun hc614 => ?_) (fun hc614 => ?_)
          · skip
            refine own_iload X550 at_358 rfl rfl ?_
            refine own_if_eq X550 at_360 (by decide) (pcT := 379) (by decide) rfl (fun hc615 => ?_) (fun hc615 => ?_)
            · skip
              refine own_iconst X550 (0 : Int32) at_379 rfl (by decide) ?_
              exact J380_595 _ (by rw [if_neg hc596, if_pos hc609, if_neg hc610, if_pos hc614, if_pos hc615])
            · skip
              refine own_iload X550 at_363 rfl rfl ?_
              refine own_if_eq X550 at_365 (by decide) (pcT := 379) (by decide) rfl (fun hc616 => ?_) (fun hc616 => ?_)
              · skip
                refine own_iconst X550 (0 : Int32) at_379 rfl (by decide) ?_
                exact J380_595 _ (by rw [if_neg hc596, if_pos hc609, if_neg hc610, if_pos hc614, if_neg hc615, if_pos hc616])
              · skip
                refine own_iload X550 at_368 rfl rfl ?_
                refine own_iload X550 at_370 rfl rfl ?_
                refine own_icmp_eq X550 at_372 (by decide) (pcT := 379) (by decide) rfl (fun hc617 => ?_) (fun hc617 => ?_)
                · skip
                  refine own_iconst X550 (0 : Int32) at_379 rfl (by decide) ?_
                  exact J380_595 _ (by rw [if_neg hc596, if_pos hc609, if_neg hc610, if_pos hc614, if_neg hc615, if_neg hc616, if_pos hc617])
                · skip
                  refine own_iconst X550 (1 : Int32) at_375 rfl (by decide) ?_
                  refine own_goto X550 at_376 (by decide) (pc' := 380) (by decide) ?_
                  exact J380_595 _ (by rw [if_neg hc596, if_pos hc609, if_neg hc610, if_pos hc614, if_neg hc615, if_neg hc616, if_neg hc617])
          · skip
            refine own_iload X550 at_351 rfl rfl ?_
            refine own_iload X550 at_353 rfl rfl ?_
            refine own_icmp_ne X550 at_355 (by decide) (pcT := 375) (by decide) rfl (fun hc618 => ?_) (fun hc618 => ?_)
            · skip
              refine own_iconst X550 (1 : Int32) at_375 rfl (by decide) ?_
              refine own_goto X550 at_376 (by decide) (pc' := 380) (by decide) ?_
              exact J380_595 _ (by rw [if_neg hc596, if_pos hc609, if_neg hc610, if_neg hc614, if_neg hc618])
            · skip
              refine own_iload X550 at_358 rfl rfl ?_
              refine own_if_eq X550 at_360 (by decide) (pcT := 379) (by decide) rfl (fun hc619 => ?_) (fun hc619 => ?_)
              · skip
                refine own_iconst X550 (0 : Int32) at_379 rfl (by decide) ?_
                exact J380_595 _ (by rw [if_neg hc596, if_pos hc609, if_neg hc610, if_neg hc614, if_pos hc618, if_pos hc619])
              · skip
                refine own_iload X550 at_363 rfl rfl ?_
                refine own_if_eq X550 at_365 (by decide) (pcT := 379) (by decide) rfl (fun hc620 => ?_) (fun hc620 => ?_)
                · skip
                  refine own_iconst X550 (0 : Int32) at_379 rfl (by decide) ?_
                  exact J380_595 _ (by rw [if_neg hc596, if_pos hc609, if_neg hc610, if_neg hc614, if_pos hc618, if_neg hc619, if_pos hc620])
                · skip
                  refine own_iload X550 at_368 rfl rfl ?_
                  refine own_iload X550 at_370 rfl rfl ?_
                  refine own_icmp_eq X550 at_372 (by decide) (pcT := 379) (by decide) rfl (fun hc621 => ?_) (fun hc621 => ?_)
                  · skip
                    refine own_iconst X550 (0 : Int32) at_379 rfl (by decide) ?_
                    exact J380_595 _ (by rw [if_neg hc596, if_pos hc609, if_neg hc610, if_neg hc614, if_pos hc618, if_neg hc619, if_neg hc620, if_pos hc621])
                  · skip
                    refine own_iconst X550 (1 : Int32) at_375 rfl (by decide) ?_
                    refine own_goto X550 at_376 (by decide) (pc' := 380) (by decide) ?_
                    exact J380_595 _ (by rw [if_neg hc596, if_pos hc609, if_neg hc610, if_neg hc614, if_pos hc618, if_neg hc619, if_neg hc620, if_neg hc621])
      · skip
        refine own_iload X550 at_334 rfl rfl ?_
        refine own_iload X550 at_336 rfl rfl ?_
        refine own_icmp_ne X550 at_338 (by decide) (pcT := 375) (by decide) rfl (fun hc622 => ?_) (fun hc622 => ?_)
        · skip
          refine own_iconst X550 (1 : Int32) at_375 rfl (by decide) ?_
          refine own_goto X550 at_376 (by decide) (pc' := 380) (by decide) ?_
          exact J380_595 _ (by rw [if_neg hc596, if_neg hc609, if_neg hc622])
        · skip
          refine own_iload X550 at_341 rfl rfl ?_
          refine own_if_eq X550 at_343 (by decide) (pcT := 358) (by decide) rfl (fun hc623 => ?_) (fun hc623 => ?_)
          · skip
            refine own_iload X550 at_358 rfl rfl ?_
            refine own_if_eq X550 at_360 (by decide) (pcT := 379) (by decide) rfl (fun hc624 => ?_) (fun hc624 => ?_)
            · skip
              refine own_iconst X550 (0 : Int32) at_379 rfl (by decide) ?_
              exact J380_595 _ (by rw [if_neg hc596, if_neg hc609, if_pos hc622, if_pos hc623, if_pos hc624])
            · skip
              refine own_iload X550 at_363 rfl rfl ?_
              refine own_if_eq X550 at_365 (by decide) (pcT := 379) (by decide) rfl (fun hc625 => ?_) (fun hc625 => ?_)
              · skip
                refine own_iconst X550 (0 : Int32) at_379 rfl (by decide) ?_
                exact J380_595 _ (by rw [if_neg hc596, if_neg hc609, if_pos hc622, if_pos hc623, if_neg hc624, if_pos hc625])
              · skip
                refine own_iload X550 at_368 rfl rfl ?_
                refine own_iload X550 at_370 rfl rfl ?_
                refine own_icmp_eq X550 at_372 (by decide) (pcT := 379) (by decide) rfl (fun hc626 => ?_) (fun hc626 => ?_)
                · skip
                  refine own_iconst X550 (0 : Int32) at_379 rfl (by decide) ?_
                  exact J380_595 _ (by rw [if_neg hc596, if_neg hc609, if_pos hc622, if_pos hc623, if_neg hc624, if_neg hc625, if_pos hc626])
                · skip
                  refine own_iconst X550 (1 : Int32) at_375 rfl (by decide) ?_
                  refine own_goto X550 at_376 (by decide) (pc' := 380) (by decide) ?_
                  exact J380_595 _ (by rw [if_neg hc596, if_neg hc609, if_pos hc622, if_pos hc623, if_neg hc624, if_neg hc625, if_neg hc626])
          · skip
            refine own_iload X550 at_346 rfl rfl ?_
            refine own_if_eq X550 at_348 (by decide) (pcT := 358) (by decide) rfl (fun hc627 => ?_) (fun hc627 => ?_)
            · skip
              refine own_iload X550 at_358 rfl rfl ?_
              refine own_if_eq X550 at_360 (by decide) (pcT := 379) (by decide) rfl (fun hc628 => ?_) (fun hc628 => ?_)
              · skip
                refine own_iconst X550 (0 : Int32) at_379 rfl (by decide) ?_
                exact J380_595 _ (by rw [if_neg hc596, if_neg hc609, if_pos hc622, if_neg hc623, if_pos hc627, if_pos hc628])
              · skip
                refine own_iload X550 at_363 rfl rfl ?_
                refine own_if_eq X550 at_365 (by decide) (pcT := 379) (by decide) rfl (fun hc629 => ?_) (fun hc629 => ?_)
                · skip
                  refine own_iconst X550 (0 : Int32) at_379 rfl (by decide) ?_
                  exact J380_595 _ (by rw [if_neg hc596, if_neg hc609, if_pos hc622, if_neg hc623, if_pos hc627, if_neg hc628, if_pos hc629])
                · skip
                  refine own_iload X550 at_368 rfl rfl ?_
                  refine own_iload X550 at_370 rfl rfl ?_
                  refine own_icmp_eq X550 at_372 (by decide) (pcT := 379) (by decide) rfl (fun hc630 => ?_) (fun hc630 => ?_)
                  · skip
                    refine own_iconst X550 (0 : Int32) at_379 rfl (by decide) ?_
                    exact J380_595 _ (by rw [if_neg hc596, if_neg hc609, if_pos hc622, if_neg hc623, if_pos hc627, if_neg hc628, if_neg hc629, if_pos hc630])
                  · skip
                    refine own_iconst X550 (1 : Int32) at_375 rfl (by decide) ?_
                    refine own_goto X550 at_376 (by decide) (pc' := 380) (by decide) ?_
                    exact J380_595 _ (by rw [if_neg hc596, if_neg hc609, if_pos hc622, if_neg hc623, if_pos hc627, if_neg hc628, if_neg hc629, if_neg hc630])
            · skip
              refine own_iload X550 at_351 rfl rfl ?_
              refine own_iload X550 at_353 rfl rfl ?_
              refine own_icmp_ne X550 at_355 (by decide) (pcT := 375) (by decide) rfl (fun hc631 => ?_) (fun hc631 => ?_)
              · skip
                refine own_iconst X550 (1 : Int32) at_375 rfl (by decide) ?_
                refine own_goto X550 at_376 (by decide) (pc' := 380) (by decide) ?_
                exact J380_595 _ (by rw [if_neg hc596, if_neg hc609, if_pos hc622, if_neg hc623, if_neg hc627, if_neg hc631])
              · skip
                refine own_iload X550 at_358 rfl rfl ?_
                refine own_if_eq X550 at_360 (by decide) (pcT := 379) (by decide) rfl (fun hc632 => ?_) (fun hc632 => ?_)
                · skip
                  refine own_iconst X550 (0 : Int32) at_379 rfl (by decide) ?_
                  exact J380_595 _ (by rw [if_neg hc596, if_neg hc609, if_pos hc622, if_neg hc623, if_neg hc627, if_pos hc631, if_pos hc632])
                · skip
                  refine own_iload X550 at_363 rfl rfl ?_
                  refine own_if_eq X550 at_365 (by decide) (pcT := 379) (by decide) rfl (fun hc633 => ?_) (fun hc633 => ?_)
                  · skip
                    refine own_iconst X550 (0 : Int32) at_379 rfl (by decide) ?_
                    exact J380_595 _ (by rw [if_neg hc596, if_neg hc609, if_pos hc622, if_neg hc623, if_neg hc627, if_pos hc631, if_neg hc632, if_pos hc633])
                  · skip
                    refine own_iload X550 at_368 rfl rfl ?_
                    refine own_iload X550 at_370 rfl rfl ?_
                    refine own_icmp_eq X550 at_372 (by decide) (pcT := 379) (by decide) rfl (fun hc634 => ?_) (fun hc634 => ?_)
                    · skip
                      refine own_iconst X550 (0 : Int32) at_379 rfl (by decide) ?_
                      exact J380_595 _ (by rw [if_neg hc596, if_neg hc609, if_pos hc622, if_neg hc623, if_neg hc627, if_pos hc631, if_neg hc632, if_neg hc633, if_pos hc634])
                    · skip
                      refine own_iconst X550 (1 : Int32) at_375 rfl (by decide) ?_
                      refine own_goto X550 at_376 (by decide) (pc' := 380) (by decide) ?_
                      exact J380_595 _ (by rw [if_neg hc596, if_neg hc609, if_pos hc622, if_neg hc623, if_neg hc627, if_pos hc631, if_neg hc632, if_neg hc633, if_neg hc634])
  intro z594 hz594
  refine own_istore X550 (L' := #[.val (.int p1), .val (.int p2), .val (.int p3), .val (.int p4), .val (.int p5), .val (.int k1.toInt32), .val (.int k2.toInt32), .val (.int k3.toInt32), .val (.int z4), .val (.int z7), .val (.int z10), .val (.int u13), .val (.int k14.toInt32), .val (.ref a21), .val (.ref a48), .val (.ref a102), .val (.ref a168), .val (.ref a246), .val (.int (own_ra z492 z491 k14.toInt32 (1 : Int32))), .val (.int (own_ra z492 z491 k14.toInt32 (0 : Int32))), .val (.int z553), .val (.int z556), .val (.int z559), .val (.int z562), .val (.int z578), .val (.int z594), .unset, .unset]) at_380 rfl rfl ?_
  refine own_iload X550 at_382 rfl rfl ?_
  suffices J397_636 : ∀ (z635 : Int32), z635 = (if z562 = (0 : Int32) then (if z594 = (0 : Int32) then (0 : Int32) else (1 : Int32)) else (1 : Int32)) → own_Fin p e below (own_End s n0 (fun v _ => v = some (.int 1)) room_1.cells room_1.slots) (T549.setTop (mkF m 397 #[.val (.int p1), .val (.int p2), .val (.int p3), .val (.int p4), .val (.int p5), .val (.int k1.toInt32), .val (.int k2.toInt32), .val (.int k3.toInt32), .val (.int z4), .val (.int z7), .val (.int z10), .val (.int u13), .val (.int k14.toInt32), .val (.ref a21), .val (.ref a48), .val (.ref a102), .val (.ref a168), .val (.ref a246), .val (.int (own_ra z492 z491 k14.toInt32 (1 : Int32))), .val (.int (own_ra z492 z491 k14.toInt32 (0 : Int32))), .val (.int z553), .val (.int z556), .val (.int z559), .val (.int z562), .val (.int z578), .val (.int z594), .unset, .unset] [(.int z635)])) by
    refine own_if_ne X550 at_384 (by decide) (pcT := 392) (by decide) rfl (fun hc637 => ?_) (fun hc637 => ?_)
    · skip
      refine own_iconst X550 (1 : Int32) at_392 rfl (by decide) ?_
      refine own_goto X550 at_393 (by decide) (pc' := 397) (by decide) ?_
      exact J397_636 _ (by rw [if_neg hc637])
    · skip
      refine own_iload X550 at_387 rfl rfl ?_
      refine own_if_eq X550 at_389 (by decide) (pcT := 396) (by decide) rfl (fun hc638 => ?_) (fun hc638 => ?_)
      · skip
        refine own_iconst X550 (0 : Int32) at_396 rfl (by decide) ?_
        exact J397_636 _ (by rw [if_pos hc637, if_pos hc638])
      · skip
        refine own_iconst X550 (1 : Int32) at_392 rfl (by decide) ?_
        refine own_goto X550 at_393 (by decide) (pc' := 397) (by decide) ?_
        exact J397_636 _ (by rw [if_pos hc637, if_neg hc638])
  intro z635 hz635
  refine own_istore X550 (L' := #[.val (.int p1), .val (.int p2), .val (.int p3), .val (.int p4), .val (.int p5), .val (.int k1.toInt32), .val (.int k2.toInt32), .val (.int k3.toInt32), .val (.int z4), .val (.int z7), .val (.int z10), .val (.int u13), .val (.int k14.toInt32), .val (.ref a21), .val (.ref a48), .val (.ref a102), .val (.ref a168), .val (.ref a246), .val (.int (own_ra z492 z491 k14.toInt32 (1 : Int32))), .val (.int (own_ra z492 z491 k14.toInt32 (0 : Int32))), .val (.int z553), .val (.int z556), .val (.int z559), .val (.int z562), .val (.int z578), .val (.int z594), .val (.int z635), .unset]) at_397 rfl rfl ?_
  refine own_iload X550 at_399 rfl rfl ?_
  refine own_istore X550 (L' := #[.val (.int p1), .val (.int p2), .val (.int p3), .val (.int p4), .val (.int p5), .val (.int k1.toInt32), .val (.int k2.toInt32), .val (.int k3.toInt32), .val (.int z4), .val (.int z7), .val (.int z10), .val (.int u13), .val (.int k14.toInt32), .val (.ref a21), .val (.ref a48), .val (.ref a102), .val (.ref a168), .val (.ref a246), .val (.int (own_ra z492 z491 k14.toInt32 (1 : Int32))), .val (.int (own_ra z492 z491 k14.toInt32 (0 : Int32))), .val (.int z553), .val (.int z556), .val (.int z559), .val (.int z562), .val (.int z578), .val (.int z594), .val (.int z635), .val (.int z578)]) at_401 rfl rfl ?_
  refine own_iload X550 at_403 rfl rfl ?_
  refine own_iload X550 at_405 rfl rfl ?_
  have I1 := own_inv_if own_inv0 (own_inv_read own_inv0 (own_nneg (n := k1) (by omega))) hz325 hz326
  have I2 := own_inv_if I1 (own_inv_read I1 (own_nneg (n := k2) (by omega))) hz408 hz409
  have I3 := own_inv_if I2 (own_inv_read I2 (own_nneg (n := k3) (by omega))) hz491 hz492
  have R := own_fin I3 (own_nneg (n := k14) (by omega)) hz553 hz556 hz559 hz562 hz578 hz594 hz635
  refine own_icmp_ne X550 at_407 (by decide) (pcT := 421) (by decide) rfl (fun hc => absurd R.1 hc) (fun hc => ?_)
  refine own_iload X550 at_410 rfl rfl ?_
  refine own_iload X550 at_412 rfl rfl ?_
  refine own_icmp_ne X550 at_414 (by decide) (pcT := 421) (by decide) rfl (fun hc => absurd R.2 hc) (fun hc => ?_)
  refine own_iconst X550 (1 : Int32) at_417 rfl (by decide) ?_
  refine own_goto X550 at_418 (by decide) (pc' := 422) (by decide) ?_
  exact own_retZ X550 rfl at_422 rfl rfl (by decide) (by decide)
set_option maxRecDepth 65536 in
set_option maxHeartbeats 40000000 in
theorem comes_1 {Post : Tables → Env → Array Value → State → Outcome → State → Prop} (hpost : ∀ tb e args s v u, (limb_1_1.after args s (.returned v) u = true ∧ limb_1_2.after args s (.returned v) u = true ∧ True) → FrameEnd s (.returned v) u (Jvm.fieldLocs frame_1_writes args s ++ Jvm.arrayLocs frame_1_arrays args s ++ Jvm.staticLocs frame_1_statics s) 48 256 → Post tb e args s (.returned v) u) :
    ArmFor flags0 classFile x code maxLocals ret World_1 tables_1 room_1 Calls_1 rest_1 Pre_1 Post := by
  intro l hfl _ _ p e ha hc hk s m args below hf hA hF happ hP
  obtain ⟨hcalls, hrest, hpre⟩ := hP
  obtain ⟨-, -, -, hnamed, -, -, -, hat⟩ := (Spec.applies_iff hf).mp happ
  obtain ⟨hg, hn⟩ := and_e (Cond.before_iff.mp (show (Jvm.Cond.and given_1 narrow_1).before args s = true from hpre))
  obtain ⟨h1, g0⟩ := and_e hg
  obtain ⟨g0, g1⟩ := and_e g0
  obtain ⟨g1, g2⟩ := and_e g1
  obtain ⟨g2, g3⟩ := and_e g2
  obtain ⟨g3, g4⟩ := and_e g3
  obtain ⟨w0, w1, w2, w3, w4, rfl⟩ : ∃ w0 w1 w2 w3 w4 : Value, args = #[w0, w1, w2, w3, w4] := by
    have hs : args.size = 5 := by simpa [Cond.value, given_1] using h1
    obtain ⟨L⟩ := args
    match L, hs with
    | [w0, w1, w2, w3, w4], _ => exact ⟨w0, w1, w2, w3, w4, rfl⟩
  have hw := fun d (hd : d ∈ tables_1) => atoms_spec (ws := Jvm.Cond.code x code maxLocals ret :: tables_1) hat d (List.mem_cons_of_mem _ hd)
  obtain ⟨i0, e0⟩ := is_v g0
  obtain rfl : w0 = (.int i0) := Option.some.inj e0
  obtain ⟨i1, e1⟩ := is_v g1
  obtain rfl : w1 = (.int i1) := Option.some.inj e1
  obtain ⟨i2, e2⟩ := is_v g2
  obtain rfl : w2 = (.int i2) := Option.some.inj e2
  obtain ⟨i3, e3⟩ := is_v g3
  obtain rfl : w3 = (.int i3) := Option.some.inj e3
  obtain ⟨i4, e4⟩ := is_v g4
  obtain rfl : w4 = (.int i4) := Option.some.inj e4
  obtain ⟨n, o, h1, h2, h3, _, L, rfl, ⟨rfl, N⟩, hq⟩ := own_law l s _ hw tables_1 i0 i1 i2 i3 i4 s.heap s.heap.size (Nat.le_refl _) p e ha hc hk s m _ below hf ((Spec.applies_iff_loose hf).mp happ).1 ⟨rfl, State.Warmed39.refl s, rfl⟩ trivial
  refine ⟨n, _, h1, h2, h3, hpost _ _ _ _ _ _ ⟨Cond.after_iff.mpr rfl, Cond.after_iff.mpr (eq_i res_at (Term.int_eval (1)) rfl), trivial⟩ ⟨hq.1, hq.2.1, (hq.2.2.sift fun y hy => Or.inr (N y hy)).mono (by decide) (by decide)⟩⟩
theorem main_1_1 : Claimed_1_1 := comes_1 fun _ _ _ _ _ _ h hF => ⟨h.1, hF⟩
theorem main_1_2 : Claimed_1_2 := comes_1 fun _ _ _ _ _ _ h hF => ⟨h.2.1, hF⟩
end Jvm.Pilot.@@N@@
namespace Jvm.Pilot.@@N@@
open Jvm Jvm.ClassFile Sem Op Lib Jvm.Free Jvm.Stand Jvm.Pilot.@@N@@.Jvm.D
/-! MADE BY PROGRAM (witnessworld.py) out of the Statement's table words and the real class files: 23 classes; the members and pool entries that the words name. The judged class is class 1, her method 1. -/
namespace start1
open Jvm.ClassFile
def u (s : String) : CpInfo := .utf8 (stringToUtf16 s)
/-- a pool by its gaps: so many unusable entries, then the entry; so many at the end -/
def gap : Nat → List CpInfo → List CpInfo
  | 0, r => r
  | n + 1, r => .unusable :: gap n r
def poolList (es : List (Nat × CpInfo)) (last : Nat) : List CpInfo := es.foldr (fun e r => gap e.1 (e.2 :: r)) (gap last [])
def pool (es : List (Nat × CpInfo)) (last : Nat) : Array CpInfo := ⟨poolList es last⟩
def fileOf (pool : Array CpInfo) (this : Nat) (attrs : Array Attribute := #[]) (ms : Array MethodInfo := #[]) (fl : Nat := 33) (sup : Nat := 0) (ifs : Array Nat := #[]) (fds : Array FieldInfo := #[]) : ClassFile where
  minorVersion := 0
  majorVersion := 65
  constantPool := pool
  accessFlags := fl
  thisClass := this
  superClass := sup
  interfaces := ifs
  fields := fds
  methods := ms
  attributes := attrs
def plain (name : String) (sup : Option ClassId) : Class where
  name := name
  kind := .ordinary
  loader := none
  accessFlags := 33
  super := sup
  interfaces := #[]
  cf := none
  fields := #[]
  methods := #[]
  instanceTypes := #[]
  staticTypes := #[]
  resolved := #[]
  callSites := []
  init := .initialized
  statics := none
  mirror := none

def pool0 : Array CpInfo := pool [(5, u "<init>"), (0, u "()V"), (1, .class_ 10), (1, u "java/lang/Object")] 113

def k0c0 : Code := { maxStack := 0, maxLocals := 1, code := object_method_1_code, exceptionTable := #[], attributes := #[] }
def k0m0 : Method := { name := "<init>", desc := "()V", sig := { parameters := [], returnType := none }, accessFlags := 1, code := some k0c0 }
/-- java/lang/Object -/
def k0 : Class := { plain "java/lang/Object" none with
  accessFlags := 33
  interfaces := #[]
  cf := some (fileOf pool0 8 #[] #[{ accessFlags := 1, nameIndex := 5, descriptorIndex := 6, attributes := #[] }] 33 0 #[] #[])
  fields := #[]
  methods := #[k0m0]
  instanceTypes := #[]
  staticTypes := #[]
  resolved := Array.replicate 124 none
  statics := none }

def pool1 : Array CpInfo := pool [(2, .class_ 4), (0, .nameAndType 5 6), (0, u "java/lang/Object"), (0, u "<init>"), (0, u "()V"), (0, .class_ 8), (0, u "com/example/racewright/racewright/happensbefore/VectorClock"), (0, .methodref 7 3), (0, .class_ 11), (0, u "com/example/racewright/racewright/happensbefore/ThreadState"), (0, .methodref 10 13), (0, .nameAndType 5 14), (0, u "(ILcom/example/racewright/racewright/happensbefore/VectorClock;Z)V"), (0, .fieldref 10 16), (0, .nameAndType 17 18), (0, u "unscheduled"), (0, u "Z"), (0, .class_ 20), (0, u "com/example/racewright/racewright/happensbefore/Location"), (0, .methodref 19 3), (0, .methodref 19 23), (0, .nameAndType 24 25), (0, u "read"), (0, u "(Lcom/example/racewright/racewright/happensbefore/ThreadState;)V"), (0, .methodref 19 27), (0, .nameAndType 28 29), (0, u "readAcross"), (0, u "(IZ)Z"), (0, .class_ 31), (0, u "com/example/racewright/racewright/happensbefore/LocationReadPinLaw"), (2, u "law"), (0, u "(IIIII)Z")] 3

def k1m0 : Method := { name := "<init>", desc := "()V", sig := { parameters := [], returnType := none }, accessFlags := 1, code := none }
def k1c1 : Code := { maxStack := 5, maxLocals := 28, code := code, exceptionTable := #[], attributes := #[] }
def k1m1 : Method := { name := "law", desc := "(IIIII)Z", sig := { parameters := [.int, .int, .int, .int, .int], returnType := some .boolean }, accessFlags := 9, code := some k1c1 }
/-- com/example/racewright/racewright/happensbefore/LocationReadPinLaw -/
def k1 : Class := { plain "com/example/racewright/racewright/happensbefore/LocationReadPinLaw" (some 0) with
  accessFlags := 49
  interfaces := #[]
  cf := some (fileOf pool1 30 #[] #[{ accessFlags := 1, nameIndex := 5, descriptorIndex := 6, attributes := #[] }, { accessFlags := 9, nameIndex := 34, descriptorIndex := 35, attributes := #[] }] 49 2 #[] #[])
  fields := #[]
  methods := #[k1m0, k1m1]
  instanceTypes := #[]
  staticTypes := #[]
  resolved := Array.replicate 39 none
  statics := none }

def pool2 : Array CpInfo := pool [(1, .methodref 2 3), (0, .class_ 4), (0, .nameAndType 5 6), (0, u "java/lang/Object"), (0, u "<init>"), (0, u "()V"), (0, .fieldref 8 9), (0, .class_ 10), (0, .nameAndType 11 12), (0, u "com/example/racewright/racewright/happensbefore/VectorClock"), (0, u "ticks"), (0, u "[I"), (0, .fieldref 8 14), (0, .nameAndType 15 12), (0, u "apart"), (0, .methodref 8 17), (0, .nameAndType 18 19), (0, u "set"), (0, u "([III)[I"), (25, .methodref 46 47), (0, .class_ 48), (0, .nameAndType 49 50), (0, u "java/lang/Math"), (0, u "max"), (0, u "(II)I"), (0, .methodref 52 53), (0, .class_ 54), (0, .nameAndType 55 56), (0, u "java/util/Arrays"), (0, u "copyOf"), (0, u "([II)[I"), (3, u "(II)V")] 8

def k2c0 : Code := { maxStack := 2, maxLocals := 1, code := prog_63_method_1_code, exceptionTable := #[], attributes := #[] }
def k2m0 : Method := { name := "<init>", desc := "()V", sig := { parameters := [], returnType := none }, accessFlags := 0, code := some k2c0 }
def k2c1 : Code := { maxStack := 4, maxLocals := 3, code := prog_63_method_4_code, exceptionTable := #[], attributes := #[] }
def k2m1 : Method := { name := "set", desc := "(II)V", sig := { parameters := [.int, .int], returnType := none }, accessFlags := 0, code := some k2c1 }
def k2c2 : Code := { maxStack := 4, maxLocals := 4, code := prog_63_method_10_code, exceptionTable := #[], attributes := #[] }
def k2m2 : Method := { name := "set", desc := "([III)[I", sig := { parameters := [(.array .int), .int, .int], returnType := some (.array .int) }, accessFlags := 10, code := some k2c2 }
/-- com/example/racewright/racewright/happensbefore/VectorClock -/
def k2 : Class := { plain "com/example/racewright/racewright/happensbefore/VectorClock" (some 0) with
  accessFlags := 48
  interfaces := #[]
  cf := some (fileOf pool2 8 #[] #[{ accessFlags := 0, nameIndex := 5, descriptorIndex := 6, attributes := #[] }, { accessFlags := 0, nameIndex := 18, descriptorIndex := 60, attributes := #[] }, { accessFlags := 10, nameIndex := 18, descriptorIndex := 19, attributes := #[] }] 48 2 #[] #[{ accessFlags := 2, nameIndex := 11, descriptorIndex := 12, attributes := #[] }, { accessFlags := 2, nameIndex := 15, descriptorIndex := 12, attributes := #[] }])
  fields := #[{ name := "ticks", type := (.array .int), accessFlags := 2, slot := 0, constantValue := 0 }, { name := "apart", type := (.array .int), accessFlags := 2, slot := 1, constantValue := 0 }]
  methods := #[k2m0, k2m1, k2m2]
  instanceTypes := #[(.array .int), (.array .int)]
  staticTypes := #[]
  resolved := Array.replicate 69 none
  statics := none }

def pool3 : Array CpInfo := pool [(1, .methodref 2 3), (0, .class_ 4), (0, .nameAndType 5 6), (0, u "java/lang/Object"), (0, u "<init>"), (0, u "()V"), (0, .class_ 8), (0, u "java/util/HashSet"), (0, .methodref 7 3), (0, .fieldref 11 12), (0, .class_ 13), (0, .nameAndType 14 15), (0, u "com/example/racewright/racewright/happensbefore/ThreadState"), (0, u "usedClasses"), (0, u "Ljava/util/Set;"), (0, .fieldref 11 17), (0, .nameAndType 18 19), (0, u "id"), (0, u "I"), (0, .fieldref 11 21), (0, .nameAndType 22 23), (0, u "clock"), (0, u "Lcom/example/racewright/racewright/happensbefore/VectorClock;"), (0, .methodref 25 26), (0, .class_ 27), (0, .nameAndType 28 29), (0, u "com/example/racewright/racewright/happensbefore/VectorClock"), (0, u "set"), (0, u "(II)V"), (3, .fieldref 11 34), (0, .nameAndType 35 36), (0, u "acquisitions"), (0, u "Ljava/util/List;"), (4, .fieldref 11 42), (0, .nameAndType 43 23), (0, u "started"), (20, u "synchronised"), (0, u "Z"), (3, .class_ 70), (0, u "com/example/racewright/racewright/happensbefore/ThreadState$Acquired"), (24, u "additions"), (0, u "Ljava/lang/Object;"), (0, u "unscheduled"), (1, u "(ILcom/example/racewright/racewright/happensbefore/VectorClock;Z)V")] 18

def k3c0 : Code := { maxStack := 3, maxLocals := 4, code := prog_61_method_1_code, exceptionTable := #[], attributes := #[] }
def k3m0 : Method := { name := "<init>", desc := "(ILcom/example/racewright/racewright/happensbefore/VectorClock;Z)V", sig := { parameters := [.int, (.object "com/example/racewright/racewright/happensbefore/VectorClock"), .boolean], returnType := none }, accessFlags := 0, code := some k3c0 }
/-- com/example/racewright/racewright/happensbefore/ThreadState -/
def k3 : Class := { plain "com/example/racewright/racewright/happensbefore/ThreadState" (some 0) with
  accessFlags := 48
  interfaces := #[]
  cf := some (fileOf pool3 11 #[.nestMembers #[69]] #[{ accessFlags := 0, nameIndex := 5, descriptorIndex := 99, attributes := #[] }] 48 2 #[] #[{ accessFlags := 16, nameIndex := 18, descriptorIndex := 19, attributes := #[] }, { accessFlags := 16, nameIndex := 22, descriptorIndex := 23, attributes := #[] }, { accessFlags := 16, nameIndex := 14, descriptorIndex := 15, attributes := #[] }, { accessFlags := 0, nameIndex := 95, descriptorIndex := 96, attributes := #[] }, { accessFlags := 0, nameIndex := 97, descriptorIndex := 65, attributes := #[] }, { accessFlags := 0, nameIndex := 64, descriptorIndex := 65, attributes := #[] }, { accessFlags := 18, nameIndex := 35, descriptorIndex := 36, attributes := #[] }, { accessFlags := 18, nameIndex := 43, descriptorIndex := 23, attributes := #[] }])
  fields := #[{ name := "id", type := .int, accessFlags := 16, slot := 0, constantValue := 0 }, { name := "clock", type := (.object "com/example/racewright/racewright/happensbefore/VectorClock"), accessFlags := 16, slot := 1, constantValue := 0 }, { name := "usedClasses", type := (.object "java/util/Set"), accessFlags := 16, slot := 2, constantValue := 0 }, { name := "additions", type := (.object "java/lang/Object"), accessFlags := 0, slot := 3, constantValue := 0 }, { name := "unscheduled", type := .boolean, accessFlags := 0, slot := 4, constantValue := 0 }, { name := "synchronised", type := .boolean, accessFlags := 0, slot := 5, constantValue := 0 }, { name := "acquisitions", type := (.object "java/util/List"), accessFlags := 18, slot := 6, constantValue := 0 }, { name := "started", type := (.object "com/example/racewright/racewright/happensbefore/VectorClock"), accessFlags := 18, slot := 7, constantValue := 0 }]
  methods := #[k3m0]
  instanceTypes := #[.int, (.object "com/example/racewright/racewright/happensbefore/VectorClock"), (.object "java/util/Set"), (.object "java/lang/Object"), .boolean, .boolean, (.object "java/util/List"), (.object "com/example/racewright/racewright/happensbefore/VectorClock")]
  staticTypes := #[]
  resolved := Array.replicate 118 none
  statics := none }

def pool4 : Array CpInfo := pool [(8, .class_ 10), (1, u "java/lang/Iterable"), (24, .class_ 36), (0, u "java/lang/Object")] 25

/-- java/lang/Iterable -/
def k4 : Class := { plain "java/lang/Iterable" (some 0) with
  accessFlags := 1537
  interfaces := #[]
  cf := some (fileOf pool4 8 #[] #[] 1537 35 #[] #[])
  fields := #[]
  methods := #[]
  instanceTypes := #[]
  staticTypes := #[]
  resolved := Array.replicate 62 none
  statics := none }

def pool5 : Array CpInfo := pool [(10, .class_ 12), (1, u "java/util/Collection"), (47, .class_ 61), (0, u "java/lang/Object"), (0, .class_ 63), (0, u "java/lang/Iterable")] 51

/-- java/util/Collection -/
def k5 : Class := { plain "java/util/Collection" (some 0) with
  accessFlags := 1537
  interfaces := #[4]
  cf := some (fileOf pool5 10 #[] #[] 1537 60 #[62] #[])
  fields := #[]
  methods := #[]
  instanceTypes := #[]
  staticTypes := #[]
  resolved := Array.replicate 115 none
  statics := none }

def pool6 : Array CpInfo := pool [(1, .methodref 2 3), (0, .class_ 4), (0, .nameAndType 5 6), (0, u "java/lang/Object"), (0, u "<init>"), (0, u "()V"), (1, .class_ 10), (1, u "java/util/AbstractCollection"), (66, .class_ 78), (0, u "java/util/Collection")] 81

def k6c0 : Code := { maxStack := 1, maxLocals := 1, code := jdk_22_method_1_code, exceptionTable := #[], attributes := #[] }
def k6m0 : Method := { name := "<init>", desc := "()V", sig := { parameters := [], returnType := none }, accessFlags := 4, code := some k6c0 }
/-- java/util/AbstractCollection -/
def k6 : Class := { plain "java/util/AbstractCollection" (some 0) with
  accessFlags := 1057
  interfaces := #[5]
  cf := some (fileOf pool6 8 #[] #[{ accessFlags := 4, nameIndex := 5, descriptorIndex := 6, attributes := #[] }] 1057 2 #[77] #[])
  fields := #[]
  methods := #[k6m0]
  instanceTypes := #[]
  staticTypes := #[]
  resolved := Array.replicate 160 none
  statics := none }

def pool7 : Array CpInfo := pool [(26, .class_ 27), (0, u "java/lang/Object"), (5, .class_ 34), (0, u "java/util/Set"), (1, .class_ 38), (1, u "java/util/Collection")] 105

/-- java/util/Set -/
def k7 : Class := { plain "java/util/Set" (some 0) with
  accessFlags := 1537
  interfaces := #[5]
  cf := some (fileOf pool7 33 #[] #[] 1537 26 #[36] #[])
  fields := #[]
  methods := #[]
  instanceTypes := #[]
  staticTypes := #[]
  resolved := Array.replicate 144 none
  statics := none }

def pool8 : Array CpInfo := pool [(1, .methodref 2 3), (0, .class_ 4), (0, .nameAndType 5 6), (0, u "java/util/AbstractCollection"), (0, u "<init>"), (0, u "()V"), (0, .class_ 8), (0, u "java/util/Set"), (7, .class_ 17), (0, u "java/util/AbstractSet")] 78

def k8c0 : Code := { maxStack := 1, maxLocals := 1, code := jdk_91_method_1_code, exceptionTable := #[], attributes := #[] }
def k8m0 : Method := { name := "<init>", desc := "()V", sig := { parameters := [], returnType := none }, accessFlags := 4, code := some k8c0 }
/-- java/util/AbstractSet -/
def k8 : Class := { plain "java/util/AbstractSet" (some 6) with
  accessFlags := 1057
  interfaces := #[7]
  cf := some (fileOf pool8 16 #[] #[{ accessFlags := 4, nameIndex := 5, descriptorIndex := 6, attributes := #[] }] 1057 2 #[7] #[])
  fields := #[]
  methods := #[k8m0]
  instanceTypes := #[]
  staticTypes := #[]
  resolved := Array.replicate 96 none
  statics := none }

def pool9 : Array CpInfo := pool [(1, .class_ 2), (0, u "java/lang/Cloneable"), (0, .class_ 4), (0, u "java/lang/Object")] 2

/-- java/lang/Cloneable -/
def k9 : Class := { plain "java/lang/Cloneable" (some 0) with
  accessFlags := 1537
  interfaces := #[]
  cf := some (fileOf pool9 1 #[] #[] 1537 3 #[] #[])
  fields := #[]
  methods := #[]
  instanceTypes := #[]
  staticTypes := #[]
  resolved := Array.replicate 7 none
  statics := none }

def pool10 : Array CpInfo := pool [(1, .class_ 2), (0, u "java/io/Serializable"), (0, .class_ 4), (0, u "java/lang/Object")] 2

/-- java/io/Serializable -/
def k10 : Class := { plain "java/io/Serializable" (some 0) with
  accessFlags := 1537
  interfaces := #[]
  cf := some (fileOf pool10 1 #[] #[] 1537 3 #[] #[])
  fields := #[]
  methods := #[]
  instanceTypes := #[]
  staticTypes := #[]
  resolved := Array.replicate 7 none
  statics := none }

def pool11 : Array CpInfo := pool [(1, .methodref 2 3), (0, .class_ 4), (0, .nameAndType 5 6), (0, u "java/util/AbstractSet"), (0, u "<init>"), (0, u "()V"), (0, .class_ 8), (0, u "java/util/HashMap"), (0, .methodref 7 3), (0, .fieldref 11 12), (0, .class_ 13), (0, .nameAndType 14 15), (0, u "java/util/HashSet"), (0, u "map"), (0, u "Ljava/util/HashMap;"), (34, .class_ 52), (1, u "java/util/Set"), (13, u "PRESENT"), (0, u "Ljava/lang/Object;"), (158, .class_ 227), (0, u "java/lang/Cloneable"), (0, .class_ 229), (0, u "java/io/Serializable"), (0, u "serialVersionUID"), (0, u "J")] 71

def k11c0 : Code := { maxStack := 3, maxLocals := 1, code := jdk_93_method_1_code, exceptionTable := #[], attributes := #[] }
def k11m0 : Method := { name := "<init>", desc := "()V", sig := { parameters := [], returnType := none }, accessFlags := 1, code := some k11c0 }
/-- java/util/HashSet -/
def k11 : Class := { plain "java/util/HashSet" (some 8) with
  accessFlags := 33
  interfaces := #[7, 9, 10]
  cf := some (fileOf pool11 11 #[] #[{ accessFlags := 1, nameIndex := 5, descriptorIndex := 6, attributes := #[] }] 33 2 #[50, 226, 228] #[{ accessFlags := 24, nameIndex := 230, descriptorIndex := 231, attributes := #[] }, { accessFlags := 128, nameIndex := 14, descriptorIndex := 15, attributes := #[] }, { accessFlags := 24, nameIndex := 66, descriptorIndex := 67, attributes := #[] }])
  fields := #[{ name := "serialVersionUID", type := .long, accessFlags := 24, slot := 0, constantValue := 0 }, { name := "map", type := (.object "java/util/HashMap"), accessFlags := 128, slot := 0, constantValue := 0 }, { name := "PRESENT", type := (.object "java/lang/Object"), accessFlags := 24, slot := 1, constantValue := 0 }]
  methods := #[k11m0]
  instanceTypes := #[(.object "java/util/HashMap")]
  staticTypes := #[.long, (.object "java/lang/Object")]
  resolved := Array.replicate 303 none
  statics := none }

def pool12 : Array CpInfo := pool [(2, .class_ 4), (1, u "java/util/Map"), (31, .class_ 37), (0, u "java/util/Map$Entry"), (55, .class_ 94), (0, u "java/lang/Object")] 168

/-- java/util/Map -/
def k12 : Class := { plain "java/util/Map" (some 0) with
  accessFlags := 1537
  interfaces := #[]
  cf := some (fileOf pool12 2 #[.nestMembers #[36]] #[] 1537 93 #[] #[])
  fields := #[]
  methods := #[]
  instanceTypes := #[]
  staticTypes := #[]
  resolved := Array.replicate 263 none
  statics := none }

def pool13 : Array CpInfo := pool [(1, .methodref 2 3), (0, .class_ 4), (0, .nameAndType 5 6), (0, u "java/lang/Object"), (0, u "<init>"), (0, u "()V"), (1, .class_ 10), (1, u "java/util/AbstractMap"), (42, .class_ 54), (0, u "java/util/Map"), (9, u "keySet"), (0, u "Ljava/util/Set;"), (0, .class_ 67), (0, u "java/util/AbstractMap$1"), (5, u "values"), (0, u "Ljava/util/Collection;"), (0, .class_ 76), (0, u "java/util/AbstractMap$2"), (104, .class_ 182), (0, u "java/util/AbstractMap$ViewCollection"), (0, .class_ 184), (0, u "java/util/AbstractMap$SimpleImmutableEntry"), (0, .class_ 186), (0, u "java/util/AbstractMap$SimpleEntry"), (0, .class_ 188), (0, u "java/util/AbstractMap$2$1"), (0, .class_ 190), (0, u "java/util/AbstractMap$1$1")] 5

def k13c0 : Code := { maxStack := 1, maxLocals := 1, code := jdk_71_method_1_code, exceptionTable := #[], attributes := #[] }
def k13m0 : Method := { name := "<init>", desc := "()V", sig := { parameters := [], returnType := none }, accessFlags := 4, code := some k13c0 }
/-- java/util/AbstractMap -/
def k13 : Class := { plain "java/util/AbstractMap" (some 0) with
  accessFlags := 1057
  interfaces := #[12]
  cf := some (fileOf pool13 8 #[.nestMembers #[181, 183, 185, 75, 187, 66, 189]] #[{ accessFlags := 4, nameIndex := 5, descriptorIndex := 6, attributes := #[] }] 1057 2 #[53] #[{ accessFlags := 128, nameIndex := 64, descriptorIndex := 65, attributes := #[] }, { accessFlags := 128, nameIndex := 73, descriptorIndex := 74, attributes := #[] }])
  fields := #[{ name := "keySet", type := (.object "java/util/Set"), accessFlags := 128, slot := 0, constantValue := 0 }, { name := "values", type := (.object "java/util/Collection"), accessFlags := 128, slot := 1, constantValue := 0 }]
  methods := #[k13m0]
  instanceTypes := #[(.object "java/util/Set"), (.object "java/util/Collection")]
  staticTypes := #[]
  resolved := Array.replicate 196 none
  statics := none }

def pool14 : Array CpInfo := pool [(40, .class_ 41), (0, u "java/util/HashMap"), (1, .methodref 44 45), (0, .class_ 46), (0, .nameAndType 47 48), (0, u "java/util/AbstractMap"), (0, u "<init>"), (0, u "()V"), (32, .fieldref 40 82), (0, .nameAndType 83 84), (0, u "loadFactor"), (0, u "F"), (5, u "threshold"), (0, u "I"), (0, .float 1061158912), (8, .class_ 103), (1, u "java/util/Map"), (0, u "size"), (2, u "table"), (0, u "[Ljava/util/HashMap$Node;"), (14, u "entrySet"), (39, .class_ 165), (1, u "java/util/HashMap$Node"), (14, .class_ 181), (0, u "java/util/HashMap$TreeNode"), (22, u "modCount"), (37, u "Ljava/util/Set;"), (0, .class_ 244), (0, u "java/util/HashMap$KeySet"), (18, .class_ 264), (0, u "java/util/HashMap$Values"), (3, .class_ 269), (0, u "java/util/HashMap$EntrySet"), (76, .class_ 348), (1, u "java/util/HashMap$UnsafeHolder"), (43, .class_ 393), (0, u "java/lang/Cloneable"), (0, .class_ 395), (0, u "java/io/Serializable"), (0, u "serialVersionUID"), (0, u "J"), (3, u "DEFAULT_INITIAL_CAPACITY"), (1, u "MAXIMUM_CAPACITY"), (0, u "DEFAULT_LOAD_FACTOR"), (0, u "TREEIFY_THRESHOLD"), (1, u "UNTREEIFY_THRESHOLD"), (1, u "MIN_TREEIFY_CAPACITY"), (186, .class_ 597), (0, u "java/util/HashMap$EntrySpliterator"), (0, .class_ 599), (0, u "java/util/HashMap$ValueSpliterator"), (0, .class_ 601), (0, u "java/util/HashMap$KeySpliterator"), (0, .class_ 603), (0, u "java/util/HashMap$HashMapSpliterator"), (0, .class_ 605), (0, u "java/util/HashMap$EntryIterator"), (0, .class_ 607), (0, u "java/util/HashMap$ValueIterator"), (0, .class_ 609), (0, u "java/util/HashMap$KeyIterator"), (0, .class_ 611), (0, u "java/util/HashMap$HashIterator")] 17

def k14c0 : Code := { maxStack := 2, maxLocals := 1, code := jdk_69_method_7_code, exceptionTable := #[], attributes := #[] }
def k14m0 : Method := { name := "<init>", desc := "()V", sig := { parameters := [], returnType := none }, accessFlags := 1, code := some k14c0 }
/-- java/util/HashMap -/
def k14 : Class := { plain "java/util/HashMap" (some 13) with
  accessFlags := 33
  interfaces := #[12, 9, 10]
  cf := some (fileOf pool14 40 #[.nestMembers #[180, 596, 598, 600, 602, 604, 606, 608, 610, 346, 268, 263, 243, 163]] #[{ accessFlags := 1, nameIndex := 47, descriptorIndex := 48, attributes := #[] }] 33 44 #[101, 392, 394] #[{ accessFlags := 26, nameIndex := 396, descriptorIndex := 397, attributes := #[] }, { accessFlags := 24, nameIndex := 401, descriptorIndex := 91, attributes := #[] }, { accessFlags := 24, nameIndex := 403, descriptorIndex := 91, attributes := #[] }, { accessFlags := 24, nameIndex := 404, descriptorIndex := 84, attributes := #[] }, { accessFlags := 24, nameIndex := 405, descriptorIndex := 91, attributes := #[] }, { accessFlags := 24, nameIndex := 407, descriptorIndex := 91, attributes := #[] }, { accessFlags := 24, nameIndex := 409, descriptorIndex := 91, attributes := #[] }, { accessFlags := 128, nameIndex := 107, descriptorIndex := 108, attributes := #[] }, { accessFlags := 128, nameIndex := 123, descriptorIndex := 242, attributes := #[] }, { accessFlags := 128, nameIndex := 104, descriptorIndex := 91, attributes := #[] }, { accessFlags := 128, nameIndex := 204, descriptorIndex := 91, attributes := #[] }, { accessFlags := 0, nameIndex := 90, descriptorIndex := 91, attributes := #[] }, { accessFlags := 16, nameIndex := 83, descriptorIndex := 84, attributes := #[] }])
  fields := #[{ name := "serialVersionUID", type := .long, accessFlags := 26, slot := 0, constantValue := 0 }, { name := "DEFAULT_INITIAL_CAPACITY", type := .int, accessFlags := 24, slot := 1, constantValue := 0 }, { name := "MAXIMUM_CAPACITY", type := .int, accessFlags := 24, slot := 2, constantValue := 0 }, { name := "DEFAULT_LOAD_FACTOR", type := .float, accessFlags := 24, slot := 3, constantValue := 0 }, { name := "TREEIFY_THRESHOLD", type := .int, accessFlags := 24, slot := 4, constantValue := 0 }, { name := "UNTREEIFY_THRESHOLD", type := .int, accessFlags := 24, slot := 5, constantValue := 0 }, { name := "MIN_TREEIFY_CAPACITY", type := .int, accessFlags := 24, slot := 6, constantValue := 0 }, { name := "table", type := (.array (.object "java/util/HashMap$Node")), accessFlags := 128, slot := 2, constantValue := 0 }, { name := "entrySet", type := (.object "java/util/Set"), accessFlags := 128, slot := 3, constantValue := 0 }, { name := "size", type := .int, accessFlags := 128, slot := 4, constantValue := 0 }, { name := "modCount", type := .int, accessFlags := 128, slot := 5, constantValue := 0 }, { name := "threshold", type := .int, accessFlags := 0, slot := 6, constantValue := 0 }, { name := "loadFactor", type := .float, accessFlags := 16, slot := 7, constantValue := 0 }]
  methods := #[k14m0]
  instanceTypes := #[(.object "java/util/Set"), (.object "java/util/Collection"), (.array (.object "java/util/HashMap$Node")), (.object "java/util/Set"), .int, .int, .int, .float]
  staticTypes := #[.long, .int, .int, .float, .int, .int, .int]
  resolved := Array.replicate 629 none
  statics := none }

def pool15 : Array CpInfo := pool [(1, .class_ 2), (0, u "java/lang/Math"), (1, .class_ 6), (1, u "java/lang/Object"), (0, u "<init>"), (0, u "()V"), (89, .class_ 100), (1, u "java/lang/Math$RandomNumberGeneratorHolder"), (71, u "negativeZeroFloatBits"), (0, u "J"), (2, u "negativeZeroDoubleBits"), (21, u "max"), (2, u "min"), (43, u "$assertionsDisabled"), (0, u "Z"), (88, u "(II)I"), (2, u "twoToTheDoubleScaleDown"), (0, u "D"), (4, u "twoToTheDoubleScaleUp"), (9, u "E"), (3, u "PI"), (2, u "TAU"), (2, u "DEGREES_TO_RADIANS"), (0, u "RADIANS_TO_DEGREES")] 94

def k15m0 : Method := { name := "<init>", desc := "()V", sig := { parameters := [], returnType := none }, accessFlags := 2, code := none }
def k15c1 : Code := { maxStack := 2, maxLocals := 2, code := jdk_29_method_65_code, exceptionTable := #[], attributes := #[] }
def k15m1 : Method := { name := "max", desc := "(II)I", sig := { parameters := [.int, .int], returnType := some .int }, accessFlags := 9, code := some k15c1 }
def k15c2 : Code := { maxStack := 2, maxLocals := 2, code := jdk_29_method_69_code, exceptionTable := #[], attributes := #[] }
def k15m2 : Method := { name := "min", desc := "(II)I", sig := { parameters := [.int, .int], returnType := some .int }, accessFlags := 9, code := some k15c2 }
/-- java/lang/Math -/
def k15 : Class := { plain "java/lang/Math" (some 0) with
  accessFlags := 49
  interfaces := #[]
  cf := some (fileOf pool15 1 #[.nestMembers #[98]] #[{ accessFlags := 2, nameIndex := 7, descriptorIndex := 8, attributes := #[] }, { accessFlags := 9, nameIndex := 198, descriptorIndex := 335, attributes := #[] }, { accessFlags := 9, nameIndex := 201, descriptorIndex := 335, attributes := #[] }] 49 4 #[] #[{ accessFlags := 25, nameIndex := 354, descriptorIndex := 339, attributes := #[] }, { accessFlags := 25, nameIndex := 358, descriptorIndex := 339, attributes := #[] }, { accessFlags := 25, nameIndex := 361, descriptorIndex := 339, attributes := #[] }, { accessFlags := 26, nameIndex := 364, descriptorIndex := 339, attributes := #[] }, { accessFlags := 26, nameIndex := 365, descriptorIndex := 339, attributes := #[] }, { accessFlags := 26, nameIndex := 172, descriptorIndex := 173, attributes := #[] }, { accessFlags := 26, nameIndex := 176, descriptorIndex := 173, attributes := #[] }, { accessFlags := 8, nameIndex := 344, descriptorIndex := 339, attributes := #[] }, { accessFlags := 8, nameIndex := 338, descriptorIndex := 339, attributes := #[] }, { accessFlags := 4120, nameIndex := 245, descriptorIndex := 246, attributes := #[] }])
  fields := #[{ name := "E", type := .double, accessFlags := 25, slot := 0, constantValue := 0 }, { name := "PI", type := .double, accessFlags := 25, slot := 1, constantValue := 0 }, { name := "TAU", type := .double, accessFlags := 25, slot := 2, constantValue := 0 }, { name := "DEGREES_TO_RADIANS", type := .double, accessFlags := 26, slot := 3, constantValue := 0 }, { name := "RADIANS_TO_DEGREES", type := .double, accessFlags := 26, slot := 4, constantValue := 0 }, { name := "negativeZeroFloatBits", type := .long, accessFlags := 26, slot := 5, constantValue := 0 }, { name := "negativeZeroDoubleBits", type := .long, accessFlags := 26, slot := 6, constantValue := 0 }, { name := "twoToTheDoubleScaleUp", type := .double, accessFlags := 8, slot := 7, constantValue := 0 }, { name := "twoToTheDoubleScaleDown", type := .double, accessFlags := 8, slot := 8, constantValue := 0 }, { name := "$assertionsDisabled", type := .boolean, accessFlags := 4120, slot := 9, constantValue := 0 }]
  methods := #[k15m0, k15m1, k15m2]
  instanceTypes := #[]
  staticTypes := #[.double, .double, .double, .double, .double, .long, .long, .double, .double, .boolean]
  resolved := Array.replicate 460 none
  statics := none }

def pool16 : Array CpInfo := pool [(2, .class_ 4), (1, u "java/lang/Object"), (0, u "<init>"), (0, u "()V"), (7, .class_ 16), (1, u "java/util/Arrays"), (57, .class_ 76), (1, u "java/util/Arrays$NaturalOrder"), (36, .class_ 115), (1, u "java/util/Arrays$LegacyMergeSort"), (1, u "Z"), (32, .methodref 151 152), (0, .class_ 153), (0, .nameAndType 154 155), (0, u "java/lang/System"), (0, u "arraycopy"), (0, u "(Ljava/lang/Object;ILjava/lang/Object;II)V"), (146, u "copyOf"), (1, .methodref 305 306), (0, .class_ 307), (0, .nameAndType 308 309), (0, u "java/lang/Math"), (0, u "min"), (0, u "(II)I"), (65, .class_ 376), (0, u "java/util/Arrays$ArrayList"), (68, u "$assertionsDisabled"), (269, u "MIN_ARRAY_SORT_GRAN"), (0, u "I"), (2, u "INSERTIONSORT_THRESHOLD"), (151, u "([II)[I"), (103, .class_ 976), (0, u "java/util/Arrays$ArrayItr")] 52

def k16m0 : Method := { name := "<init>", desc := "()V", sig := { parameters := [], returnType := none }, accessFlags := 2, code := none }
def k16c1 : Code := { maxStack := 6, maxLocals := 3, code := jdk_65_method_123_code, exceptionTable := #[], attributes := #[] }
def k16m1 : Method := { name := "copyOf", desc := "([II)[I", sig := { parameters := [(.array .int), .int], returnType := some (.array .int) }, accessFlags := 9, code := some k16c1 }
/-- java/util/Arrays -/
def k16 : Class := { plain "java/util/Arrays" (some 0) with
  accessFlags := 49
  interfaces := #[]
  cf := some (fileOf pool16 14 #[.nestMembers #[975, 375, 113, 74]] #[{ accessFlags := 2, nameIndex := 5, descriptorIndex := 6, attributes := #[] }, { accessFlags := 9, nameIndex := 302, descriptorIndex := 871, attributes := #[] }] 49 2 #[] #[{ accessFlags := 26, nameIndex := 715, descriptorIndex := 716, attributes := #[] }, { accessFlags := 26, nameIndex := 719, descriptorIndex := 716, attributes := #[] }, { accessFlags := 4120, nameIndex := 445, descriptorIndex := 117, attributes := #[] }])
  fields := #[{ name := "MIN_ARRAY_SORT_GRAN", type := .int, accessFlags := 26, slot := 0, constantValue := 0 }, { name := "INSERTIONSORT_THRESHOLD", type := .int, accessFlags := 26, slot := 1, constantValue := 0 }, { name := "$assertionsDisabled", type := .boolean, accessFlags := 4120, slot := 2, constantValue := 0 }]
  methods := #[k16m0, k16m1]
  instanceTypes := #[]
  staticTypes := #[.int, .int, .boolean]
  resolved := Array.replicate 1029 none
  statics := none }

def pool17 : Array CpInfo := pool [(2, .class_ 4), (1, u "java/lang/Object"), (0, u "<init>"), (0, u "()V"), (1, .class_ 10), (1, u "java/lang/System"), (0, u "allowSecurityManager"), (0, u "I"), (16, u "cons"), (0, u "Ljava/io/Console;"), (77, .class_ 110), (1, u "java/lang/System$CallersHolder"), (43, u "initialErrStream"), (0, u "Ljava/io/PrintStream;"), (19, u "security"), (0, u "Ljava/lang/SecurityManager;"), (31, .class_ 209), (0, u "java/lang/System$1"), (7, u "props"), (0, u "Ljava/util/Properties;"), (2, u "lineSeparator"), (0, u "Ljava/lang/String;"), (96, .class_ 321), (1, u "java/lang/System$LoggerFinder"), (5, .class_ 328), (0, u "java/lang/System$Logger"), (67, u "err"), (2, u "out"), (91, u "notSupportedJnuEncoding"), (15, u "in"), (17, u "initialIn"), (0, u "Ljava/io/InputStream;"), (35, u "bootLayer"), (0, u "Ljava/lang/ModuleLayer;"), (99, .class_ 664), (0, u "java/lang/System$2"), (9, u "NEVER"), (2, u "MAYBE"), (49, u "arraycopy"), (0, u "(Ljava/lang/Object;ILjava/lang/Object;II)V"), (72, .class_ 802), (0, u "java/lang/System$Logger$Level")] 31

def k17m0 : Method := { name := "<init>", desc := "()V", sig := { parameters := [], returnType := none }, accessFlags := 2, code := none }
def k17m1 : Method := { name := "arraycopy", desc := "(Ljava/lang/Object;ILjava/lang/Object;II)V", sig := { parameters := [(.object "java/lang/Object"), .int, (.object "java/lang/Object"), .int, .int], returnType := none }, accessFlags := 265, code := none }
/-- java/lang/System -/
def k17 : Class := { plain "java/lang/System" (some 0) with
  accessFlags := 49
  interfaces := #[]
  cf := some (fileOf pool17 8 #[.nestMembers #[319, 327, 801, 108, 663, 208]] #[{ accessFlags := 2, nameIndex := 5, descriptorIndex := 6, attributes := #[] }, { accessFlags := 265, nameIndex := 727, descriptorIndex := 728, attributes := #[] }] 49 2 #[] #[{ accessFlags := 25, nameIndex := 507, descriptorIndex := 526, attributes := #[] }, { accessFlags := 25, nameIndex := 399, descriptorIndex := 155, attributes := #[] }, { accessFlags := 25, nameIndex := 396, descriptorIndex := 155, attributes := #[] }, { accessFlags := 10, nameIndex := 525, descriptorIndex := 526, attributes := #[] }, { accessFlags := 26, nameIndex := 674, descriptorIndex := 12, attributes := #[] }, { accessFlags := 26, nameIndex := 677, descriptorIndex := 12, attributes := #[] }, { accessFlags := 10, nameIndex := 11, descriptorIndex := 12, attributes := #[] }, { accessFlags := 74, nameIndex := 175, descriptorIndex := 176, attributes := #[] }, { accessFlags := 10, nameIndex := 491, descriptorIndex := 222, attributes := #[] }, { accessFlags := 74, nameIndex := 29, descriptorIndex := 30, attributes := #[] }, { accessFlags := 74, nameIndex := 154, descriptorIndex := 155, attributes := #[] }, { accessFlags := 10, nameIndex := 217, descriptorIndex := 218, attributes := #[] }, { accessFlags := 10, nameIndex := 221, descriptorIndex := 222, attributes := #[] }, { accessFlags := 8, nameIndex := 562, descriptorIndex := 563, attributes := #[] }])
  fields := #[{ name := "in", type := (.object "java/io/InputStream"), accessFlags := 25, slot := 0, constantValue := 0 }, { name := "out", type := (.object "java/io/PrintStream"), accessFlags := 25, slot := 1, constantValue := 0 }, { name := "err", type := (.object "java/io/PrintStream"), accessFlags := 25, slot := 2, constantValue := 0 }, { name := "initialIn", type := (.object "java/io/InputStream"), accessFlags := 10, slot := 3, constantValue := 0 }, { name := "NEVER", type := .int, accessFlags := 26, slot := 4, constantValue := 0 }, { name := "MAYBE", type := .int, accessFlags := 26, slot := 5, constantValue := 0 }, { name := "allowSecurityManager", type := .int, accessFlags := 10, slot := 6, constantValue := 0 }, { name := "security", type := (.object "java/lang/SecurityManager"), accessFlags := 74, slot := 7, constantValue := 0 }, { name := "notSupportedJnuEncoding", type := (.object "java/lang/String"), accessFlags := 10, slot := 8, constantValue := 0 }, { name := "cons", type := (.object "java/io/Console"), accessFlags := 74, slot := 9, constantValue := 0 }, { name := "initialErrStream", type := (.object "java/io/PrintStream"), accessFlags := 74, slot := 10, constantValue := 0 }, { name := "props", type := (.object "java/util/Properties"), accessFlags := 10, slot := 11, constantValue := 0 }, { name := "lineSeparator", type := (.object "java/lang/String"), accessFlags := 10, slot := 12, constantValue := 0 }, { name := "bootLayer", type := (.object "java/lang/ModuleLayer"), accessFlags := 8, slot := 13, constantValue := 0 }]
  methods := #[k17m0, k17m1]
  instanceTypes := #[]
  staticTypes := #[(.object "java/io/InputStream"), (.object "java/io/PrintStream"), (.object "java/io/PrintStream"), (.object "java/io/InputStream"), .int, .int, .int, (.object "java/lang/SecurityManager"), (.object "java/lang/String"), (.object "java/io/Console"), (.object "java/io/PrintStream"), (.object "java/util/Properties"), (.object "java/lang/String"), (.object "java/lang/ModuleLayer")]
  resolved := Array.replicate 834 none
  statics := none }

def pool18 : Array CpInfo := pool [(1, .methodref 2 3), (0, .class_ 4), (0, .nameAndType 5 6), (0, u "java/lang/Object"), (0, u "<init>"), (0, u "()V"), (0, .class_ 8), (0, u "com/example/racewright/racewright/happensbefore/Location"), (0, .fieldref 7 10), (0, .nameAndType 11 12), (0, u "unscheduledReader"), (0, u "I"), (12, u "racedWithLastWrite"), (0, u "Ljava/util/BitSet;"), (3, .fieldref 31 32), (0, .class_ 33), (0, .nameAndType 34 12), (0, u "com/example/racewright/racewright/happensbefore/ThreadState"), (0, u "id"), (6, u "lastWrite"), (0, u "Lcom/example/racewright/racewright/happensbefore/Location$Write;"), (4, .class_ 49), (1, u "com/example/racewright/racewright/happensbefore/Location$Write"), (11, u "Lcom/example/racewright/racewright/happensbefore/VectorClock;"), (18, u "beforeAdditions"), (9, .fieldref 7 91), (0, .nameAndType 92 93), (0, u "readScheduled"), (0, u "Z"), (0, .fieldref 31 95), (0, .nameAndType 96 93), (0, u "unscheduled"), (6, u "releases"), (6, u "releasesBeyondAdditions"), (15, u "NO_READER"), (2, u "READERS"), (8, u "read"), (0, u "(Lcom/example/racewright/racewright/happensbefore/ThreadState;)V"), (0, u "readAcross"), (0, u "(IZ)Z")] 11

def k18c0 : Code := { maxStack := 2, maxLocals := 1, code := prog_47_method_1_code, exceptionTable := #[], attributes := #[] }
def k18m0 : Method := { name := "<init>", desc := "()V", sig := { parameters := [], returnType := none }, accessFlags := 0, code := some k18c0 }
def k18c1 : Code := { maxStack := 2, maxLocals := 2, code := prog_47_method_5_code, exceptionTable := #[], attributes := #[] }
def k18m1 : Method := { name := "read", desc := "(Lcom/example/racewright/racewright/happensbefore/ThreadState;)V", sig := { parameters := [(.object "com/example/racewright/racewright/happensbefore/ThreadState")], returnType := none }, accessFlags := 0, code := some k18c1 }
def k18c2 : Code := { maxStack := 2, maxLocals := 4, code := prog_47_method_6_code, exceptionTable := #[], attributes := #[] }
def k18m2 : Method := { name := "readAcross", desc := "(IZ)Z", sig := { parameters := [.int, .boolean], returnType := some .boolean }, accessFlags := 0, code := some k18c2 }
/-- com/example/racewright/racewright/happensbefore/Location -/
def k18 : Class := { plain "com/example/racewright/racewright/happensbefore/Location" (some 0) with
  accessFlags := 48
  interfaces := #[]
  cf := some (fileOf pool18 7 #[.nestMembers #[47]] #[{ accessFlags := 0, nameIndex := 5, descriptorIndex := 6, attributes := #[] }, { accessFlags := 0, nameIndex := 138, descriptorIndex := 139, attributes := #[] }, { accessFlags := 0, nameIndex := 140, descriptorIndex := 141, attributes := #[] }] 48 2 #[] #[{ accessFlags := 26, nameIndex := 126, descriptorIndex := 12, attributes := #[] }, { accessFlags := 26, nameIndex := 129, descriptorIndex := 12, attributes := #[] }, { accessFlags := 2, nameIndex := 41, descriptorIndex := 42, attributes := #[] }, { accessFlags := 2, nameIndex := 80, descriptorIndex := 42, attributes := #[] }, { accessFlags := 2, nameIndex := 25, descriptorIndex := 26, attributes := #[] }, { accessFlags := 2, nameIndex := 92, descriptorIndex := 93, attributes := #[] }, { accessFlags := 2, nameIndex := 11, descriptorIndex := 12, attributes := #[] }, { accessFlags := 2, nameIndex := 103, descriptorIndex := 61, attributes := #[] }, { accessFlags := 2, nameIndex := 110, descriptorIndex := 61, attributes := #[] }])
  fields := #[{ name := "NO_READER", type := .int, accessFlags := 26, slot := 0, constantValue := 0 }, { name := "READERS", type := .int, accessFlags := 26, slot := 1, constantValue := 0 }, { name := "lastWrite", type := (.object "com/example/racewright/racewright/happensbefore/Location$Write"), accessFlags := 2, slot := 0, constantValue := 0 }, { name := "beforeAdditions", type := (.object "com/example/racewright/racewright/happensbefore/Location$Write"), accessFlags := 2, slot := 1, constantValue := 0 }, { name := "racedWithLastWrite", type := (.object "java/util/BitSet"), accessFlags := 2, slot := 2, constantValue := 0 }, { name := "readScheduled", type := .boolean, accessFlags := 2, slot := 3, constantValue := 0 }, { name := "unscheduledReader", type := .int, accessFlags := 2, slot := 4, constantValue := 0 }, { name := "releases", type := (.object "com/example/racewright/racewright/happensbefore/VectorClock"), accessFlags := 2, slot := 5, constantValue := 0 }, { name := "releasesBeyondAdditions", type := (.object "com/example/racewright/racewright/happensbefore/VectorClock"), accessFlags := 2, slot := 6, constantValue := 0 }]
  methods := #[k18m0, k18m1, k18m2]
  instanceTypes := #[(.object "com/example/racewright/racewright/happensbefore/Location$Write"), (.object "com/example/racewright/racewright/happensbefore/Location$Write"), (.object "java/util/BitSet"), .boolean, .int, (.object "com/example/racewright/racewright/happensbefore/VectorClock"), (.object "com/example/racewright/racewright/happensbefore/VectorClock")]
  staticTypes := #[.int, .int]
  resolved := Array.replicate 153 none
  statics := none }

/-- the primitive byte -/
def k19 : Class := { plain "byte" none with kind := .primitive 'B', accessFlags := 0x411 }
/-- [B -/
def k20 : Class := { plain "[B" (some 0) with kind := .array 19 .byte, interfaces := #[9, 10], accessFlags := 1041 }

/-- the primitive int -/
def k21 : Class := { plain "int" none with kind := .primitive 'I', accessFlags := 0x411 }
/-- [I -/
def k22 : Class := { plain "[I" (some 0) with kind := .array 21 .int, interfaces := #[9, 10], accessFlags := 1041 }

def heap : Heap := #[]
def classes : Array Class := #[k0, k1, k2, k3, k4, k5, k6, k7, k8, k9, k10, k11, k12, k13, k14, k15, k16, k17, k18, k19, k20, k21, k22]
def interned : List (Array UInt16 × Addr) := []
def slotsUsed : Nat := 0
def theMethod : MethodId := ⟨1, 1⟩
def args0 : Array Value := #[.int 5, .int 6, .int 7, .int 8, .int 31]
def aboutOver (below : List Frame) : State where
  vm := { classes := classes, interned := interned.toArray }
  heap := heap
  slotsUsed := slotsUsed
  threads := #[{ frames := .invoking theMethod args0 :: below }]
def below0 : List Frame := [.native { method := ⟨0, 0⟩, args := #[] }]
def about1 : State := aboutOver below0
def p0 : Program := .bare "" "" ""
def e0 : Env := launch0.env 0 0 0
theorem w_frames : about1.frames = Frame.invoking theMethod args0 :: below0 := rfl
set_option maxRecDepth 65536 in
theorem w_args : argsFit about1.vm theMethod args0 = true := by decide +kernel
set_option maxRecDepth 65536 in
theorem w_heap : heapFits about1 = true := by decide +kernel
set_option maxRecDepth 65536 in
theorem w_runnable : about1.curStatus? = some .runnable := by decide +kernel
set_option maxRecDepth 65536 in
theorem w_alone : about1.alone = true := by decide +kernel
set_option maxRecDepth 65536 in
theorem w_named : about1.methodNamed? x = some theMethod := by decide +kernel
set_option maxRecDepth 65536 in
theorem w_hears : about1.hears theMethod below0 = true := by decide +kernel
set_option maxRecDepth 65536 in
theorem w_ripe : about1.ripe theMethod args0 below0 = true := by decide +kernel
theorem w_running : about1.status = .running := rfl
set_option maxRecDepth 65536 in
theorem w_room : about1.hasRoom e0.platform room_1 = true :=
  launch0.hasRoom_least _ room_1 (by decide +kernel) (by decide +kernel) (by decide +kernel) (by decide +kernel) (by decide +kernel) (by decide +kernel)
theorem allAtoms_all (ts : List Jvm.Cond) (a : Array Jvm.Value) (st : Jvm.State) : (allAtoms ts).before a st = ts.all (fun c => c.before a st) := by
  induction ts with
  | nil => rfl
  | cons c t ih =>
    show (Jvm.Cond.and c (allAtoms t)).before a st = _
    rw [Jvm.Cond.before_and, ih, List.all_cons]
def words1 : List Jvm.Cond := Jvm.Cond.code x code maxLocals ret :: tables_1
/-- a 'code' word, met by the world's own term for the bytes: nothing is compared byte by byte -/
theorem code_word {y : MethodName} {bytes : ByteArray} {mx : Nat} {rt : Option FieldType} {a : Array Value} {s : State} {m : MethodId} {meth : Method} {c : Code} (h1 : s.methodNamed? y = some m) (h2 : s.vm.method? m = some meth) (h3 : meth.code = some c) (h4 : c.code = bytes)
    (h5 : (c.maxLocals == mx && c.exceptionTable.isEmpty && decide (c.maxStack ≤ mostOperands) && decide (meth.sig.returnType = rt) && !meth.locks && decide (parseMethodDescriptor y.desc = some meth.sig)) = true) : (Jvm.Cond.code y bytes mx rt).before a s = true := by
  simp only [Bool.and_eq_true, beq_iff_eq, Bool.not_eq_true', decide_eq_true_eq] at h5
  obtain ⟨⟨⟨⟨⟨g1, g2⟩, g3⟩, g4⟩, g5⟩, g6⟩ := h5
  simp [Cond.before, Cond.holds, Cond.value, h1, h2, h3, h4, g1, g2, g3, g4, g5, g6]
def isCode : Jvm.Cond → Bool
  | .code _ _ _ _ => true
  | _ => false
theorem all_split {L : List Jvm.Cond} {P : Jvm.Cond → Bool} (h1 : L.all (fun c => isCode c || P c) = true) (h2 : ∀ c ∈ L.filter isCode, P c = true) : L.all P = true := by
  refine List.all_eq_true.mpr fun c hc => ?_
  have h := List.all_eq_true.mp h1 c hc
  rcases Bool.eq_false_or_eq_true (isCode c) with hi | hi
  · exact h2 c (List.mem_filter.mpr ⟨hc, hi⟩)
  · simpa [hi] using h
set_option maxRecDepth 65536 in
theorem w_c0 : (Jvm.Cond.code x code maxLocals ret).before args0 about1 = true := code_word (m := ⟨1, 1⟩) (meth := k1m1) (c := k1c1) (by decide +kernel) rfl rfl rfl (by decide +kernel)
set_option maxRecDepth 65536 in
theorem w_c1 : (Jvm.Cond.code ({ cls := "com/example/racewright/racewright/happensbefore/VectorClock", name := "<init>", desc := "()V" } : Jvm.MethodName) prog_63_method_1_code (1 : Nat) (Option.none : Option Jvm.ClassFile.FieldType)).before args0 about1 = true := code_word (m := ⟨2, 0⟩) (meth := k2m0) (c := k2c0) (by decide +kernel) rfl rfl rfl (by decide +kernel)
set_option maxRecDepth 65536 in
theorem w_c2 : (Jvm.Cond.code ({ cls := "java/lang/Object", name := "<init>", desc := "()V" } : Jvm.MethodName) object_method_1_code (1 : Nat) (Option.none : Option Jvm.ClassFile.FieldType)).before args0 about1 = true := code_word (m := ⟨0, 0⟩) (meth := k0m0) (c := k0c0) (by decide +kernel) rfl rfl rfl (by decide +kernel)
set_option maxRecDepth 65536 in
theorem w_c3 : (Jvm.Cond.code ({ cls := "com/example/racewright/racewright/happensbefore/ThreadState", name := "<init>", desc := "(ILcom/example/racewright/racewright/happensbefore/VectorClock;Z)V" } : Jvm.MethodName) prog_61_method_1_code (4 : Nat) (Option.none : Option Jvm.ClassFile.FieldType)).before args0 about1 = true := code_word (m := ⟨3, 0⟩) (meth := k3m0) (c := k3c0) (by decide +kernel) rfl rfl rfl (by decide +kernel)
set_option maxRecDepth 65536 in
theorem w_c4 : (Jvm.Cond.code ({ cls := "java/util/HashSet", name := "<init>", desc := "()V" } : Jvm.MethodName) jdk_93_method_1_code (1 : Nat) (Option.none : Option Jvm.ClassFile.FieldType)).before args0 about1 = true := code_word (m := ⟨11, 0⟩) (meth := k11m0) (c := k11c0) (by decide +kernel) rfl rfl rfl (by decide +kernel)
set_option maxRecDepth 65536 in
theorem w_c5 : (Jvm.Cond.code ({ cls := "java/util/AbstractSet", name := "<init>", desc := "()V" } : Jvm.MethodName) jdk_91_method_1_code (1 : Nat) (Option.none : Option Jvm.ClassFile.FieldType)).before args0 about1 = true := code_word (m := ⟨8, 0⟩) (meth := k8m0) (c := k8c0) (by decide +kernel) rfl rfl rfl (by decide +kernel)
set_option maxRecDepth 65536 in
theorem w_c6 : (Jvm.Cond.code ({ cls := "java/util/AbstractCollection", name := "<init>", desc := "()V" } : Jvm.MethodName) jdk_22_method_1_code (1 : Nat) (Option.none : Option Jvm.ClassFile.FieldType)).before args0 about1 = true := code_word (m := ⟨6, 0⟩) (meth := k6m0) (c := k6c0) (by decide +kernel) rfl rfl rfl (by decide +kernel)
set_option maxRecDepth 65536 in
theorem w_c7 : (Jvm.Cond.code ({ cls := "java/util/HashMap", name := "<init>", desc := "()V" } : Jvm.MethodName) jdk_69_method_7_code (1 : Nat) (Option.none : Option Jvm.ClassFile.FieldType)).before args0 about1 = true := code_word (m := ⟨14, 0⟩) (meth := k14m0) (c := k14c0) (by decide +kernel) rfl rfl rfl (by decide +kernel)
set_option maxRecDepth 65536 in
theorem w_c8 : (Jvm.Cond.code ({ cls := "java/util/AbstractMap", name := "<init>", desc := "()V" } : Jvm.MethodName) jdk_71_method_1_code (1 : Nat) (Option.none : Option Jvm.ClassFile.FieldType)).before args0 about1 = true := code_word (m := ⟨13, 0⟩) (meth := k13m0) (c := k13c0) (by decide +kernel) rfl rfl rfl (by decide +kernel)
set_option maxRecDepth 65536 in
theorem w_c9 : (Jvm.Cond.code ({ cls := "com/example/racewright/racewright/happensbefore/VectorClock", name := "set", desc := "(II)V" } : Jvm.MethodName) prog_63_method_4_code (3 : Nat) (Option.none : Option Jvm.ClassFile.FieldType)).before args0 about1 = true := code_word (m := ⟨2, 1⟩) (meth := k2m1) (c := k2c1) (by decide +kernel) rfl rfl rfl (by decide +kernel)
set_option maxRecDepth 65536 in
theorem w_c10 : (Jvm.Cond.code ({ cls := "com/example/racewright/racewright/happensbefore/VectorClock", name := "set", desc := "([III)[I" } : Jvm.MethodName) prog_63_method_10_code (4 : Nat) (Option.some (Jvm.ClassFile.FieldType.array Jvm.ClassFile.FieldType.int))).before args0 about1 = true := code_word (m := ⟨2, 2⟩) (meth := k2m2) (c := k2c2) (by decide +kernel) rfl rfl rfl (by decide +kernel)
set_option maxRecDepth 65536 in
theorem w_c11 : (Jvm.Cond.code ({ cls := "java/lang/Math", name := "max", desc := "(II)I" } : Jvm.MethodName) jdk_29_method_65_code (2 : Nat) (Option.some Jvm.ClassFile.FieldType.int)).before args0 about1 = true := code_word (m := ⟨15, 1⟩) (meth := k15m1) (c := k15c1) (by decide +kernel) rfl rfl rfl (by decide +kernel)
set_option maxRecDepth 65536 in
theorem w_c12 : (Jvm.Cond.code ({ cls := "java/util/Arrays", name := "copyOf", desc := "([II)[I" } : Jvm.MethodName) jdk_65_method_123_code (3 : Nat) (Option.some (Jvm.ClassFile.FieldType.array Jvm.ClassFile.FieldType.int))).before args0 about1 = true := code_word (m := ⟨16, 1⟩) (meth := k16m1) (c := k16c1) (by decide +kernel) rfl rfl rfl (by decide +kernel)
set_option maxRecDepth 65536 in
theorem w_c13 : (Jvm.Cond.code ({ cls := "java/lang/Math", name := "min", desc := "(II)I" } : Jvm.MethodName) jdk_29_method_69_code (2 : Nat) (Option.some Jvm.ClassFile.FieldType.int)).before args0 about1 = true := code_word (m := ⟨15, 2⟩) (meth := k15m2) (c := k15c2) (by decide +kernel) rfl rfl rfl (by decide +kernel)
set_option maxRecDepth 65536 in
theorem w_c14 : (Jvm.Cond.code ({ cls := "com/example/racewright/racewright/happensbefore/Location", name := "<init>", desc := "()V" } : Jvm.MethodName) prog_47_method_1_code (1 : Nat) (Option.none : Option Jvm.ClassFile.FieldType)).before args0 about1 = true := code_word (m := ⟨18, 0⟩) (meth := k18m0) (c := k18c0) (by decide +kernel) rfl rfl rfl (by decide +kernel)
set_option maxRecDepth 65536 in
theorem w_c15 : (Jvm.Cond.code ({ cls := "com/example/racewright/racewright/happensbefore/Location", name := "readAcross", desc := "(IZ)Z" } : Jvm.MethodName) prog_47_method_6_code (4 : Nat) (Option.some Jvm.ClassFile.FieldType.boolean)).before args0 about1 = true := code_word (m := ⟨18, 2⟩) (meth := k18m2) (c := k18c2) (by decide +kernel) rfl rfl rfl (by decide +kernel)
set_option maxRecDepth 65536 in
theorem w_c16 : (Jvm.Cond.code ({ cls := "com/example/racewright/racewright/happensbefore/Location", name := "read", desc := "(Lcom/example/racewright/racewright/happensbefore/ThreadState;)V" } : Jvm.MethodName) prog_47_method_5_code (2 : Nat) (Option.none : Option Jvm.ClassFile.FieldType)).before args0 about1 = true := code_word (m := ⟨18, 1⟩) (meth := k18m1) (c := k18c1) (by decide +kernel) rfl rfl rfl (by decide +kernel)
def codes1 : List Jvm.Cond := [Jvm.Cond.code x code maxLocals ret, Jvm.Cond.code ({ cls := "com/example/racewright/racewright/happensbefore/VectorClock", name := "<init>", desc := "()V" } : Jvm.MethodName) prog_63_method_1_code (1 : Nat) (Option.none : Option Jvm.ClassFile.FieldType), Jvm.Cond.code ({ cls := "java/lang/Object", name := "<init>", desc := "()V" } : Jvm.MethodName) object_method_1_code (1 : Nat) (Option.none : Option Jvm.ClassFile.FieldType), Jvm.Cond.code ({ cls := "com/example/racewright/racewright/happensbefore/ThreadState", name := "<init>", desc := "(ILcom/example/racewright/racewright/happensbefore/VectorClock;Z)V" } : Jvm.MethodName) prog_61_method_1_code (4 : Nat) (Option.none : Option Jvm.ClassFile.FieldType), Jvm.Cond.code ({ cls := "java/util/HashSet", name := "<init>", desc := "()V" } : Jvm.MethodName) jdk_93_method_1_code (1 : Nat) (Option.none : Option Jvm.ClassFile.FieldType), Jvm.Cond.code ({ cls := "java/util/AbstractSet", name := "<init>", desc := "()V" } : Jvm.MethodName) jdk_91_method_1_code (1 : Nat) (Option.none : Option Jvm.ClassFile.FieldType), Jvm.Cond.code ({ cls := "java/util/AbstractCollection", name := "<init>", desc := "()V" } : Jvm.MethodName) jdk_22_method_1_code (1 : Nat) (Option.none : Option Jvm.ClassFile.FieldType), Jvm.Cond.code ({ cls := "java/util/HashMap", name := "<init>", desc := "()V" } : Jvm.MethodName) jdk_69_method_7_code (1 : Nat) (Option.none : Option Jvm.ClassFile.FieldType), Jvm.Cond.code ({ cls := "java/util/AbstractMap", name := "<init>", desc := "()V" } : Jvm.MethodName) jdk_71_method_1_code (1 : Nat) (Option.none : Option Jvm.ClassFile.FieldType), Jvm.Cond.code ({ cls := "com/example/racewright/racewright/happensbefore/VectorClock", name := "set", desc := "(II)V" } : Jvm.MethodName) prog_63_method_4_code (3 : Nat) (Option.none : Option Jvm.ClassFile.FieldType), Jvm.Cond.code ({ cls := "com/example/racewright/racewright/happensbefore/VectorClock", name := "set", desc := "([III)[I" } : Jvm.MethodName) prog_63_method_10_code (4 : Nat) (Option.some (Jvm.ClassFile.FieldType.array Jvm.ClassFile.FieldType.int)), Jvm.Cond.code ({ cls := "java/lang/Math", name := "max", desc := "(II)I" } : Jvm.MethodName) jdk_29_method_65_code (2 : Nat) (Option.some Jvm.ClassFile.FieldType.int), Jvm.Cond.code ({ cls := "java/util/Arrays", name := "copyOf", desc := "([II)[I" } : Jvm.MethodName) jdk_65_method_123_code (3 : Nat) (Option.some (Jvm.ClassFile.FieldType.array Jvm.ClassFile.FieldType.int)), Jvm.Cond.code ({ cls := "java/lang/Math", name := "min", desc := "(II)I" } : Jvm.MethodName) jdk_29_method_69_code (2 : Nat) (Option.some Jvm.ClassFile.FieldType.int), Jvm.Cond.code ({ cls := "com/example/racewright/racewright/happensbefore/Location", name := "<init>", desc := "()V" } : Jvm.MethodName) prog_47_method_1_code (1 : Nat) (Option.none : Option Jvm.ClassFile.FieldType), Jvm.Cond.code ({ cls := "com/example/racewright/racewright/happensbefore/Location", name := "readAcross", desc := "(IZ)Z" } : Jvm.MethodName) prog_47_method_6_code (4 : Nat) (Option.some Jvm.ClassFile.FieldType.boolean), Jvm.Cond.code ({ cls := "com/example/racewright/racewright/happensbefore/Location", name := "read", desc := "(Lcom/example/racewright/racewright/happensbefore/ThreadState;)V" } : Jvm.MethodName) prog_47_method_5_code (2 : Nat) (Option.none : Option Jvm.ClassFile.FieldType)]
set_option maxRecDepth 65536 in
theorem codes_eq : words1.filter isCode = codes1 := rfl
theorem w_codes : ∀ c ∈ words1.filter isCode, c.before args0 about1 = true := by
  rw [codes_eq]
  intro c hc
  simp only [codes1, List.mem_cons, List.not_mem_nil, or_false] at hc
  rcases hc with rfl | rfl | rfl | rfl | rfl | rfl | rfl | rfl | rfl | rfl | rfl | rfl | rfl | rfl | rfl | rfl | rfl
  · exact w_c0
  · exact w_c1
  · exact w_c2
  · exact w_c3
  · exact w_c4
  · exact w_c5
  · exact w_c6
  · exact w_c7
  · exact w_c8
  · exact w_c9
  · exact w_c10
  · exact w_c11
  · exact w_c12
  · exact w_c13
  · exact w_c14
  · exact w_c15
  · exact w_c16
set_option maxRecDepth 65536 in
theorem w_t1 : (words1.take 24).all (fun c => isCode c || c.before args0 about1) = true := by decide +kernel
set_option maxRecDepth 65536 in
theorem w_t2 : ((words1.drop 24).take 24).all (fun c => isCode c || c.before args0 about1) = true := by decide +kernel
set_option maxRecDepth 65536 in
theorem w_t3 : (((words1.drop 24).drop 24).take 24).all (fun c => isCode c || c.before args0 about1) = true := by decide +kernel
set_option maxRecDepth 65536 in
theorem w_t4 : ((((words1.drop 24).drop 24).drop 24).take 24).all (fun c => isCode c || c.before args0 about1) = true := by decide +kernel
set_option maxRecDepth 65536 in
theorem w_t5 : ((((words1.drop 24).drop 24).drop 24).drop 24).all (fun c => isCode c || c.before args0 about1) = true := by decide +kernel
theorem w_tables : (allAtoms (Jvm.Cond.code x code maxLocals ret :: tables_1)).before args0 about1 = true := by
  rw [allAtoms_all]
  show words1.all (fun c => c.before args0 about1) = true
  refine all_split ?_ w_codes
  rw [← List.take_append_drop 24 words1, List.all_append, w_t1, ← List.take_append_drop 24 (words1.drop 24), List.all_append, w_t2, ← List.take_append_drop 24 ((words1.drop 24).drop 24), List.all_append, w_t3, ← List.take_append_drop 24 (((words1.drop 24).drop 24).drop 24), List.all_append, w_t4, w_t5]
  rfl
set_option maxRecDepth 65536 in
theorem w_case : (Jvm.Cond.and given_1 narrow_1).before args0 about1 = true := by decide +kernel
theorem w_applies : (headSpec (Jvm.Cond.code x code maxLocals ret :: tables_1) room_1).applies x e0.platform about1 = true :=
  (Spec.applies_iff w_frames).mpr ⟨w_running, w_runnable, w_alone, w_named, w_hears, w_ripe, w_room, w_tables⟩
theorem atStart : AtStart classFile x code maxLocals ret World_1 tables_1 room_1 Calls_1 rest_1 Pre_1 launch0 p0 e0 about1 theMethod args0 below0 :=
  ⟨lists_1, trivial, launch0.admits_env _ _ _, launch0.least_env, fairChoices_fair.cas, fairChoices_fair.clock, w_frames, w_args, w_heap, w_applies, trivial, trivial, w_case⟩
end start1
theorem witness_1 : WitnessClaimed_1 := ⟨start1.p0, start1.e0, start1.about1, start1.theMethod, start1.args0, start1.below0, start1.atStart⟩
end Jvm.Pilot.@@N@@
