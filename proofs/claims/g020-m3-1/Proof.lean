import JvmDerived
import JvmDerived.Pilot.@@N@@Statement
import JvmDerived.Pilot.@@N@@Code
set_option linter.unusedVariables false
set_option linter.unusedSimpArgs false
namespace Jvm.Pilot.@@N@@
open Jvm Jvm.ClassFile Sem Op Lib Jvm.Free Jvm.Stand Jvm.LawKit Jvm.RoadKit Bundle Jvm.Pilot.@@N@@.Jvm.D
section OwnKit
variable {Z : State} {p : Program} {l : Launch} {e : Env} {R : Room} {s : State} {m : MethodId} {args : Array Value} {below : List Frame} {meth : Method} {c : Code} {n0 : Nat} {own : String} {bytes : ByteArray} {maxL : Nat} {nm : String} {ret : Option FieldType} {T : State} {h : Heap} {cells slots : Nat} {G : Outcome → State → Prop} {L : Array Slot} {st : List Value} {pc pc' : Nat} {a0 : Array Value}
def own_Fin (p : Program) (e : Env) (below : List Frame) (G : Outcome → State → Prop) (t : State) : Prop :=
  ∃ s₂ o, Steps p.tables e below t s₂ ∧ s₂.status = .running ∧ Ended s₂ below o ∧ G o s₂
theorem own_go {a a' : State} (k : ∀ t, Steps p.tables e below a' t → Steps p.tables e below a t) (q : own_Fin p e below G a') : own_Fin p e below G a := by
  obtain ⟨s2, o, h1, h2⟩ := q
  exact ⟨s2, o, k _ h1, h2⟩
def own_Cx (Z : State) (p : Program) (l : Launch) (e : Env) (R : Room) (s : State) (m : MethodId) (args : Array Value) (below : List Frame) (meth : Method) (c : Code) (n0 : Nat) (own : String) (bytes : ByteArray) (maxL : Nat) (nm : String) (ret : Option FieldType) (T : State) (h : Heap) (cells slots : Nat) : Prop :=
  ∃ locs, Stand p l e R s m args below meth c T locs cells slots ∧ Fr n0 locs ∧ T.heap = h ∧ p.tables.exec = Jvm.exec ∧ Z.Warmed39 s.vm ∧ s.vm.findClass own = some m.cls ∧ c.code = bytes ∧ c.maxLocals = maxL ∧ meth.name = nm ∧ meth.sig.returnType = ret ∧ meth.locks = false
def own_End (s : State) (n0 : Nat) (q : Option Value → Heap → Prop) (k n : Nat) (o : Outcome) (U' : State) : Prop :=
  ∃ v L, o = .returned v ∧ (q v U'.heap ∧ Fr n0 L) ∧ FrameEnd s o U' L k n
def own_Met (l : Launch) (Z : State) (y : MethodName) (bytes : ByteArray) (maxL : Nat) (ret : Option FieldType) (ws : List Jvm.Cond) (rm : Room) (as' : Array Value) (h0 : Heap) (n0 : Nat) (q : Option Value → Heap → Prop) : Prop :=
  MetFree l y (head1 (Jvm.Cond.code y bytes maxL ret :: ws) rm) (fun a U => a = as' ∧ Z.Warmed39 U.vm ∧ U.heap = h0) (fun _ _ _ _ _ => True) (fun _ U o U' => own_End U n0 q rm.cells rm.slots o U')
theorem own_enter {y : MethodName} {ws : List Jvm.Cond} {rm : Room} {as' : Array Value} {h0 : Heap} {q : Option Value → Heap → Prop} {L0 : Array Slot} {own nm : String} (ho : y.cls = own) (hnm0 : y.name = nm) (pn : plainFor y = true) (ef : ∀ m, entryFrame m as' maxL = mkF m 0 L0 [])
    (body : ∀ p e s m below meth c T, own_Cx Z p l e rm s m as' below meth c n0 own bytes maxL nm ret T h0 0 0 → own_Fin p e below (own_End s n0 q rm.cells rm.slots) (T.setTop (mkF m 0 L0 []))) :
    own_Met l Z y bytes maxL ret ws rm as' h0 n0 q := by
  subst ho hnm0
  refine MetFree.of_bodySF pn hisR ?_
  intro p e s m args below meth c s₁ Bd hml0 hP hK
  obtain ⟨rfl, hZ, hh⟩ := hP
  have hnm := (name_of_methodNamed Bd.named Bd.method).1
  have e0 : s₁.heap = h0 := by rw [← hh, Bd.state]; rfl
  obtain ⟨s2, o, k1, k2, k3, k4⟩ := body p e s m below meth c s₁ ⟨[], Stand.of_body Bd, Fr.nil _, e0, Bd.exec, hZ, findClass_of_methodNamed Bd.named, Bd.bytes, hml0, hnm, Bd.returns, Bd.notSynchronized⟩
  exact ⟨s2, o, castTop (ef m) k1, k2, k3, k4⟩
theorem own_iload (X : own_Cx Z p l e R s m args below meth c n0 own bytes maxL nm ret T h cells slots) {k : Nat} {v : Int32} (d : decode bytes pc = .ok (.iload k, 2)) (hp : pc + 2 = pc') (hl : L[k]? = some (.val (.int v)))
    (q : own_Fin p e below G (T.setTop (mkF m pc' L ((.int v) :: st)))) : own_Fin p e below G (T.setTop (mkF m pc L (st))) := by
  obtain ⟨locs, X, N, eT, hx, hZ, hown, hby, hml, hnm, hret, hlk⟩ := X
  subst hp
  exact own_go (fun t k => XS.iload X.here hx rfl (hb hby d) hl k) q
theorem own_lload (X : own_Cx Z p l e R s m args below meth c n0 own bytes maxL nm ret T h cells slots) {k : Nat} {v : Int64} (d : decode bytes pc = .ok (.lload k, 2)) (hp : pc + 2 = pc') (hl : L[k]? = some (.val (.long v)))
    (q : own_Fin p e below G (T.setTop (mkF m pc' L ((.long v) :: st)))) : own_Fin p e below G (T.setTop (mkF m pc L (st))) := by
  obtain ⟨locs, X, N, eT, hx, hZ, hown, hby, hml, hnm, hret, hlk⟩ := X
  subst hp
  exact own_go (fun t k => XT.lload X.here hx rfl (hb hby d) hl k) q
theorem own_iloadN (X : own_Cx Z p l e R s m args below meth c n0 own bytes maxL nm ret T h cells slots) {k : Fin 4} {v : Int32} (d : decode bytes pc = .ok (.iload_n k, 1)) (hp : pc + 1 = pc') (hl : L[k.val]? = some (.val (.int v)))
    (q : own_Fin p e below G (T.setTop (mkF m pc' L ((.int v) :: st)))) : own_Fin p e below G (T.setTop (mkF m pc L (st))) := by
  obtain ⟨locs, X, N, eT, hx, hZ, hown, hby, hml, hnm, hret, hlk⟩ := X
  subst hp
  exact own_go (fun t k => XS.iloadN X.here hx rfl (hb hby d) hl k) q
theorem own_lloadN (X : own_Cx Z p l e R s m args below meth c n0 own bytes maxL nm ret T h cells slots) {k : Fin 4} {v : Int64} (d : decode bytes pc = .ok (.lload_n k, 1)) (hp : pc + 1 = pc') (hl : L[k.val]? = some (.val (.long v)))
    (q : own_Fin p e below G (T.setTop (mkF m pc' L ((.long v) :: st)))) : own_Fin p e below G (T.setTop (mkF m pc L (st))) := by
  obtain ⟨locs, X, N, eT, hx, hZ, hown, hby, hml, hnm, hret, hlk⟩ := X
  subst hp
  exact own_go (fun t k => XT.lloadN X.here hx rfl (hb hby d) hl k) q
theorem own_aload (X : own_Cx Z p l e R s m args below meth c n0 own bytes maxL nm ret T h cells slots) {k : Nat} {v : Value} (d : decode bytes pc = .ok (.aload k, 2)) (hp : pc + 2 = pc') (hl : L[k]? = some (.val v)) (hv : v.isRef = true)
    (q : own_Fin p e below G (T.setTop (mkF m pc' L (v :: st)))) : own_Fin p e below G (T.setTop (mkF m pc L (st))) := by
  obtain ⟨locs, X, N, eT, hx, hZ, hown, hby, hml, hnm, hret, hlk⟩ := X
  subst hp
  exact own_go (fun t k => XS.aload X.here hx rfl (hb hby d) hl hv k) q
theorem own_aloadN (X : own_Cx Z p l e R s m args below meth c n0 own bytes maxL nm ret T h cells slots) {k : Fin 4} {v : Value} (d : decode bytes pc = .ok (.aload_n k, 1)) (hp : pc + 1 = pc') (hl : L[k.val]? = some (.val v)) (hv : v.isRef = true)
    (q : own_Fin p e below G (T.setTop (mkF m pc' L (v :: st)))) : own_Fin p e below G (T.setTop (mkF m pc L (st))) := by
  obtain ⟨locs, X, N, eT, hx, hZ, hown, hby, hml, hnm, hret, hlk⟩ := X
  subst hp
  exact own_go (fun t k => XS.aloadN X.here hx rfl (hb hby d) hl hv k) q
theorem own_istore (X : own_Cx Z p l e R s m args below meth c n0 own bytes maxL nm ret T h cells slots) {k : Nat} {v : Int32} {L' : Array Slot} (d : decode bytes pc = .ok (.istore k, 2)) (hp : pc + 2 = pc') (hl : storeLocals L k (.int v) = some L')
    (q : own_Fin p e below G (T.setTop (mkF m pc' L' (st)))) : own_Fin p e below G (T.setTop (mkF m pc L ((.int v) :: st))) := by
  obtain ⟨locs, X, N, eT, hx, hZ, hown, hby, hml, hnm, hret, hlk⟩ := X
  subst hp
  exact own_go (fun t k => XS.istore X.here hx rfl (hb hby d) rfl hl k) q
theorem own_lstore (X : own_Cx Z p l e R s m args below meth c n0 own bytes maxL nm ret T h cells slots) {k : Nat} {v : Int64} {L' : Array Slot} (d : decode bytes pc = .ok (.lstore k, 2)) (hp : pc + 2 = pc') (hl : storeLocals L k (.long v) = some L')
    (q : own_Fin p e below G (T.setTop (mkF m pc' L' (st)))) : own_Fin p e below G (T.setTop (mkF m pc L ((.long v) :: st))) := by
  obtain ⟨locs, X, N, eT, hx, hZ, hown, hby, hml, hnm, hret, hlk⟩ := X
  subst hp
  exact own_go (fun t k => XT.lstore X.here hx rfl (hb hby d) rfl hl k) q
theorem own_istoreN (X : own_Cx Z p l e R s m args below meth c n0 own bytes maxL nm ret T h cells slots) {k : Fin 4} {v : Int32} {L' : Array Slot} (d : decode bytes pc = .ok (.istore_n k, 1)) (hp : pc + 1 = pc') (hl : storeLocals L k.val (.int v) = some L')
    (q : own_Fin p e below G (T.setTop (mkF m pc' L' (st)))) : own_Fin p e below G (T.setTop (mkF m pc L ((.int v) :: st))) := by
  obtain ⟨locs, X, N, eT, hx, hZ, hown, hby, hml, hnm, hret, hlk⟩ := X
  subst hp
  exact own_go (fun t k => XS.istoreN X.here hx rfl (hb hby d) rfl hl k) q
theorem own_lstoreN (X : own_Cx Z p l e R s m args below meth c n0 own bytes maxL nm ret T h cells slots) {k : Fin 4} {v : Int64} {L' : Array Slot} (d : decode bytes pc = .ok (.lstore_n k, 1)) (hp : pc + 1 = pc') (hl : storeLocals L k.val (.long v) = some L')
    (q : own_Fin p e below G (T.setTop (mkF m pc' L' (st)))) : own_Fin p e below G (T.setTop (mkF m pc L ((.long v) :: st))) := by
  obtain ⟨locs, X, N, eT, hx, hZ, hown, hby, hml, hnm, hret, hlk⟩ := X
  subst hp
  exact own_go (fun t k => XT.lstoreN X.here hx rfl (hb hby d) rfl hl k) q
theorem own_astore (X : own_Cx Z p l e R s m args below meth c n0 own bytes maxL nm ret T h cells slots) {k : Nat} {v : Value} {L' : Array Slot} (d : decode bytes pc = .ok (.astore k, 2)) (hp : pc + 2 = pc') (hv : v.isRef = true) (hl : storeLocals L k v = some L')
    (q : own_Fin p e below G (T.setTop (mkF m pc' L' (st)))) : own_Fin p e below G (T.setTop (mkF m pc L (v :: st))) := by
  obtain ⟨locs, X, N, eT, hx, hZ, hown, hby, hml, hnm, hret, hlk⟩ := X
  subst hp
  exact own_go (fun t k => XS.astore X.here hx rfl (hb hby d) rfl hv hl k) q
theorem own_astoreN (X : own_Cx Z p l e R s m args below meth c n0 own bytes maxL nm ret T h cells slots) {k : Fin 4} {v : Value} {L' : Array Slot} (d : decode bytes pc = .ok (.astore_n k, 1)) (hp : pc + 1 = pc') (hv : v.isRef = true) (hl : storeLocals L k.val v = some L')
    (q : own_Fin p e below G (T.setTop (mkF m pc' L' (st)))) : own_Fin p e below G (T.setTop (mkF m pc L (v :: st))) := by
  obtain ⟨locs, X, N, eT, hx, hZ, hown, hby, hml, hnm, hret, hlk⟩ := X
  subst hp
  exact own_go (fun t k => XS.astoreN X.here hx rfl (hb hby d) rfl hv hl k) q
theorem own_iinc (X : own_Cx Z p l e R s m args below meth c n0 own bytes maxL nm ret T h cells slots) {k : Nat} {x : Int32} {i : Int} {L' : Array Slot} (v : Int32) (d : decode bytes pc = .ok (.iinc k i, 3)) (hp : pc + 3 = pc') (hv : Int32.ofInt i = v) (hl : L[k]? = some (.val (.int x))) (hl' : storeLocals L k (.int (x + v)) = some L')
    (q : own_Fin p e below G (T.setTop (mkF m pc' L' (st)))) : own_Fin p e below G (T.setTop (mkF m pc L (st))) := by
  obtain ⟨locs, X, N, eT, hx, hZ, hown, hby, hml, hnm, hret, hlk⟩ := X
  subst hp
  exact own_go (fun t k => XT.iincV X.here hx rfl v (hb hby d) hv hl hl' k) q
theorem own_iconst (X : own_Cx Z p l e R s m args below meth c n0 own bytes maxL nm ret T h cells slots) {i : Int} (v : Int32) (d : decode bytes pc = .ok (.iconst i, 1)) (hp : pc + 1 = pc') (hv : Int32.ofInt i = v)
    (q : own_Fin p e below G (T.setTop (mkF m pc' L ((.int v) :: st)))) : own_Fin p e below G (T.setTop (mkF m pc L (st))) := by
  obtain ⟨locs, X, N, eT, hx, hZ, hown, hby, hml, hnm, hret, hlk⟩ := X
  subst hp
  exact own_go (fun t k => XT.iconstV X.here hx rfl v (hb hby d) hv k) q
theorem own_bipush (X : own_Cx Z p l e R s m args below meth c n0 own bytes maxL nm ret T h cells slots) {i : Int} (v : Int32) (d : decode bytes pc = .ok (.bipush i, 2)) (hp : pc + 2 = pc') (hv : (Int8.ofInt i).toInt32 = v)
    (q : own_Fin p e below G (T.setTop (mkF m pc' L ((.int v) :: st)))) : own_Fin p e below G (T.setTop (mkF m pc L (st))) := by
  obtain ⟨locs, X, N, eT, hx, hZ, hown, hby, hml, hnm, hret, hlk⟩ := X
  subst hp
  exact own_go (fun t k => XT.bipushV X.here hx rfl v (hb hby d) hv k) q
theorem own_sipush (X : own_Cx Z p l e R s m args below meth c n0 own bytes maxL nm ret T h cells slots) {i : Int} (v : Int32) (d : decode bytes pc = .ok (.sipush i, 3)) (hp : pc + 3 = pc') (hv : (Int16.ofInt i).toInt32 = v)
    (q : own_Fin p e below G (T.setTop (mkF m pc' L ((.int v) :: st)))) : own_Fin p e below G (T.setTop (mkF m pc L (st))) := by
  obtain ⟨locs, X, N, eT, hx, hZ, hown, hby, hml, hnm, hret, hlk⟩ := X
  subst hp
  exact own_go (fun t k => XT.sipushV X.here hx rfl v (hb hby d) hv k) q
theorem own_lconst (X : own_Cx Z p l e R s m args below meth c n0 own bytes maxL nm ret T h cells slots) {i : Fin 2} (v : Int64) (d : decode bytes pc = .ok (.lconst i, 1)) (hp : pc + 1 = pc') (hv : Int64.ofNat i = v)
    (q : own_Fin p e below G (T.setTop (mkF m pc' L ((.long v) :: st)))) : own_Fin p e below G (T.setTop (mkF m pc L (st))) := by
  obtain ⟨locs, X, N, eT, hx, hZ, hown, hby, hml, hnm, hret, hlk⟩ := X
  subst hp
  exact own_go (fun t k => XT.lconstV X.here hx rfl v (hb hby d) hv k) q
theorem own_aconst_null (X : own_Cx Z p l e R s m args below meth c n0 own bytes maxL nm ret T h cells slots)  (d : decode bytes pc = .ok (.aconst_null, 1)) (hp : pc + 1 = pc') 
    (q : own_Fin p e below G (T.setTop (mkF m pc' L (.null :: st)))) : own_Fin p e below G (T.setTop (mkF m pc L (st))) := by
  obtain ⟨locs, X, N, eT, hx, hZ, hown, hby, hml, hnm, hret, hlk⟩ := X
  subst hp
  exact own_go (fun t k => XS.aconstNull X.here hx rfl (hb hby d) k) q
theorem own_iadd (X : own_Cx Z p l e R s m args below meth c n0 own bytes maxL nm ret T h cells slots) {x y : Int32} (d : decode bytes pc = .ok (.iadd, 1)) (hp : pc + 1 = pc') 
    (q : own_Fin p e below G (T.setTop (mkF m pc' L ((.int (x + y)) :: st)))) : own_Fin p e below G (T.setTop (mkF m pc L ((.int y) :: (.int x) :: st))) := by
  obtain ⟨locs, X, N, eT, hx, hZ, hown, hby, hml, hnm, hret, hlk⟩ := X
  subst hp
  exact own_go (fun t k => XS.iadd X.here hx rfl (hb hby d) rfl k) q
theorem own_isub (X : own_Cx Z p l e R s m args below meth c n0 own bytes maxL nm ret T h cells slots) {x y : Int32} (d : decode bytes pc = .ok (.isub, 1)) (hp : pc + 1 = pc') 
    (q : own_Fin p e below G (T.setTop (mkF m pc' L ((.int (x - y)) :: st)))) : own_Fin p e below G (T.setTop (mkF m pc L ((.int y) :: (.int x) :: st))) := by
  obtain ⟨locs, X, N, eT, hx, hZ, hown, hby, hml, hnm, hret, hlk⟩ := X
  subst hp
  exact own_go (fun t k => XS.isub X.here hx rfl (hb hby d) rfl k) q
theorem own_iand (X : own_Cx Z p l e R s m args below meth c n0 own bytes maxL nm ret T h cells slots) {x y : Int32} (d : decode bytes pc = .ok (.iand, 1)) (hp : pc + 1 = pc') 
    (q : own_Fin p e below G (T.setTop (mkF m pc' L ((.int (x &&& y)) :: st)))) : own_Fin p e below G (T.setTop (mkF m pc L ((.int y) :: (.int x) :: st))) := by
  obtain ⟨locs, X, N, eT, hx, hZ, hown, hby, hml, hnm, hret, hlk⟩ := X
  subst hp
  exact own_go (fun t k => XS.iand X.here hx rfl (hb hby d) rfl k) q
theorem own_imul (X : own_Cx Z p l e R s m args below meth c n0 own bytes maxL nm ret T h cells slots) {x y : Int32} (d : decode bytes pc = .ok (.imul, 1)) (hp : pc + 1 = pc') 
    (q : own_Fin p e below G (T.setTop (mkF m pc' L ((.int (x * y)) :: st)))) : own_Fin p e below G (T.setTop (mkF m pc L ((.int y) :: (.int x) :: st))) := by
  obtain ⟨locs, X, N, eT, hx, hZ, hown, hby, hml, hnm, hret, hlk⟩ := X
  subst hp
  exact own_go (fun t k => XS.imul X.here hx rfl (hb hby d) rfl k) q
theorem own_irem (X : own_Cx Z p l e R s m args below meth c n0 own bytes maxL nm ret T h cells slots) {x y : Int32} (d : decode bytes pc = .ok (.irem, 1)) (hp : pc + 1 = pc') (hy : y ≠ 0)
    (q : own_Fin p e below G (T.setTop (mkF m pc' L ((.int (x % y)) :: st)))) : own_Fin p e below G (T.setTop (mkF m pc L ((.int y) :: (.int x) :: st))) := by
  obtain ⟨locs, X, N, eT, hx, hZ, hown, hby, hml, hnm, hret, hlk⟩ := X
  subst hp
  exact own_go (fun t k => iremM X hx rfl (hb hby d) rfl hy k) q
theorem own_ixor (X : own_Cx Z p l e R s m args below meth c n0 own bytes maxL nm ret T h cells slots) {x y : Int32} (d : decode bytes pc = .ok (.ixor, 1)) (hp : pc + 1 = pc') 
    (q : own_Fin p e below G (T.setTop (mkF m pc' L ((.int (x ^^^ y)) :: st)))) : own_Fin p e below G (T.setTop (mkF m pc L ((.int y) :: (.int x) :: st))) := by
  obtain ⟨locs, X, N, eT, hx, hZ, hown, hby, hml, hnm, hret, hlk⟩ := X
  subst hp
  exact own_go (fun t k => XT.ixor X.here hx rfl (hb hby d) rfl k) q
theorem own_ior (X : own_Cx Z p l e R s m args below meth c n0 own bytes maxL nm ret T h cells slots) {x y : Int32} (d : decode bytes pc = .ok (.ior, 1)) (hp : pc + 1 = pc') 
    (q : own_Fin p e below G (T.setTop (mkF m pc' L ((.int (x ||| y)) :: st)))) : own_Fin p e below G (T.setTop (mkF m pc L ((.int y) :: (.int x) :: st))) := by
  obtain ⟨locs, X, N, eT, hx, hZ, hown, hby, hml, hnm, hret, hlk⟩ := X
  subst hp
  exact own_go (fun t k => XT.ior X.here hx rfl (hb hby d) rfl k) q
theorem own_ishl (X : own_Cx Z p l e R s m args below meth c n0 own bytes maxL nm ret T h cells slots) {x y : Int32} (d : decode bytes pc = .ok (.ishl, 1)) (hp : pc + 1 = pc') 
    (q : own_Fin p e below G (T.setTop (mkF m pc' L ((.int (x <<< (y &&& 31))) :: st)))) : own_Fin p e below G (T.setTop (mkF m pc L ((.int y) :: (.int x) :: st))) := by
  obtain ⟨locs, X, N, eT, hx, hZ, hown, hby, hml, hnm, hret, hlk⟩ := X
  subst hp
  exact own_go (fun t k => XT.ishl X.here hx rfl (hb hby d) rfl k) q
theorem own_ishr (X : own_Cx Z p l e R s m args below meth c n0 own bytes maxL nm ret T h cells slots) {x y : Int32} (d : decode bytes pc = .ok (.ishr, 1)) (hp : pc + 1 = pc') 
    (q : own_Fin p e below G (T.setTop (mkF m pc' L ((.int (x >>> (y &&& 31))) :: st)))) : own_Fin p e below G (T.setTop (mkF m pc L ((.int y) :: (.int x) :: st))) := by
  obtain ⟨locs, X, N, eT, hx, hZ, hown, hby, hml, hnm, hret, hlk⟩ := X
  subst hp
  exact own_go (fun t k => XT.ishr X.here hx rfl (hb hby d) rfl k) q
theorem own_iushr (X : own_Cx Z p l e R s m args below meth c n0 own bytes maxL nm ret T h cells slots) {x y : Int32} (d : decode bytes pc = .ok (.iushr, 1)) (hp : pc + 1 = pc') 
    (q : own_Fin p e below G (T.setTop (mkF m pc' L ((.int (XT.ushr x y)) :: st)))) : own_Fin p e below G (T.setTop (mkF m pc L ((.int y) :: (.int x) :: st))) := by
  obtain ⟨locs, X, N, eT, hx, hZ, hown, hby, hml, hnm, hret, hlk⟩ := X
  subst hp
  exact own_go (fun t k => XT.iushr X.here hx rfl (hb hby d) rfl k) q
theorem own_ladd (X : own_Cx Z p l e R s m args below meth c n0 own bytes maxL nm ret T h cells slots) {x y : Int64} (d : decode bytes pc = .ok (.ladd, 1)) (hp : pc + 1 = pc') 
    (q : own_Fin p e below G (T.setTop (mkF m pc' L ((.long (x + y)) :: st)))) : own_Fin p e below G (T.setTop (mkF m pc L ((.long y) :: (.long x) :: st))) := by
  obtain ⟨locs, X, N, eT, hx, hZ, hown, hby, hml, hnm, hret, hlk⟩ := X
  subst hp
  exact own_go (fun t k => XT.ladd X.here hx rfl (hb hby d) rfl k) q
theorem own_lsub (X : own_Cx Z p l e R s m args below meth c n0 own bytes maxL nm ret T h cells slots) {x y : Int64} (d : decode bytes pc = .ok (.lsub, 1)) (hp : pc + 1 = pc') 
    (q : own_Fin p e below G (T.setTop (mkF m pc' L ((.long (x - y)) :: st)))) : own_Fin p e below G (T.setTop (mkF m pc L ((.long y) :: (.long x) :: st))) := by
  obtain ⟨locs, X, N, eT, hx, hZ, hown, hby, hml, hnm, hret, hlk⟩ := X
  subst hp
  exact own_go (fun t k => XT.lsub X.here hx rfl (hb hby d) rfl k) q
theorem own_lmul (X : own_Cx Z p l e R s m args below meth c n0 own bytes maxL nm ret T h cells slots) {x y : Int64} (d : decode bytes pc = .ok (.lmul, 1)) (hp : pc + 1 = pc') 
    (q : own_Fin p e below G (T.setTop (mkF m pc' L ((.long (x * y)) :: st)))) : own_Fin p e below G (T.setTop (mkF m pc L ((.long y) :: (.long x) :: st))) := by
  obtain ⟨locs, X, N, eT, hx, hZ, hown, hby, hml, hnm, hret, hlk⟩ := X
  subst hp
  exact own_go (fun t k => XT.lmul X.here hx rfl (hb hby d) rfl k) q
theorem own_land (X : own_Cx Z p l e R s m args below meth c n0 own bytes maxL nm ret T h cells slots) {x y : Int64} (d : decode bytes pc = .ok (.land, 1)) (hp : pc + 1 = pc') 
    (q : own_Fin p e below G (T.setTop (mkF m pc' L ((.long (x &&& y)) :: st)))) : own_Fin p e below G (T.setTop (mkF m pc L ((.long y) :: (.long x) :: st))) := by
  obtain ⟨locs, X, N, eT, hx, hZ, hown, hby, hml, hnm, hret, hlk⟩ := X
  subst hp
  exact own_go (fun t k => XT.land X.here hx rfl (hb hby d) rfl k) q
theorem own_lor (X : own_Cx Z p l e R s m args below meth c n0 own bytes maxL nm ret T h cells slots) {x y : Int64} (d : decode bytes pc = .ok (.lor, 1)) (hp : pc + 1 = pc') 
    (q : own_Fin p e below G (T.setTop (mkF m pc' L ((.long (x ||| y)) :: st)))) : own_Fin p e below G (T.setTop (mkF m pc L ((.long y) :: (.long x) :: st))) := by
  obtain ⟨locs, X, N, eT, hx, hZ, hown, hby, hml, hnm, hret, hlk⟩ := X
  subst hp
  exact own_go (fun t k => XT.lor X.here hx rfl (hb hby d) rfl k) q
theorem own_lxor (X : own_Cx Z p l e R s m args below meth c n0 own bytes maxL nm ret T h cells slots) {x y : Int64} (d : decode bytes pc = .ok (.lxor, 1)) (hp : pc + 1 = pc') 
    (q : own_Fin p e below G (T.setTop (mkF m pc' L ((.long (x ^^^ y)) :: st)))) : own_Fin p e below G (T.setTop (mkF m pc L ((.long y) :: (.long x) :: st))) := by
  obtain ⟨locs, X, N, eT, hx, hZ, hown, hby, hml, hnm, hret, hlk⟩ := X
  subst hp
  exact own_go (fun t k => XT.lxor X.here hx rfl (hb hby d) rfl k) q
theorem own_lshl (X : own_Cx Z p l e R s m args below meth c n0 own bytes maxL nm ret T h cells slots) {x : Int64} {y : Int32} (d : decode bytes pc = .ok (.lshl, 1)) (hp : pc + 1 = pc') 
    (q : own_Fin p e below G (T.setTop (mkF m pc' L ((.long (x <<< (y.toInt64 &&& 63))) :: st)))) : own_Fin p e below G (T.setTop (mkF m pc L ((.int y) :: (.long x) :: st))) := by
  obtain ⟨locs, X, N, eT, hx, hZ, hown, hby, hml, hnm, hret, hlk⟩ := X
  subst hp
  exact own_go (fun t k => XT.lshl X.here hx rfl (hb hby d) rfl k) q
theorem own_lshr (X : own_Cx Z p l e R s m args below meth c n0 own bytes maxL nm ret T h cells slots) {x : Int64} {y : Int32} (d : decode bytes pc = .ok (.lshr, 1)) (hp : pc + 1 = pc') 
    (q : own_Fin p e below G (T.setTop (mkF m pc' L ((.long (x >>> (y.toInt64 &&& 63))) :: st)))) : own_Fin p e below G (T.setTop (mkF m pc L ((.int y) :: (.long x) :: st))) := by
  obtain ⟨locs, X, N, eT, hx, hZ, hown, hby, hml, hnm, hret, hlk⟩ := X
  subst hp
  exact own_go (fun t k => XT.lshr X.here hx rfl (hb hby d) rfl k) q
theorem own_lushr (X : own_Cx Z p l e R s m args below meth c n0 own bytes maxL nm ret T h cells slots) {x : Int64} {y : Int32} (d : decode bytes pc = .ok (.lushr, 1)) (hp : pc + 1 = pc') 
    (q : own_Fin p e below G (T.setTop (mkF m pc' L ((.long (XT.ushrL x y)) :: st)))) : own_Fin p e below G (T.setTop (mkF m pc L ((.int y) :: (.long x) :: st))) := by
  obtain ⟨locs, X, N, eT, hx, hZ, hown, hby, hml, hnm, hret, hlk⟩ := X
  subst hp
  exact own_go (fun t k => XT.lushr X.here hx rfl (hb hby d) rfl k) q
theorem own_lneg (X : own_Cx Z p l e R s m args below meth c n0 own bytes maxL nm ret T h cells slots) {x : Int64} (d : decode bytes pc = .ok (.lneg, 1)) (hp : pc + 1 = pc') 
    (q : own_Fin p e below G (T.setTop (mkF m pc' L ((.long (-x)) :: st)))) : own_Fin p e below G (T.setTop (mkF m pc L ((.long x) :: st))) := by
  obtain ⟨locs, X, N, eT, hx, hZ, hown, hby, hml, hnm, hret, hlk⟩ := X
  subst hp
  exact own_go (fun t k => XT.lneg X.here hx rfl (hb hby d) rfl k) q
theorem own_i2l (X : own_Cx Z p l e R s m args below meth c n0 own bytes maxL nm ret T h cells slots) {x : Int32} (d : decode bytes pc = .ok (.i2l, 1)) (hp : pc + 1 = pc') 
    (q : own_Fin p e below G (T.setTop (mkF m pc' L ((.long x.toInt64) :: st)))) : own_Fin p e below G (T.setTop (mkF m pc L ((.int x) :: st))) := by
  obtain ⟨locs, X, N, eT, hx, hZ, hown, hby, hml, hnm, hret, hlk⟩ := X
  subst hp
  exact own_go (fun t k => XT.i2l X.here hx rfl (hb hby d) rfl k) q
theorem own_l2i (X : own_Cx Z p l e R s m args below meth c n0 own bytes maxL nm ret T h cells slots) {x : Int64} (d : decode bytes pc = .ok (.l2i, 1)) (hp : pc + 1 = pc') 
    (q : own_Fin p e below G (T.setTop (mkF m pc' L ((.int x.toInt32) :: st)))) : own_Fin p e below G (T.setTop (mkF m pc L ((.long x) :: st))) := by
  obtain ⟨locs, X, N, eT, hx, hZ, hown, hby, hml, hnm, hret, hlk⟩ := X
  subst hp
  exact own_go (fun t k => XT.l2i X.here hx rfl (hb hby d) rfl k) q
theorem own_i2c (X : own_Cx Z p l e R s m args below meth c n0 own bytes maxL nm ret T h cells slots) {x : Int32} (d : decode bytes pc = .ok (.i2c, 1)) (hp : pc + 1 = pc') 
    (q : own_Fin p e below G (T.setTop (mkF m pc' L ((.int x.toUInt32.toUInt16.toUInt32.toInt32) :: st)))) : own_Fin p e below G (T.setTop (mkF m pc L ((.int x) :: st))) := by
  obtain ⟨locs, X, N, eT, hx, hZ, hown, hby, hml, hnm, hret, hlk⟩ := X
  subst hp
  exact own_go (fun t k => XT.i2c X.here hx rfl (hb hby d) rfl k) q
theorem own_dup (X : own_Cx Z p l e R s m args below meth c n0 own bytes maxL nm ret T h cells slots) {v : Value} (d : decode bytes pc = .ok (.dup, 1)) (hp : pc + 1 = pc') (hc : v.category = 1)
    (q : own_Fin p e below G (T.setTop (mkF m pc' L (v :: v :: st)))) : own_Fin p e below G (T.setTop (mkF m pc L (v :: st))) := by
  obtain ⟨locs, X, N, eT, hx, hZ, hown, hby, hml, hnm, hret, hlk⟩ := X
  subst hp
  exact own_go (fun t k => XS.dup X.here hx rfl (hb hby d) rfl hc k) q
theorem own_pop (X : own_Cx Z p l e R s m args below meth c n0 own bytes maxL nm ret T h cells slots) {v : Value} (d : decode bytes pc = .ok (.pop, 1)) (hp : pc + 1 = pc') (hc : v.category = 1)
    (q : own_Fin p e below G (T.setTop (mkF m pc' L (st)))) : own_Fin p e below G (T.setTop (mkF m pc L (v :: st))) := by
  obtain ⟨locs, X, N, eT, hx, hZ, hown, hby, hml, hnm, hret, hlk⟩ := X
  subst hp
  exact own_go (fun t k => XT.pop X.here hx rfl (hb hby d) rfl hc k) q
theorem own_ldcI (X : own_Cx Z p l e R s m args below meth c n0 own bytes maxL nm ret T h cells slots) {i : Nat} {v : Int32} (d : decode bytes pc = .ok (.ldc i, 2)) (hp : pc + 2 = pc') (w : (Jvm.Cond.constant own i v).before a0 Z = true)
    (q : own_Fin p e below G (T.setTop (mkF m pc' L ((.int v) :: st)))) : own_Fin p e below G (T.setTop (mkF m pc L (st))) := by
  obtain ⟨locs, X, N, eT, hx, hZ, hown, hby, hml, hnm, hret, hlk⟩ := X
  subst hp
  exact own_go (fun t k => X.ldcInt hx hown (mvT hZ w) (g := mkF m pc L st) rfl (hb hby d) t k) q
theorem own_ldc2J (X : own_Cx Z p l e R s m args below meth c n0 own bytes maxL nm ret T h cells slots) {i : Nat} {v : Int64} (d : decode bytes pc = .ok (.ldc2_w i, 3)) (hp : pc + 3 = pc') (w : (Jvm.Cond.constantLong own i v).before a0 Z = true)
    (q : own_Fin p e below G (T.setTop (mkF m pc' L ((.long v) :: st)))) : own_Fin p e below G (T.setTop (mkF m pc L (st))) := by
  obtain ⟨locs, X, N, eT, hx, hZ, hown, hby, hml, hnm, hret, hlk⟩ := X
  subst hp
  exact own_go (fun t k => X.ldc2Long hx hown (mvT hZ w) (g := mkF m pc L st) rfl (hb hby d) t k) q
theorem own_ldcF (X : own_Cx Z p l e R s m args below meth c n0 own bytes maxL nm ret T h cells slots) {i : Nat} {v : UInt32} (d : decode bytes pc = .ok (.ldc i, 2)) (hp : pc + 2 = pc') (w : (Jvm.Cond.constantFloat own i v).before a0 Z = true)
    (q : own_Fin p e below G (T.setTop (mkF m pc' L ((.float v) :: st)))) : own_Fin p e below G (T.setTop (mkF m pc L (st))) := by
  obtain ⟨locs, X, N, eT, hx, hZ, hown, hby, hml, hnm, hret, hlk⟩ := X
  subst hp
  exact own_go (fun t k => X.ldcFloatC hx hown (mvT hZ w) (g := mkF m pc L st) rfl (hb hby d) t k) q
theorem own_goto (X : own_Cx Z p l e R s m args below meth c n0 own bytes maxL nm ret T h cells slots) {o : Int} (d : decode bytes pc = .ok (.goto o, 3)) (ho : 0 ≤ (pc : Int) + o) (hp : ((pc : Int) + o).toNat = pc')
    (q : own_Fin p e below G (T.setTop (mkF m pc' L (st)))) : own_Fin p e below G (T.setTop (mkF m pc L (st))) := by
  obtain ⟨locs, X, N, eT, hx, hZ, hown, hby, hml, hnm, hret, hlk⟩ := X
  exact own_go (fun t k => XS.goto X.here hx rfl rfl (hb hby d) ho hp k) q
theorem own_icmp_eq (X : own_Cx Z p l e R s m args below meth c n0 own bytes maxL nm ret T h cells slots) {x y : Int32} {o : Int} {pcT pcF : Nat} (d : decode bytes pc = .ok (.if_icmp .eq o, 3)) (ho : 0 ≤ (pc : Int) + o) (hT : ((pc : Int) + o).toNat = pcT) (hF : pc + 3 = pcF)
    (qT : (x = y) → own_Fin p e below G (T.setTop (mkF m pcT L (st)))) (qF : (¬ (x = y)) → own_Fin p e below G (T.setTop (mkF m pcF L (st)))) : own_Fin p e below G (T.setTop (mkF m pc L ((.int y) :: (.int x) :: st))) := by
  obtain ⟨locs, X, N, eT, hx, hZ, hown, hby, hml, hnm, hret, hlk⟩ := X
  subst hF
  by_cases hc : x = y
  · exact own_go (fun t k => XS.icmpYes X.here hx rfl rfl (hb hby d) rfl (XT.ii_eq_t hc) ho hT k) (qT hc)
  · exact own_go (fun t k => XS.icmpNo X.here hx rfl (hb hby d) rfl (XT.ii_eq_f hc) k) (qF hc)
theorem own_if_eq (X : own_Cx Z p l e R s m args below meth c n0 own bytes maxL nm ret T h cells slots) {x : Int32} {o : Int} {pcT pcF : Nat} (d : decode bytes pc = .ok (.ifCond .eq o, 3)) (ho : 0 ≤ (pc : Int) + o) (hT : ((pc : Int) + o).toNat = pcT) (hF : pc + 3 = pcF)
    (qT : (x = 0) → own_Fin p e below G (T.setTop (mkF m pcT L (st)))) (qF : (¬ (x = 0)) → own_Fin p e below G (T.setTop (mkF m pcF L (st)))) : own_Fin p e below G (T.setTop (mkF m pc L ((.int x) :: st))) := by
  obtain ⟨locs, X, N, eT, hx, hZ, hown, hby, hml, hnm, hret, hlk⟩ := X
  subst hF
  by_cases hc : x = 0
  · exact own_go (fun t k => XS.ifYes X.here hx rfl rfl (hb hby d) rfl (XT.i0_eq_t hc) ho hT k) (qT hc)
  · exact own_go (fun t k => XS.ifNo X.here hx rfl (hb hby d) rfl (XT.i0_eq_f hc) k) (qF hc)
theorem own_lcmp_eq (X : own_Cx Z p l e R s m args below meth c n0 own bytes maxL nm ret T h cells slots) {x y : Int64} {pc1 : Nat} {o : Int} {pcT pcF : Nat} (d0 : decode bytes pc = .ok (.lcmp, 1)) (h1 : pc + 1 = pc1) (d : decode bytes pc1 = .ok (.ifCond .eq o, 3)) (ho : 0 ≤ (pc1 : Int) + o) (hT : ((pc1 : Int) + o).toNat = pcT) (hF : pc1 + 3 = pcF)
    (qT : (x = y) → own_Fin p e below G (T.setTop (mkF m pcT L (st)))) (qF : (¬ (x = y)) → own_Fin p e below G (T.setTop (mkF m pcF L (st)))) : own_Fin p e below G (T.setTop (mkF m pc L ((.long y) :: (.long x) :: st))) := by
  obtain ⟨locs, X, N, eT, hx, hZ, hown, hby, hml, hnm, hret, hlk⟩ := X
  subst h1
  subst hF
  by_cases hc : x = y
  · exact own_go (fun t k => XT.lcmp X.here hx rfl (hb hby d0) rfl (XS.ifYes X.here hx rfl rfl (hb hby d) rfl (XT.ll_eq_t hc) ho hT k)) (qT hc)
  · exact own_go (fun t k => XT.lcmp X.here hx rfl (hb hby d0) rfl (XS.ifNo X.here hx rfl (hb hby d) rfl (XT.ll_eq_f hc) k)) (qF hc)
theorem own_icmp_ne (X : own_Cx Z p l e R s m args below meth c n0 own bytes maxL nm ret T h cells slots) {x y : Int32} {o : Int} {pcT pcF : Nat} (d : decode bytes pc = .ok (.if_icmp .ne o, 3)) (ho : 0 ≤ (pc : Int) + o) (hT : ((pc : Int) + o).toNat = pcT) (hF : pc + 3 = pcF)
    (qT : (¬ (x = y)) → own_Fin p e below G (T.setTop (mkF m pcT L (st)))) (qF : (x = y) → own_Fin p e below G (T.setTop (mkF m pcF L (st)))) : own_Fin p e below G (T.setTop (mkF m pc L ((.int y) :: (.int x) :: st))) := by
  obtain ⟨locs, X, N, eT, hx, hZ, hown, hby, hml, hnm, hret, hlk⟩ := X
  subst hF
  by_cases hc : x = y
  · exact own_go (fun t k => XS.icmpNo X.here hx rfl (hb hby d) rfl (XT.ii_ne_f hc) k) (qF hc)
  · exact own_go (fun t k => XS.icmpYes X.here hx rfl rfl (hb hby d) rfl (XT.ii_ne_t hc) ho hT k) (qT hc)
theorem own_if_ne (X : own_Cx Z p l e R s m args below meth c n0 own bytes maxL nm ret T h cells slots) {x : Int32} {o : Int} {pcT pcF : Nat} (d : decode bytes pc = .ok (.ifCond .ne o, 3)) (ho : 0 ≤ (pc : Int) + o) (hT : ((pc : Int) + o).toNat = pcT) (hF : pc + 3 = pcF)
    (qT : (¬ (x = 0)) → own_Fin p e below G (T.setTop (mkF m pcT L (st)))) (qF : (x = 0) → own_Fin p e below G (T.setTop (mkF m pcF L (st)))) : own_Fin p e below G (T.setTop (mkF m pc L ((.int x) :: st))) := by
  obtain ⟨locs, X, N, eT, hx, hZ, hown, hby, hml, hnm, hret, hlk⟩ := X
  subst hF
  by_cases hc : x = 0
  · exact own_go (fun t k => XS.ifNo X.here hx rfl (hb hby d) rfl (XT.i0_ne_f hc) k) (qF hc)
  · exact own_go (fun t k => XS.ifYes X.here hx rfl rfl (hb hby d) rfl (XT.i0_ne_t hc) ho hT k) (qT hc)
theorem own_lcmp_ne (X : own_Cx Z p l e R s m args below meth c n0 own bytes maxL nm ret T h cells slots) {x y : Int64} {pc1 : Nat} {o : Int} {pcT pcF : Nat} (d0 : decode bytes pc = .ok (.lcmp, 1)) (h1 : pc + 1 = pc1) (d : decode bytes pc1 = .ok (.ifCond .ne o, 3)) (ho : 0 ≤ (pc1 : Int) + o) (hT : ((pc1 : Int) + o).toNat = pcT) (hF : pc1 + 3 = pcF)
    (qT : (¬ (x = y)) → own_Fin p e below G (T.setTop (mkF m pcT L (st)))) (qF : (x = y) → own_Fin p e below G (T.setTop (mkF m pcF L (st)))) : own_Fin p e below G (T.setTop (mkF m pc L ((.long y) :: (.long x) :: st))) := by
  obtain ⟨locs, X, N, eT, hx, hZ, hown, hby, hml, hnm, hret, hlk⟩ := X
  subst h1
  subst hF
  by_cases hc : x = y
  · exact own_go (fun t k => XT.lcmp X.here hx rfl (hb hby d0) rfl (XS.ifNo X.here hx rfl (hb hby d) rfl (XT.ll_ne_f hc) k)) (qF hc)
  · exact own_go (fun t k => XT.lcmp X.here hx rfl (hb hby d0) rfl (XS.ifYes X.here hx rfl rfl (hb hby d) rfl (XT.ll_ne_t hc) ho hT k)) (qT hc)
theorem own_icmp_lt (X : own_Cx Z p l e R s m args below meth c n0 own bytes maxL nm ret T h cells slots) {x y : Int32} {o : Int} {pcT pcF : Nat} (d : decode bytes pc = .ok (.if_icmp .lt o, 3)) (ho : 0 ≤ (pc : Int) + o) (hT : ((pc : Int) + o).toNat = pcT) (hF : pc + 3 = pcF)
    (qT : (x < y) → own_Fin p e below G (T.setTop (mkF m pcT L (st)))) (qF : (¬ (x < y)) → own_Fin p e below G (T.setTop (mkF m pcF L (st)))) : own_Fin p e below G (T.setTop (mkF m pc L ((.int y) :: (.int x) :: st))) := by
  obtain ⟨locs, X, N, eT, hx, hZ, hown, hby, hml, hnm, hret, hlk⟩ := X
  subst hF
  by_cases hc : x < y
  · exact own_go (fun t k => XS.icmpYes X.here hx rfl rfl (hb hby d) rfl (XT.ii_lt_t hc) ho hT k) (qT hc)
  · exact own_go (fun t k => XS.icmpNo X.here hx rfl (hb hby d) rfl (XT.ii_lt_f hc) k) (qF hc)
theorem own_if_lt (X : own_Cx Z p l e R s m args below meth c n0 own bytes maxL nm ret T h cells slots) {x : Int32} {o : Int} {pcT pcF : Nat} (d : decode bytes pc = .ok (.ifCond .lt o, 3)) (ho : 0 ≤ (pc : Int) + o) (hT : ((pc : Int) + o).toNat = pcT) (hF : pc + 3 = pcF)
    (qT : (x < 0) → own_Fin p e below G (T.setTop (mkF m pcT L (st)))) (qF : (¬ (x < 0)) → own_Fin p e below G (T.setTop (mkF m pcF L (st)))) : own_Fin p e below G (T.setTop (mkF m pc L ((.int x) :: st))) := by
  obtain ⟨locs, X, N, eT, hx, hZ, hown, hby, hml, hnm, hret, hlk⟩ := X
  subst hF
  by_cases hc : x < 0
  · exact own_go (fun t k => XS.ifYes X.here hx rfl rfl (hb hby d) rfl (XT.i0_lt_t hc) ho hT k) (qT hc)
  · exact own_go (fun t k => XS.ifNo X.here hx rfl (hb hby d) rfl (XT.i0_lt_f hc) k) (qF hc)
theorem own_lcmp_lt (X : own_Cx Z p l e R s m args below meth c n0 own bytes maxL nm ret T h cells slots) {x y : Int64} {pc1 : Nat} {o : Int} {pcT pcF : Nat} (d0 : decode bytes pc = .ok (.lcmp, 1)) (h1 : pc + 1 = pc1) (d : decode bytes pc1 = .ok (.ifCond .lt o, 3)) (ho : 0 ≤ (pc1 : Int) + o) (hT : ((pc1 : Int) + o).toNat = pcT) (hF : pc1 + 3 = pcF)
    (qT : (x < y) → own_Fin p e below G (T.setTop (mkF m pcT L (st)))) (qF : (¬ (x < y)) → own_Fin p e below G (T.setTop (mkF m pcF L (st)))) : own_Fin p e below G (T.setTop (mkF m pc L ((.long y) :: (.long x) :: st))) := by
  obtain ⟨locs, X, N, eT, hx, hZ, hown, hby, hml, hnm, hret, hlk⟩ := X
  subst h1
  subst hF
  by_cases hc : x < y
  · exact own_go (fun t k => XT.lcmp X.here hx rfl (hb hby d0) rfl (XS.ifYes X.here hx rfl rfl (hb hby d) rfl (XT.ll_lt_t hc) ho hT k)) (qT hc)
  · exact own_go (fun t k => XT.lcmp X.here hx rfl (hb hby d0) rfl (XS.ifNo X.here hx rfl (hb hby d) rfl (XT.ll_lt_f hc) k)) (qF hc)
theorem own_icmp_ge (X : own_Cx Z p l e R s m args below meth c n0 own bytes maxL nm ret T h cells slots) {x y : Int32} {o : Int} {pcT pcF : Nat} (d : decode bytes pc = .ok (.if_icmp .ge o, 3)) (ho : 0 ≤ (pc : Int) + o) (hT : ((pc : Int) + o).toNat = pcT) (hF : pc + 3 = pcF)
    (qT : (¬ (x < y)) → own_Fin p e below G (T.setTop (mkF m pcT L (st)))) (qF : (x < y) → own_Fin p e below G (T.setTop (mkF m pcF L (st)))) : own_Fin p e below G (T.setTop (mkF m pc L ((.int y) :: (.int x) :: st))) := by
  obtain ⟨locs, X, N, eT, hx, hZ, hown, hby, hml, hnm, hret, hlk⟩ := X
  subst hF
  by_cases hc : x < y
  · exact own_go (fun t k => XS.icmpNo X.here hx rfl (hb hby d) rfl (XT.ii_ge_f hc) k) (qF hc)
  · exact own_go (fun t k => XS.icmpYes X.here hx rfl rfl (hb hby d) rfl (XT.ii_ge_t hc) ho hT k) (qT hc)
theorem own_if_ge (X : own_Cx Z p l e R s m args below meth c n0 own bytes maxL nm ret T h cells slots) {x : Int32} {o : Int} {pcT pcF : Nat} (d : decode bytes pc = .ok (.ifCond .ge o, 3)) (ho : 0 ≤ (pc : Int) + o) (hT : ((pc : Int) + o).toNat = pcT) (hF : pc + 3 = pcF)
    (qT : (¬ (x < 0)) → own_Fin p e below G (T.setTop (mkF m pcT L (st)))) (qF : (x < 0) → own_Fin p e below G (T.setTop (mkF m pcF L (st)))) : own_Fin p e below G (T.setTop (mkF m pc L ((.int x) :: st))) := by
  obtain ⟨locs, X, N, eT, hx, hZ, hown, hby, hml, hnm, hret, hlk⟩ := X
  subst hF
  by_cases hc : x < 0
  · exact own_go (fun t k => XS.ifNo X.here hx rfl (hb hby d) rfl (XT.i0_ge_f hc) k) (qF hc)
  · exact own_go (fun t k => XS.ifYes X.here hx rfl rfl (hb hby d) rfl (XT.i0_ge_t hc) ho hT k) (qT hc)
theorem own_lcmp_ge (X : own_Cx Z p l e R s m args below meth c n0 own bytes maxL nm ret T h cells slots) {x y : Int64} {pc1 : Nat} {o : Int} {pcT pcF : Nat} (d0 : decode bytes pc = .ok (.lcmp, 1)) (h1 : pc + 1 = pc1) (d : decode bytes pc1 = .ok (.ifCond .ge o, 3)) (ho : 0 ≤ (pc1 : Int) + o) (hT : ((pc1 : Int) + o).toNat = pcT) (hF : pc1 + 3 = pcF)
    (qT : (¬ (x < y)) → own_Fin p e below G (T.setTop (mkF m pcT L (st)))) (qF : (x < y) → own_Fin p e below G (T.setTop (mkF m pcF L (st)))) : own_Fin p e below G (T.setTop (mkF m pc L ((.long y) :: (.long x) :: st))) := by
  obtain ⟨locs, X, N, eT, hx, hZ, hown, hby, hml, hnm, hret, hlk⟩ := X
  subst h1
  subst hF
  by_cases hc : x < y
  · exact own_go (fun t k => XT.lcmp X.here hx rfl (hb hby d0) rfl (XS.ifNo X.here hx rfl (hb hby d) rfl (XT.ll_ge_f hc) k)) (qF hc)
  · exact own_go (fun t k => XT.lcmp X.here hx rfl (hb hby d0) rfl (XS.ifYes X.here hx rfl rfl (hb hby d) rfl (XT.ll_ge_t hc) ho hT k)) (qT hc)
theorem own_icmp_gt (X : own_Cx Z p l e R s m args below meth c n0 own bytes maxL nm ret T h cells slots) {x y : Int32} {o : Int} {pcT pcF : Nat} (d : decode bytes pc = .ok (.if_icmp .gt o, 3)) (ho : 0 ≤ (pc : Int) + o) (hT : ((pc : Int) + o).toNat = pcT) (hF : pc + 3 = pcF)
    (qT : (y < x) → own_Fin p e below G (T.setTop (mkF m pcT L (st)))) (qF : (¬ (y < x)) → own_Fin p e below G (T.setTop (mkF m pcF L (st)))) : own_Fin p e below G (T.setTop (mkF m pc L ((.int y) :: (.int x) :: st))) := by
  obtain ⟨locs, X, N, eT, hx, hZ, hown, hby, hml, hnm, hret, hlk⟩ := X
  subst hF
  by_cases hc : y < x
  · exact own_go (fun t k => XS.icmpYes X.here hx rfl rfl (hb hby d) rfl (XT.ii_gt_t hc) ho hT k) (qT hc)
  · exact own_go (fun t k => XS.icmpNo X.here hx rfl (hb hby d) rfl (XT.ii_gt_f hc) k) (qF hc)
theorem own_if_gt (X : own_Cx Z p l e R s m args below meth c n0 own bytes maxL nm ret T h cells slots) {x : Int32} {o : Int} {pcT pcF : Nat} (d : decode bytes pc = .ok (.ifCond .gt o, 3)) (ho : 0 ≤ (pc : Int) + o) (hT : ((pc : Int) + o).toNat = pcT) (hF : pc + 3 = pcF)
    (qT : (0 < x) → own_Fin p e below G (T.setTop (mkF m pcT L (st)))) (qF : (¬ (0 < x)) → own_Fin p e below G (T.setTop (mkF m pcF L (st)))) : own_Fin p e below G (T.setTop (mkF m pc L ((.int x) :: st))) := by
  obtain ⟨locs, X, N, eT, hx, hZ, hown, hby, hml, hnm, hret, hlk⟩ := X
  subst hF
  by_cases hc : 0 < x
  · exact own_go (fun t k => XS.ifYes X.here hx rfl rfl (hb hby d) rfl (XT.i0_gt_t hc) ho hT k) (qT hc)
  · exact own_go (fun t k => XS.ifNo X.here hx rfl (hb hby d) rfl (XT.i0_gt_f hc) k) (qF hc)
theorem own_lcmp_gt (X : own_Cx Z p l e R s m args below meth c n0 own bytes maxL nm ret T h cells slots) {x y : Int64} {pc1 : Nat} {o : Int} {pcT pcF : Nat} (d0 : decode bytes pc = .ok (.lcmp, 1)) (h1 : pc + 1 = pc1) (d : decode bytes pc1 = .ok (.ifCond .gt o, 3)) (ho : 0 ≤ (pc1 : Int) + o) (hT : ((pc1 : Int) + o).toNat = pcT) (hF : pc1 + 3 = pcF)
    (qT : (y < x) → own_Fin p e below G (T.setTop (mkF m pcT L (st)))) (qF : (¬ (y < x)) → own_Fin p e below G (T.setTop (mkF m pcF L (st)))) : own_Fin p e below G (T.setTop (mkF m pc L ((.long y) :: (.long x) :: st))) := by
  obtain ⟨locs, X, N, eT, hx, hZ, hown, hby, hml, hnm, hret, hlk⟩ := X
  subst h1
  subst hF
  by_cases hc : y < x
  · exact own_go (fun t k => XT.lcmp X.here hx rfl (hb hby d0) rfl (XS.ifYes X.here hx rfl rfl (hb hby d) rfl (XT.ll_gt_t hc) ho hT k)) (qT hc)
  · exact own_go (fun t k => XT.lcmp X.here hx rfl (hb hby d0) rfl (XS.ifNo X.here hx rfl (hb hby d) rfl (XT.ll_gt_f hc) k)) (qF hc)
theorem own_icmp_le (X : own_Cx Z p l e R s m args below meth c n0 own bytes maxL nm ret T h cells slots) {x y : Int32} {o : Int} {pcT pcF : Nat} (d : decode bytes pc = .ok (.if_icmp .le o, 3)) (ho : 0 ≤ (pc : Int) + o) (hT : ((pc : Int) + o).toNat = pcT) (hF : pc + 3 = pcF)
    (qT : (¬ (y < x)) → own_Fin p e below G (T.setTop (mkF m pcT L (st)))) (qF : (y < x) → own_Fin p e below G (T.setTop (mkF m pcF L (st)))) : own_Fin p e below G (T.setTop (mkF m pc L ((.int y) :: (.int x) :: st))) := by
  obtain ⟨locs, X, N, eT, hx, hZ, hown, hby, hml, hnm, hret, hlk⟩ := X
  subst hF
  by_cases hc : y < x
  · exact own_go (fun t k => XS.icmpNo X.here hx rfl (hb hby d) rfl (XT.ii_le_f hc) k) (qF hc)
  · exact own_go (fun t k => XS.icmpYes X.here hx rfl rfl (hb hby d) rfl (XT.ii_le_t hc) ho hT k) (qT hc)
theorem own_if_le (X : own_Cx Z p l e R s m args below meth c n0 own bytes maxL nm ret T h cells slots) {x : Int32} {o : Int} {pcT pcF : Nat} (d : decode bytes pc = .ok (.ifCond .le o, 3)) (ho : 0 ≤ (pc : Int) + o) (hT : ((pc : Int) + o).toNat = pcT) (hF : pc + 3 = pcF)
    (qT : (¬ (0 < x)) → own_Fin p e below G (T.setTop (mkF m pcT L (st)))) (qF : (0 < x) → own_Fin p e below G (T.setTop (mkF m pcF L (st)))) : own_Fin p e below G (T.setTop (mkF m pc L ((.int x) :: st))) := by
  obtain ⟨locs, X, N, eT, hx, hZ, hown, hby, hml, hnm, hret, hlk⟩ := X
  subst hF
  by_cases hc : 0 < x
  · exact own_go (fun t k => XS.ifNo X.here hx rfl (hb hby d) rfl (XT.i0_le_f hc) k) (qF hc)
  · exact own_go (fun t k => XS.ifYes X.here hx rfl rfl (hb hby d) rfl (XT.i0_le_t hc) ho hT k) (qT hc)
theorem own_lcmp_le (X : own_Cx Z p l e R s m args below meth c n0 own bytes maxL nm ret T h cells slots) {x y : Int64} {pc1 : Nat} {o : Int} {pcT pcF : Nat} (d0 : decode bytes pc = .ok (.lcmp, 1)) (h1 : pc + 1 = pc1) (d : decode bytes pc1 = .ok (.ifCond .le o, 3)) (ho : 0 ≤ (pc1 : Int) + o) (hT : ((pc1 : Int) + o).toNat = pcT) (hF : pc1 + 3 = pcF)
    (qT : (¬ (y < x)) → own_Fin p e below G (T.setTop (mkF m pcT L (st)))) (qF : (y < x) → own_Fin p e below G (T.setTop (mkF m pcF L (st)))) : own_Fin p e below G (T.setTop (mkF m pc L ((.long y) :: (.long x) :: st))) := by
  obtain ⟨locs, X, N, eT, hx, hZ, hown, hby, hml, hnm, hret, hlk⟩ := X
  subst h1
  subst hF
  by_cases hc : y < x
  · exact own_go (fun t k => XT.lcmp X.here hx rfl (hb hby d0) rfl (XS.ifNo X.here hx rfl (hb hby d) rfl (XT.ll_le_f hc) k)) (qF hc)
  · exact own_go (fun t k => XT.lcmp X.here hx rfl (hb hby d0) rfl (XS.ifYes X.here hx rfl rfl (hb hby d) rfl (XT.ll_le_t hc) ho hT k)) (qT hc)
theorem own_acmp_eq (X : own_Cx Z p l e R s m args below meth c n0 own bytes maxL nm ret T h cells slots) {x y : Value} {o : Int} {pcT pcF : Nat} (d : decode bytes pc = .ok (.if_acmp .eq o, 3)) (hx1 : x.isRef = true) (hy1 : y.isRef = true) (ho : 0 ≤ (pc : Int) + o) (hT : ((pc : Int) + o).toNat = pcT) (hF : pc + 3 = pcF)
    (qT : (x = y) → own_Fin p e below G (T.setTop (mkF m pcT L (st)))) (qF : (¬ (x = y)) → own_Fin p e below G (T.setTop (mkF m pcF L (st)))) : own_Fin p e below G (T.setTop (mkF m pc L (y :: x :: st))) := by
  obtain ⟨locs, X, N, eT, hx, hZ, hown, hby, hml, hnm, hret, hlk⟩ := X
  subst hF
  by_cases hc : x = y
  · exact own_go (fun t k => XT.acmpYes X.here hx rfl rfl (hb hby d) rfl hx1 hy1 (XT.aa_eq_t hc) ho hT k) (qT hc)
  · exact own_go (fun t k => XT.acmpNo X.here hx rfl (hb hby d) rfl hx1 hy1 (XT.aa_eq_f hc) k) (qF hc)
theorem own_acmp_ne (X : own_Cx Z p l e R s m args below meth c n0 own bytes maxL nm ret T h cells slots) {x y : Value} {o : Int} {pcT pcF : Nat} (d : decode bytes pc = .ok (.if_acmp .ne o, 3)) (hx1 : x.isRef = true) (hy1 : y.isRef = true) (ho : 0 ≤ (pc : Int) + o) (hT : ((pc : Int) + o).toNat = pcT) (hF : pc + 3 = pcF)
    (qT : (¬ (x = y)) → own_Fin p e below G (T.setTop (mkF m pcT L (st)))) (qF : (x = y) → own_Fin p e below G (T.setTop (mkF m pcF L (st)))) : own_Fin p e below G (T.setTop (mkF m pc L (y :: x :: st))) := by
  obtain ⟨locs, X, N, eT, hx, hZ, hown, hby, hml, hnm, hret, hlk⟩ := X
  subst hF
  by_cases hc : x = y
  · exact own_go (fun t k => XT.acmpNo X.here hx rfl (hb hby d) rfl hx1 hy1 (XT.aa_ne_f hc) k) (qF hc)
  · exact own_go (fun t k => XT.acmpYes X.here hx rfl rfl (hb hby d) rfl hx1 hy1 (XT.aa_ne_t hc) ho hT k) (qT hc)
theorem own_nonnullN (X : own_Cx Z p l e R s m args below meth c n0 own bytes maxL nm ret T h cells slots) {o : Int} (d : decode bytes pc = .ok (.ifnonnull o, 3)) (hp : pc + 3 = pc') 
    (q : own_Fin p e below G (T.setTop (mkF m pc' L (st)))) : own_Fin p e below G (T.setTop (mkF m pc L (.null :: st))) := by
  obtain ⟨locs, X, N, eT, hx, hZ, hown, hby, hml, hnm, hret, hlk⟩ := X
  subst hp
  exact own_go (fun t k => XT.nonnullNo X.here hx rfl (hb hby d) rfl rfl k) q
theorem own_more (X : own_Cx Z p l e R s m args below meth c n0 own bytes maxL nm ret T h cells slots) {cells' slots' : Nat} (h1 : cells ≤ cells') (h2 : slots ≤ slots') : own_Cx Z p l e R s m args below meth c n0 own bytes maxL nm ret T h cells' slots' := by
  obtain ⟨locs, X, N, eT, hx, hZ, hown, hby, hml, hnm, hret, hlk⟩ := X
  exact ⟨locs, X.more h1 h2, N, eT, hx, hZ, hown, hby, hml, hnm, hret, hlk⟩
theorem own_nar {ty : FieldType} {z : Value} (h : ty.isReference = true) : narrow ty z = z := by cases ty <;> first | rfl | (cases h; done)
theorem own_retI (X : own_Cx Z p l e R s m args below meth c n0 own bytes maxL nm ret T h cells slots) {z : Int32} {q : Option Value → Heap → Prop} {k n : Nat} (hr0 : ret = some .int) (d : decode bytes pc = .ok (.ireturn, 1)) (hq : q (some (.int z)) h) (hc : cells ≤ k) (hs : slots ≤ n) :
    own_Fin p e below (own_End s n0 q k n) (T.setTop (mkF m pc L ((.int z) :: st))) := by
  obtain ⟨locs, X, N, eT, hx, hZ, hown, hby, hml, hnm, hret, hlk⟩ := X
  obtain ⟨fs, hr, hrun, hended, hW, hsame⟩ := X.leave (v := some (.int z)) (fun h => by first | rfl | (rw [hret, hr0] at h; cases h)) hlk
  refine ⟨_, _, retOut X hx (hret.trans hr0) rfl (Or.inl ⟨rfl, Or.inl rfl, _, rfl⟩) (hb hby d) hr, hrun, hended, _, _, rfl, ⟨?_, N⟩, ⟨_, rfl⟩, hW, hsame.mono hc hs⟩
  show q _ T.heap
  rw [eT]
  exact hq
theorem own_retJ (X : own_Cx Z p l e R s m args below meth c n0 own bytes maxL nm ret T h cells slots) {z : Int64} {q : Option Value → Heap → Prop} {k n : Nat} (hr0 : ret = some .long) (d : decode bytes pc = .ok (.lreturn, 1)) (hq : q (some (.long z)) h) (hc : cells ≤ k) (hs : slots ≤ n) :
    own_Fin p e below (own_End s n0 q k n) (T.setTop (mkF m pc L ((.long z) :: st))) := by
  obtain ⟨locs, X, N, eT, hx, hZ, hown, hby, hml, hnm, hret, hlk⟩ := X
  obtain ⟨fs, hr, hrun, hended, hW, hsame⟩ := X.leave (v := some (.long z)) (fun h => by first | rfl | (rw [hret, hr0] at h; cases h)) hlk
  refine ⟨_, _, retOut X hx (hret.trans hr0) rfl (Or.inr (Or.inl ⟨rfl, rfl, _, rfl⟩)) (hb hby d) hr, hrun, hended, _, _, rfl, ⟨?_, N⟩, ⟨_, rfl⟩, hW, hsame.mono hc hs⟩
  show q _ T.heap
  rw [eT]
  exact hq
theorem own_retZ (X : own_Cx Z p l e R s m args below meth c n0 own bytes maxL nm ret T h cells slots) {z : Int32} {q : Option Value → Heap → Prop} {k n : Nat} (hr0 : ret = some .boolean) (d : decode bytes pc = .ok (.ireturn, 1)) (hz : narrow .boolean (.int z) = .int z) (hq : q (some (.int z)) h) (hc : cells ≤ k) (hs : slots ≤ n) :
    own_Fin p e below (own_End s n0 q k n) (T.setTop (mkF m pc L ((.int z) :: st))) := by
  obtain ⟨locs, X, N, eT, hx, hZ, hown, hby, hml, hnm, hret, hlk⟩ := X
  obtain ⟨fs, hr, hrun, hended, hW, hsame⟩ := X.leave (v := some (.int z)) (fun h => by first | rfl | (rw [hret, hr0] at h; cases h)) hlk
  refine ⟨_, _, retOut X hx (hret.trans hr0) hz (Or.inl ⟨rfl, Or.inr (Or.inl rfl), _, rfl⟩) (hb hby d) hr, hrun, hended, _, _, rfl, ⟨?_, N⟩, ⟨_, rfl⟩, hW, hsame.mono hc hs⟩
  show q _ T.heap
  rw [eT]
  exact hq
theorem own_retC (X : own_Cx Z p l e R s m args below meth c n0 own bytes maxL nm ret T h cells slots) {z : Int32} {q : Option Value → Heap → Prop} {k n : Nat} (hr0 : ret = some .char) (d : decode bytes pc = .ok (.ireturn, 1)) (hz : narrow .char (.int z) = .int z) (hq : q (some (.int z)) h) (hc : cells ≤ k) (hs : slots ≤ n) :
    own_Fin p e below (own_End s n0 q k n) (T.setTop (mkF m pc L ((.int z) :: st))) := by
  obtain ⟨locs, X, N, eT, hx, hZ, hown, hby, hml, hnm, hret, hlk⟩ := X
  obtain ⟨fs, hr, hrun, hended, hW, hsame⟩ := X.leave (v := some (.int z)) (fun h => by first | rfl | (rw [hret, hr0] at h; cases h)) hlk
  refine ⟨_, _, retOut X hx (hret.trans hr0) hz (Or.inl ⟨rfl, Or.inr (Or.inr (Or.inr (Or.inl rfl))), _, rfl⟩) (hb hby d) hr, hrun, hended, _, _, rfl, ⟨?_, N⟩, ⟨_, rfl⟩, hW, hsame.mono hc hs⟩
  show q _ T.heap
  rw [eT]
  exact hq
theorem own_retA (X : own_Cx Z p l e R s m args below meth c n0 own bytes maxL nm ret T h cells slots) {z : Value} {ty : FieldType} {q : Option Value → Heap → Prop} {k n : Nat} (hr0 : ret = some ty) (hty : ty.isReference = true) (hz : z.isRef = true) (d : decode bytes pc = .ok (.areturn, 1)) (hq : q (some z) h) (hc : cells ≤ k) (hs : slots ≤ n) :
    own_Fin p e below (own_End s n0 q k n) (T.setTop (mkF m pc L (z :: st))) := by
  obtain ⟨locs, X, N, eT, hx, hZ, hown, hby, hml, hnm, hret, hlk⟩ := X
  obtain ⟨fs, hr, hrun, hended, hW, hsame⟩ := X.leave (v := some z) (fun h => by first | rfl | (rw [hret, hr0] at h; cases h)) hlk
  refine ⟨_, _, retOut X hx (hret.trans hr0) (own_nar hty) (Or.inr (Or.inr (Or.inr (Or.inr ⟨rfl, hty, hz⟩)))) (hb hby d) hr, hrun, hended, _, _, rfl, ⟨?_, N⟩, ⟨_, rfl⟩, hW, hsame.mono hc hs⟩
  show q _ T.heap
  rw [eT]
  exact hq
theorem own_retV (X : own_Cx Z p l e R s m args below meth c n0 own bytes maxL nm ret T h cells slots)  {q : Option Value → Heap → Prop} {k n : Nat} (hr0 : ret = none) (d : decode bytes pc = .ok (.return_, 1)) (hq : q (none) h) (hc : cells ≤ k) (hs : slots ≤ n) :
    own_Fin p e below (own_End s n0 q k n) (T.setTop (mkF m pc L ([]))) := by
  obtain ⟨locs, X, N, eT, hx, hZ, hown, hby, hml, hnm, hret, hlk⟩ := X
  obtain ⟨fs, hr, hrun, hended, hW, hsame⟩ := X.leave (v := none) (fun h => by first | rfl | (rw [hret, hr0] at h; cases h)) hlk
  refine ⟨_, _, X.returnOut hx (hret.trans hr0) (hb hby d) hr, hrun, hended, _, _, rfl, ⟨?_, N⟩, ⟨_, rfl⟩, hW, hsame.mono hc hs⟩
  show q _ T.heap
  rw [eT]
  exact hq
theorem own_eqF {a : Addr} {C n d : String} {v w : Value} (F : Fld Z h a C n d v) (e : v = w) : Fld Z h a C n d w := e ▸ F
theorem own_getf (X : own_Cx Z p l e R s m args below meth c n0 own bytes maxL nm ret T h cells slots) {R0 n d0 : String} {i : Nat} {a : Addr} {v : Value} (w : (Jvm.Cond.fieldLink own i R0 n d0).before a0 Z = true) (F : Fld Z h a R0 n d0 v) (d : decode bytes pc = .ok (.getfield i, 3)) (hp : pc + 3 = pc')
    (q : ∀ T', own_Cx Z p l e R s m args below meth c n0 own bytes maxL nm ret T' h cells slots → own_Fin p e below G (T'.setTop (mkF m pc' L (v :: st)))) : own_Fin p e below G (T.setTop (mkF m pc L ((.ref a) :: st))) := by
  obtain ⟨locs, X, N, eT, hx, hZ, hown, hby, hml, hnm, hret, hlk⟩ := X
  subst hp
  obtain ⟨T1, X1, e1, st1⟩ := getF X hx hZ hown (host := "") (Or.inl w) Via.refl eT F (g := mkF m pc L ((.ref a) :: st)) rfl rfl (hb hby d)
  exact own_go st1 (q T1 ⟨locs, X1, N, e1, hx, hZ, hown, hby, hml, hnm, hret, hlk⟩)
theorem own_gets (X : own_Cx Z p l e R s m args below meth c n0 own bytes maxL nm ret T h cells slots) {R0 n d0 : String} {i : Nat} {v : Value} (w : (Jvm.Cond.fieldLink own i R0 n d0).before a0 Z = true) (F : Sta Z h R0 n d0 v) (d : decode bytes pc = .ok (.getstatic i, 3)) (hp : pc + 3 = pc')
    (q : ∀ T', own_Cx Z p l e R s m args below meth c n0 own bytes maxL nm ret T' h cells slots → own_Fin p e below G (T'.setTop (mkF m pc' L (v :: st)))) : own_Fin p e below G (T.setTop (mkF m pc L (st))) := by
  obtain ⟨locs, X, N, eT, hx, hZ, hown, hby, hml, hnm, hret, hlk⟩ := X
  subst hp
  obtain ⟨T1, X1, e1, st1⟩ := getS X hx hZ hown (host := "") w Via.refl eT F (g := mkF m pc L st) rfl (hb hby d)
  exact own_go st1 (q T1 ⟨locs, X1, N, e1, hx, hZ, hown, hby, hml, hnm, hret, hlk⟩)
theorem own_putf (X : own_Cx Z p l e R s m args below meth c n0 own bytes maxL nm ret T h cells slots) {R0 n d0 C : String} {i kk : Nat} {a : Addr} {v old : Value} {ty : FieldType} (w : (Jvm.Cond.fieldLink own i R0 n d0).before a0 Z = true) (F : Fld Z h a R0 n d0 old) (E : Exa Z h a C) (Ly : (Jvm.Cond.lays C R0 n d0).before a0 Z = true ∨ ((Jvm.Cond.laysFinal C R0 n d0).before a0 Z = true ∧ own = R0 ∧ nm = "<init>")) (wi : (Jvm.Cond.instantiable C kk).before a0 Z = true) (hty : parseFieldDescriptor d0 = some ty) (hn : narrow ty v = v) (hf : fits ty v = true) (hge : n0 ≤ a) (d : decode bytes pc = .ok (.putfield i, 3)) (hp : pc + 3 = pc')
    (q : ∀ T' h', own_Cx Z p l e R s m args below meth c n0 own bytes maxL nm ret T' h' cells slots → Wr h h' a (Jvm.RoadKit.slotOf Z R0 n d0) v → own_Fin p e below G (T'.setTop (mkF m pc' L (st)))) : own_Fin p e below G (T.setTop (mkF m pc L (v :: (.ref a) :: st))) := by
  obtain ⟨locs, X, N, eT, hx, hZ, hown, hby, hml, hnm, hret, hlk⟩ := X
  subst hp
  have Ly' : (Jvm.Cond.lays C R0 n d0).before a0 Z = true ∨ ((Jvm.Cond.laysFinal C R0 n d0).before a0 Z = true ∧ own = R0 ∧ meth.name = "<init>") := by
    rcases Ly with q | ⟨q1, q2, q3⟩
    · exact Or.inl q
    · exact Or.inr ⟨q1, q2, hnm.trans q3⟩
  obtain ⟨T1, h1, X1, e1, W1, st1⟩ := putF X hx hZ hown (host := "") (Or.inl w) Via.refl eT F E Ly' wi hty hn hf (g := mkF m pc L (v :: (.ref a) :: st)) rfl rfl (hb hby d)
  exact own_go st1 (q T1 h1 ⟨_, X1, Fr.snoc X1 N hge, e1, hx, hZ, hown, hby, hml, hnm, hret, hlk⟩ W1)
theorem own_new (X : own_Cx Z p l e R s m args below meth c n0 own bytes maxL nm ret T h cells slots) {C : String} {i n : Nat} (w : (Jvm.Cond.classLink own i C).before a0 Z = true) (wi : (Jvm.Cond.instantiable C n).before a0 Z = true) (wz : (Jvm.Cond.initialized C).before a0 Z = true) (d : decode bytes pc = .ok (.new i, 3)) (hp : pc + 3 = pc') {cells' slots' : Nat} (ec : cells + 1 = cells') (es : slots + n = slots') (hc : cells' ≤ R.cells) (hl : slots' ≤ R.slots)
    (q : ∀ T' h' a, a = h.size → own_Cx Z p l e R s m args below meth c n0 own bytes maxL nm ret T' h' cells' slots' → Ext h h' → Exa Z h' a C → (∀ {O nm d : String} {ty : FieldType}, Laid Z a0 C O nm d → parseFieldDescriptor d = some ty → Fld Z h' a O nm d (defaultValue ty)) → own_Fin p e below G (T'.setTop (mkF m pc' L ((.ref a) :: st)))) : own_Fin p e below G (T.setTop (mkF m pc L (st))) := by
  obtain ⟨locs, X, N, eT, hx, hZ, hown, hby, hml, hnm, hret, hlk⟩ := X
  subst hp ec es
  obtain ⟨T1, h1, X1, e1, E1, A1, D1, -, st1⟩ := newO X hx hZ hown w wi wz eT (g := mkF m pc L st) rfl (hb hby d) hc hl
  exact own_go st1 (q T1 h1 _ rfl ⟨_, X1, N, e1, hx, hZ, hown, hby, hml, hnm, hret, hlk⟩ E1 A1 D1)
theorem own_newarray (X : own_Cx Z p l e R s m args below meth c n0 own bytes maxL nm ret T h cells slots) {aty : ArrayType} (w : (Jvm.Cond.arrayClass (newarray.typeOf aty)).before a0 Z = true) {n : Int32} (cap : Nat) (hn : ¬ n < 0) (hcap : n.toNatClampNeg ≤ cap) (hb8 : cap * 8 ≤ 536870912) (d : decode bytes pc = .ok (.newarray aty, 2)) (hp : pc + 2 = pc') {cells' slots' : Nat} (ec : cells + 1 = cells') (es : slots + cap = slots') (hc : cells' ≤ R.cells) (hl : slots' ≤ R.slots)
    (q : ∀ T' h' cA a, a = h.size → own_Cx Z p l e R s m args below meth c n0 own bytes maxL nm ret T' h' cells' slots' → Ext h h' → Arr Z h' a (newA cA (newarray.typeOf aty) n) (newarray.typeOf aty) → own_Fin p e below G (T'.setTop (mkF m pc' L ((.ref a) :: st)))) : own_Fin p e below G (T.setTop (mkF m pc L ((.int n) :: st))) := by
  obtain ⟨locs, X, N, eT, hx, hZ, hown, hby, hml, hnm, hret, hlk⟩ := X
  subst hp ec es
  obtain ⟨T1, h1, cA, X1, e1, E1, A1, st1⟩ := newP X hx hZ w eT (g := mkF m pc L ((.int n) :: st)) rfl (hb hby d) rfl hn hcap hb8 hc hl
  exact own_go st1 (q T1 h1 cA _ rfl ⟨_, X1, N, e1, hx, hZ, hown, hby, hml, hnm, hret, hlk⟩ E1 A1)
theorem own_anewarray (X : own_Cx Z p l e R s m args below meth c n0 own bytes maxL nm ret T h cells slots) {C : String} {i : Nat} (w : (Jvm.Cond.classLink own i C).before a0 Z = true) (w2 : (Jvm.Cond.arrayOver (.object C)).before a0 Z = true) {n : Int32} (cap : Nat) (hn : ¬ n < 0) (hcap : n.toNatClampNeg ≤ cap) (hb8 : cap * 8 ≤ 536870912) (d : decode bytes pc = .ok (.anewarray i, 3)) (hp : pc + 3 = pc') {cells' slots' : Nat} (ec : cells + 1 = cells') (es : slots + cap = slots') (hc : cells' ≤ R.cells) (hl : slots' ≤ R.slots)
    (q : ∀ T' h' cA a, a = h.size → own_Cx Z p l e R s m args below meth c n0 own bytes maxL nm ret T' h' cells' slots' → Ext h h' → Arr Z h' a (newA cA (.object C) n) (.object C) → own_Fin p e below G (T'.setTop (mkF m pc' L ((.ref a) :: st)))) : own_Fin p e below G (T.setTop (mkF m pc L ((.int n) :: st))) := by
  obtain ⟨locs, X, N, eT, hx, hZ, hown, hby, hml, hnm, hret, hlk⟩ := X
  subst hp ec es
  obtain ⟨T1, h1, cA, X1, e1, E1, A1, -, st1⟩ := newR X hx hZ hown w w2 eT (g := mkF m pc L ((.int n) :: st)) rfl (hb hby d) rfl hn hcap hb8 hc hl
  exact own_go st1 (q T1 h1 cA _ rfl ⟨_, X1, N, e1, hx, hZ, hown, hby, hml, hnm, hret, hlk⟩ E1 A1)
theorem own_iaload (X : own_Cx Z p l e R s m args below meth c n0 own bytes maxL nm ret T h cells slots) {a : Addr} {cl : Cell} {j : Int32} {v : Value} (A : Arr Z h a cl .int) (hj : ¬ (j < 0 ∨ cl.slots.size ≤ j.toNatClampNeg)) (hv : cl.slots[j.toNatClampNeg]? = some v) (d : decode bytes pc = .ok (.iaload, 1)) (hp : pc + 1 = pc')
    (q : own_Fin p e below G (T.setTop (mkF m pc' L (v :: st)))) : own_Fin p e below G (T.setTop (mkF m pc L ((.int j) :: (.ref a) :: st))) := by
  obtain ⟨locs, X, N, eT, hx, hZ, hown, hby, hml, hnm, hret, hlk⟩ := X
  subst hp
  exact own_go (fun t k => X.iaload hx (by rw [eT]; exact A.1) (State.isArrayOf_alike hZ.alike A.2.1) A.2.2 hj hv (g := mkF m pc L ((.int j) :: (.ref a) :: st)) rfl rfl (hb hby d) t k) q
theorem own_laload (X : own_Cx Z p l e R s m args below meth c n0 own bytes maxL nm ret T h cells slots) {a : Addr} {cl : Cell} {j : Int32} {v : Value} (A : Arr Z h a cl .long) (hj : ¬ (j < 0 ∨ cl.slots.size ≤ j.toNatClampNeg)) (hv : cl.slots[j.toNatClampNeg]? = some v) (d : decode bytes pc = .ok (.laload, 1)) (hp : pc + 1 = pc')
    (q : own_Fin p e below G (T.setTop (mkF m pc' L (v :: st)))) : own_Fin p e below G (T.setTop (mkF m pc L ((.int j) :: (.ref a) :: st))) := by
  obtain ⟨locs, X, N, eT, hx, hZ, hown, hby, hml, hnm, hret, hlk⟩ := X
  subst hp
  exact own_go (fun t k => X.laload hx (by rw [eT]; exact A.1) (State.isArrayOf_alike hZ.alike A.2.1) A.2.2 hj hv (g := mkF m pc L ((.int j) :: (.ref a) :: st)) rfl rfl (hb hby d) t k) q
theorem own_baload (X : own_Cx Z p l e R s m args below meth c n0 own bytes maxL nm ret T h cells slots) {a : Addr} {cl : Cell} {j : Int32} {v : Value} (A : Arr Z h a cl .byte) (hj : ¬ (j < 0 ∨ cl.slots.size ≤ j.toNatClampNeg)) (hv : cl.slots[j.toNatClampNeg]? = some v) (d : decode bytes pc = .ok (.baload, 1)) (hp : pc + 1 = pc')
    (q : own_Fin p e below G (T.setTop (mkF m pc' L (v :: st)))) : own_Fin p e below G (T.setTop (mkF m pc L ((.int j) :: (.ref a) :: st))) := by
  obtain ⟨locs, X, N, eT, hx, hZ, hown, hby, hml, hnm, hret, hlk⟩ := X
  subst hp
  exact own_go (fun t k => X.baloadBytes hx (by rw [eT]; exact A.1) (State.isArrayOf_alike hZ.alike A.2.1) A.2.2 hj hv (g := mkF m pc L ((.int j) :: (.ref a) :: st)) rfl rfl (hb hby d) t k) q
theorem own_arraylength (X : own_Cx Z p l e R s m args below meth c n0 own bytes maxL nm ret T h cells slots) {a : Addr} {cl : Cell} {ty : FieldType} {z : Int32} (A : Arr Z h a cl ty) (hz : cl.slots.size.toInt32 = z) (d : decode bytes pc = .ok (.arraylength, 1)) (hp : pc + 1 = pc')
    (q : own_Fin p e below G (T.setTop (mkF m pc' L ((.int z) :: st)))) : own_Fin p e below G (T.setTop (mkF m pc L ((.ref a) :: st))) := by
  obtain ⟨locs, X, N, eT, hx, hZ, hown, hby, hml, hnm, hret, hlk⟩ := X
  subst hp hz
  exact own_go (fun t k => X.arraylength hx (by rw [eT]; exact A.1) (State.isArrayOf_alike hZ.alike A.2.1) (g := mkF m pc L ((.ref a) :: st)) rfl rfl (hb hby d) t k) q
theorem own_iastore (X : own_Cx Z p l e R s m args below meth c n0 own bytes maxL nm ret T h cells slots) {a : Addr} {cl : Cell} {j : Int32} {x : Int32} (A : Arr Z h a cl .int) (hj : ¬ (j < 0 ∨ cl.slots.size ≤ j.toNatClampNeg)) (hge : n0 ≤ a) (d : decode bytes pc = .ok (.iastore, 1)) (hp : pc + 1 = pc')
    (q : ∀ T' h', own_Cx Z p l e R s m args below meth c n0 own bytes maxL nm ret T' h' cells slots → Wr h h' a j.toNatClampNeg (.int x) → own_Fin p e below G (T'.setTop (mkF m pc' L (st)))) : own_Fin p e below G (T.setTop (mkF m pc L ((.int x) :: (.int j) :: (.ref a) :: st))) := by
  obtain ⟨locs, X, N, eT, hx, hZ, hown, hby, hml, hnm, hret, hlk⟩ := X
  subst hp
  obtain ⟨T1, h1, X1, e1, W1, st1⟩ := stI X hx hZ eT A hj (g := mkF m pc L ((.int x) :: (.int j) :: (.ref a) :: st)) rfl rfl (hb hby d)
  exact own_go st1 (q T1 h1 ⟨_, X1, Fr.snoc X1 N hge, e1, hx, hZ, hown, hby, hml, hnm, hret, hlk⟩ W1)
theorem own_lastore (X : own_Cx Z p l e R s m args below meth c n0 own bytes maxL nm ret T h cells slots) {a : Addr} {cl : Cell} {j : Int32} {x : Int64} (A : Arr Z h a cl .long) (hj : ¬ (j < 0 ∨ cl.slots.size ≤ j.toNatClampNeg)) (hge : n0 ≤ a) (d : decode bytes pc = .ok (.lastore, 1)) (hp : pc + 1 = pc')
    (q : ∀ T' h', own_Cx Z p l e R s m args below meth c n0 own bytes maxL nm ret T' h' cells slots → Wr h h' a j.toNatClampNeg (.long x) → own_Fin p e below G (T'.setTop (mkF m pc' L (st)))) : own_Fin p e below G (T.setTop (mkF m pc L ((.long x) :: (.int j) :: (.ref a) :: st))) := by
  obtain ⟨locs, X, N, eT, hx, hZ, hown, hby, hml, hnm, hret, hlk⟩ := X
  subst hp
  obtain ⟨T1, h1, X1, e1, W1, st1⟩ := stJ X hx hZ eT A hj (g := mkF m pc L ((.long x) :: (.int j) :: (.ref a) :: st)) rfl rfl (hb hby d)
  exact own_go st1 (q T1 h1 ⟨_, X1, Fr.snoc X1 N hge, e1, hx, hZ, hown, hby, hml, hnm, hret, hlk⟩ W1)
theorem own_initO (X : own_Cx Z p l e R s m args below meth c n0 own bytes maxL nm ret T h cells slots) {i : Nat} {a : Addr} (w1 : (Jvm.Cond.methodLink own i Lib.objectInit).before a0 Z = true) (w2 : (Jvm.Cond.instanceMethod Lib.objectInit).before a0 Z = true) (w3 : (Jvm.Cond.code Lib.objectInit ⟨#[0xb1]⟩ 1 none).before a0 Z = true) (d : decode bytes pc = .ok (.invokespecial i, 3)) (hp : pc + 3 = pc') (hsz : L.size = maxL) (hf : 1 ≤ R.frames) {W : Nat} (hW : (st.map fun v => v.category).sum = W) (hl : W + 12 ≤ R.locals)
    (q : ∀ T', own_Cx Z p l e R s m args below meth c n0 own bytes maxL nm ret T' h cells slots → own_Fin p e below G (T'.setTop (mkF m pc' L (st)))) : own_Fin p e below G (T.setTop (mkF m pc L ((.ref a) :: st))) := by
  obtain ⟨locs, X, N, eT, hx, hZ, hown, hby, hml, hnm, hret, hlk⟩ := X
  subst hp
  obtain ⟨T1, X1, e1, st1⟩ := initO X hx hZ hown w1 w2 w3 eT (g := mkF m pc L ((.ref a) :: st)) rfl (hsz.trans hml.symm) rfl (hb hby d) hf (W := W) (by show 2 * 0 + _ ≤ _; omega) hl
  exact own_go st1 (q T1 ⟨locs, X1, N, e1, hx, hZ, hown, hby, hml, hnm, hret, hlk⟩)
theorem own_callS (X : own_Cx Z p l e R s m args below meth c n0 own bytes maxL nm ret T h cells slots) {y : MethodName} {yb : ByteArray} {ymax : Nat} {yr : Option FieldType} {i : Nat} (w1 : (Jvm.Cond.methodLink own i y).before a0 Z = true) (w2 : (Jvm.Cond.static y).before a0 Z = true) (w3 : (Jvm.Cond.initialized y.cls).before a0 Z = true) (w4 : (Jvm.Cond.code y yb ymax yr).before a0 Z = true) (hy : y.cls ≠ "java/lang/invoke/MethodHandle" ∧ y.cls ≠ "java/lang/invoke/VarHandle")
    {rm : Room} {argsL rest : List Value} {q : Option Value → Heap → Prop} (hM : own_Met l Z y yb ymax yr [] rm argsL.toArray h n0 q) {ps : List FieldType} {r : Option FieldType} (pd : parseMethodDescriptor y.desc = some ⟨ps, r⟩) (hlen : argsL.length = ps.length) (d : decode bytes pc = .ok (.invokestatic i, 3)) (hp : pc + 3 = pc') (hsz : L.size = maxL) (hst : st = argsL.reverse ++ rest) {W : Nat} (hW : (rest.map fun v => v.category).sum = W) (hfr : rm.frames + 1 ≤ R.frames) (hlo : W + (ymax + 11) + rm.locals ≤ R.locals) {cells' slots' : Nat} (ec : cells + rm.cells = cells') (es : slots + rm.slots = slots') (hc : cells' ≤ R.cells) (hs : slots' ≤ R.slots)
    (k : ∀ v T' h', own_Cx Z p l e R s m args below meth c n0 own bytes maxL nm ret T' h' cells' slots' → q v h' → own_Fin p e below G (T'.setTop (mkF m pc' L (v.toList ++ rest)))) : own_Fin p e below G (T.setTop (mkF m pc L st)) := by
  obtain ⟨locs, X, N, eT, hx, hZ, hown, hby, hml, hnm, hret, hlk⟩ := X
  subst hp ec es
  obtain ⟨v, _, ⟨T1, L1, k1, n1⟩, -, X1, ⟨Lc, hQ, l1, y1, z1⟩, st1⟩ := Jvm.LawKit.callS X hx (y := y) hown (mvT hZ w1) (mvT hZ w2) (mvT hZ w3) (mvT hZ w4) hy (backOf (W := W) (Q := fun v h L => q v h ∧ Fr n0 L) hM hZ w4 w3 hfr hlo) (g := mkF m pc L st) rfl (hsz.trans hml.symm) (argsL := argsL) (rest := rest) (lenOf pd hlen) hst (by show 2 * 0 + _ ≤ _; omega) (hb hby d) (fun _ _ => ⟨rfl, eT, hc, hs⟩)
  dsimp only [Pt.U, Pt.locs, Pt.cells, Pt.slots] at X1 l1 y1 z1 st1 hQ
  subst l1 y1 z1
  exact own_go st1 (k v T1 _ ⟨_, X1, Fr.app N hQ.2, rfl, hx, hZ, hown, hby, hml, hnm, hret, hlk⟩ hQ.1)
theorem own_callI (X : own_Cx Z p l e R s m args below meth c n0 own bytes maxL nm ret T h cells slots) {y : MethodName} {yb : ByteArray} {ymax : Nat} {i : Nat} (hi : y.name = "<init>") (w1 : (Jvm.Cond.methodLink own i y).before a0 Z = true) (w2 : (Jvm.Cond.instanceMethod y).before a0 Z = true) (w3 : (Jvm.Cond.initialized y.cls).before a0 Z = true) (w4 : (Jvm.Cond.code y yb ymax none).before a0 Z = true) (hy : y.cls ≠ "java/lang/invoke/MethodHandle" ∧ y.cls ≠ "java/lang/invoke/VarHandle")
    {rm : Room} {a : Addr} {argsL rest : List Value} {q : Option Value → Heap → Prop} (hM : own_Met l Z y yb ymax none [] rm (Value.ref a :: argsL).toArray h n0 q) {ps : List FieldType} {r : Option FieldType} (pd : parseMethodDescriptor y.desc = some ⟨ps, r⟩) (hlen : argsL.length = ps.length) (d : decode bytes pc = .ok (.invokespecial i, 3)) (hp : pc + 3 = pc') (hsz : L.size = maxL) (hst : st = argsL.reverse ++ .ref a :: rest) {W : Nat} (hW : (rest.map fun v => v.category).sum = W) (hfr : rm.frames + 1 ≤ R.frames) (hlo : W + (ymax + 11) + rm.locals ≤ R.locals) {cells' slots' : Nat} (ec : cells + rm.cells = cells') (es : slots + rm.slots = slots') (hc : cells' ≤ R.cells) (hs : slots' ≤ R.slots)
    (k : ∀ v T' h', own_Cx Z p l e R s m args below meth c n0 own bytes maxL nm ret T' h' cells' slots' → q v h' → own_Fin p e below G (T'.setTop (mkF m pc' L (v.toList ++ rest)))) : own_Fin p e below G (T.setTop (mkF m pc L st)) := by
  obtain ⟨locs, X, N, eT, hx, hZ, hown, hby, hml, hnm, hret, hlk⟩ := X
  subst hp ec es
  obtain ⟨v, _, ⟨T1, L1, k1, n1⟩, -, X1, ⟨Lc, hQ, l1, y1, z1⟩, st1⟩ := X.specialBack hx (y := y) hi hown (mvT hZ w1) (mvT hZ w2) (mvT hZ w4) hy (backOf (W := W) (Q := fun v h L => q v h ∧ Fr n0 L) hM hZ w4 w3 hfr hlo) (g := mkF m pc L st) rfl (hsz.trans hml.symm) (Steps.refl _) (a := a) (argsL := argsL) (rest := rest) (lenOf pd hlen) hst (by show 2 * 0 + _ ≤ _; omega) (hb hby d) (fun _ _ => ⟨rfl, eT, hc, hs⟩)
  dsimp only [Pt.U, Pt.locs, Pt.cells, Pt.slots] at X1 l1 y1 z1 st1 hQ
  subst l1 y1 z1
  exact own_go (fun t k => st1.trans k) (k v T1 _ ⟨_, X1, Fr.app N hQ.2, rfl, hx, hZ, hown, hby, hml, hnm, hret, hlk⟩ hQ.1)
theorem own_callV (X : own_Cx Z p l e R s m args below meth c n0 own bytes maxL nm ret T h cells slots) {y : MethodName} {yb : ByteArray} {ymax : Nat} {yr : Option FieldType} {i : Nat} {C : String} (w1 : (Jvm.Cond.methodLink own i y).before a0 Z = true) (w2 : (Jvm.Cond.declares y).before a0 Z = true) (w5 : (Jvm.Cond.selects C y y).before a0 Z = true) (w6 : (Jvm.Cond.instanceMethod y).before a0 Z = true) (w3 : (Jvm.Cond.initialized y.cls).before a0 Z = true) (w4 : (Jvm.Cond.code y yb ymax yr).before a0 Z = true) (hy : y.cls ≠ "java/lang/invoke/MethodHandle" ∧ y.cls ≠ "java/lang/invoke/VarHandle")
    {rm : Room} {a : Addr} {argsL rest : List Value} {q : Option Value → Heap → Prop} (hM : own_Met l Z y yb ymax yr [] rm (Value.ref a :: argsL).toArray h n0 q) (E : Exa Z h a C) {ps : List FieldType} {r : Option FieldType} (pd : parseMethodDescriptor y.desc = some ⟨ps, r⟩) (hlen : argsL.length = ps.length) (d : decode bytes pc = .ok (.invokevirtual i, 3)) (hp : pc + 3 = pc') (hsz : L.size = maxL) (hst : st = argsL.reverse ++ .ref a :: rest) {W : Nat} (hW : (rest.map fun v => v.category).sum = W) (hfr : rm.frames + 1 ≤ R.frames) (hlo : W + (ymax + 11) + rm.locals ≤ R.locals) {cells' slots' : Nat} (ec : cells + rm.cells = cells') (es : slots + rm.slots = slots') (hc : cells' ≤ R.cells) (hs : slots' ≤ R.slots)
    (k : ∀ v T' h', own_Cx Z p l e R s m args below meth c n0 own bytes maxL nm ret T' h' cells' slots' → q v h' → own_Fin p e below G (T'.setTop (mkF m pc' L (v.toList ++ rest)))) : own_Fin p e below G (T.setTop (mkF m pc L st)) := by
  obtain ⟨locs, X, N, eT, hx, hZ, hown, hby, hml, hnm, hret, hlk⟩ := X
  subst hp ec es
  obtain ⟨cq, kq, qa, qb, qc⟩ := isOf (T := T) hZ eT E
  obtain ⟨v, _, ⟨T1, L1, k1, n1⟩, -, X1, ⟨Lc, hQ, l1, y1, z1⟩, st1⟩ := X.virtualBack hx (y := y) (z := y) hown (mvT hZ w1) (mvT hZ w2) (notFace_of_selects (args := #[]) (mvT hZ w5)) (mvT hZ w5) (mvT hZ w6) hy (backOf (W := W) (Q := fun v h L => q v h ∧ Fr n0 L) hM hZ w4 w3 hfr hlo) qa qc (g := mkF m pc L st) rfl (hsz.trans hml.symm) (Steps.refl _) (argsL := argsL) (rest := rest) (lenOf pd hlen) hst (by show 2 * 0 + _ ≤ _; omega) (hb hby d) (fun _ _ => ⟨rfl, eT, hc, hs⟩)
  dsimp only [Pt.U, Pt.locs, Pt.cells, Pt.slots] at X1 l1 y1 z1 st1 hQ
  subst l1 y1 z1
  exact own_go (fun t k => st1.trans k) (k v T1 _ ⟨_, X1, Fr.app N hQ.2, rfl, hx, hZ, hown, hby, hml, hnm, hret, hlk⟩ hQ.1)
end OwnKit
theorem pd_1 : parseMethodDescriptor "(ILjava/lang/String;)V" = some ⟨[.int, (.object "java/lang/String")], none⟩ := by decide +kernel
theorem pd_3 : parseMethodDescriptor "(I)[J" = some ⟨[.int], some (.array .long)⟩ := by decide +kernel
theorem pd_4 : parseMethodDescriptor "([JJ)V" = some ⟨[(.array .long), .long], none⟩ := by decide +kernel
theorem pd_5 : parseMethodDescriptor "(I)I" = some ⟨[.int], some .int⟩ := by decide +kernel
theorem pd_6 : parseMethodDescriptor "(III)I" = some ⟨[.int, .int, .int], some .int⟩ := by decide +kernel
theorem pd_7 : parseMethodDescriptor "(III)I" = some ⟨[.int, .int, .int], some .int⟩ := by decide +kernel
theorem pd_8 : parseMethodDescriptor "(III)J" = some ⟨[.int, .int, .int], some .long⟩ := by decide +kernel
theorem pd_9 : parseMethodDescriptor "(J)J" = some ⟨[.long], some .long⟩ := by decide +kernel
theorem pd_10 : parseMethodDescriptor "(IIII)I" = some ⟨[.int, .int, .int, .int], some .int⟩ := by decide +kernel
theorem pd_11 : parseMethodDescriptor "(IIII)Z" = some ⟨[.int, .int, .int, .int], some .boolean⟩ := by decide +kernel
theorem pd_12 : parseMethodDescriptor "(I)I" = some ⟨[.int], some .int⟩ := by decide +kernel
theorem pd_13 : parseMethodDescriptor "(J)I" = some ⟨[.long], some .int⟩ := by decide +kernel
theorem pd_14 : parseMethodDescriptor "(J)I" = some ⟨[.long], some .int⟩ := by decide +kernel
theorem pd_15 : parseMethodDescriptor "(JI)V" = some ⟨[.long, .int], none⟩ := by decide +kernel
theorem pd_16 : parseMethodDescriptor "(II)I" = some ⟨[.int, .int], some .int⟩ := by decide +kernel
theorem pd_17 : parseMethodDescriptor "(III)I" = some ⟨[.int, .int, .int], some .int⟩ := by decide +kernel
theorem pd_18 : parseMethodDescriptor "(II)I" = some ⟨[.int, .int], some .int⟩ := by decide +kernel
theorem pd_19 : parseMethodDescriptor "(II)I" = some ⟨[.int, .int], some .int⟩ := by decide +kernel
theorem pd_20 : parseMethodDescriptor "(IIZ)I" = some ⟨[.int, .int, .boolean], some .int⟩ := by decide +kernel
theorem pd_21 : parseMethodDescriptor "(II)I" = some ⟨[.int, .int], some .int⟩ := by decide +kernel
theorem pd_22 : parseMethodDescriptor "(I)J" = some ⟨[.int], some .long⟩ := by decide +kernel
theorem pd_23 : parseMethodDescriptor "(IJ)Z" = some ⟨[.int, .long], some .boolean⟩ := by decide +kernel
section OwnAF
variable {Z : State} {p : Program} {l : Launch} {e : Env} {R : Room} {s : State} {m : MethodId} {args : Array Value} {below : List Frame} {meth : Method} {c : Code} {n0 : Nat} {own : String} {bytes : ByteArray} {maxL : Nat} {nm : String} {ret : Option FieldType} {T : State} {h h' : Heap} {cells slots : Nat} {G : Outcome → State → Prop} {L : Array Slot} {st : List Value} {pc pc' : Nat} {a0 : Array Value} {a b : Addr} {n : Nat} {sl : Nat} {v : Value}

theorem own_i32 {n : Nat} (h : n < 2 ^ 31) : n.toInt32.toInt = n := len_toInt h
theorem own_nat {n : Nat} (h : n < 2 ^ 31) : n.toInt32.toNatClampNeg = n := by simp only [Int32.toNatClampNeg, own_i32 h]; omega
theorem own_nneg {n : Nat} (h : n < 2 ^ 31) : ¬ n.toInt32 < 0 := by rw [Int32.lt_iff_toInt_lt, own_i32 h]; show ¬ (n : Int) < 0; omega
theorem own_inj {i j : Nat} (hi : i < 2 ^ 31) (hj : j < 2 ^ 31) : i.toInt32 = j.toInt32 ↔ i = j := by rw [← Int32.toInt_inj, own_i32 hi, own_i32 hj]; omega
theorem own_lt32 {i n : Nat} (hi : i < 2 ^ 31) (hn : n < 2 ^ 31) : i.toInt32 < n.toInt32 ↔ i < n := by rw [Int32.lt_iff_toInt_lt, own_i32 hi, own_i32 hn]; omega
def own_up {α : Type} (f : Nat → α) (j : Nat) (x : α) : Nat → α := fun k => if k = j then x else f k
theorem own_up_same {α : Type} (f : Nat → α) (j : Nat) (x : α) : own_up f j x j = x := if_pos rfl
theorem own_up_ne {α : Type} (f : Nat → α) {j k : Nat} (x : α) (q : k ≠ j) : own_up f j x k = f k := if_neg q
theorem own_upI (f : Nat → Nat) (j x k : Nat) : own_up (fun k => (f k).toInt32) j x.toInt32 k = (own_up f j x k).toInt32 := by unfold own_up; split <;> rfl
/-- an int[] of n places, place k holds f k -/
def own_AI (Z : State) (h : Heap) (a : Addr) (n : Nat) (f : Nat → Int32) : Prop := ∃ c : Cell, Arr Z h a c .int ∧ c.slots.size = n ∧ ∀ k, k < n → c.slots[k]? = some (.int (f k))
def own_AJ (Z : State) (h : Heap) (a : Addr) (n : Nat) (f : Nat → Int64) : Prop := ∃ c : Cell, Arr Z h a c .long ∧ c.slots.size = n ∧ ∀ k, k < n → c.slots[k]? = some (.long (f k))
theorem own_AI.lt {f : Nat → Int32} (F : own_AI Z h a n f) : a < h.size := by obtain ⟨_, A, -⟩ := F; exact A.lt
theorem own_AJ.lt {f : Nat → Int64} (F : own_AJ Z h a n f) : a < h.size := by obtain ⟨_, A, -⟩ := F; exact A.lt
theorem own_AI.ext {f : Nat → Int32} (F : own_AI Z h a n f) (E : Ext h h') : own_AI Z h' a n f := by obtain ⟨c, A, r⟩ := F; exact ⟨c, A.ext E, r⟩
theorem own_AJ.ext {f : Nat → Int64} (F : own_AJ Z h a n f) (E : Ext h h') : own_AJ Z h' a n f := by obtain ⟨c, A, r⟩ := F; exact ⟨c, A.ext E, r⟩
theorem own_AI.other {f : Nat → Int32} (F : own_AI Z h a n f) (W : Wr h h' b sl v) (q : a ≠ b) : own_AI Z h' a n f := by obtain ⟨c, A, r⟩ := F; exact ⟨c, A.other W q, r⟩
theorem own_AJ.other {f : Nat → Int64} (F : own_AJ Z h a n f) (W : Wr h h' b sl v) (q : a ≠ b) : own_AJ Z h' a n f := by obtain ⟨c, A, r⟩ := F; exact ⟨c, A.other W q, r⟩
theorem own_AI.keep {f : Nat → Int32} {ws : List Addr} (F : own_AI Z h a n f) (K : Keep h h' ws) (q : a ∉ ws) : own_AI Z h' a n f := by obtain ⟨c, A, r⟩ := F; exact ⟨c, ⟨K.2.1 a c A.1 q, A.2⟩, r⟩
theorem own_AJ.keep {f : Nat → Int64} {ws : List Addr} (F : own_AJ Z h a n f) (K : Keep h h' ws) (q : a ∉ ws) : own_AJ Z h' a n f := by obtain ⟨c, A, r⟩ := F; exact ⟨c, ⟨K.2.1 a c A.1 q, A.2⟩, r⟩
theorem own_AI.set {f : Nat → Int32} {x : Int32} (F : own_AI Z h a n f) (W : Wr h h' a sl (.int x)) : own_AI Z h' a n (own_up f sl x) := by
  obtain ⟨c, A, S, H⟩ := F
  refine ⟨_, A.same W, (sz_set _ _ _).trans S, fun k hk => ?_⟩
  by_cases q : k = sl
  · subst q; rw [own_up_same]; simp [Cell.setSlot, S, hk]
  · rw [own_up_ne _ _ q]; simp only [Cell.setSlot]; rw [Array.getElem?_setIfInBounds_ne (Ne.symm q)]; exact H k hk
theorem own_AJ.set {f : Nat → Int64} {x : Int64} (F : own_AJ Z h a n f) (W : Wr h h' a sl (.long x)) : own_AJ Z h' a n (own_up f sl x) := by
  obtain ⟨c, A, S, H⟩ := F
  refine ⟨_, A.same W, (sz_set _ _ _).trans S, fun k hk => ?_⟩
  by_cases q : k = sl
  · subst q; rw [own_up_same]; simp [Cell.setSlot, S, hk]
  · rw [own_up_ne _ _ q]; simp only [Cell.setSlot]; rw [Array.getElem?_setIfInBounds_ne (Ne.symm q)]; exact H k hk
theorem own_AI_new {cA : ClassId} {z : Int32} (A : Arr Z h a (newA cA .int z) .int) (hz : z.toNatClampNeg = n) : own_AI Z h a n (fun _ => 0) := by
  refine ⟨_, A, (sz_new _ _ _).trans hz, fun k hk => ?_⟩
  simp only [newA]; rw [Array.getElem?_replicate, if_pos (by omega)]; rfl
theorem own_AJ_new {cA : ClassId} {z : Int32} (A : Arr Z h a (newA cA .long z) .long) (hz : z.toNatClampNeg = n) : own_AJ Z h a n (fun _ => 0) := by
  refine ⟨_, A, (sz_new _ _ _).trans hz, fun k hk => ?_⟩
  simp only [newA]; rw [Array.getElem?_replicate, if_pos (by omega)]; rfl
theorem own_AI.eq {f g : Nat → Int32} (F : own_AI Z h a n f) (q : ∀ k, k < n → f k = g k) : own_AI Z h a n g := by obtain ⟨c, A, S, H⟩ := F; exact ⟨c, A, S, fun k hk => by rw [← q k hk]; exact H k hk⟩
theorem own_AJ.eq {f g : Nat → Int64} (F : own_AJ Z h a n f) (q : ∀ k, k < n → f k = g k) : own_AJ Z h a n g := by obtain ⟨c, A, S, H⟩ := F; exact ⟨c, A, S, fun k hk => by rw [← q k hk]; exact H k hk⟩
theorem own_inb {cl : Cell} {j : Nat} (S : cl.slots.size = n) (hj : j < n) (hn : n ≤ 64) : ¬ (j.toInt32 < 0 ∨ cl.slots.size ≤ j.toInt32.toNatClampNeg) := by
  rw [own_nat (by omega), S]; exact fun z => z.elim (own_nneg (by omega)) (by omega)
theorem own_ialoadF (X : own_Cx Z p l e R s m args below meth c n0 own bytes maxL nm ret T h cells slots) {f : Nat → Int32} {j : Nat} (A : own_AI Z h a n f) (hn : n ≤ 64) (hj : j < n) (d : decode bytes pc = .ok (.iaload, 1)) (hp : pc + 1 = pc')
    (q : own_Fin p e below G (T.setTop (mkF m pc' L ((.int (f j)) :: st)))) : own_Fin p e below G (T.setTop (mkF m pc L ((.int j.toInt32) :: (.ref a) :: st))) := by
  obtain ⟨cl, A, S, H⟩ := A
  exact own_iaload X A (own_inb S hj hn) (by rw [own_nat (by omega)]; exact H j hj) d hp q
theorem own_laloadF (X : own_Cx Z p l e R s m args below meth c n0 own bytes maxL nm ret T h cells slots) {f : Nat → Int64} {j : Nat} (A : own_AJ Z h a n f) (hn : n ≤ 64) (hj : j < n) (d : decode bytes pc = .ok (.laload, 1)) (hp : pc + 1 = pc')
    (q : own_Fin p e below G (T.setTop (mkF m pc' L ((.long (f j)) :: st)))) : own_Fin p e below G (T.setTop (mkF m pc L ((.int j.toInt32) :: (.ref a) :: st))) := by
  obtain ⟨cl, A, S, H⟩ := A
  exact own_laload X A (own_inb S hj hn) (by rw [own_nat (by omega)]; exact H j hj) d hp q
theorem own_iastoreF (X : own_Cx Z p l e R s m args below meth c n0 own bytes maxL nm ret T h cells slots) {f : Nat → Int32} {j : Nat} {x : Int32} (A : own_AI Z h a n f) (hn : n ≤ 64) (hj : j < n) (hge : n0 ≤ a) (d : decode bytes pc = .ok (.iastore, 1)) (hp : pc + 1 = pc')
    (q : ∀ T' h', own_Cx Z p l e R s m args below meth c n0 own bytes maxL nm ret T' h' cells slots → Wr h h' a j (.int x) → own_Fin p e below G (T'.setTop (mkF m pc' L (st)))) : own_Fin p e below G (T.setTop (mkF m pc L ((.int x) :: (.int j.toInt32) :: (.ref a) :: st))) := by
  obtain ⟨cl, A, S, H⟩ := A
  refine own_iastore X A (own_inb S hj hn) hge d hp (fun T' h' X' W => q T' h' X' ?_)
  rw [own_nat (by omega)] at W
  exact W
theorem own_lastoreF (X : own_Cx Z p l e R s m args below meth c n0 own bytes maxL nm ret T h cells slots) {f : Nat → Int64} {j : Nat} {x : Int64} (A : own_AJ Z h a n f) (hn : n ≤ 64) (hj : j < n) (hge : n0 ≤ a) (d : decode bytes pc = .ok (.lastore, 1)) (hp : pc + 1 = pc')
    (q : ∀ T' h', own_Cx Z p l e R s m args below meth c n0 own bytes maxL nm ret T' h' cells slots → Wr h h' a j (.long x) → own_Fin p e below G (T'.setTop (mkF m pc' L (st)))) : own_Fin p e below G (T.setTop (mkF m pc L ((.long x) :: (.int j.toInt32) :: (.ref a) :: st))) := by
  obtain ⟨cl, A, S, H⟩ := A
  refine own_lastore X A (own_inb S hj hn) hge d hp (fun T' h' X' W => q T' h' X' ?_)
  rw [own_nat (by omega)] at W
  exact W
theorem own_alenI (X : own_Cx Z p l e R s m args below meth c n0 own bytes maxL nm ret T h cells slots) {f : Nat → Int32} {z : Int32} (A : own_AI Z h a n f) (hz : n.toInt32 = z) (d : decode bytes pc = .ok (.arraylength, 1)) (hp : pc + 1 = pc')
    (q : own_Fin p e below G (T.setTop (mkF m pc' L ((.int z) :: st)))) : own_Fin p e below G (T.setTop (mkF m pc L ((.ref a) :: st))) := by
  obtain ⟨cl, A, S, H⟩ := A
  exact own_arraylength X A (by rw [S]; exact hz) d hp q
theorem own_alenJ (X : own_Cx Z p l e R s m args below meth c n0 own bytes maxL nm ret T h cells slots) {f : Nat → Int64} {z : Int32} (A : own_AJ Z h a n f) (hz : n.toInt32 = z) (d : decode bytes pc = .ok (.arraylength, 1)) (hp : pc + 1 = pc')
    (q : own_Fin p e below G (T.setTop (mkF m pc' L ((.int z) :: st)))) : own_Fin p e below G (T.setTop (mkF m pc L ((.ref a) :: st))) := by
  obtain ⟨cl, A, S, H⟩ := A
  exact own_arraylength X A (by rw [S]; exact hz) d hp q
theorem own_callP (X : own_Cx Z p l e R s m args below meth c n0 own bytes maxL nm ret T h cells slots) {y y0 : MethodName} {yb : ByteArray} {ymax : Nat} {yr : Option FieldType} {i : Nat} {C C' : String} (w1 : (Jvm.Cond.methodLink own i y).before a0 Z = true) (w6 : (Jvm.Cond.instanceMethod y).before a0 Z = true) (wp : (Jvm.Cond.privateMethod y).before a0 Z = true) (w3 : (Jvm.Cond.initialized y.cls).before a0 Z = true) (w4 : (Jvm.Cond.code y yb ymax yr).before a0 Z = true) (w7 : (Jvm.Cond.selects C y0 y0).before a0 Z = true) (w8 : (Jvm.Cond.instanceMethod y0).before a0 Z = true) (hcc : y0.cls = y.cls) (hy : y.cls ≠ "java/lang/invoke/MethodHandle" ∧ y.cls ≠ "java/lang/invoke/VarHandle")
    {rm : Room} {argsL rest : List Value} {q : Option Value → Heap → Prop} (hM : own_Met l Z y yb ymax yr [] rm (Value.ref a :: argsL).toArray h n0 q) (E : Exa Z h a C') {ps : List FieldType} {r : Option FieldType} (pd : parseMethodDescriptor y.desc = some ⟨ps, r⟩) (hlen : argsL.length = ps.length) (d : decode bytes pc = .ok (.invokevirtual i, 3)) (hp : pc + 3 = pc') (hsz : L.size = maxL) (hst : st = argsL.reverse ++ .ref a :: rest)
    {W : Nat} (hW : (rest.map fun v => v.category).sum = W) (hfr : rm.frames + 1 ≤ R.frames) (hlo : W + (ymax + 11) + rm.locals ≤ R.locals) {cells' slots' : Nat} (ec : cells + rm.cells = cells') (es : slots + rm.slots = slots') (hc : cells' ≤ R.cells) (hs : slots' ≤ R.slots)
    (k : ∀ v T' h', own_Cx Z p l e R s m args below meth c n0 own bytes maxL nm ret T' h' cells' slots' → q v h' → own_Fin p e below G (T'.setTop (mkF m pc' L (v.toList ++ rest)))) : own_Fin p e below G (T.setTop (mkF m pc L st)) := by
  obtain ⟨locs, X, N, eT, hx, hZ, hown, hby, hml, hnm, hret, hlk⟩ := X
  subst hp ec es
  obtain ⟨r0, m0, hn0, hm0, -, -⟩ := Cond.instanceMethod_spec (mvT (args := args) hZ w8)
  obtain ⟨kr, hk, hni⟩ := notFace_of_selects (args := args) (mvT hZ w7) r0 hn0
  have hcl : s.vm.findClass y.cls = some r0.cls := hcc ▸ findClass_of_methodNamed hn0
  have hpr := Cond.privateMethod_at (mvP (args := args) hZ wp)
  have hsel := selects_self_of_private (args := args) hcl hk hni hpr (mvT hZ w6) hy
  obtain ⟨cq, q1, q2⟩ := E.cell
  obtain ⟨v, _, ⟨T1, L1, k1, n1⟩, -, X1, ⟨Lc, hQ, l1, y1, z1⟩, st1⟩ := X.privateBack hx (y := y) hown (mvT hZ w1) (mvT hZ w6) hsel hpr (mvT hZ w4) hy (backOf (W := W) (Q := fun v h L => q v h ∧ Fr n0 L) hM hZ w4 w3 hfr hlo) (g := mkF m pc L st) rfl (hsz.trans hml.symm) (Steps.refl _) (a := a) (by rw [eT]; exact q1) q2 (argsL := argsL) (rest := rest) (lenOf pd hlen) hst (by show 2 * 0 + _ ≤ _; omega) (hb hby d) (fun _ _ => ⟨rfl, eT, hc, hs⟩)
  dsimp only [Pt.U, Pt.locs, Pt.cells, Pt.slots] at X1 l1 y1 z1 st1 hQ
  subst l1 y1 z1
  exact own_go (fun t k => st1.trans k) (k v T1 _ ⟨_, X1, Fr.app N hQ.2, rfl, hx, hZ, hown, hby, hml, hnm, hret, hlk⟩ hQ.1)
end OwnAF
theorem d8_0 : decode prog_13_method_22_code 0 = .ok (.iload_n 0, 1) := by decide +kernel
theorem d8_1 : decode prog_13_method_22_code 1 = .ok (.i2l, 1) := by decide +kernel
theorem d8_2 : decode prog_13_method_22_code 2 = .ok (.bipush 46, 2) := by decide +kernel
theorem d8_4 : decode prog_13_method_22_code 4 = .ok (.lshl, 1) := by decide +kernel
theorem d8_5 : decode prog_13_method_22_code 5 = .ok (.iload_n 1, 1) := by decide +kernel
theorem d8_6 : decode prog_13_method_22_code 6 = .ok (.i2l, 1) := by decide +kernel
theorem d8_7 : decode prog_13_method_22_code 7 = .ok (.bipush 23, 2) := by decide +kernel
theorem d8_9 : decode prog_13_method_22_code 9 = .ok (.lshl, 1) := by decide +kernel
theorem d8_10 : decode prog_13_method_22_code 10 = .ok (.lor, 1) := by decide +kernel
theorem d8_11 : decode prog_13_method_22_code 11 = .ok (.iload_n 2, 1) := by decide +kernel
theorem d8_12 : decode prog_13_method_22_code 12 = .ok (.i2l, 1) := by decide +kernel
theorem d8_13 : decode prog_13_method_22_code 13 = .ok (.lor, 1) := by decide +kernel
theorem d8_14 : decode prog_13_method_22_code 14 = .ok (.lreturn, 1) := by decide +kernel
theorem own_pnpk : plainFor (⟨"com/example/libgfg/libgfg/automaton/LetterSets", "pack", "(III)J"⟩ : MethodName) = true := by first | exact plainFor_of_name (by first | (simp [plainName, overriddenIn, x]; done) | decide +kernel) | decide +kernel
theorem own_efpk (p1 : Int32) (p2 : Int32) (p3 : Int32) (m : MethodId) : entryFrame m #[(.int p1), (.int p2), (.int p3)] 3 = mkF m 0 #[.val (.int p1), .val (.int p2), .val (.int p3)] [] := by
  first | (simp [entryFrame, mkF, argsToLocals, Value.category]; done) | rfl
theorem own_pdpk : parseMethodDescriptor "(III)J" = some ⟨[.int, .int, .int], some .long⟩ := by decide +kernel
def own_fpk (p1 : Int32) (p2 : Int32) (p3 : Int32) : Int64 := ((((p1.toInt64) <<< ((46 : Int32).toInt64 &&& 63)) ||| ((p2.toInt64) <<< ((23 : Int32).toInt64 &&& 63))) ||| (p3.toInt64))
set_option maxRecDepth 65536 in
set_option maxHeartbeats 40000000 in
theorem own_mpk (l : Launch) (Z : State) (a0 : Array Value) (hw : ∀ d ∈ tables_1, d.before a0 Z = true) (ws : List Jvm.Cond) (p1 : Int32) (p2 : Int32) (p3 : Int32) (h0 : Heap) (n0 : Nat) :
    own_Met l Z (⟨"com/example/libgfg/libgfg/automaton/LetterSets", "pack", "(III)J"⟩ : MethodName) prog_13_method_22_code 3 (some .long) ws ({ frames := 0, cells := 0, slots := 0, locals := 0 } : Room) #[(.int p1), (.int p2), (.int p3)] h0 n0 (fun v h => v = some (.long (own_fpk p1 p2 p3)) ∧ h0 = h) := by
  refine own_enter (own := "com/example/libgfg/libgfg/automaton/LetterSets") (nm := "pack") rfl rfl own_pnpk (own_efpk p1 p2 p3) ?_
  intro p e s m below meth c T0 X0
  refine own_iloadN X0 d8_0 rfl rfl ?_
  refine own_i2l X0 d8_1 rfl ?_
  refine own_bipush X0 (46 : Int32) d8_2 rfl (by decide) ?_
  refine own_lshl X0 d8_4 rfl ?_
  refine own_iloadN X0 d8_5 rfl rfl ?_
  refine own_i2l X0 d8_6 rfl ?_
  refine own_bipush X0 (23 : Int32) d8_7 rfl (by decide) ?_
  refine own_lshl X0 d8_9 rfl ?_
  refine own_lor X0 d8_10 rfl ?_
  refine own_iloadN X0 d8_11 rfl rfl ?_
  refine own_i2l X0 d8_12 rfl ?_
  refine own_lor X0 d8_13 rfl ?_
  exact own_retJ X0 rfl d8_14 ⟨by rw [own_fpk], rfl⟩ (Nat.le_refl _) (Nat.le_refl _)
theorem d9_0 : decode prog_13_method_23_code 0 = .ok (.lload_n 0, 1) := by decide +kernel
theorem d9_1 : decode prog_13_method_23_code 1 = .ok (.lload_n 0, 1) := by decide +kernel
theorem d9_2 : decode prog_13_method_23_code 2 = .ok (.bipush 30, 2) := by decide +kernel
theorem d9_4 : decode prog_13_method_23_code 4 = .ok (.lushr, 1) := by decide +kernel
theorem d9_5 : decode prog_13_method_23_code 5 = .ok (.lxor, 1) := by decide +kernel
theorem d9_6 : decode prog_13_method_23_code 6 = .ok (.ldc2_w 204, 3) := by decide +kernel
theorem d9_9 : decode prog_13_method_23_code 9 = .ok (.lmul, 1) := by decide +kernel
theorem d9_10 : decode prog_13_method_23_code 10 = .ok (.lstore_n 2, 1) := by decide +kernel
theorem d9_11 : decode prog_13_method_23_code 11 = .ok (.lload_n 2, 1) := by decide +kernel
theorem d9_12 : decode prog_13_method_23_code 12 = .ok (.lload_n 2, 1) := by decide +kernel
theorem d9_13 : decode prog_13_method_23_code 13 = .ok (.bipush 27, 2) := by decide +kernel
theorem d9_15 : decode prog_13_method_23_code 15 = .ok (.lushr, 1) := by decide +kernel
theorem d9_16 : decode prog_13_method_23_code 16 = .ok (.lxor, 1) := by decide +kernel
theorem d9_17 : decode prog_13_method_23_code 17 = .ok (.ldc2_w 206, 3) := by decide +kernel
theorem d9_20 : decode prog_13_method_23_code 20 = .ok (.lmul, 1) := by decide +kernel
theorem d9_21 : decode prog_13_method_23_code 21 = .ok (.lstore_n 2, 1) := by decide +kernel
theorem d9_22 : decode prog_13_method_23_code 22 = .ok (.lload_n 2, 1) := by decide +kernel
theorem d9_23 : decode prog_13_method_23_code 23 = .ok (.lload_n 2, 1) := by decide +kernel
theorem d9_24 : decode prog_13_method_23_code 24 = .ok (.bipush 31, 2) := by decide +kernel
theorem d9_26 : decode prog_13_method_23_code 26 = .ok (.lushr, 1) := by decide +kernel
theorem d9_27 : decode prog_13_method_23_code 27 = .ok (.lxor, 1) := by decide +kernel
theorem d9_28 : decode prog_13_method_23_code 28 = .ok (.lreturn, 1) := by decide +kernel
theorem own_pnmix : plainFor (⟨"com/example/libgfg/libgfg/automaton/LetterSets", "mix", "(J)J"⟩ : MethodName) = true := by first | exact plainFor_of_name (by first | (simp [plainName, overriddenIn, x]; done) | decide +kernel) | decide +kernel
theorem own_efmix (p1 : Int64) (m : MethodId) : entryFrame m #[(.long p1)] 4 = mkF m 0 #[.val (.long p1), .second, .unset, .unset] [] := by
  first | (simp [entryFrame, mkF, argsToLocals, Value.category]; done) | rfl
theorem own_pdmix : parseMethodDescriptor "(J)J" = some ⟨[.long], some .long⟩ := by decide +kernel
def own_fmix (p1 : Int64) : Int64 := (((((p1 ^^^ (XT.ushrL p1 (30 : Int32))) * ((-4658895280553007687) : Int64)) ^^^ (XT.ushrL ((p1 ^^^ (XT.ushrL p1 (30 : Int32))) * ((-4658895280553007687) : Int64)) (27 : Int32))) * ((-7723592293110705685) : Int64)) ^^^ (XT.ushrL ((((p1 ^^^ (XT.ushrL p1 (30 : Int32))) * ((-4658895280553007687) : Int64)) ^^^ (XT.ushrL ((p1 ^^^ (XT.ushrL p1 (30 : Int32))) * ((-4658895280553007687) : Int64)) (27 : Int32))) * ((-7723592293110705685) : Int64)) (31 : Int32)))
set_option maxRecDepth 65536 in
set_option maxHeartbeats 40000000 in
theorem own_mmix (l : Launch) (Z : State) (a0 : Array Value) (hw : ∀ d ∈ tables_1, d.before a0 Z = true) (ws : List Jvm.Cond) (p1 : Int64) (h0 : Heap) (n0 : Nat) :
    own_Met l Z (⟨"com/example/libgfg/libgfg/automaton/LetterSets", "mix", "(J)J"⟩ : MethodName) prog_13_method_23_code 4 (some .long) ws ({ frames := 0, cells := 0, slots := 0, locals := 0 } : Room) #[(.long p1)] h0 n0 (fun v h => v = some (.long (own_fmix p1)) ∧ h0 = h) := by
  refine own_enter (own := "com/example/libgfg/libgfg/automaton/LetterSets") (nm := "mix") rfl rfl own_pnmix (own_efmix p1) ?_
  intro p e s m below meth c T0 X0
  refine own_lloadN X0 d9_0 rfl rfl ?_
  refine own_lloadN X0 d9_1 rfl rfl ?_
  refine own_bipush X0 (30 : Int32) d9_2 rfl (by decide) ?_
  refine own_lushr X0 d9_4 rfl ?_
  refine own_lxor X0 d9_5 rfl ?_
  refine own_ldc2J X0 (v := ((-4658895280553007687) : Int64)) d9_6 rfl (hw _ (List.mem_of_getElem? (i := 74) rfl)) ?_
  refine own_lmul X0 d9_9 rfl ?_
  refine own_lstoreN X0 (L' := #[.val (.long p1), .second, .val (.long ((p1 ^^^ (XT.ushrL p1 (30 : Int32))) * ((-4658895280553007687) : Int64))), .second]) d9_10 rfl rfl ?_
  refine own_lloadN X0 d9_11 rfl rfl ?_
  refine own_lloadN X0 d9_12 rfl rfl ?_
  refine own_bipush X0 (27 : Int32) d9_13 rfl (by decide) ?_
  refine own_lushr X0 d9_15 rfl ?_
  refine own_lxor X0 d9_16 rfl ?_
  refine own_ldc2J X0 (v := ((-7723592293110705685) : Int64)) d9_17 rfl (hw _ (List.mem_of_getElem? (i := 75) rfl)) ?_
  refine own_lmul X0 d9_20 rfl ?_
  refine own_lstoreN X0 (L' := #[.val (.long p1), .second, .val (.long ((((p1 ^^^ (XT.ushrL p1 (30 : Int32))) * ((-4658895280553007687) : Int64)) ^^^ (XT.ushrL ((p1 ^^^ (XT.ushrL p1 (30 : Int32))) * ((-4658895280553007687) : Int64)) (27 : Int32))) * ((-7723592293110705685) : Int64))), .second]) d9_21 rfl rfl ?_
  refine own_lloadN X0 d9_22 rfl rfl ?_
  refine own_lloadN X0 d9_23 rfl rfl ?_
  refine own_bipush X0 (31 : Int32) d9_24 rfl (by decide) ?_
  refine own_lushr X0 d9_26 rfl ?_
  refine own_lxor X0 d9_27 rfl ?_
  exact own_retJ X0 rfl d9_28 ⟨by rw [own_fmix], rfl⟩ (Nat.le_refl _) (Nat.le_refl _)
theorem d19_0 : decode jdk_29_method_65_code 0 = .ok (.iload_n 0, 1) := by decide +kernel
theorem d19_1 : decode jdk_29_method_65_code 1 = .ok (.iload_n 1, 1) := by decide +kernel
theorem d19_2 : decode jdk_29_method_65_code 2 = .ok (.if_icmp .lt 7, 3) := by decide +kernel
theorem d19_5 : decode jdk_29_method_65_code 5 = .ok (.iload_n 0, 1) := by decide +kernel
theorem d19_6 : decode jdk_29_method_65_code 6 = .ok (.goto 4, 3) := by decide +kernel
theorem d19_9 : decode jdk_29_method_65_code 9 = .ok (.iload_n 1, 1) := by decide +kernel
theorem d19_10 : decode jdk_29_method_65_code 10 = .ok (.ireturn, 1) := by decide +kernel
theorem own_pnmx : plainFor (⟨"java/lang/Math", "max", "(II)I"⟩ : MethodName) = true := by first | exact plainFor_of_name (by first | (simp [plainName, overriddenIn, x]; done) | decide +kernel) | decide +kernel
theorem own_efmx (p1 : Int32) (p2 : Int32) (m : MethodId) : entryFrame m #[(.int p1), (.int p2)] 2 = mkF m 0 #[.val (.int p1), .val (.int p2)] [] := by
  first | (simp [entryFrame, mkF, argsToLocals, Value.category]; done) | rfl
theorem own_pdmx : parseMethodDescriptor "(II)I" = some ⟨[.int, .int], some .int⟩ := by decide +kernel
def own_fmx (p1 : Int32) (p2 : Int32) : Int32 := (if p1 < p2 then p2 else p1)
set_option maxRecDepth 65536 in
set_option maxHeartbeats 40000000 in
theorem own_mmx (l : Launch) (Z : State) (a0 : Array Value) (hw : ∀ d ∈ tables_1, d.before a0 Z = true) (ws : List Jvm.Cond) (p1 : Int32) (p2 : Int32) (h0 : Heap) (n0 : Nat) :
    own_Met l Z (⟨"java/lang/Math", "max", "(II)I"⟩ : MethodName) jdk_29_method_65_code 2 (some .int) ws ({ frames := 0, cells := 0, slots := 0, locals := 0 } : Room) #[(.int p1), (.int p2)] h0 n0 (fun v h => v = some (.int (own_fmx p1 p2)) ∧ h0 = h) := by
  refine own_enter (own := "java/lang/Math") (nm := "max") rfl rfl own_pnmx (own_efmx p1 p2) ?_
  intro p e s m below meth c T0 X0
  refine own_iloadN X0 d19_0 rfl rfl ?_
  refine own_iloadN X0 d19_1 rfl rfl ?_
  refine own_icmp_lt X0 d19_2 (by decide) (pcT := 9) (by decide) rfl (fun hc1 => ?_) (fun hc1 => ?_)
  · skip
    refine own_iloadN X0 d19_9 rfl rfl ?_
    exact own_retI X0 rfl d19_10 ⟨by rw [own_fmx, if_pos hc1], rfl⟩ (Nat.le_refl _) (Nat.le_refl _)
  · skip
    refine own_iloadN X0 d19_5 rfl rfl ?_
    refine own_goto X0 d19_6 (by decide) (pc' := 10) (by decide) ?_
    exact own_retI X0 rfl d19_10 ⟨by rw [own_fmx, if_neg hc1], rfl⟩ (Nat.le_refl _) (Nat.le_refl _)
theorem d18_0 : decode jdk_29_method_69_code 0 = .ok (.iload_n 0, 1) := by decide +kernel
theorem d18_1 : decode jdk_29_method_69_code 1 = .ok (.iload_n 1, 1) := by decide +kernel
theorem d18_2 : decode jdk_29_method_69_code 2 = .ok (.if_icmp .gt 7, 3) := by decide +kernel
theorem d18_5 : decode jdk_29_method_69_code 5 = .ok (.iload_n 0, 1) := by decide +kernel
theorem d18_6 : decode jdk_29_method_69_code 6 = .ok (.goto 4, 3) := by decide +kernel
theorem d18_9 : decode jdk_29_method_69_code 9 = .ok (.iload_n 1, 1) := by decide +kernel
theorem d18_10 : decode jdk_29_method_69_code 10 = .ok (.ireturn, 1) := by decide +kernel
theorem own_pnmn : plainFor (⟨"java/lang/Math", "min", "(II)I"⟩ : MethodName) = true := by first | exact plainFor_of_name (by first | (simp [plainName, overriddenIn, x]; done) | decide +kernel) | decide +kernel
theorem own_efmn (p1 : Int32) (p2 : Int32) (m : MethodId) : entryFrame m #[(.int p1), (.int p2)] 2 = mkF m 0 #[.val (.int p1), .val (.int p2)] [] := by
  first | (simp [entryFrame, mkF, argsToLocals, Value.category]; done) | rfl
theorem own_pdmn : parseMethodDescriptor "(II)I" = some ⟨[.int, .int], some .int⟩ := by decide +kernel
def own_fmn (p1 : Int32) (p2 : Int32) : Int32 := (if p2 < p1 then p2 else p1)
set_option maxRecDepth 65536 in
set_option maxHeartbeats 40000000 in
theorem own_mmn (l : Launch) (Z : State) (a0 : Array Value) (hw : ∀ d ∈ tables_1, d.before a0 Z = true) (ws : List Jvm.Cond) (p1 : Int32) (p2 : Int32) (h0 : Heap) (n0 : Nat) :
    own_Met l Z (⟨"java/lang/Math", "min", "(II)I"⟩ : MethodName) jdk_29_method_69_code 2 (some .int) ws ({ frames := 0, cells := 0, slots := 0, locals := 0 } : Room) #[(.int p1), (.int p2)] h0 n0 (fun v h => v = some (.int (own_fmn p1 p2)) ∧ h0 = h) := by
  refine own_enter (own := "java/lang/Math") (nm := "min") rfl rfl own_pnmn (own_efmn p1 p2) ?_
  intro p e s m below meth c T0 X0
  refine own_iloadN X0 d18_0 rfl rfl ?_
  refine own_iloadN X0 d18_1 rfl rfl ?_
  refine own_icmp_gt X0 d18_2 (by decide) (pcT := 9) (by decide) rfl (fun hc1 => ?_) (fun hc1 => ?_)
  · skip
    refine own_iloadN X0 d18_9 rfl rfl ?_
    exact own_retI X0 rfl d18_10 ⟨by rw [own_fmn, if_pos hc1], rfl⟩ (Nat.le_refl _) (Nat.le_refl _)
  · skip
    refine own_iloadN X0 d18_5 rfl rfl ?_
    refine own_goto X0 d18_6 (by decide) (pc' := 10) (by decide) ?_
    exact own_retI X0 rfl d18_10 ⟨by rw [own_fmn, if_neg hc1], rfl⟩ (Nat.le_refl _) (Nat.le_refl _)

abbrev own_T : Type := (Nat → Int32) × (Nat → Nat) × (Nat → Nat) × (Nat → Nat) × (Nat → Int64) × (Nat → Int32) × Nat × (Nat → Int64 → Bool) × (Nat → Nat)
abbrev o_te (d : own_T) : Nat → Int32 := d.1
abbrev o_lo (d : own_T) : Nat → Nat := d.2.1
abbrev o_hi (d : own_T) : Nat → Nat := d.2.2.1
abbrev o_tab (d : own_T) : Nat → Nat := d.2.2.2.1
abbrev o_key (d : own_T) : Nat → Int64 := d.2.2.2.2.1
abbrev o_res (d : own_T) : Nat → Int32 := d.2.2.2.2.2.1
abbrev o_N (d : own_T) : Nat := d.2.2.2.2.2.2.1
abbrev o_S (d : own_T) : Nat → Int64 → Bool := d.2.2.2.2.2.2.2.1
abbrev o_D (d : own_T) : Nat → Nat := d.2.2.2.2.2.2.2.2
def own_LS (Z : State) (h : Heap) (A : Nat → Addr) (n0 : Nat) (d : own_T) : Prop := (∀ i j, i < j → j < 10 → A i < A j) ∧ n0 ≤ A 0 ∧ Exa Z h (A 0) "com/example/libgfg/libgfg/automaton/LetterSets" ∧ Fld Z h (A 0) "com/example/libgfg/libgfg/automaton/LetterSets" "tested" "[I" (.ref (A 1)) ∧ Fld Z h (A 0) "com/example/libgfg/libgfg/automaton/LetterSets" "low" "[I" (.ref (A 2)) ∧ Fld Z h (A 0) "com/example/libgfg/libgfg/automaton/LetterSets" "high" "[I" (.ref (A 3)) ∧ Fld Z h (A 0) "com/example/libgfg/libgfg/automaton/LetterSets" "support" "[J" (.ref (A 4)) ∧ Fld Z h (A 0) "com/example/libgfg/libgfg/automaton/LetterSets" "allTrue" "[J" (.ref (A 5)) ∧ Fld Z h (A 0) "com/example/libgfg/libgfg/automaton/LetterSets" "allFalse" "[J" (.ref (A 6)) ∧ Fld Z h (A 0) "com/example/libgfg/libgfg/automaton/LetterSets" "table" "[I" (.ref (A 7)) ∧ Fld Z h (A 0) "com/example/libgfg/libgfg/automaton/LetterSets" "cachedKeys" "[J" (.ref (A 8)) ∧ Fld Z h (A 0) "com/example/libgfg/libgfg/automaton/LetterSets" "cachedResults" "[I" (.ref (A 9)) ∧ Fld Z h (A 0) "com/example/libgfg/libgfg/automaton/LetterSets" "nodes" "I" (.int (o_N d).toInt32) ∧ own_AI Z h (A 1) 64 (o_te d) ∧ own_AI Z h (A 2) 64 (fun k => (o_lo d k).toInt32) ∧ own_AI Z h (A 3) 64 (fun k => (o_hi d k).toInt32) ∧ own_AI Z h (A 7) 64 (fun k => (o_tab d k).toInt32) ∧ own_AJ Z h (A 8) 32 (o_key d) ∧ own_AI Z h (A 9) 32 (o_res d) ∧ (∃ f, own_AJ Z h (A 4) 64 f) ∧ (∃ f, own_AJ Z h (A 5) 64 f) ∧ (∃ f, own_AJ Z h (A 6) 64 f)
section OwnLS
variable {Z : State} {h h' : Heap} {A : Nat → Addr} {n0 : Nat} {d : own_T} {a0 : Array Value}
theorem own_LS_mono (F : own_LS Z h A n0 d) : (∀ i j, i < j → j < 10 → A i < A j) := F.1
theorem own_LS_ge0 (F : own_LS Z h A n0 d) : n0 ≤ A 0 := F.2.1
theorem own_LS_exa (F : own_LS Z h A n0 d) : Exa Z h (A 0) "com/example/libgfg/libgfg/automaton/LetterSets" := F.2.2.1
theorem own_LS_f_tested (F : own_LS Z h A n0 d) : Fld Z h (A 0) "com/example/libgfg/libgfg/automaton/LetterSets" "tested" "[I" (.ref (A 1)) := F.2.2.2.1
theorem own_LS_f_low (F : own_LS Z h A n0 d) : Fld Z h (A 0) "com/example/libgfg/libgfg/automaton/LetterSets" "low" "[I" (.ref (A 2)) := F.2.2.2.2.1
theorem own_LS_f_high (F : own_LS Z h A n0 d) : Fld Z h (A 0) "com/example/libgfg/libgfg/automaton/LetterSets" "high" "[I" (.ref (A 3)) := F.2.2.2.2.2.1
theorem own_LS_f_support (F : own_LS Z h A n0 d) : Fld Z h (A 0) "com/example/libgfg/libgfg/automaton/LetterSets" "support" "[J" (.ref (A 4)) := F.2.2.2.2.2.2.1
theorem own_LS_f_allTrue (F : own_LS Z h A n0 d) : Fld Z h (A 0) "com/example/libgfg/libgfg/automaton/LetterSets" "allTrue" "[J" (.ref (A 5)) := F.2.2.2.2.2.2.2.1
theorem own_LS_f_allFalse (F : own_LS Z h A n0 d) : Fld Z h (A 0) "com/example/libgfg/libgfg/automaton/LetterSets" "allFalse" "[J" (.ref (A 6)) := F.2.2.2.2.2.2.2.2.1
theorem own_LS_f_table (F : own_LS Z h A n0 d) : Fld Z h (A 0) "com/example/libgfg/libgfg/automaton/LetterSets" "table" "[I" (.ref (A 7)) := F.2.2.2.2.2.2.2.2.2.1
theorem own_LS_f_cachedKeys (F : own_LS Z h A n0 d) : Fld Z h (A 0) "com/example/libgfg/libgfg/automaton/LetterSets" "cachedKeys" "[J" (.ref (A 8)) := F.2.2.2.2.2.2.2.2.2.2.1
theorem own_LS_f_cachedResults (F : own_LS Z h A n0 d) : Fld Z h (A 0) "com/example/libgfg/libgfg/automaton/LetterSets" "cachedResults" "[I" (.ref (A 9)) := F.2.2.2.2.2.2.2.2.2.2.2.1
theorem own_LS_f_nodes (F : own_LS Z h A n0 d) : Fld Z h (A 0) "com/example/libgfg/libgfg/automaton/LetterSets" "nodes" "I" (.int (o_N d).toInt32) := F.2.2.2.2.2.2.2.2.2.2.2.2.1
theorem own_LS_a1 (F : own_LS Z h A n0 d) : own_AI Z h (A 1) 64 (o_te d) := F.2.2.2.2.2.2.2.2.2.2.2.2.2.1
theorem own_LS_a2 (F : own_LS Z h A n0 d) : own_AI Z h (A 2) 64 (fun k => (o_lo d k).toInt32) := F.2.2.2.2.2.2.2.2.2.2.2.2.2.2.1
theorem own_LS_a3 (F : own_LS Z h A n0 d) : own_AI Z h (A 3) 64 (fun k => (o_hi d k).toInt32) := F.2.2.2.2.2.2.2.2.2.2.2.2.2.2.2.1
theorem own_LS_a7 (F : own_LS Z h A n0 d) : own_AI Z h (A 7) 64 (fun k => (o_tab d k).toInt32) := F.2.2.2.2.2.2.2.2.2.2.2.2.2.2.2.2.1
theorem own_LS_a8 (F : own_LS Z h A n0 d) : own_AJ Z h (A 8) 32 (o_key d) := F.2.2.2.2.2.2.2.2.2.2.2.2.2.2.2.2.2.1
theorem own_LS_a9 (F : own_LS Z h A n0 d) : own_AI Z h (A 9) 32 (o_res d) := F.2.2.2.2.2.2.2.2.2.2.2.2.2.2.2.2.2.2.1
theorem own_LS_a4 (F : own_LS Z h A n0 d) : (∃ f, own_AJ Z h (A 4) 64 f) := F.2.2.2.2.2.2.2.2.2.2.2.2.2.2.2.2.2.2.2.1
theorem own_LS_a5 (F : own_LS Z h A n0 d) : (∃ f, own_AJ Z h (A 5) 64 f) := F.2.2.2.2.2.2.2.2.2.2.2.2.2.2.2.2.2.2.2.2.1
theorem own_LS_a6 (F : own_LS Z h A n0 d) : (∃ f, own_AJ Z h (A 6) 64 f) := F.2.2.2.2.2.2.2.2.2.2.2.2.2.2.2.2.2.2.2.2.2
theorem own_ne {i j : Nat} (F : own_LS Z h A n0 d) (q : i < j) (r : j < 10) : A i ≠ A j := Nat.ne_of_lt (own_LS_mono F i j q r)
theorem own_ge {k : Nat} (F : own_LS Z h A n0 d) (r : k < 10) : n0 ≤ A k := by
  rcases Nat.eq_zero_or_pos k with q | q
  · subst q; exact own_LS_ge0 F
  · exact Nat.le_trans (own_LS_ge0 F) (Nat.le_of_lt (own_LS_mono F 0 k q r))
theorem own_LS_w1 {j : Nat} {x : Int32} (F : own_LS Z h A n0 d) (W : Wr h h' (A 1) j (.int x)) : own_LS Z h' A n0 (own_up (o_te d) j x, o_lo d, o_hi d, o_tab d, o_key d, o_res d, o_N d, o_S d, o_D d) :=
  ⟨own_LS_mono F, own_LS_ge0 F, (own_LS_exa F).wr W, (own_LS_f_tested F).other W (Or.inl (own_ne F (i := 0) (j := 1) (by decide) (by decide))), (own_LS_f_low F).other W (Or.inl (own_ne F (i := 0) (j := 1) (by decide) (by decide))), (own_LS_f_high F).other W (Or.inl (own_ne F (i := 0) (j := 1) (by decide) (by decide))), (own_LS_f_support F).other W (Or.inl (own_ne F (i := 0) (j := 1) (by decide) (by decide))), (own_LS_f_allTrue F).other W (Or.inl (own_ne F (i := 0) (j := 1) (by decide) (by decide))), (own_LS_f_allFalse F).other W (Or.inl (own_ne F (i := 0) (j := 1) (by decide) (by decide))), (own_LS_f_table F).other W (Or.inl (own_ne F (i := 0) (j := 1) (by decide) (by decide))), (own_LS_f_cachedKeys F).other W (Or.inl (own_ne F (i := 0) (j := 1) (by decide) (by decide))), (own_LS_f_cachedResults F).other W (Or.inl (own_ne F (i := 0) (j := 1) (by decide) (by decide))), (own_LS_f_nodes F).other W (Or.inl (own_ne F (i := 0) (j := 1) (by decide) (by decide))), ((own_LS_a1 F).set W).eq (fun k hk => by rfl), (own_LS_a2 F).other W (Ne.symm (own_ne F (i := 1) (j := 2) (by decide) (by decide))), (own_LS_a3 F).other W (Ne.symm (own_ne F (i := 1) (j := 3) (by decide) (by decide))), (own_LS_a7 F).other W (Ne.symm (own_ne F (i := 1) (j := 7) (by decide) (by decide))), (own_LS_a8 F).other W (Ne.symm (own_ne F (i := 1) (j := 8) (by decide) (by decide))), (own_LS_a9 F).other W (Ne.symm (own_ne F (i := 1) (j := 9) (by decide) (by decide))), ⟨_, (own_LS_a4 F).choose_spec.other W (Ne.symm (own_ne F (i := 1) (j := 4) (by decide) (by decide)))⟩, ⟨_, (own_LS_a5 F).choose_spec.other W (Ne.symm (own_ne F (i := 1) (j := 5) (by decide) (by decide)))⟩, ⟨_, (own_LS_a6 F).choose_spec.other W (Ne.symm (own_ne F (i := 1) (j := 6) (by decide) (by decide)))⟩⟩
theorem own_LS_w2 {j x : Nat} (F : own_LS Z h A n0 d) (W : Wr h h' (A 2) j (.int x.toInt32)) : own_LS Z h' A n0 (o_te d, own_up (o_lo d) j x, o_hi d, o_tab d, o_key d, o_res d, o_N d, o_S d, o_D d) :=
  ⟨own_LS_mono F, own_LS_ge0 F, (own_LS_exa F).wr W, (own_LS_f_tested F).other W (Or.inl (own_ne F (i := 0) (j := 2) (by decide) (by decide))), (own_LS_f_low F).other W (Or.inl (own_ne F (i := 0) (j := 2) (by decide) (by decide))), (own_LS_f_high F).other W (Or.inl (own_ne F (i := 0) (j := 2) (by decide) (by decide))), (own_LS_f_support F).other W (Or.inl (own_ne F (i := 0) (j := 2) (by decide) (by decide))), (own_LS_f_allTrue F).other W (Or.inl (own_ne F (i := 0) (j := 2) (by decide) (by decide))), (own_LS_f_allFalse F).other W (Or.inl (own_ne F (i := 0) (j := 2) (by decide) (by decide))), (own_LS_f_table F).other W (Or.inl (own_ne F (i := 0) (j := 2) (by decide) (by decide))), (own_LS_f_cachedKeys F).other W (Or.inl (own_ne F (i := 0) (j := 2) (by decide) (by decide))), (own_LS_f_cachedResults F).other W (Or.inl (own_ne F (i := 0) (j := 2) (by decide) (by decide))), (own_LS_f_nodes F).other W (Or.inl (own_ne F (i := 0) (j := 2) (by decide) (by decide))), (own_LS_a1 F).other W (own_ne F (i := 1) (j := 2) (by decide) (by decide)), ((own_LS_a2 F).set W).eq (fun k hk => by exact own_upI _ _ _ _), (own_LS_a3 F).other W (Ne.symm (own_ne F (i := 2) (j := 3) (by decide) (by decide))), (own_LS_a7 F).other W (Ne.symm (own_ne F (i := 2) (j := 7) (by decide) (by decide))), (own_LS_a8 F).other W (Ne.symm (own_ne F (i := 2) (j := 8) (by decide) (by decide))), (own_LS_a9 F).other W (Ne.symm (own_ne F (i := 2) (j := 9) (by decide) (by decide))), ⟨_, (own_LS_a4 F).choose_spec.other W (Ne.symm (own_ne F (i := 2) (j := 4) (by decide) (by decide)))⟩, ⟨_, (own_LS_a5 F).choose_spec.other W (Ne.symm (own_ne F (i := 2) (j := 5) (by decide) (by decide)))⟩, ⟨_, (own_LS_a6 F).choose_spec.other W (Ne.symm (own_ne F (i := 2) (j := 6) (by decide) (by decide)))⟩⟩
theorem own_LS_w3 {j x : Nat} (F : own_LS Z h A n0 d) (W : Wr h h' (A 3) j (.int x.toInt32)) : own_LS Z h' A n0 (o_te d, o_lo d, own_up (o_hi d) j x, o_tab d, o_key d, o_res d, o_N d, o_S d, o_D d) :=
  ⟨own_LS_mono F, own_LS_ge0 F, (own_LS_exa F).wr W, (own_LS_f_tested F).other W (Or.inl (own_ne F (i := 0) (j := 3) (by decide) (by decide))), (own_LS_f_low F).other W (Or.inl (own_ne F (i := 0) (j := 3) (by decide) (by decide))), (own_LS_f_high F).other W (Or.inl (own_ne F (i := 0) (j := 3) (by decide) (by decide))), (own_LS_f_support F).other W (Or.inl (own_ne F (i := 0) (j := 3) (by decide) (by decide))), (own_LS_f_allTrue F).other W (Or.inl (own_ne F (i := 0) (j := 3) (by decide) (by decide))), (own_LS_f_allFalse F).other W (Or.inl (own_ne F (i := 0) (j := 3) (by decide) (by decide))), (own_LS_f_table F).other W (Or.inl (own_ne F (i := 0) (j := 3) (by decide) (by decide))), (own_LS_f_cachedKeys F).other W (Or.inl (own_ne F (i := 0) (j := 3) (by decide) (by decide))), (own_LS_f_cachedResults F).other W (Or.inl (own_ne F (i := 0) (j := 3) (by decide) (by decide))), (own_LS_f_nodes F).other W (Or.inl (own_ne F (i := 0) (j := 3) (by decide) (by decide))), (own_LS_a1 F).other W (own_ne F (i := 1) (j := 3) (by decide) (by decide)), (own_LS_a2 F).other W (own_ne F (i := 2) (j := 3) (by decide) (by decide)), ((own_LS_a3 F).set W).eq (fun k hk => by exact own_upI _ _ _ _), (own_LS_a7 F).other W (Ne.symm (own_ne F (i := 3) (j := 7) (by decide) (by decide))), (own_LS_a8 F).other W (Ne.symm (own_ne F (i := 3) (j := 8) (by decide) (by decide))), (own_LS_a9 F).other W (Ne.symm (own_ne F (i := 3) (j := 9) (by decide) (by decide))), ⟨_, (own_LS_a4 F).choose_spec.other W (Ne.symm (own_ne F (i := 3) (j := 4) (by decide) (by decide)))⟩, ⟨_, (own_LS_a5 F).choose_spec.other W (Ne.symm (own_ne F (i := 3) (j := 5) (by decide) (by decide)))⟩, ⟨_, (own_LS_a6 F).choose_spec.other W (Ne.symm (own_ne F (i := 3) (j := 6) (by decide) (by decide)))⟩⟩
theorem own_LS_w4 {j : Nat} {x : Int64} (F : own_LS Z h A n0 d) (W : Wr h h' (A 4) j (.long x)) : own_LS Z h' A n0 d :=
  ⟨own_LS_mono F, own_LS_ge0 F, (own_LS_exa F).wr W, (own_LS_f_tested F).other W (Or.inl (own_ne F (i := 0) (j := 4) (by decide) (by decide))), (own_LS_f_low F).other W (Or.inl (own_ne F (i := 0) (j := 4) (by decide) (by decide))), (own_LS_f_high F).other W (Or.inl (own_ne F (i := 0) (j := 4) (by decide) (by decide))), (own_LS_f_support F).other W (Or.inl (own_ne F (i := 0) (j := 4) (by decide) (by decide))), (own_LS_f_allTrue F).other W (Or.inl (own_ne F (i := 0) (j := 4) (by decide) (by decide))), (own_LS_f_allFalse F).other W (Or.inl (own_ne F (i := 0) (j := 4) (by decide) (by decide))), (own_LS_f_table F).other W (Or.inl (own_ne F (i := 0) (j := 4) (by decide) (by decide))), (own_LS_f_cachedKeys F).other W (Or.inl (own_ne F (i := 0) (j := 4) (by decide) (by decide))), (own_LS_f_cachedResults F).other W (Or.inl (own_ne F (i := 0) (j := 4) (by decide) (by decide))), (own_LS_f_nodes F).other W (Or.inl (own_ne F (i := 0) (j := 4) (by decide) (by decide))), (own_LS_a1 F).other W (own_ne F (i := 1) (j := 4) (by decide) (by decide)), (own_LS_a2 F).other W (own_ne F (i := 2) (j := 4) (by decide) (by decide)), (own_LS_a3 F).other W (own_ne F (i := 3) (j := 4) (by decide) (by decide)), (own_LS_a7 F).other W (Ne.symm (own_ne F (i := 4) (j := 7) (by decide) (by decide))), (own_LS_a8 F).other W (Ne.symm (own_ne F (i := 4) (j := 8) (by decide) (by decide))), (own_LS_a9 F).other W (Ne.symm (own_ne F (i := 4) (j := 9) (by decide) (by decide))), ⟨_, (own_LS_a4 F).choose_spec.set W⟩, ⟨_, (own_LS_a5 F).choose_spec.other W (Ne.symm (own_ne F (i := 4) (j := 5) (by decide) (by decide)))⟩, ⟨_, (own_LS_a6 F).choose_spec.other W (Ne.symm (own_ne F (i := 4) (j := 6) (by decide) (by decide)))⟩⟩
theorem own_LS_w5 {j : Nat} {x : Int64} (F : own_LS Z h A n0 d) (W : Wr h h' (A 5) j (.long x)) : own_LS Z h' A n0 d :=
  ⟨own_LS_mono F, own_LS_ge0 F, (own_LS_exa F).wr W, (own_LS_f_tested F).other W (Or.inl (own_ne F (i := 0) (j := 5) (by decide) (by decide))), (own_LS_f_low F).other W (Or.inl (own_ne F (i := 0) (j := 5) (by decide) (by decide))), (own_LS_f_high F).other W (Or.inl (own_ne F (i := 0) (j := 5) (by decide) (by decide))), (own_LS_f_support F).other W (Or.inl (own_ne F (i := 0) (j := 5) (by decide) (by decide))), (own_LS_f_allTrue F).other W (Or.inl (own_ne F (i := 0) (j := 5) (by decide) (by decide))), (own_LS_f_allFalse F).other W (Or.inl (own_ne F (i := 0) (j := 5) (by decide) (by decide))), (own_LS_f_table F).other W (Or.inl (own_ne F (i := 0) (j := 5) (by decide) (by decide))), (own_LS_f_cachedKeys F).other W (Or.inl (own_ne F (i := 0) (j := 5) (by decide) (by decide))), (own_LS_f_cachedResults F).other W (Or.inl (own_ne F (i := 0) (j := 5) (by decide) (by decide))), (own_LS_f_nodes F).other W (Or.inl (own_ne F (i := 0) (j := 5) (by decide) (by decide))), (own_LS_a1 F).other W (own_ne F (i := 1) (j := 5) (by decide) (by decide)), (own_LS_a2 F).other W (own_ne F (i := 2) (j := 5) (by decide) (by decide)), (own_LS_a3 F).other W (own_ne F (i := 3) (j := 5) (by decide) (by decide)), (own_LS_a7 F).other W (Ne.symm (own_ne F (i := 5) (j := 7) (by decide) (by decide))), (own_LS_a8 F).other W (Ne.symm (own_ne F (i := 5) (j := 8) (by decide) (by decide))), (own_LS_a9 F).other W (Ne.symm (own_ne F (i := 5) (j := 9) (by decide) (by decide))), ⟨_, (own_LS_a4 F).choose_spec.other W (own_ne F (i := 4) (j := 5) (by decide) (by decide))⟩, ⟨_, (own_LS_a5 F).choose_spec.set W⟩, ⟨_, (own_LS_a6 F).choose_spec.other W (Ne.symm (own_ne F (i := 5) (j := 6) (by decide) (by decide)))⟩⟩
theorem own_LS_w6 {j : Nat} {x : Int64} (F : own_LS Z h A n0 d) (W : Wr h h' (A 6) j (.long x)) : own_LS Z h' A n0 d :=
  ⟨own_LS_mono F, own_LS_ge0 F, (own_LS_exa F).wr W, (own_LS_f_tested F).other W (Or.inl (own_ne F (i := 0) (j := 6) (by decide) (by decide))), (own_LS_f_low F).other W (Or.inl (own_ne F (i := 0) (j := 6) (by decide) (by decide))), (own_LS_f_high F).other W (Or.inl (own_ne F (i := 0) (j := 6) (by decide) (by decide))), (own_LS_f_support F).other W (Or.inl (own_ne F (i := 0) (j := 6) (by decide) (by decide))), (own_LS_f_allTrue F).other W (Or.inl (own_ne F (i := 0) (j := 6) (by decide) (by decide))), (own_LS_f_allFalse F).other W (Or.inl (own_ne F (i := 0) (j := 6) (by decide) (by decide))), (own_LS_f_table F).other W (Or.inl (own_ne F (i := 0) (j := 6) (by decide) (by decide))), (own_LS_f_cachedKeys F).other W (Or.inl (own_ne F (i := 0) (j := 6) (by decide) (by decide))), (own_LS_f_cachedResults F).other W (Or.inl (own_ne F (i := 0) (j := 6) (by decide) (by decide))), (own_LS_f_nodes F).other W (Or.inl (own_ne F (i := 0) (j := 6) (by decide) (by decide))), (own_LS_a1 F).other W (own_ne F (i := 1) (j := 6) (by decide) (by decide)), (own_LS_a2 F).other W (own_ne F (i := 2) (j := 6) (by decide) (by decide)), (own_LS_a3 F).other W (own_ne F (i := 3) (j := 6) (by decide) (by decide)), (own_LS_a7 F).other W (Ne.symm (own_ne F (i := 6) (j := 7) (by decide) (by decide))), (own_LS_a8 F).other W (Ne.symm (own_ne F (i := 6) (j := 8) (by decide) (by decide))), (own_LS_a9 F).other W (Ne.symm (own_ne F (i := 6) (j := 9) (by decide) (by decide))), ⟨_, (own_LS_a4 F).choose_spec.other W (own_ne F (i := 4) (j := 6) (by decide) (by decide))⟩, ⟨_, (own_LS_a5 F).choose_spec.other W (own_ne F (i := 5) (j := 6) (by decide) (by decide))⟩, ⟨_, (own_LS_a6 F).choose_spec.set W⟩⟩
theorem own_LS_w7 {j x : Nat} (F : own_LS Z h A n0 d) (W : Wr h h' (A 7) j (.int x.toInt32)) : own_LS Z h' A n0 (o_te d, o_lo d, o_hi d, own_up (o_tab d) j x, o_key d, o_res d, o_N d, o_S d, o_D d) :=
  ⟨own_LS_mono F, own_LS_ge0 F, (own_LS_exa F).wr W, (own_LS_f_tested F).other W (Or.inl (own_ne F (i := 0) (j := 7) (by decide) (by decide))), (own_LS_f_low F).other W (Or.inl (own_ne F (i := 0) (j := 7) (by decide) (by decide))), (own_LS_f_high F).other W (Or.inl (own_ne F (i := 0) (j := 7) (by decide) (by decide))), (own_LS_f_support F).other W (Or.inl (own_ne F (i := 0) (j := 7) (by decide) (by decide))), (own_LS_f_allTrue F).other W (Or.inl (own_ne F (i := 0) (j := 7) (by decide) (by decide))), (own_LS_f_allFalse F).other W (Or.inl (own_ne F (i := 0) (j := 7) (by decide) (by decide))), (own_LS_f_table F).other W (Or.inl (own_ne F (i := 0) (j := 7) (by decide) (by decide))), (own_LS_f_cachedKeys F).other W (Or.inl (own_ne F (i := 0) (j := 7) (by decide) (by decide))), (own_LS_f_cachedResults F).other W (Or.inl (own_ne F (i := 0) (j := 7) (by decide) (by decide))), (own_LS_f_nodes F).other W (Or.inl (own_ne F (i := 0) (j := 7) (by decide) (by decide))), (own_LS_a1 F).other W (own_ne F (i := 1) (j := 7) (by decide) (by decide)), (own_LS_a2 F).other W (own_ne F (i := 2) (j := 7) (by decide) (by decide)), (own_LS_a3 F).other W (own_ne F (i := 3) (j := 7) (by decide) (by decide)), ((own_LS_a7 F).set W).eq (fun k hk => by exact own_upI _ _ _ _), (own_LS_a8 F).other W (Ne.symm (own_ne F (i := 7) (j := 8) (by decide) (by decide))), (own_LS_a9 F).other W (Ne.symm (own_ne F (i := 7) (j := 9) (by decide) (by decide))), ⟨_, (own_LS_a4 F).choose_spec.other W (own_ne F (i := 4) (j := 7) (by decide) (by decide))⟩, ⟨_, (own_LS_a5 F).choose_spec.other W (own_ne F (i := 5) (j := 7) (by decide) (by decide))⟩, ⟨_, (own_LS_a6 F).choose_spec.other W (own_ne F (i := 6) (j := 7) (by decide) (by decide))⟩⟩
theorem own_LS_w8 {j : Nat} {x : Int64} (F : own_LS Z h A n0 d) (W : Wr h h' (A 8) j (.long x)) : own_LS Z h' A n0 (o_te d, o_lo d, o_hi d, o_tab d, own_up (o_key d) j x, o_res d, o_N d, o_S d, o_D d) :=
  ⟨own_LS_mono F, own_LS_ge0 F, (own_LS_exa F).wr W, (own_LS_f_tested F).other W (Or.inl (own_ne F (i := 0) (j := 8) (by decide) (by decide))), (own_LS_f_low F).other W (Or.inl (own_ne F (i := 0) (j := 8) (by decide) (by decide))), (own_LS_f_high F).other W (Or.inl (own_ne F (i := 0) (j := 8) (by decide) (by decide))), (own_LS_f_support F).other W (Or.inl (own_ne F (i := 0) (j := 8) (by decide) (by decide))), (own_LS_f_allTrue F).other W (Or.inl (own_ne F (i := 0) (j := 8) (by decide) (by decide))), (own_LS_f_allFalse F).other W (Or.inl (own_ne F (i := 0) (j := 8) (by decide) (by decide))), (own_LS_f_table F).other W (Or.inl (own_ne F (i := 0) (j := 8) (by decide) (by decide))), (own_LS_f_cachedKeys F).other W (Or.inl (own_ne F (i := 0) (j := 8) (by decide) (by decide))), (own_LS_f_cachedResults F).other W (Or.inl (own_ne F (i := 0) (j := 8) (by decide) (by decide))), (own_LS_f_nodes F).other W (Or.inl (own_ne F (i := 0) (j := 8) (by decide) (by decide))), (own_LS_a1 F).other W (own_ne F (i := 1) (j := 8) (by decide) (by decide)), (own_LS_a2 F).other W (own_ne F (i := 2) (j := 8) (by decide) (by decide)), (own_LS_a3 F).other W (own_ne F (i := 3) (j := 8) (by decide) (by decide)), (own_LS_a7 F).other W (own_ne F (i := 7) (j := 8) (by decide) (by decide)), ((own_LS_a8 F).set W).eq (fun k hk => by rfl), (own_LS_a9 F).other W (Ne.symm (own_ne F (i := 8) (j := 9) (by decide) (by decide))), ⟨_, (own_LS_a4 F).choose_spec.other W (own_ne F (i := 4) (j := 8) (by decide) (by decide))⟩, ⟨_, (own_LS_a5 F).choose_spec.other W (own_ne F (i := 5) (j := 8) (by decide) (by decide))⟩, ⟨_, (own_LS_a6 F).choose_spec.other W (own_ne F (i := 6) (j := 8) (by decide) (by decide))⟩⟩
theorem own_LS_w9 {j : Nat} {x : Int32} (F : own_LS Z h A n0 d) (W : Wr h h' (A 9) j (.int x)) : own_LS Z h' A n0 (o_te d, o_lo d, o_hi d, o_tab d, o_key d, own_up (o_res d) j x, o_N d, o_S d, o_D d) :=
  ⟨own_LS_mono F, own_LS_ge0 F, (own_LS_exa F).wr W, (own_LS_f_tested F).other W (Or.inl (own_ne F (i := 0) (j := 9) (by decide) (by decide))), (own_LS_f_low F).other W (Or.inl (own_ne F (i := 0) (j := 9) (by decide) (by decide))), (own_LS_f_high F).other W (Or.inl (own_ne F (i := 0) (j := 9) (by decide) (by decide))), (own_LS_f_support F).other W (Or.inl (own_ne F (i := 0) (j := 9) (by decide) (by decide))), (own_LS_f_allTrue F).other W (Or.inl (own_ne F (i := 0) (j := 9) (by decide) (by decide))), (own_LS_f_allFalse F).other W (Or.inl (own_ne F (i := 0) (j := 9) (by decide) (by decide))), (own_LS_f_table F).other W (Or.inl (own_ne F (i := 0) (j := 9) (by decide) (by decide))), (own_LS_f_cachedKeys F).other W (Or.inl (own_ne F (i := 0) (j := 9) (by decide) (by decide))), (own_LS_f_cachedResults F).other W (Or.inl (own_ne F (i := 0) (j := 9) (by decide) (by decide))), (own_LS_f_nodes F).other W (Or.inl (own_ne F (i := 0) (j := 9) (by decide) (by decide))), (own_LS_a1 F).other W (own_ne F (i := 1) (j := 9) (by decide) (by decide)), (own_LS_a2 F).other W (own_ne F (i := 2) (j := 9) (by decide) (by decide)), (own_LS_a3 F).other W (own_ne F (i := 3) (j := 9) (by decide) (by decide)), (own_LS_a7 F).other W (own_ne F (i := 7) (j := 9) (by decide) (by decide)), (own_LS_a8 F).other W (own_ne F (i := 8) (j := 9) (by decide) (by decide)), ((own_LS_a9 F).set W).eq (fun k hk => by rfl), ⟨_, (own_LS_a4 F).choose_spec.other W (own_ne F (i := 4) (j := 9) (by decide) (by decide))⟩, ⟨_, (own_LS_a5 F).choose_spec.other W (own_ne F (i := 5) (j := 9) (by decide) (by decide))⟩, ⟨_, (own_LS_a6 F).choose_spec.other W (own_ne F (i := 6) (j := 9) (by decide) (by decide))⟩⟩
theorem own_LS_wN {x : Nat} (hw : ∀ d ∈ tables_1, d.before a0 Z = true) (F : own_LS Z h A n0 d) (W : Wr h h' (A 0) (Jvm.RoadKit.slotOf Z "com/example/libgfg/libgfg/automaton/LetterSets" "nodes" "I") (.int x.toInt32)) : own_LS Z h' A n0 (o_te d, o_lo d, o_hi d, o_tab d, o_key d, o_res d, x, o_S d, o_D d) :=
  ⟨own_LS_mono F, own_LS_ge0 F, (own_LS_exa F).wr W, (own_LS_f_tested F).other W (Or.inr (slot_ne (Or.inl (hw _ (List.mem_of_getElem? (i := 19) rfl))) (Or.inl (hw _ (List.mem_of_getElem? (i := 25) rfl))) (by decide) (t := (.array .int)) (t' := .int) (by decide) (by decide))), (own_LS_f_low F).other W (Or.inr (slot_ne (Or.inl (hw _ (List.mem_of_getElem? (i := 21) rfl))) (Or.inl (hw _ (List.mem_of_getElem? (i := 25) rfl))) (by decide) (t := (.array .int)) (t' := .int) (by decide) (by decide))), (own_LS_f_high F).other W (Or.inr (slot_ne (Or.inl (hw _ (List.mem_of_getElem? (i := 23) rfl))) (Or.inl (hw _ (List.mem_of_getElem? (i := 25) rfl))) (by decide) (t := (.array .int)) (t' := .int) (by decide) (by decide))), (own_LS_f_support F).other W (Or.inr (slot_ne (Or.inl (hw _ (List.mem_of_getElem? (i := 28) rfl))) (Or.inl (hw _ (List.mem_of_getElem? (i := 25) rfl))) (by decide) (t := (.array .long)) (t' := .int) (by decide) (by decide))), (own_LS_f_allTrue F).other W (Or.inr (slot_ne (Or.inl (hw _ (List.mem_of_getElem? (i := 30) rfl))) (Or.inl (hw _ (List.mem_of_getElem? (i := 25) rfl))) (by decide) (t := (.array .long)) (t' := .int) (by decide) (by decide))), (own_LS_f_allFalse F).other W (Or.inr (slot_ne (Or.inl (hw _ (List.mem_of_getElem? (i := 32) rfl))) (Or.inl (hw _ (List.mem_of_getElem? (i := 25) rfl))) (by decide) (t := (.array .long)) (t' := .int) (by decide) (by decide))), (own_LS_f_table F).other W (Or.inr (slot_ne (Or.inl (hw _ (List.mem_of_getElem? (i := 34) rfl))) (Or.inl (hw _ (List.mem_of_getElem? (i := 25) rfl))) (by decide) (t := (.array .int)) (t' := .int) (by decide) (by decide))), (own_LS_f_cachedKeys F).other W (Or.inr (slot_ne (Or.inl (hw _ (List.mem_of_getElem? (i := 44) rfl))) (Or.inl (hw _ (List.mem_of_getElem? (i := 25) rfl))) (by decide) (t := (.array .long)) (t' := .int) (by decide) (by decide))), (own_LS_f_cachedResults F).other W (Or.inr (slot_ne (Or.inl (hw _ (List.mem_of_getElem? (i := 46) rfl))) (Or.inl (hw _ (List.mem_of_getElem? (i := 25) rfl))) (by decide) (t := (.array .int)) (t' := .int) (by decide) (by decide))), (own_LS_f_nodes F).same W, (own_LS_a1 F).other W (Ne.symm (own_ne F (i := 0) (j := 1) (by decide) (by decide))), (own_LS_a2 F).other W (Ne.symm (own_ne F (i := 0) (j := 2) (by decide) (by decide))), (own_LS_a3 F).other W (Ne.symm (own_ne F (i := 0) (j := 3) (by decide) (by decide))), (own_LS_a7 F).other W (Ne.symm (own_ne F (i := 0) (j := 7) (by decide) (by decide))), (own_LS_a8 F).other W (Ne.symm (own_ne F (i := 0) (j := 8) (by decide) (by decide))), (own_LS_a9 F).other W (Ne.symm (own_ne F (i := 0) (j := 9) (by decide) (by decide))), ⟨_, (own_LS_a4 F).choose_spec.other W (Ne.symm (own_ne F (i := 0) (j := 4) (by decide) (by decide)))⟩, ⟨_, (own_LS_a5 F).choose_spec.other W (Ne.symm (own_ne F (i := 0) (j := 5) (by decide) (by decide)))⟩, ⟨_, (own_LS_a6 F).choose_spec.other W (Ne.symm (own_ne F (i := 0) (j := 6) (by decide) (by decide)))⟩⟩
end OwnLS

def own_b (x : Int64) (p : Int32) : Bool := decide (¬ (XT.ushrL x p &&& (1 : Int64)) = (0 : Int64))
def own_op (op : Nat) (a b : Bool) : Bool := if op = 0 then a && b else (if op = 1 then a || b else !a)
def own_pk (op i j : Nat) : Int64 := own_fpk op.toInt32 i.toInt32 j.toInt32
def own_cs (key : Int64) : Nat := ((own_fmix key).toInt32).toBitVec.toNat % 32
def own_Nd (d : own_T) (k : Nat) : Prop := ¬ o_te d k < 0 ∧ o_te d k < 64 ∧ o_lo d k < k ∧ o_hi d k < k ∧ o_lo d k ≠ o_hi d k ∧ o_te d (o_lo d k) < o_te d k ∧ o_te d (o_hi d k) < o_te d k ∧ (∀ x, o_S d k x = if own_b x (o_te d k) = true then o_S d (o_hi d k) x else o_S d (o_lo d k) x) ∧ o_D d k = 1 + max (o_D d (o_lo d k)) (o_D d (o_hi d k))
def own_nz (t : Nat → Nat) : Nat → Nat
  | 0 => 0
  | n + 1 => own_nz t n + (if t n = 0 then 0 else 1)
def own_Sp (d : own_T) (op i j : Nat) (r : Int32) : Prop := ∃ r' : Nat, r = r'.toInt32 ∧ r' < o_N d ∧ i < o_N d ∧ j < o_N d ∧ (∀ x, o_S d r' x = own_op op (o_S d i x) (o_S d j x)) ∧ (¬ o_te d i < o_te d r' ∨ ¬ o_te d j < o_te d r') ∧ o_D d r' ≤ o_D d i + o_D d j
def own_Inv (d : own_T) : Prop := 2 ≤ o_N d ∧ (o_te d 0 = -1 ∧ o_te d 1 = -1) ∧ ((∀ x, o_S d 0 x = false) ∧ ∀ x, o_S d 1 x = true) ∧ (o_D d 0 = 0 ∧ o_D d 1 = 0) ∧ (∀ k, 2 ≤ k → k < o_N d → own_Nd d k) ∧ (∀ s, s < 64 → o_tab d s < o_N d) ∧ own_nz (o_tab d) 64 + 2 ≤ o_N d ∧ (∀ s, s < 32 → ∀ op i j : Nat, op < 3 → i < 64 → j < 64 → o_key d s = own_pk op i j → own_Sp d op i j (o_res d s))
def own_Le (d e : own_T) : Prop := o_N d ≤ o_N e ∧ ∀ k, k < o_N d → o_te e k = o_te d k ∧ o_lo e k = o_lo d k ∧ o_hi e k = o_hi d k ∧ o_S e k = o_S d k ∧ o_D e k = o_D d k
theorem own_Le.refl (d : own_T) : own_Le d d := ⟨Nat.le_refl _, fun _ _ => ⟨rfl, rfl, rfl, rfl, rfl⟩⟩
theorem own_Le.trans {d e f : own_T} (a : own_Le d e) (b : own_Le e f) : own_Le d f := ⟨Nat.le_trans a.1 b.1, fun k hk => by
  obtain ⟨q1, q2, q3, q4, q5⟩ := a.2 k hk
  obtain ⟨r1, r2, r3, r4, r5⟩ := b.2 k (Nat.lt_of_lt_of_le hk a.1)
  exact ⟨r1.trans q1, r2.trans q2, r3.trans q3, r4.trans q4, r5.trans q5⟩⟩
theorem own_Sp.le {d e : own_T} {op i j : Nat} {r : Int32} (h : own_Sp d op i j r) (L : own_Le d e) : own_Sp e op i j r := by
  obtain ⟨r', h1, h2, h3, h4, h5, h6, h7⟩ := h
  obtain ⟨a1, -, -, a4, a5⟩ := L.2 r' h2
  obtain ⟨b1, -, -, b4, b5⟩ := L.2 i h3
  obtain ⟨c1, -, -, c4, c5⟩ := L.2 j h4
  refine ⟨r', h1, Nat.lt_of_lt_of_le h2 L.1, Nat.lt_of_lt_of_le h3 L.1, Nat.lt_of_lt_of_le h4 L.1, fun x => ?_, ?_, ?_⟩
  · rw [a4, b4, c4]; exact h5 x
  · rw [a1, b1, c1]; exact h6
  · rw [a5, b5, c5]; exact h7
theorem own_nz_ge (t : Nat → Nat) (s v : Nat) : ∀ n, n ≤ s → own_nz (own_up t s v) n = own_nz t n
  | 0, _ => rfl
  | n + 1, h => by rw [own_nz, own_nz, own_nz_ge t s v n (by omega), own_up_ne _ _ (by omega)]
theorem own_nz_up (t : Nat → Nat) (s v : Nat) : ∀ n, own_nz (own_up t s v) n ≤ own_nz t n + 1
  | 0 => Nat.zero_le _
  | n + 1 => by
    rw [own_nz, own_nz]
    by_cases q : n = s
    · subst q; rw [own_nz_ge t n v n (Nat.le_refl _)]; split <;> split <;> omega
    · rw [own_up_ne _ _ q]; have := own_nz_up t s v n; omega
theorem own_free (t : Nat → Nat) : ∀ n, own_nz t n < n → ∃ s, s < n ∧ t s = 0
  | 0, h => absurd h (Nat.lt_irrefl _)
  | n + 1, h => by
    by_cases q : t n = 0
    · exact ⟨n, by omega, q⟩
    · rw [own_nz, if_neg q] at h
      obtain ⟨s, h1, h2⟩ := own_free t n (by omega)
      exact ⟨s, by omega, h2⟩
theorem own_pkv : ∀ (op : Fin 3) (i j : Fin 64), (own_pk op.val i.val j.val).toInt = op.val * 70368744177664 + i.val * 8388608 + j.val := by decide +kernel
theorem own_pk_inj {o1 i1 j1 o2 i2 j2 : Nat} (a1 : o1 < 3) (b1 : i1 < 64) (c1 : j1 < 64) (a2 : o2 < 3) (b2 : i2 < 64) (c2 : j2 < 64) (h : own_pk o1 i1 j1 = own_pk o2 i2 j2) : o1 = o2 ∧ i1 = i2 ∧ j1 = j2 := by
  have e1 := own_pkv ⟨o1, a1⟩ ⟨i1, b1⟩ ⟨j1, c1⟩
  have e2 := own_pkv ⟨o2, a2⟩ ⟨i2, b2⟩ ⟨j2, c2⟩
  dsimp only at e1 e2
  rw [h, e2] at e1
  omega
theorem own_pk_neg {o1 i1 j1 : Nat} (a1 : o1 < 3) (b1 : i1 < 64) (c1 : j1 < 64) : ¬ (-1 : Int64) = own_pk o1 i1 j1 := fun h => by
  have e1 := own_pkv ⟨o1, a1⟩ ⟨i1, b1⟩ ⟨j1, c1⟩
  dsimp only at e1
  rw [← h] at e1
  have : (-1 : Int64).toInt = -1 := rfl
  omega
def own_add (d : own_T) (s : Nat) (p : Int32) (f t : Nat) : own_T := (own_up (o_te d) (o_N d) p, own_up (o_lo d) (o_N d) f, own_up (o_hi d) (o_N d) t, own_up (o_tab d) s (o_N d), o_key d, o_res d, o_N d + 1, own_up (o_S d) (o_N d) (fun x => if own_b x p = true then o_S d t x else o_S d f x), own_up (o_D d) (o_N d) (1 + max (o_D d f) (o_D d t)))
theorem own_add_le (d : own_T) (s : Nat) (p : Int32) (f t : Nat) : own_Le d (own_add d s p f t) := ⟨Nat.le_succ _, fun k hk => ⟨own_up_ne _ _ (by omega), own_up_ne _ _ (by omega), own_up_ne _ _ (by omega), own_up_ne _ _ (by omega), own_up_ne _ _ (by omega)⟩⟩
theorem own_add_inv {d : own_T} {s : Nat} {p : Int32} {f t : Nat} (I : own_Inv d) (hs : s < 64) (hf : f < o_N d) (ht : t < o_N d) (hft : f ≠ t) (hp : ¬ p < 0) (hp64 : p < 64) (qf : o_te d f < p) (qt : o_te d t < p) : own_Inv (own_add d s p f t) := by
  obtain ⟨i1, ⟨i2, i3⟩, ⟨i4, i5⟩, ⟨i6, i7⟩, i8, i9, i10, i11⟩ := I
  have L := own_add_le d s p f t
  have te : ∀ k, k < o_N d → o_te (own_add d s p f t) k = o_te d k := fun k hk => (L.2 k hk).1
  have lo : ∀ k, k < o_N d → o_lo (own_add d s p f t) k = o_lo d k := fun k hk => (L.2 k hk).2.1
  have hi : ∀ k, k < o_N d → o_hi (own_add d s p f t) k = o_hi d k := fun k hk => (L.2 k hk).2.2.1
  have sS : ∀ k, k < o_N d → o_S (own_add d s p f t) k = o_S d k := fun k hk => (L.2 k hk).2.2.2.1
  have sD : ∀ k, k < o_N d → o_D (own_add d s p f t) k = o_D d k := fun k hk => (L.2 k hk).2.2.2.2
  refine ⟨Nat.le_trans i1 (Nat.le_succ _), ⟨(te 0 (by omega)).trans i2, (te 1 (by omega)).trans i3⟩, ⟨fun x => by rw [sS 0 (by omega)]; exact i4 x, fun x => by rw [sS 1 (by omega)]; exact i5 x⟩, ⟨(sD 0 (by omega)).trans i6, (sD 1 (by omega)).trans i7⟩, fun k k2 kN => ?_, fun u hu => ?_, ?_, fun u hu op i j ho hi' hj e => ?_⟩
  · by_cases q : k = o_N d
    · subst q
      have a1 : o_te (own_add d s p f t) (o_N d) = p := own_up_same _ _ _
      have a2 : o_lo (own_add d s p f t) (o_N d) = f := own_up_same _ _ _
      have a3 : o_hi (own_add d s p f t) (o_N d) = t := own_up_same _ _ _
      have a4 : o_S (own_add d s p f t) (o_N d) = fun x => if own_b x p = true then o_S d t x else o_S d f x := own_up_same _ _ _
      have a5 : o_D (own_add d s p f t) (o_N d) = 1 + max (o_D d f) (o_D d t) := own_up_same _ _ _
      unfold own_Nd
      rw [a1, a2, a3, a4, a5, te f hf, te t ht, sS f hf, sS t ht, sD f hf, sD t ht]
      exact ⟨hp, hp64, hf, ht, hft, qf, qt, fun _ => rfl, rfl⟩
    · have kN' : k < o_N d := by have : k < o_N d + 1 := kN; omega
      have n := i8 k k2 kN'
      have l1 : o_lo d k < o_N d := Nat.lt_trans n.2.2.1 kN'
      have l2 : o_hi d k < o_N d := Nat.lt_trans n.2.2.2.1 kN'
      unfold own_Nd at n ⊢
      rw [te k kN', lo k kN', hi k kN', sS k kN', sD k kN', te _ l1, te _ l2, sS _ l1, sS _ l2, sD _ l1, sD _ l2]
      exact n
  · show own_up (o_tab d) s (o_N d) u < o_N d + 1
    by_cases q : u = s
    · subst q; rw [own_up_same]; omega
    · rw [own_up_ne _ _ q]; have := i9 u hu; omega
  · have := own_nz_up (o_tab d) s (o_N d) 64
    show own_nz (own_up (o_tab d) s (o_N d)) 64 + 2 ≤ o_N d + 1
    omega
  · exact (i11 u hu op i j ho hi' hj e).le L
def own_rem (d : own_T) (key : Int64) (r : Int32) : own_T := (o_te d, o_lo d, o_hi d, o_tab d, own_up (o_key d) (own_cs key) key, own_up (o_res d) (own_cs key) r, o_N d, o_S d, o_D d)
theorem own_rem_le (d : own_T) (key : Int64) (r : Int32) : own_Le d (own_rem d key r) := ⟨Nat.le_refl _, fun _ _ => ⟨rfl, rfl, rfl, rfl, rfl⟩⟩
theorem own_rem_inv {d : own_T} {op i j : Nat} {r : Int32} (I : own_Inv d) (ho : op < 3) (hi : i < 64) (hj : j < 64) (S : own_Sp d op i j r) : own_Inv (own_rem d (own_pk op i j) r) := by
  obtain ⟨i1, i2, i3, i4, i8, i9, i10, i11⟩ := I
  refine ⟨i1, i2, i3, i4, fun k a b => i8 k a b, i9, i10, fun u hu op' i' j' ho' hi' hj' e => ?_⟩
  have e' : own_up (o_key d) (own_cs (own_pk op i j)) (own_pk op i j) u = own_pk op' i' j' := e
  show own_Sp (own_rem d (own_pk op i j) r) op' i' j' (own_up (o_res d) (own_cs (own_pk op i j)) r u)
  by_cases q : u = own_cs (own_pk op i j)
  · rw [q, own_up_same] at e'
    obtain ⟨z1, z2, z3⟩ := own_pk_inj ho hi hj ho' hi' hj' e'
    subst z1 z2 z3
    rw [q, own_up_same]
    exact S
  · rw [own_up_ne _ _ q] at e'
    rw [own_up_ne _ _ q]
    exact i11 u hu op' i' j' ho' hi' hj' e'
theorem own_leaf {d : own_T} (I : own_Inv d) {k : Nat} (hk : k < o_N d) : o_te d k < 0 ↔ k < 2 := by
  obtain ⟨i1, ⟨i2, i3⟩, -, -, i8, -⟩ := I
  constructor
  · intro h
    refine Classical.byContradiction fun q => (i8 k (by omega) hk).1 h
  · intro h
    have : k = 0 ∨ k = 1 := by omega
    rcases this with rfl | rfl
    · rw [i2]; decide
    · rw [i3]; decide
theorem own_slot64 : ∀ s : Fin 64, ((s.val.toInt32 + (1 : Int32)) &&& ((64 : Int32) - (1 : Int32))) = ((s.val + 1) % 64).toInt32 := by decide +kernel
theorem own_mask (x : Int32) (k : Nat) (mk : Int32) (hk : k ≤ 31) (hm : mk.toBitVec.toNat = 2 ^ k - 1) : x &&& mk = (x.toBitVec.toNat % 2 ^ k).toInt32 := by
  have h1 : (x &&& mk).toBitVec.toNat = x.toBitVec.toNat % 2 ^ k := by
    rw [Int32.toBitVec_and, BitVec.toNat_and, hm]
    exact Nat.and_two_pow_sub_one_eq_mod _ k
  have hp : 2 ^ k ≤ 2 ^ 31 := Nat.pow_le_pow_right (by decide) hk
  have h2 : x.toBitVec.toNat % 2 ^ k < 2 ^ k := Nat.mod_lt _ (Nat.two_pow_pos k)
  rw [← Int32.toInt_inj, own_i32 (by omega)]
  show (x &&& mk).toBitVec.toInt = _
  rw [BitVec.toInt_eq_toNat_of_lt, h1]
  rw [h1]
  have : (2 : Nat) ^ 31 * 2 = 2 ^ 32 := by decide
  omega
theorem d7_0 : decode prog_13_method_21_code 0 = .ok (.iload_n 1, 1) := by decide +kernel
theorem d7_1 : decode prog_13_method_21_code 1 = .ok (.iload_n 2, 1) := by decide +kernel
theorem d7_2 : decode prog_13_method_21_code 2 = .ok (.iload_n 3, 1) := by decide +kernel
theorem d7_3 : decode prog_13_method_21_code 3 = .ok (.invokestatic 68, 3) := by decide +kernel
theorem d7_6 : decode prog_13_method_21_code 6 = .ok (.invokestatic 200, 3) := by decide +kernel
theorem d7_9 : decode prog_13_method_21_code 9 = .ok (.l2i, 1) := by decide +kernel
theorem d7_10 : decode prog_13_method_21_code 10 = .ok (.aload_n 0, 1) := by decide +kernel
theorem d7_11 : decode prog_13_method_21_code 11 = .ok (.getfield 33, 3) := by decide +kernel
theorem d7_14 : decode prog_13_method_21_code 14 = .ok (.arraylength, 1) := by decide +kernel
theorem d7_15 : decode prog_13_method_21_code 15 = .ok (.iconst 1, 1) := by decide +kernel
theorem d7_16 : decode prog_13_method_21_code 16 = .ok (.isub, 1) := by decide +kernel
theorem d7_17 : decode prog_13_method_21_code 17 = .ok (.iand, 1) := by decide +kernel
theorem d7_18 : decode prog_13_method_21_code 18 = .ok (.ireturn, 1) := by decide +kernel
theorem own_pntsl : plainFor (⟨"com/example/libgfg/libgfg/automaton/LetterSets", "tableSlot", "(III)I"⟩ : MethodName) = true := by first | exact plainFor_of_name (by first | (simp [plainName, overriddenIn, x]; done) | decide +kernel) | decide +kernel
theorem own_eftsl (A : Nat → Addr) (x1 : Int32) (f t : Nat) (m : MethodId) : entryFrame m #[(.ref (A 0)), (.int x1), (.int f.toInt32), (.int t.toInt32)] 4 = mkF m 0 #[.val (.ref (A 0)), .val (.int x1), .val (.int f.toInt32), .val (.int t.toInt32)] [] := by first | (simp [entryFrame, mkF, argsToLocals, Value.category]; done) | rfl
def own_qtsl (A : Nat → Addr) (x1 : Int32) (f t : Nat) (d : own_T) (Z : State) (n0 : Nat) (h0 : Heap) (v : Option Value) (h : Heap) : Prop := ∃ s, v = some (.int s.toInt32) ∧ h0 = h ∧ s < 64
set_option maxRecDepth 65536 in
set_option maxHeartbeats 40000000 in
theorem own_mtsl (l : Launch) (Z : State) (a0 : Array Value) (hw : ∀ d ∈ tables_1, d.before a0 Z = true) (A : Nat → Addr) (n0 : Nat) (x1 : Int32) (f t : Nat) (d : own_T) (h0 : Heap) (F : own_LS Z h0 A n0 d)  :
    own_Met l Z (⟨"com/example/libgfg/libgfg/automaton/LetterSets", "tableSlot", "(III)I"⟩ : MethodName) prog_13_method_21_code 4 (some .int) [] ({ frames := 1, cells := 0, slots := 0, locals := 15 } : Room) #[(.ref (A 0)), (.int x1), (.int f.toInt32), (.int t.toInt32)] h0 n0 (own_qtsl A x1 f t d Z n0 h0) := by
  refine own_enter (own := "com/example/libgfg/libgfg/automaton/LetterSets") (nm := "tableSlot") rfl rfl own_pntsl (own_eftsl A x1 f t) ?_
  intro p e s m below meth c T0 X0
  refine own_iloadN X0 d7_0 rfl rfl ?_
  refine own_iloadN X0 d7_1 rfl rfl ?_
  refine own_iloadN X0 d7_2 rfl rfl ?_
  refine own_callS X0 (hw _ (List.mem_of_getElem? (i := 68) rfl)) (hw _ (List.mem_of_getElem? (i := 69) rfl)) (hw _ (List.mem_of_getElem? (i := 2) rfl)) (hw _ (List.mem_of_getElem? (i := 70) rfl)) (by decide) (argsL := [(.int x1), (.int f.toInt32), (.int t.toInt32)]) (rest := []) (own_mpk l Z a0 hw [] x1 (f.toInt32) (t.toInt32) _ _) (pd_8) rfl d7_3 rfl rfl rfl (W := 0) rfl (by first | decide | (dsimp only; omega) | omega) (by first | decide | (dsimp only; omega) | omega) (cells' := 0) (slots' := 0) rfl rfl (by first | decide | (dsimp only; omega) | omega) (by first | decide | (dsimp only; omega) | omega) (fun v T1 h3 X2 q4 => ?_)
  obtain ⟨rfl, rfl⟩ := q4
  show own_Fin p e below (own_End s n0 (own_qtsl A x1 f t d Z n0 h0) ({ frames := 1, cells := 0, slots := 0, locals := 15 } : Room).cells ({ frames := 1, cells := 0, slots := 0, locals := 15 } : Room).slots) (T1.setTop (mkF m 6 #[.val (.ref (A 0)), .val (.int x1), .val (.int f.toInt32), .val (.int t.toInt32)] [(.long (own_fpk x1 (f.toInt32) (t.toInt32)))]))
  refine own_callS X2 (hw _ (List.mem_of_getElem? (i := 71) rfl)) (hw _ (List.mem_of_getElem? (i := 72) rfl)) (hw _ (List.mem_of_getElem? (i := 2) rfl)) (hw _ (List.mem_of_getElem? (i := 73) rfl)) (by decide) (argsL := [(.long (own_fpk x1 (f.toInt32) (t.toInt32)))]) (rest := []) (own_mmix l Z a0 hw [] (own_fpk x1 (f.toInt32) (t.toInt32)) _ _) (pd_9) rfl d7_6 rfl rfl rfl (W := 0) rfl (by first | decide | (dsimp only; omega) | omega) (by first | decide | (dsimp only; omega) | omega) (cells' := 0) (slots' := 0) rfl rfl (by first | decide | (dsimp only; omega) | omega) (by first | decide | (dsimp only; omega) | omega) (fun v T5 h7 X6 q8 => ?_)
  obtain ⟨rfl, rfl⟩ := q8
  show own_Fin p e below (own_End s n0 (own_qtsl A x1 f t d Z n0 h0) ({ frames := 1, cells := 0, slots := 0, locals := 15 } : Room).cells ({ frames := 1, cells := 0, slots := 0, locals := 15 } : Room).slots) (T5.setTop (mkF m 9 #[.val (.ref (A 0)), .val (.int x1), .val (.int f.toInt32), .val (.int t.toInt32)] [(.long (own_fmix (own_fpk x1 (f.toInt32) (t.toInt32))))]))
  refine own_l2i X6 d7_9 rfl ?_
  refine own_aloadN X6 d7_10 rfl rfl rfl ?_
  refine own_getf X6 (hw _ (List.mem_of_getElem? (i := 33) rfl)) (own_LS_f_table F) d7_11 rfl (fun T9 X10 => ?_)
  refine own_alenI X10 (own_LS_a7 F) (z := (64 : Int32)) (by decide) d7_14 rfl ?_
  refine own_iconst X10 (1 : Int32) d7_15 rfl (by decide) ?_
  refine own_isub X10 d7_16 rfl ?_
  refine own_iand X10 d7_17 rfl ?_
  rw [own_mask _ 6 _ (by decide) (by decide)]
  exact own_retI X10 rfl d7_18 ⟨_, rfl, rfl, Nat.mod_lt _ (by decide)⟩ (by decide) (by decide)
theorem d14_0 : decode prog_13_method_20_code 0 = .ok (.lload_n 1, 1) := by decide +kernel
theorem d14_1 : decode prog_13_method_20_code 1 = .ok (.invokestatic 200, 3) := by decide +kernel
theorem d14_4 : decode prog_13_method_20_code 4 = .ok (.l2i, 1) := by decide +kernel
theorem d14_5 : decode prog_13_method_20_code 5 = .ok (.aload_n 0, 1) := by decide +kernel
theorem d14_6 : decode prog_13_method_20_code 6 = .ok (.getfield 40, 3) := by decide +kernel
theorem d14_9 : decode prog_13_method_20_code 9 = .ok (.arraylength, 1) := by decide +kernel
theorem d14_10 : decode prog_13_method_20_code 10 = .ok (.iconst 1, 1) := by decide +kernel
theorem d14_11 : decode prog_13_method_20_code 11 = .ok (.isub, 1) := by decide +kernel
theorem d14_12 : decode prog_13_method_20_code 12 = .ok (.iand, 1) := by decide +kernel
theorem d14_13 : decode prog_13_method_20_code 13 = .ok (.ireturn, 1) := by decide +kernel
theorem own_pncsl : plainFor (⟨"com/example/libgfg/libgfg/automaton/LetterSets", "cacheSlot", "(J)I"⟩ : MethodName) = true := by first | exact plainFor_of_name (by first | (simp [plainName, overriddenIn, x]; done) | decide +kernel) | decide +kernel
theorem own_efcsl (A : Nat → Addr) (key : Int64) (m : MethodId) : entryFrame m #[(.ref (A 0)), (.long key)] 3 = mkF m 0 #[.val (.ref (A 0)), .val (.long key), .second] [] := by first | (simp [entryFrame, mkF, argsToLocals, Value.category]; done) | rfl
def own_qcsl (A : Nat → Addr) (key : Int64) (d : own_T) (Z : State) (n0 : Nat) (h0 : Heap) (v : Option Value) (h : Heap) : Prop := v = some (.int (own_cs key).toInt32) ∧ h0 = h
set_option maxRecDepth 65536 in
set_option maxHeartbeats 40000000 in
theorem own_mcsl (l : Launch) (Z : State) (a0 : Array Value) (hw : ∀ d ∈ tables_1, d.before a0 Z = true) (A : Nat → Addr) (n0 : Nat) (key : Int64) (d : own_T) (h0 : Heap) (F : own_LS Z h0 A n0 d)  :
    own_Met l Z (⟨"com/example/libgfg/libgfg/automaton/LetterSets", "cacheSlot", "(J)I"⟩ : MethodName) prog_13_method_20_code 3 (some .int) [] ({ frames := 1, cells := 0, slots := 0, locals := 15 } : Room) #[(.ref (A 0)), (.long key)] h0 n0 (own_qcsl A key d Z n0 h0) := by
  refine own_enter (own := "com/example/libgfg/libgfg/automaton/LetterSets") (nm := "cacheSlot") rfl rfl own_pncsl (own_efcsl A key) ?_
  intro p e s m below meth c T0 X0
  refine own_lloadN X0 d14_0 rfl rfl ?_
  refine own_callS X0 (hw _ (List.mem_of_getElem? (i := 71) rfl)) (hw _ (List.mem_of_getElem? (i := 72) rfl)) (hw _ (List.mem_of_getElem? (i := 2) rfl)) (hw _ (List.mem_of_getElem? (i := 73) rfl)) (by decide) (argsL := [(.long key)]) (rest := []) (own_mmix l Z a0 hw [] key _ _) (pd_9) rfl d14_1 rfl rfl rfl (W := 0) rfl (by first | decide | (dsimp only; omega) | omega) (by first | decide | (dsimp only; omega) | omega) (cells' := 0) (slots' := 0) rfl rfl (by first | decide | (dsimp only; omega) | omega) (by first | decide | (dsimp only; omega) | omega) (fun v T1 h3 X2 q4 => ?_)
  obtain ⟨rfl, rfl⟩ := q4
  show own_Fin p e below (own_End s n0 (own_qcsl A key d Z n0 h0) ({ frames := 1, cells := 0, slots := 0, locals := 15 } : Room).cells ({ frames := 1, cells := 0, slots := 0, locals := 15 } : Room).slots) (T1.setTop (mkF m 4 #[.val (.ref (A 0)), .val (.long key), .second] [(.long (own_fmix key))]))
  refine own_l2i X2 d14_4 rfl ?_
  refine own_aloadN X2 d14_5 rfl rfl rfl ?_
  refine own_getf X2 (hw _ (List.mem_of_getElem? (i := 43) rfl)) (own_LS_f_cachedKeys F) d14_6 rfl (fun T5 X6 => ?_)
  refine own_alenJ X6 (own_LS_a8 F) (z := (32 : Int32)) (by decide) d14_9 rfl ?_
  refine own_iconst X6 (1 : Int32) d14_10 rfl (by decide) ?_
  refine own_isub X6 d14_11 rfl ?_
  refine own_iand X6 d14_12 rfl ?_
  rw [own_mask _ 5 _ (by decide) (by decide)]
  exact own_retI X6 rfl d14_13 ⟨rfl, rfl⟩ (by decide) (by decide)
def own_cd (d : own_T) (key : Int64) : Int32 := if o_key d (own_cs key) = key then o_res d (own_cs key) else ((-1) : Int32)
theorem own_cs32 (key : Int64) : own_cs key < 32 := Nat.mod_lt _ (by decide)
theorem d13_0 : decode prog_13_method_18_code 0 = .ok (.aload_n 0, 1) := by decide +kernel
theorem d13_1 : decode prog_13_method_18_code 1 = .ok (.lload_n 1, 1) := by decide +kernel
theorem d13_2 : decode prog_13_method_18_code 2 = .ok (.invokevirtual 197, 3) := by decide +kernel
theorem d13_5 : decode prog_13_method_18_code 5 = .ok (.istore_n 3, 1) := by decide +kernel
theorem d13_6 : decode prog_13_method_18_code 6 = .ok (.aload_n 0, 1) := by decide +kernel
theorem d13_7 : decode prog_13_method_18_code 7 = .ok (.getfield 40, 3) := by decide +kernel
theorem d13_10 : decode prog_13_method_18_code 10 = .ok (.iload_n 3, 1) := by decide +kernel
theorem d13_11 : decode prog_13_method_18_code 11 = .ok (.laload, 1) := by decide +kernel
theorem d13_12 : decode prog_13_method_18_code 12 = .ok (.lload_n 1, 1) := by decide +kernel
theorem d13_13 : decode prog_13_method_18_code 13 = .ok (.lcmp, 1) := by decide +kernel
theorem d13_14 : decode prog_13_method_18_code 14 = .ok (.ifCond .ne 12, 3) := by decide +kernel
theorem d13_17 : decode prog_13_method_18_code 17 = .ok (.aload_n 0, 1) := by decide +kernel
theorem d13_18 : decode prog_13_method_18_code 18 = .ok (.getfield 43, 3) := by decide +kernel
theorem d13_21 : decode prog_13_method_18_code 21 = .ok (.iload_n 3, 1) := by decide +kernel
theorem d13_22 : decode prog_13_method_18_code 22 = .ok (.iaload, 1) := by decide +kernel
theorem d13_23 : decode prog_13_method_18_code 23 = .ok (.goto 4, 3) := by decide +kernel
theorem d13_26 : decode prog_13_method_18_code 26 = .ok (.iconst (-1), 1) := by decide +kernel
theorem d13_27 : decode prog_13_method_18_code 27 = .ok (.ireturn, 1) := by decide +kernel
theorem own_pncd : plainFor (⟨"com/example/libgfg/libgfg/automaton/LetterSets", "cached", "(J)I"⟩ : MethodName) = true := by first | exact plainFor_of_name (by first | (simp [plainName, overriddenIn, x]; done) | decide +kernel) | decide +kernel
theorem own_efcd (A : Nat → Addr) (key : Int64) (m : MethodId) : entryFrame m #[(.ref (A 0)), (.long key)] 4 = mkF m 0 #[.val (.ref (A 0)), .val (.long key), .second, .unset] [] := by first | (simp [entryFrame, mkF, argsToLocals, Value.category]; done) | rfl
def own_qcd (A : Nat → Addr) (key : Int64) (d : own_T) (Z : State) (n0 : Nat) (h0 : Heap) (v : Option Value) (h : Heap) : Prop := v = some (.int (own_cd d key)) ∧ h0 = h
set_option maxRecDepth 65536 in
set_option maxHeartbeats 40000000 in
theorem own_mcd (l : Launch) (Z : State) (a0 : Array Value) (hw : ∀ d ∈ tables_1, d.before a0 Z = true) (A : Nat → Addr) (n0 : Nat) (key : Int64) (d : own_T) (h0 : Heap) (F : own_LS Z h0 A n0 d)  :
    own_Met l Z (⟨"com/example/libgfg/libgfg/automaton/LetterSets", "cached", "(J)I"⟩ : MethodName) prog_13_method_18_code 4 (some .int) [] ({ frames := 2, cells := 0, slots := 0, locals := 29 } : Room) #[(.ref (A 0)), (.long key)] h0 n0 (own_qcd A key d Z n0 h0) := by
  refine own_enter (own := "com/example/libgfg/libgfg/automaton/LetterSets") (nm := "cached") rfl rfl own_pncd (own_efcd A key) ?_
  intro p e s m below meth c T0 X0
  refine own_aloadN X0 d13_0 rfl rfl rfl ?_
  refine own_lloadN X0 d13_1 rfl rfl ?_
  refine own_callP X0 (hw _ (List.mem_of_getElem? (i := 94) rfl)) (hw _ (List.mem_of_getElem? (i := 95) rfl)) (hw _ (List.mem_of_getElem? (i := 96) rfl)) (hw _ (List.mem_of_getElem? (i := 2) rfl)) (hw _ (List.mem_of_getElem? (i := 97) rfl)) (hw _ (List.mem_of_getElem? (i := 58) rfl)) (hw _ (List.mem_of_getElem? (i := 57) rfl)) rfl (by decide) (argsL := [(.long key)]) (rest := []) (own_mcsl l Z a0 hw A n0 key d _ F) (own_LS_exa F) (pd_14) rfl d13_2 rfl rfl rfl (W := 0) rfl (by first | decide | (dsimp only; omega) | omega) (by first | decide | (dsimp only; omega) | omega) (cells' := 0) (slots' := 0) rfl rfl (by first | decide | (dsimp only; omega) | omega) (by first | decide | (dsimp only; omega) | omega) (fun v T1 h3 X2 q4 => ?_)
  obtain ⟨rfl, rfl⟩ := q4
  show own_Fin p e below (own_End s n0 (own_qcd A key d Z n0 h0) ({ frames := 2, cells := 0, slots := 0, locals := 29 } : Room).cells ({ frames := 2, cells := 0, slots := 0, locals := 29 } : Room).slots) (T1.setTop (mkF m 5 #[.val (.ref (A 0)), .val (.long key), .second, .unset] [(.int (own_cs key).toInt32)]))
  refine own_istoreN X2 (L' := #[.val (.ref (A 0)), .val (.long key), .second, .val (.int (own_cs key).toInt32)]) d13_5 rfl rfl ?_
  refine own_aloadN X2 d13_6 rfl rfl rfl ?_
  refine own_getf X2 (hw _ (List.mem_of_getElem? (i := 43) rfl)) (own_LS_f_cachedKeys F) d13_7 rfl (fun T5 X6 => ?_)
  refine own_iloadN X6 d13_10 rfl rfl ?_
  refine own_laloadF X6 (j := (own_cs key)) (own_LS_a8 F) (by decide) (own_cs32 key) d13_11 rfl ?_
  show own_Fin p e below (own_End s n0 (own_qcd A key d Z n0 h0) ({ frames := 2, cells := 0, slots := 0, locals := 29 } : Room).cells ({ frames := 2, cells := 0, slots := 0, locals := 29 } : Room).slots) (T5.setTop (mkF m 12 #[.val (.ref (A 0)), .val (.long key), .second, .val (.int (own_cs key).toInt32)] [(.long (o_key d (own_cs key)))]))
  refine own_lloadN X6 d13_12 rfl rfl ?_
  refine own_lcmp_ne X6 d13_13 rfl d13_14 (by decide) (pcT := 26) (by decide) rfl (fun hc7 => ?_) (fun hc7 => ?_)
  · skip
    refine own_iconst X6 ((-1) : Int32) d13_26 rfl (by decide) ?_
    exact own_retI X6 rfl d13_27 ⟨by rw [own_cd, if_neg hc7], rfl⟩ (by decide) (by decide)
  · skip
    refine own_aloadN X6 d13_17 rfl rfl rfl ?_
    refine own_getf X6 (hw _ (List.mem_of_getElem? (i := 45) rfl)) (own_LS_f_cachedResults F) d13_18 rfl (fun T8 X9 => ?_)
    refine own_iloadN X9 d13_21 rfl rfl ?_
    refine own_ialoadF X9 (j := (own_cs key)) (own_LS_a9 F) (by decide) (own_cs32 key) d13_22 rfl ?_
    show own_Fin p e below (own_End s n0 (own_qcd A key d Z n0 h0) ({ frames := 2, cells := 0, slots := 0, locals := 29 } : Room).cells ({ frames := 2, cells := 0, slots := 0, locals := 29 } : Room).slots) (T8.setTop (mkF m 23 #[.val (.ref (A 0)), .val (.long key), .second, .val (.int (own_cs key).toInt32)] [(.int (o_res d (own_cs key)))]))
    refine own_goto X9 d13_23 (by decide) (pc' := 27) (by decide) ?_
    exact own_retI X9 rfl d13_27 ⟨by rw [own_cd, if_pos hc7], rfl⟩ (by decide) (by decide)
theorem d15_0 : decode prog_13_method_19_code 0 = .ok (.aload_n 0, 1) := by decide +kernel
theorem d15_1 : decode prog_13_method_19_code 1 = .ok (.lload_n 1, 1) := by decide +kernel
theorem d15_2 : decode prog_13_method_19_code 2 = .ok (.invokevirtual 197, 3) := by decide +kernel
theorem d15_5 : decode prog_13_method_19_code 5 = .ok (.istore 4, 2) := by decide +kernel
theorem d15_7 : decode prog_13_method_19_code 7 = .ok (.aload_n 0, 1) := by decide +kernel
theorem d15_8 : decode prog_13_method_19_code 8 = .ok (.getfield 40, 3) := by decide +kernel
theorem d15_11 : decode prog_13_method_19_code 11 = .ok (.iload 4, 2) := by decide +kernel
theorem d15_13 : decode prog_13_method_19_code 13 = .ok (.lload_n 1, 1) := by decide +kernel
theorem d15_14 : decode prog_13_method_19_code 14 = .ok (.lastore, 1) := by decide +kernel
theorem d15_15 : decode prog_13_method_19_code 15 = .ok (.aload_n 0, 1) := by decide +kernel
theorem d15_16 : decode prog_13_method_19_code 16 = .ok (.getfield 43, 3) := by decide +kernel
theorem d15_19 : decode prog_13_method_19_code 19 = .ok (.iload 4, 2) := by decide +kernel
theorem d15_21 : decode prog_13_method_19_code 21 = .ok (.iload_n 3, 1) := by decide +kernel
theorem d15_22 : decode prog_13_method_19_code 22 = .ok (.iastore, 1) := by decide +kernel
theorem d15_23 : decode prog_13_method_19_code 23 = .ok (.return_, 1) := by decide +kernel
theorem own_pnrem : plainFor (⟨"com/example/libgfg/libgfg/automaton/LetterSets", "remember", "(JI)V"⟩ : MethodName) = true := by first | exact plainFor_of_name (by first | (simp [plainName, overriddenIn, x]; done) | decide +kernel) | decide +kernel
theorem own_efrem (A : Nat → Addr) (key : Int64) (r : Int32) (m : MethodId) : entryFrame m #[(.ref (A 0)), (.long key), (.int r)] 5 = mkF m 0 #[.val (.ref (A 0)), .val (.long key), .second, .val (.int r), .unset] [] := by first | (simp [entryFrame, mkF, argsToLocals, Value.category]; done) | rfl
def own_qrem (A : Nat → Addr) (key : Int64) (r : Int32) (d : own_T) (Z : State) (n0 : Nat) (h0 : Heap) (v : Option Value) (h : Heap) : Prop := v = none ∧ own_LS Z h A n0 (own_rem d key r)
set_option maxRecDepth 65536 in
set_option maxHeartbeats 40000000 in
theorem own_mrem (l : Launch) (Z : State) (a0 : Array Value) (hw : ∀ d ∈ tables_1, d.before a0 Z = true) (A : Nat → Addr) (n0 : Nat) (key : Int64) (r : Int32) (d : own_T) (h0 : Heap) (F : own_LS Z h0 A n0 d)  :
    own_Met l Z (⟨"com/example/libgfg/libgfg/automaton/LetterSets", "remember", "(JI)V"⟩ : MethodName) prog_13_method_19_code 5 none [] ({ frames := 2, cells := 0, slots := 0, locals := 29 } : Room) #[(.ref (A 0)), (.long key), (.int r)] h0 n0 (own_qrem A key r d Z n0 h0) := by
  refine own_enter (own := "com/example/libgfg/libgfg/automaton/LetterSets") (nm := "remember") rfl rfl own_pnrem (own_efrem A key r) ?_
  intro p e s m below meth c T0 X0
  refine own_aloadN X0 d15_0 rfl rfl rfl ?_
  refine own_lloadN X0 d15_1 rfl rfl ?_
  refine own_callP X0 (hw _ (List.mem_of_getElem? (i := 94) rfl)) (hw _ (List.mem_of_getElem? (i := 95) rfl)) (hw _ (List.mem_of_getElem? (i := 96) rfl)) (hw _ (List.mem_of_getElem? (i := 2) rfl)) (hw _ (List.mem_of_getElem? (i := 97) rfl)) (hw _ (List.mem_of_getElem? (i := 58) rfl)) (hw _ (List.mem_of_getElem? (i := 57) rfl)) rfl (by decide) (argsL := [(.long key)]) (rest := []) (own_mcsl l Z a0 hw A n0 key d _ F) (own_LS_exa F) (pd_14) rfl d15_2 rfl rfl rfl (W := 0) rfl (by first | decide | (dsimp only; omega) | omega) (by first | decide | (dsimp only; omega) | omega) (cells' := 0) (slots' := 0) rfl rfl (by first | decide | (dsimp only; omega) | omega) (by first | decide | (dsimp only; omega) | omega) (fun v T1 h3 X2 q4 => ?_)
  obtain ⟨rfl, rfl⟩ := q4
  show own_Fin p e below (own_End s n0 (own_qrem A key r d Z n0 h0) ({ frames := 2, cells := 0, slots := 0, locals := 29 } : Room).cells ({ frames := 2, cells := 0, slots := 0, locals := 29 } : Room).slots) (T1.setTop (mkF m 5 #[.val (.ref (A 0)), .val (.long key), .second, .val (.int r), .unset] [(.int (own_cs key).toInt32)]))
  refine own_istore X2 (L' := #[.val (.ref (A 0)), .val (.long key), .second, .val (.int r), .val (.int (own_cs key).toInt32)]) d15_5 rfl rfl ?_
  refine own_aloadN X2 d15_7 rfl rfl rfl ?_
  refine own_getf X2 (hw _ (List.mem_of_getElem? (i := 43) rfl)) (own_LS_f_cachedKeys F) d15_8 rfl (fun T5 X6 => ?_)
  refine own_iload X6 d15_11 rfl rfl ?_
  refine own_lloadN X6 d15_13 rfl rfl ?_
  refine own_lastoreF X6 (j := (own_cs key)) (own_LS_a8 F) (by decide) (own_cs32 key) (own_ge F (by decide)) d15_14 rfl (fun T7 h9 X8 W10 => ?_)
  have P11 : own_LS Z h9 A n0 (o_te d, o_lo d, o_hi d, o_tab d, own_up (o_key d) (own_cs key) key, o_res d, o_N d, o_S d, o_D d) := own_LS_w8 F W10
  refine own_aloadN X8 d15_15 rfl rfl rfl ?_
  refine own_getf X8 (hw _ (List.mem_of_getElem? (i := 45) rfl)) (own_LS_f_cachedResults P11) d15_16 rfl (fun T12 X13 => ?_)
  refine own_iload X13 d15_19 rfl rfl ?_
  refine own_iloadN X13 d15_21 rfl rfl ?_
  refine own_iastoreF X13 (j := (own_cs key)) (own_LS_a9 P11) (by decide) (own_cs32 key) (own_ge P11 (by decide)) d15_22 rfl (fun T14 h16 X15 W17 => ?_)
  have P18 : own_LS Z h16 A n0 (o_te d, o_lo d, o_hi d, o_tab d, own_up (o_key d) (own_cs key) key, own_up (o_res d) (own_cs key) r, o_N d, o_S d, o_D d) := own_LS_w9 P11 W17
  exact own_retV X15 rfl d15_23 ⟨rfl, P18⟩ (by decide) (by decide)
def own_h4 (d : own_T) (k : Nat) (x1 : Int32) (f t : Nat) : Int32 := if (o_te d k) = x1 then (if (o_lo d k).toInt32 = f.toInt32 then (if (o_hi d k).toInt32 = t.toInt32 then (1 : Int32) else (0 : Int32)) else (0 : Int32)) else (0 : Int32)
theorem d11_0 : decode prog_13_method_15_code 0 = .ok (.aload_n 0, 1) := by decide +kernel
theorem d11_1 : decode prog_13_method_15_code 1 = .ok (.getfield 9, 3) := by decide +kernel
theorem d11_4 : decode prog_13_method_15_code 4 = .ok (.iload_n 1, 1) := by decide +kernel
theorem d11_5 : decode prog_13_method_15_code 5 = .ok (.iaload, 1) := by decide +kernel
theorem d11_6 : decode prog_13_method_15_code 6 = .ok (.iload_n 2, 1) := by decide +kernel
theorem d11_7 : decode prog_13_method_15_code 7 = .ok (.if_icmp .ne 28, 3) := by decide +kernel
theorem d11_10 : decode prog_13_method_15_code 10 = .ok (.aload_n 0, 1) := by decide +kernel
theorem d11_11 : decode prog_13_method_15_code 11 = .ok (.getfield 13, 3) := by decide +kernel
theorem d11_14 : decode prog_13_method_15_code 14 = .ok (.iload_n 1, 1) := by decide +kernel
theorem d11_15 : decode prog_13_method_15_code 15 = .ok (.iaload, 1) := by decide +kernel
theorem d11_16 : decode prog_13_method_15_code 16 = .ok (.iload_n 3, 1) := by decide +kernel
theorem d11_17 : decode prog_13_method_15_code 17 = .ok (.if_icmp .ne 18, 3) := by decide +kernel
theorem d11_20 : decode prog_13_method_15_code 20 = .ok (.aload_n 0, 1) := by decide +kernel
theorem d11_21 : decode prog_13_method_15_code 21 = .ok (.getfield 16, 3) := by decide +kernel
theorem d11_24 : decode prog_13_method_15_code 24 = .ok (.iload_n 1, 1) := by decide +kernel
theorem d11_25 : decode prog_13_method_15_code 25 = .ok (.iaload, 1) := by decide +kernel
theorem d11_26 : decode prog_13_method_15_code 26 = .ok (.iload 4, 2) := by decide +kernel
theorem d11_28 : decode prog_13_method_15_code 28 = .ok (.if_icmp .ne 7, 3) := by decide +kernel
theorem d11_31 : decode prog_13_method_15_code 31 = .ok (.iconst 1, 1) := by decide +kernel
theorem d11_32 : decode prog_13_method_15_code 32 = .ok (.goto 4, 3) := by decide +kernel
theorem d11_35 : decode prog_13_method_15_code 35 = .ok (.iconst 0, 1) := by decide +kernel
theorem d11_36 : decode prog_13_method_15_code 36 = .ok (.ireturn, 1) := by decide +kernel
theorem own_pnh4 : plainFor (⟨"com/example/libgfg/libgfg/automaton/LetterSets", "holds", "(IIII)Z"⟩ : MethodName) = true := by first | exact plainFor_of_name (by first | (simp [plainName, overriddenIn, x]; done) | decide +kernel) | decide +kernel
theorem own_efh4 (A : Nat → Addr) (k : Nat) (x1 : Int32) (f t : Nat) (m : MethodId) : entryFrame m #[(.ref (A 0)), (.int k.toInt32), (.int x1), (.int f.toInt32), (.int t.toInt32)] 5 = mkF m 0 #[.val (.ref (A 0)), .val (.int k.toInt32), .val (.int x1), .val (.int f.toInt32), .val (.int t.toInt32)] [] := by first | (simp [entryFrame, mkF, argsToLocals, Value.category]; done) | rfl
def own_qh4 (A : Nat → Addr) (k : Nat) (x1 : Int32) (f t : Nat) (d : own_T) (Z : State) (n0 : Nat) (h0 : Heap) (v : Option Value) (h : Heap) : Prop := v = some (.int (own_h4 d k x1 f t)) ∧ h0 = h
set_option maxRecDepth 65536 in
set_option maxHeartbeats 40000000 in
theorem own_mh4 (l : Launch) (Z : State) (a0 : Array Value) (hw : ∀ d ∈ tables_1, d.before a0 Z = true) (A : Nat → Addr) (n0 : Nat) (k : Nat) (x1 : Int32) (f t : Nat) (d : own_T) (h0 : Heap) (F : own_LS Z h0 A n0 d) (hk : k < 64) :
    own_Met l Z (⟨"com/example/libgfg/libgfg/automaton/LetterSets", "holds", "(IIII)Z"⟩ : MethodName) prog_13_method_15_code 5 (some .boolean) [] ({ frames := 0, cells := 0, slots := 0, locals := 0 } : Room) #[(.ref (A 0)), (.int k.toInt32), (.int x1), (.int f.toInt32), (.int t.toInt32)] h0 n0 (own_qh4 A k x1 f t d Z n0 h0) := by
  refine own_enter (own := "com/example/libgfg/libgfg/automaton/LetterSets") (nm := "holds") rfl rfl own_pnh4 (own_efh4 A k x1 f t) ?_
  intro p e s m below meth c T0 X0
  refine own_aloadN X0 d11_0 rfl rfl rfl ?_
  refine own_getf X0 (hw _ (List.mem_of_getElem? (i := 18) rfl)) (own_LS_f_tested F) d11_1 rfl (fun T1 X2 => ?_)
  refine own_iloadN X2 d11_4 rfl rfl ?_
  refine own_ialoadF X2 (j := k) (own_LS_a1 F) (by decide) hk d11_5 rfl ?_
  show own_Fin p e below (own_End s n0 (own_qh4 A k x1 f t d Z n0 h0) ({ frames := 0, cells := 0, slots := 0, locals := 0 } : Room).cells ({ frames := 0, cells := 0, slots := 0, locals := 0 } : Room).slots) (T1.setTop (mkF m 6 #[.val (.ref (A 0)), .val (.int k.toInt32), .val (.int x1), .val (.int f.toInt32), .val (.int t.toInt32)] [(.int (o_te d k))]))
  refine own_iloadN X2 d11_6 rfl rfl ?_
  refine own_icmp_ne X2 d11_7 (by decide) (pcT := 35) (by decide) rfl (fun hc3 => ?_) (fun hc3 => ?_)
  · skip
    refine own_iconst X2 (0 : Int32) d11_35 rfl (by decide) ?_
    exact own_retZ X2 rfl d11_36 rfl ⟨by rw [own_h4, if_neg hc3], rfl⟩ (by decide) (by decide)
  · skip
    refine own_aloadN X2 d11_10 rfl rfl rfl ?_
    refine own_getf X2 (hw _ (List.mem_of_getElem? (i := 20) rfl)) (own_LS_f_low F) d11_11 rfl (fun T4 X5 => ?_)
    refine own_iloadN X5 d11_14 rfl rfl ?_
    refine own_ialoadF X5 (j := k) (own_LS_a2 F) (by decide) hk d11_15 rfl ?_
    show own_Fin p e below (own_End s n0 (own_qh4 A k x1 f t d Z n0 h0) ({ frames := 0, cells := 0, slots := 0, locals := 0 } : Room).cells ({ frames := 0, cells := 0, slots := 0, locals := 0 } : Room).slots) (T4.setTop (mkF m 16 #[.val (.ref (A 0)), .val (.int k.toInt32), .val (.int x1), .val (.int f.toInt32), .val (.int t.toInt32)] [(.int (o_lo d k).toInt32)]))
    refine own_iloadN X5 d11_16 rfl rfl ?_
    refine own_icmp_ne X5 d11_17 (by decide) (pcT := 35) (by decide) rfl (fun hc6 => ?_) (fun hc6 => ?_)
    · skip
      refine own_iconst X5 (0 : Int32) d11_35 rfl (by decide) ?_
      exact own_retZ X5 rfl d11_36 rfl ⟨by rw [own_h4, if_pos hc3, if_neg hc6], rfl⟩ (by decide) (by decide)
    · skip
      refine own_aloadN X5 d11_20 rfl rfl rfl ?_
      refine own_getf X5 (hw _ (List.mem_of_getElem? (i := 22) rfl)) (own_LS_f_high F) d11_21 rfl (fun T7 X8 => ?_)
      refine own_iloadN X8 d11_24 rfl rfl ?_
      refine own_ialoadF X8 (j := k) (own_LS_a3 F) (by decide) hk d11_25 rfl ?_
      show own_Fin p e below (own_End s n0 (own_qh4 A k x1 f t d Z n0 h0) ({ frames := 0, cells := 0, slots := 0, locals := 0 } : Room).cells ({ frames := 0, cells := 0, slots := 0, locals := 0 } : Room).slots) (T7.setTop (mkF m 26 #[.val (.ref (A 0)), .val (.int k.toInt32), .val (.int x1), .val (.int f.toInt32), .val (.int t.toInt32)] [(.int (o_hi d k).toInt32)]))
      refine own_iload X8 d11_26 rfl rfl ?_
      refine own_icmp_ne X8 d11_28 (by decide) (pcT := 35) (by decide) rfl (fun hc9 => ?_) (fun hc9 => ?_)
      · skip
        refine own_iconst X8 (0 : Int32) d11_35 rfl (by decide) ?_
        exact own_retZ X8 rfl d11_36 rfl ⟨by rw [own_h4, if_pos hc3, if_pos hc6, if_neg hc9], rfl⟩ (by decide) (by decide)
      · skip
        refine own_iconst X8 (1 : Int32) d11_31 rfl (by decide) ?_
        refine own_goto X8 d11_32 (by decide) (pc' := 36) (by decide) ?_
        exact own_retZ X8 rfl d11_36 rfl ⟨by rw [own_h4, if_pos hc3, if_pos hc6, if_pos hc9], rfl⟩ (by decide) (by decide)
def own_br (d : own_T) (k : Nat) (tp : Int32) (b : Int32) : Nat := if o_te d k = tp then (if b = (0 : Int32) then o_lo d k else o_hi d k) else k
theorem d20_0 : decode prog_13_method_12_code 0 = .ok (.iload_n 1, 1) := by decide +kernel
theorem d20_1 : decode prog_13_method_12_code 1 = .ok (.istore 4, 2) := by decide +kernel
theorem d20_3 : decode prog_13_method_12_code 3 = .ok (.aload_n 0, 1) := by decide +kernel
theorem d20_4 : decode prog_13_method_12_code 4 = .ok (.getfield 9, 3) := by decide +kernel
theorem d20_7 : decode prog_13_method_12_code 7 = .ok (.iload_n 1, 1) := by decide +kernel
theorem d20_8 : decode prog_13_method_12_code 8 = .ok (.iaload, 1) := by decide +kernel
theorem d20_9 : decode prog_13_method_12_code 9 = .ok (.iload_n 2, 1) := by decide +kernel
theorem d20_10 : decode prog_13_method_12_code 10 = .ok (.if_icmp .ne 24, 3) := by decide +kernel
theorem d20_13 : decode prog_13_method_12_code 13 = .ok (.iload_n 3, 1) := by decide +kernel
theorem d20_14 : decode prog_13_method_12_code 14 = .ok (.ifCond .eq 12, 3) := by decide +kernel
theorem d20_17 : decode prog_13_method_12_code 17 = .ok (.aload_n 0, 1) := by decide +kernel
theorem d20_18 : decode prog_13_method_12_code 18 = .ok (.getfield 16, 3) := by decide +kernel
theorem d20_21 : decode prog_13_method_12_code 21 = .ok (.iload_n 1, 1) := by decide +kernel
theorem d20_22 : decode prog_13_method_12_code 22 = .ok (.iaload, 1) := by decide +kernel
theorem d20_23 : decode prog_13_method_12_code 23 = .ok (.goto 9, 3) := by decide +kernel
theorem d20_26 : decode prog_13_method_12_code 26 = .ok (.aload_n 0, 1) := by decide +kernel
theorem d20_27 : decode prog_13_method_12_code 27 = .ok (.getfield 13, 3) := by decide +kernel
theorem d20_30 : decode prog_13_method_12_code 30 = .ok (.iload_n 1, 1) := by decide +kernel
theorem d20_31 : decode prog_13_method_12_code 31 = .ok (.iaload, 1) := by decide +kernel
theorem d20_32 : decode prog_13_method_12_code 32 = .ok (.istore 4, 2) := by decide +kernel
theorem d20_34 : decode prog_13_method_12_code 34 = .ok (.iload 4, 2) := by decide +kernel
theorem d20_36 : decode prog_13_method_12_code 36 = .ok (.ireturn, 1) := by decide +kernel
theorem own_pnbr : plainFor (⟨"com/example/libgfg/libgfg/automaton/LetterSets", "branch", "(IIZ)I"⟩ : MethodName) = true := by first | exact plainFor_of_name (by first | (simp [plainName, overriddenIn, x]; done) | decide +kernel) | decide +kernel
theorem own_efbr (A : Nat → Addr) (k : Nat) (tp b : Int32) (m : MethodId) : entryFrame m #[(.ref (A 0)), (.int k.toInt32), (.int tp), (.int b)] 5 = mkF m 0 #[.val (.ref (A 0)), .val (.int k.toInt32), .val (.int tp), .val (.int b), .unset] [] := by first | (simp [entryFrame, mkF, argsToLocals, Value.category]; done) | rfl
def own_qbr (A : Nat → Addr) (k : Nat) (tp b : Int32) (d : own_T) (Z : State) (n0 : Nat) (h0 : Heap) (v : Option Value) (h : Heap) : Prop := v = some (.int (own_br d k tp b).toInt32) ∧ h0 = h
set_option maxRecDepth 65536 in
set_option maxHeartbeats 40000000 in
theorem own_mbr (l : Launch) (Z : State) (a0 : Array Value) (hw : ∀ d ∈ tables_1, d.before a0 Z = true) (A : Nat → Addr) (n0 : Nat) (k : Nat) (tp b : Int32) (d : own_T) (h0 : Heap) (F : own_LS Z h0 A n0 d) (hk : k < 64) :
    own_Met l Z (⟨"com/example/libgfg/libgfg/automaton/LetterSets", "branch", "(IIZ)I"⟩ : MethodName) prog_13_method_12_code 5 (some .int) [] ({ frames := 0, cells := 0, slots := 0, locals := 0 } : Room) #[(.ref (A 0)), (.int k.toInt32), (.int tp), (.int b)] h0 n0 (own_qbr A k tp b d Z n0 h0) := by
  refine own_enter (own := "com/example/libgfg/libgfg/automaton/LetterSets") (nm := "branch") rfl rfl own_pnbr (own_efbr A k tp b) ?_
  intro p e s m below meth c T0 X0
  refine own_iloadN X0 d20_0 rfl rfl ?_
  refine own_istore X0 (L' := #[.val (.ref (A 0)), .val (.int k.toInt32), .val (.int tp), .val (.int b), .val (.int k.toInt32)]) d20_1 rfl rfl ?_
  refine own_aloadN X0 d20_3 rfl rfl rfl ?_
  refine own_getf X0 (hw _ (List.mem_of_getElem? (i := 18) rfl)) (own_LS_f_tested F) d20_4 rfl (fun T1 X2 => ?_)
  refine own_iloadN X2 d20_7 rfl rfl ?_
  refine own_ialoadF X2 (j := k) (own_LS_a1 F) (by decide) hk d20_8 rfl ?_
  show own_Fin p e below (own_End s n0 (own_qbr A k tp b d Z n0 h0) ({ frames := 0, cells := 0, slots := 0, locals := 0 } : Room).cells ({ frames := 0, cells := 0, slots := 0, locals := 0 } : Room).slots) (T1.setTop (mkF m 9 #[.val (.ref (A 0)), .val (.int k.toInt32), .val (.int tp), .val (.int b), .val (.int k.toInt32)] [(.int (o_te d k))]))
  refine own_iloadN X2 d20_9 rfl rfl ?_
  refine own_icmp_ne X2 d20_10 (by decide) (pcT := 34) (by decide) rfl (fun hc3 => ?_) (fun hc3 => ?_)
  · skip
    refine own_iload X2 d20_34 rfl rfl ?_
    exact own_retI X2 rfl d20_36 ⟨by rw [own_br, if_neg hc3], rfl⟩ (by decide) (by decide)
  · skip
    refine own_iloadN X2 d20_13 rfl rfl ?_
    refine own_if_eq X2 d20_14 (by decide) (pcT := 26) (by decide) rfl (fun hc4 => ?_) (fun hc4 => ?_)
    · skip
      refine own_aloadN X2 d20_26 rfl rfl rfl ?_
      refine own_getf X2 (hw _ (List.mem_of_getElem? (i := 20) rfl)) (own_LS_f_low F) d20_27 rfl (fun T5 X6 => ?_)
      refine own_iloadN X6 d20_30 rfl rfl ?_
      refine own_ialoadF X6 (j := k) (own_LS_a2 F) (by decide) hk d20_31 rfl ?_
      show own_Fin p e below (own_End s n0 (own_qbr A k tp b d Z n0 h0) ({ frames := 0, cells := 0, slots := 0, locals := 0 } : Room).cells ({ frames := 0, cells := 0, slots := 0, locals := 0 } : Room).slots) (T5.setTop (mkF m 32 #[.val (.ref (A 0)), .val (.int k.toInt32), .val (.int tp), .val (.int b), .val (.int k.toInt32)] [(.int (o_lo d k).toInt32)]))
      refine own_istore X6 (L' := #[.val (.ref (A 0)), .val (.int k.toInt32), .val (.int tp), .val (.int b), .val (.int (o_lo d k).toInt32)]) d20_32 rfl rfl ?_
      refine own_iload X6 d20_34 rfl rfl ?_
      exact own_retI X6 rfl d20_36 ⟨by rw [own_br, if_pos hc3, if_pos hc4], rfl⟩ (by decide) (by decide)
    · skip
      refine own_aloadN X2 d20_17 rfl rfl rfl ?_
      refine own_getf X2 (hw _ (List.mem_of_getElem? (i := 22) rfl)) (own_LS_f_high F) d20_18 rfl (fun T7 X8 => ?_)
      refine own_iloadN X8 d20_21 rfl rfl ?_
      refine own_ialoadF X8 (j := k) (own_LS_a3 F) (by decide) hk d20_22 rfl ?_
      show own_Fin p e below (own_End s n0 (own_qbr A k tp b d Z n0 h0) ({ frames := 0, cells := 0, slots := 0, locals := 0 } : Room).cells ({ frames := 0, cells := 0, slots := 0, locals := 0 } : Room).slots) (T7.setTop (mkF m 23 #[.val (.ref (A 0)), .val (.int k.toInt32), .val (.int tp), .val (.int b), .val (.int k.toInt32)] [(.int (o_hi d k).toInt32)]))
      refine own_goto X8 d20_23 (by decide) (pc' := 32) (by decide) ?_
      refine own_istore X8 (L' := #[.val (.ref (A 0)), .val (.int k.toInt32), .val (.int tp), .val (.int b), .val (.int (o_hi d k).toInt32)]) d20_32 rfl rfl ?_
      refine own_iload X8 d20_34 rfl rfl ?_
      exact own_retI X8 rfl d20_36 ⟨by rw [own_br, if_pos hc3, if_neg hc4], rfl⟩ (by decide) (by decide)
theorem own_succ32 {n : Nat} (h : n < 64) : n.toInt32 + (1 : Int32) = (n + 1).toInt32 := by
  have : ∀ k : Fin 64, k.val.toInt32 + (1 : Int32) = (k.val + 1).toInt32 := by decide +kernel
  exact this ⟨n, h⟩
theorem own_LS_gh {Z : State} {h : Heap} {A : Nat → Addr} {n0 : Nat} {te : Nat → Int32} {lo hi tab : Nat → Nat} {key : Nat → Int64} {res : Nat → Int32} {N : Nat} {S S' : Nat → Int64 → Bool} {D D' : Nat → Nat} (F : own_LS Z h A n0 (te, lo, hi, tab, key, res, N, S, D)) : own_LS Z h A n0 (te, lo, hi, tab, key, res, N, S', D') := F
theorem own_n64 {n : Nat} (h : n < 32) : ¬ ((64 : Int32) < (2 : Int32) * (n + 1).toInt32) := by
  have : ∀ k : Fin 32, ¬ ((64 : Int32) < (2 : Int32) * (k.val + 1).toInt32) := by decide +kernel
  exact this ⟨n, h⟩
theorem d10_0 : decode prog_13_method_16_code 0 = .ok (.aload_n 0, 1) := by decide +kernel
theorem d10_1 : decode prog_13_method_16_code 1 = .ok (.getfield 19, 3) := by decide +kernel
theorem d10_4 : decode prog_13_method_16_code 4 = .ok (.ldc 171, 2) := by decide +kernel
theorem d10_6 : decode prog_13_method_16_code 6 = .ok (.if_icmp .ne 20, 3) := by decide +kernel
theorem d10_26 : decode prog_13_method_16_code 26 = .ok (.aload_n 0, 1) := by decide +kernel
theorem d10_27 : decode prog_13_method_16_code 27 = .ok (.getfield 19, 3) := by decide +kernel
theorem d10_30 : decode prog_13_method_16_code 30 = .ok (.aload_n 0, 1) := by decide +kernel
theorem d10_31 : decode prog_13_method_16_code 31 = .ok (.getfield 9, 3) := by decide +kernel
theorem d10_34 : decode prog_13_method_16_code 34 = .ok (.arraylength, 1) := by decide +kernel
theorem d10_35 : decode prog_13_method_16_code 35 = .ok (.if_icmp .ne 111, 3) := by decide +kernel
theorem d10_146 : decode prog_13_method_16_code 146 = .ok (.aload_n 0, 1) := by decide +kernel
theorem d10_147 : decode prog_13_method_16_code 147 = .ok (.getfield 19, 3) := by decide +kernel
theorem d10_150 : decode prog_13_method_16_code 150 = .ok (.istore 5, 2) := by decide +kernel
theorem d10_152 : decode prog_13_method_16_code 152 = .ok (.lconst 1, 1) := by decide +kernel
theorem d10_153 : decode prog_13_method_16_code 153 = .ok (.iload_n 2, 1) := by decide +kernel
theorem d10_154 : decode prog_13_method_16_code 154 = .ok (.lshl, 1) := by decide +kernel
theorem d10_155 : decode prog_13_method_16_code 155 = .ok (.lstore 6, 2) := by decide +kernel
theorem d10_157 : decode prog_13_method_16_code 157 = .ok (.aload_n 0, 1) := by decide +kernel
theorem d10_158 : decode prog_13_method_16_code 158 = .ok (.getfield 9, 3) := by decide +kernel
theorem d10_161 : decode prog_13_method_16_code 161 = .ok (.iload 5, 2) := by decide +kernel
theorem d10_163 : decode prog_13_method_16_code 163 = .ok (.iload_n 2, 1) := by decide +kernel
theorem d10_164 : decode prog_13_method_16_code 164 = .ok (.iastore, 1) := by decide +kernel
theorem d10_165 : decode prog_13_method_16_code 165 = .ok (.aload_n 0, 1) := by decide +kernel
theorem d10_166 : decode prog_13_method_16_code 166 = .ok (.getfield 13, 3) := by decide +kernel
theorem d10_169 : decode prog_13_method_16_code 169 = .ok (.iload 5, 2) := by decide +kernel
theorem d10_171 : decode prog_13_method_16_code 171 = .ok (.iload_n 3, 1) := by decide +kernel
theorem d10_172 : decode prog_13_method_16_code 172 = .ok (.iastore, 1) := by decide +kernel
theorem d10_173 : decode prog_13_method_16_code 173 = .ok (.aload_n 0, 1) := by decide +kernel
theorem d10_174 : decode prog_13_method_16_code 174 = .ok (.getfield 16, 3) := by decide +kernel
theorem d10_177 : decode prog_13_method_16_code 177 = .ok (.iload 5, 2) := by decide +kernel
theorem d10_179 : decode prog_13_method_16_code 179 = .ok (.iload 4, 2) := by decide +kernel
theorem d10_181 : decode prog_13_method_16_code 181 = .ok (.iastore, 1) := by decide +kernel
theorem d10_182 : decode prog_13_method_16_code 182 = .ok (.aload_n 0, 1) := by decide +kernel
theorem d10_183 : decode prog_13_method_16_code 183 = .ok (.getfield 23, 3) := by decide +kernel
theorem d10_186 : decode prog_13_method_16_code 186 = .ok (.iload 5, 2) := by decide +kernel
theorem d10_188 : decode prog_13_method_16_code 188 = .ok (.lload 6, 2) := by decide +kernel
theorem d10_190 : decode prog_13_method_16_code 190 = .ok (.aload_n 0, 1) := by decide +kernel
theorem d10_191 : decode prog_13_method_16_code 191 = .ok (.getfield 23, 3) := by decide +kernel
theorem d10_194 : decode prog_13_method_16_code 194 = .ok (.iload_n 3, 1) := by decide +kernel
theorem d10_195 : decode prog_13_method_16_code 195 = .ok (.laload, 1) := by decide +kernel
theorem d10_196 : decode prog_13_method_16_code 196 = .ok (.lor, 1) := by decide +kernel
theorem d10_197 : decode prog_13_method_16_code 197 = .ok (.aload_n 0, 1) := by decide +kernel
theorem d10_198 : decode prog_13_method_16_code 198 = .ok (.getfield 23, 3) := by decide +kernel
theorem d10_201 : decode prog_13_method_16_code 201 = .ok (.iload 4, 2) := by decide +kernel
theorem d10_203 : decode prog_13_method_16_code 203 = .ok (.laload, 1) := by decide +kernel
theorem d10_204 : decode prog_13_method_16_code 204 = .ok (.lor, 1) := by decide +kernel
theorem d10_205 : decode prog_13_method_16_code 205 = .ok (.lastore, 1) := by decide +kernel
theorem d10_206 : decode prog_13_method_16_code 206 = .ok (.aload_n 0, 1) := by decide +kernel
theorem d10_207 : decode prog_13_method_16_code 207 = .ok (.getfield 27, 3) := by decide +kernel
theorem d10_210 : decode prog_13_method_16_code 210 = .ok (.iload 5, 2) := by decide +kernel
theorem d10_212 : decode prog_13_method_16_code 212 = .ok (.aload_n 0, 1) := by decide +kernel
theorem d10_213 : decode prog_13_method_16_code 213 = .ok (.getfield 27, 3) := by decide +kernel
theorem d10_216 : decode prog_13_method_16_code 216 = .ok (.iload_n 3, 1) := by decide +kernel
theorem d10_217 : decode prog_13_method_16_code 217 = .ok (.laload, 1) := by decide +kernel
theorem d10_218 : decode prog_13_method_16_code 218 = .ok (.aload_n 0, 1) := by decide +kernel
theorem d10_219 : decode prog_13_method_16_code 219 = .ok (.getfield 27, 3) := by decide +kernel
theorem d10_222 : decode prog_13_method_16_code 222 = .ok (.iload 4, 2) := by decide +kernel
theorem d10_224 : decode prog_13_method_16_code 224 = .ok (.laload, 1) := by decide +kernel
theorem d10_225 : decode prog_13_method_16_code 225 = .ok (.land, 1) := by decide +kernel
theorem d10_226 : decode prog_13_method_16_code 226 = .ok (.iload_n 3, 1) := by decide +kernel
theorem d10_227 : decode prog_13_method_16_code 227 = .ok (.ifCond .ne 8, 3) := by decide +kernel
theorem d10_230 : decode prog_13_method_16_code 230 = .ok (.lload 6, 2) := by decide +kernel
theorem d10_232 : decode prog_13_method_16_code 232 = .ok (.goto 4, 3) := by decide +kernel
theorem d10_235 : decode prog_13_method_16_code 235 = .ok (.lconst 0, 1) := by decide +kernel
theorem d10_236 : decode prog_13_method_16_code 236 = .ok (.lor, 1) := by decide +kernel
theorem d10_237 : decode prog_13_method_16_code 237 = .ok (.lastore, 1) := by decide +kernel
theorem d10_238 : decode prog_13_method_16_code 238 = .ok (.aload_n 0, 1) := by decide +kernel
theorem d10_239 : decode prog_13_method_16_code 239 = .ok (.getfield 30, 3) := by decide +kernel
theorem d10_242 : decode prog_13_method_16_code 242 = .ok (.iload 5, 2) := by decide +kernel
theorem d10_244 : decode prog_13_method_16_code 244 = .ok (.aload_n 0, 1) := by decide +kernel
theorem d10_245 : decode prog_13_method_16_code 245 = .ok (.getfield 30, 3) := by decide +kernel
theorem d10_248 : decode prog_13_method_16_code 248 = .ok (.iload_n 3, 1) := by decide +kernel
theorem d10_249 : decode prog_13_method_16_code 249 = .ok (.laload, 1) := by decide +kernel
theorem d10_250 : decode prog_13_method_16_code 250 = .ok (.aload_n 0, 1) := by decide +kernel
theorem d10_251 : decode prog_13_method_16_code 251 = .ok (.getfield 30, 3) := by decide +kernel
theorem d10_254 : decode prog_13_method_16_code 254 = .ok (.iload 4, 2) := by decide +kernel
theorem d10_256 : decode prog_13_method_16_code 256 = .ok (.laload, 1) := by decide +kernel
theorem d10_257 : decode prog_13_method_16_code 257 = .ok (.land, 1) := by decide +kernel
theorem d10_258 : decode prog_13_method_16_code 258 = .ok (.iload 4, 2) := by decide +kernel
theorem d10_260 : decode prog_13_method_16_code 260 = .ok (.ifCond .ne 8, 3) := by decide +kernel
theorem d10_263 : decode prog_13_method_16_code 263 = .ok (.lload 6, 2) := by decide +kernel
theorem d10_265 : decode prog_13_method_16_code 265 = .ok (.goto 4, 3) := by decide +kernel
theorem d10_268 : decode prog_13_method_16_code 268 = .ok (.lconst 0, 1) := by decide +kernel
theorem d10_269 : decode prog_13_method_16_code 269 = .ok (.lor, 1) := by decide +kernel
theorem d10_270 : decode prog_13_method_16_code 270 = .ok (.lastore, 1) := by decide +kernel
theorem d10_271 : decode prog_13_method_16_code 271 = .ok (.aload_n 0, 1) := by decide +kernel
theorem d10_272 : decode prog_13_method_16_code 272 = .ok (.getfield 33, 3) := by decide +kernel
theorem d10_275 : decode prog_13_method_16_code 275 = .ok (.iload_n 1, 1) := by decide +kernel
theorem d10_276 : decode prog_13_method_16_code 276 = .ok (.iload 5, 2) := by decide +kernel
theorem d10_278 : decode prog_13_method_16_code 278 = .ok (.iastore, 1) := by decide +kernel
theorem d10_279 : decode prog_13_method_16_code 279 = .ok (.aload_n 0, 1) := by decide +kernel
theorem d10_280 : decode prog_13_method_16_code 280 = .ok (.dup, 1) := by decide +kernel
theorem d10_281 : decode prog_13_method_16_code 281 = .ok (.getfield 19, 3) := by decide +kernel
theorem d10_284 : decode prog_13_method_16_code 284 = .ok (.iconst 1, 1) := by decide +kernel
theorem d10_285 : decode prog_13_method_16_code 285 = .ok (.iadd, 1) := by decide +kernel
theorem d10_286 : decode prog_13_method_16_code 286 = .ok (.putfield 19, 3) := by decide +kernel
theorem d10_289 : decode prog_13_method_16_code 289 = .ok (.iconst 2, 1) := by decide +kernel
theorem d10_290 : decode prog_13_method_16_code 290 = .ok (.aload_n 0, 1) := by decide +kernel
theorem d10_291 : decode prog_13_method_16_code 291 = .ok (.getfield 19, 3) := by decide +kernel
theorem d10_294 : decode prog_13_method_16_code 294 = .ok (.imul, 1) := by decide +kernel
theorem d10_295 : decode prog_13_method_16_code 295 = .ok (.aload_n 0, 1) := by decide +kernel
theorem d10_296 : decode prog_13_method_16_code 296 = .ok (.getfield 33, 3) := by decide +kernel
theorem d10_299 : decode prog_13_method_16_code 299 = .ok (.arraylength, 1) := by decide +kernel
theorem d10_300 : decode prog_13_method_16_code 300 = .ok (.if_icmp .le 7, 3) := by decide +kernel
theorem d10_307 : decode prog_13_method_16_code 307 = .ok (.iload 5, 2) := by decide +kernel
theorem d10_309 : decode prog_13_method_16_code 309 = .ok (.ireturn, 1) := by decide +kernel
theorem own_pnadd : plainFor (⟨"com/example/libgfg/libgfg/automaton/LetterSets", "add", "(IIII)I"⟩ : MethodName) = true := by first | exact plainFor_of_name (by first | (simp [plainName, overriddenIn, x]; done) | decide +kernel) | decide +kernel
theorem own_efadd (A : Nat → Addr) (u : Nat) (x1 : Int32) (f t : Nat) (m : MethodId) : entryFrame m #[(.ref (A 0)), (.int u.toInt32), (.int x1), (.int f.toInt32), (.int t.toInt32)] 8 = mkF m 0 #[.val (.ref (A 0)), .val (.int u.toInt32), .val (.int x1), .val (.int f.toInt32), .val (.int t.toInt32), .unset, .unset, .unset] [] := by first | (simp [entryFrame, mkF, argsToLocals, Value.category]; done) | rfl
def own_qadd (A : Nat → Addr) (u : Nat) (x1 : Int32) (f t : Nat) (d : own_T) (Z : State) (n0 : Nat) (h0 : Heap) (v : Option Value) (h : Heap) : Prop := v = some (.int (o_N d).toInt32) ∧ own_LS Z h A n0 (own_add d u x1 f t)
set_option maxRecDepth 65536 in
set_option maxHeartbeats 40000000 in
theorem own_madd (l : Launch) (Z : State) (a0 : Array Value) (hw : ∀ d ∈ tables_1, d.before a0 Z = true) (A : Nat → Addr) (n0 : Nat) (u : Nat) (x1 : Int32) (f t : Nat) (d : own_T) (h0 : Heap) (F : own_LS Z h0 A n0 d) (hu : u < 64) (hf : f < 64) (ht : t < 64) (hN : o_N d < 32) :
    own_Met l Z (⟨"com/example/libgfg/libgfg/automaton/LetterSets", "add", "(IIII)I"⟩ : MethodName) prog_13_method_16_code 8 (some .int) [] ({ frames := 0, cells := 0, slots := 0, locals := 0 } : Room) #[(.ref (A 0)), (.int u.toInt32), (.int x1), (.int f.toInt32), (.int t.toInt32)] h0 n0 (own_qadd A u x1 f t d Z n0 h0) := by
  refine own_enter (own := "com/example/libgfg/libgfg/automaton/LetterSets") (nm := "add") rfl rfl own_pnadd (own_efadd A u x1 f t) ?_
  intro p e s m below meth c T0 X0
  refine own_aloadN X0 d10_0 rfl rfl rfl ?_
  refine own_getf X0 (hw _ (List.mem_of_getElem? (i := 24) rfl)) (own_LS_f_nodes F) d10_1 rfl (fun T1 X2 => ?_)
  show own_Fin p e below (own_End s n0 (own_qadd A u x1 f t d Z n0 h0) ({ frames := 0, cells := 0, slots := 0, locals := 0 } : Room).cells ({ frames := 0, cells := 0, slots := 0, locals := 0 } : Room).slots) (T1.setTop (mkF m 4 #[.val (.ref (A 0)), .val (.int u.toInt32), .val (.int x1), .val (.int f.toInt32), .val (.int t.toInt32), .unset, .unset, .unset] [(.int (o_N d).toInt32)]))
  refine own_ldcI X2 (v := (4194304 : Int32)) d10_4 rfl (hw _ (List.mem_of_getElem? (i := 80) rfl)) ?_
  refine own_icmp_ne X2 d10_6 (by decide) (pcT := 26) (by decide) rfl (fun hc => ?_) (fun hc => absurd (congrArg Int32.toInt hc) (by rw [own_i32 (by omega)]; show ¬ ((o_N d : Nat) : Int) = 4194304; omega))
  refine own_aloadN X2 d10_26 rfl rfl rfl ?_
  refine own_getf X2 (hw _ (List.mem_of_getElem? (i := 24) rfl)) (own_LS_f_nodes F) d10_27 rfl (fun T3 X4 => ?_)
  show own_Fin p e below (own_End s n0 (own_qadd A u x1 f t d Z n0 h0) ({ frames := 0, cells := 0, slots := 0, locals := 0 } : Room).cells ({ frames := 0, cells := 0, slots := 0, locals := 0 } : Room).slots) (T3.setTop (mkF m 30 #[.val (.ref (A 0)), .val (.int u.toInt32), .val (.int x1), .val (.int f.toInt32), .val (.int t.toInt32), .unset, .unset, .unset] [(.int (o_N d).toInt32)]))
  refine own_aloadN X4 d10_30 rfl rfl rfl ?_
  refine own_getf X4 (hw _ (List.mem_of_getElem? (i := 18) rfl)) (own_LS_f_tested F) d10_31 rfl (fun T5 X6 => ?_)
  refine own_alenI X6 (own_LS_a1 F) (z := (64 : Int32)) (by decide) d10_34 rfl ?_
  refine own_icmp_ne X6 d10_35 (by decide) (pcT := 146) (by decide) rfl (fun hc => ?_) (fun hc => absurd (congrArg Int32.toInt hc) (by rw [own_i32 (by omega)]; show ¬ ((o_N d : Nat) : Int) = 64; omega))
  refine own_aloadN X6 d10_146 rfl rfl rfl ?_
  refine own_getf X6 (hw _ (List.mem_of_getElem? (i := 24) rfl)) (own_LS_f_nodes F) d10_147 rfl (fun T7 X8 => ?_)
  show own_Fin p e below (own_End s n0 (own_qadd A u x1 f t d Z n0 h0) ({ frames := 0, cells := 0, slots := 0, locals := 0 } : Room).cells ({ frames := 0, cells := 0, slots := 0, locals := 0 } : Room).slots) (T7.setTop (mkF m 150 #[.val (.ref (A 0)), .val (.int u.toInt32), .val (.int x1), .val (.int f.toInt32), .val (.int t.toInt32), .unset, .unset, .unset] [(.int (o_N d).toInt32)]))
  refine own_istore X8 (L' := #[.val (.ref (A 0)), .val (.int u.toInt32), .val (.int x1), .val (.int f.toInt32), .val (.int t.toInt32), .val (.int (o_N d).toInt32), .unset, .unset]) d10_150 rfl rfl ?_
  refine own_lconst X8 (1 : Int64) d10_152 rfl (by decide) ?_
  refine own_iloadN X8 d10_153 rfl rfl ?_
  refine own_lshl X8 d10_154 rfl ?_
  refine own_lstore X8 (L' := #[.val (.ref (A 0)), .val (.int u.toInt32), .val (.int x1), .val (.int f.toInt32), .val (.int t.toInt32), .val (.int (o_N d).toInt32), .val (.long ((1 : Int64) <<< (x1.toInt64 &&& 63))), .second]) d10_155 rfl rfl ?_
  refine own_aloadN X8 d10_157 rfl rfl rfl ?_
  refine own_getf X8 (hw _ (List.mem_of_getElem? (i := 18) rfl)) (own_LS_f_tested F) d10_158 rfl (fun T9 X10 => ?_)
  refine own_iload X10 d10_161 rfl rfl ?_
  refine own_iloadN X10 d10_163 rfl rfl ?_
  refine own_iastoreF X10 (j := (o_N d)) (own_LS_a1 F) (by decide) (by omega) (own_ge F (by decide)) d10_164 rfl (fun T11 h13 X12 W14 => ?_)
  have P15 : own_LS Z h13 A n0 (own_up (o_te d) (o_N d) x1, o_lo d, o_hi d, o_tab d, o_key d, o_res d, o_N d, o_S d, o_D d) := own_LS_w1 F W14
  refine own_aloadN X12 d10_165 rfl rfl rfl ?_
  refine own_getf X12 (hw _ (List.mem_of_getElem? (i := 20) rfl)) (own_LS_f_low P15) d10_166 rfl (fun T16 X17 => ?_)
  refine own_iload X17 d10_169 rfl rfl ?_
  refine own_iloadN X17 d10_171 rfl rfl ?_
  refine own_iastoreF X17 (j := (o_N d)) (own_LS_a2 P15) (by decide) (by omega) (own_ge P15 (by decide)) d10_172 rfl (fun T18 h20 X19 W21 => ?_)
  have P22 : own_LS Z h20 A n0 (own_up (o_te d) (o_N d) x1, own_up (o_lo d) (o_N d) f, o_hi d, o_tab d, o_key d, o_res d, o_N d, o_S d, o_D d) := own_LS_w2 P15 W21
  refine own_aloadN X19 d10_173 rfl rfl rfl ?_
  refine own_getf X19 (hw _ (List.mem_of_getElem? (i := 22) rfl)) (own_LS_f_high P22) d10_174 rfl (fun T23 X24 => ?_)
  refine own_iload X24 d10_177 rfl rfl ?_
  refine own_iload X24 d10_179 rfl rfl ?_
  refine own_iastoreF X24 (j := (o_N d)) (own_LS_a3 P22) (by decide) (by omega) (own_ge P22 (by decide)) d10_181 rfl (fun T25 h27 X26 W28 => ?_)
  have P29 : own_LS Z h27 A n0 (own_up (o_te d) (o_N d) x1, own_up (o_lo d) (o_N d) f, own_up (o_hi d) (o_N d) t, o_tab d, o_key d, o_res d, o_N d, o_S d, o_D d) := own_LS_w3 P22 W28
  refine own_aloadN X26 d10_182 rfl rfl rfl ?_
  refine own_getf X26 (hw _ (List.mem_of_getElem? (i := 27) rfl)) (own_LS_f_support P29) d10_183 rfl (fun T30 X31 => ?_)
  refine own_iload X31 d10_186 rfl rfl ?_
  refine own_lload X31 d10_188 rfl rfl ?_
  refine own_aloadN X31 d10_190 rfl rfl rfl ?_
  refine own_getf X31 (hw _ (List.mem_of_getElem? (i := 27) rfl)) (own_LS_f_support P29) d10_191 rfl (fun T32 X33 => ?_)
  refine own_iloadN X33 d10_194 rfl rfl ?_
  obtain ⟨f34, F35⟩ := own_LS_a4 P29
  refine own_laloadF X33 (j := f) F35 (by decide) hf d10_195 rfl ?_
  show own_Fin p e below (own_End s n0 (own_qadd A u x1 f t d Z n0 h0) ({ frames := 0, cells := 0, slots := 0, locals := 0 } : Room).cells ({ frames := 0, cells := 0, slots := 0, locals := 0 } : Room).slots) (T32.setTop (mkF m 196 #[.val (.ref (A 0)), .val (.int u.toInt32), .val (.int x1), .val (.int f.toInt32), .val (.int t.toInt32), .val (.int (o_N d).toInt32), .val (.long ((1 : Int64) <<< (x1.toInt64 &&& 63))), .second] [(.long (f34 f)), (.long ((1 : Int64) <<< (x1.toInt64 &&& 63))), (.int (o_N d).toInt32), (.ref (A 4))]))
  refine own_lor X33 d10_196 rfl ?_
  refine own_aloadN X33 d10_197 rfl rfl rfl ?_
  refine own_getf X33 (hw _ (List.mem_of_getElem? (i := 27) rfl)) (own_LS_f_support P29) d10_198 rfl (fun T36 X37 => ?_)
  refine own_iload X37 d10_201 rfl rfl ?_
  obtain ⟨f38, F39⟩ := own_LS_a4 P29
  refine own_laloadF X37 (j := t) F39 (by decide) ht d10_203 rfl ?_
  show own_Fin p e below (own_End s n0 (own_qadd A u x1 f t d Z n0 h0) ({ frames := 0, cells := 0, slots := 0, locals := 0 } : Room).cells ({ frames := 0, cells := 0, slots := 0, locals := 0 } : Room).slots) (T36.setTop (mkF m 204 #[.val (.ref (A 0)), .val (.int u.toInt32), .val (.int x1), .val (.int f.toInt32), .val (.int t.toInt32), .val (.int (o_N d).toInt32), .val (.long ((1 : Int64) <<< (x1.toInt64 &&& 63))), .second] [(.long (f38 t)), (.long (((1 : Int64) <<< (x1.toInt64 &&& 63)) ||| (f34 f))), (.int (o_N d).toInt32), (.ref (A 4))]))
  refine own_lor X37 d10_204 rfl ?_
  obtain ⟨f45, F46⟩ := own_LS_a4 P29
  refine own_lastoreF X37 (j := (o_N d)) F46 (by decide) (by omega) (own_ge P29 (by decide)) d10_205 rfl (fun T40 h42 X41 W43 => ?_)
  have P44 : own_LS Z h42 A n0 (own_up (o_te d) (o_N d) x1, own_up (o_lo d) (o_N d) f, own_up (o_hi d) (o_N d) t, o_tab d, o_key d, o_res d, o_N d, o_S d, o_D d) := own_LS_w4 P29 W43
  refine own_aloadN X41 d10_206 rfl rfl rfl ?_
  refine own_getf X41 (hw _ (List.mem_of_getElem? (i := 29) rfl)) (own_LS_f_allTrue P44) d10_207 rfl (fun T47 X48 => ?_)
  refine own_iload X48 d10_210 rfl rfl ?_
  refine own_aloadN X48 d10_212 rfl rfl rfl ?_
  refine own_getf X48 (hw _ (List.mem_of_getElem? (i := 29) rfl)) (own_LS_f_allTrue P44) d10_213 rfl (fun T49 X50 => ?_)
  refine own_iloadN X50 d10_216 rfl rfl ?_
  obtain ⟨f51, F52⟩ := own_LS_a5 P44
  refine own_laloadF X50 (j := f) F52 (by decide) hf d10_217 rfl ?_
  show own_Fin p e below (own_End s n0 (own_qadd A u x1 f t d Z n0 h0) ({ frames := 0, cells := 0, slots := 0, locals := 0 } : Room).cells ({ frames := 0, cells := 0, slots := 0, locals := 0 } : Room).slots) (T49.setTop (mkF m 218 #[.val (.ref (A 0)), .val (.int u.toInt32), .val (.int x1), .val (.int f.toInt32), .val (.int t.toInt32), .val (.int (o_N d).toInt32), .val (.long ((1 : Int64) <<< (x1.toInt64 &&& 63))), .second] [(.long (f51 f)), (.int (o_N d).toInt32), (.ref (A 5))]))
  refine own_aloadN X50 d10_218 rfl rfl rfl ?_
  refine own_getf X50 (hw _ (List.mem_of_getElem? (i := 29) rfl)) (own_LS_f_allTrue P44) d10_219 rfl (fun T53 X54 => ?_)
  refine own_iload X54 d10_222 rfl rfl ?_
  obtain ⟨f55, F56⟩ := own_LS_a5 P44
  refine own_laloadF X54 (j := t) F56 (by decide) ht d10_224 rfl ?_
  show own_Fin p e below (own_End s n0 (own_qadd A u x1 f t d Z n0 h0) ({ frames := 0, cells := 0, slots := 0, locals := 0 } : Room).cells ({ frames := 0, cells := 0, slots := 0, locals := 0 } : Room).slots) (T53.setTop (mkF m 225 #[.val (.ref (A 0)), .val (.int u.toInt32), .val (.int x1), .val (.int f.toInt32), .val (.int t.toInt32), .val (.int (o_N d).toInt32), .val (.long ((1 : Int64) <<< (x1.toInt64 &&& 63))), .second] [(.long (f55 t)), (.long (f51 f)), (.int (o_N d).toInt32), (.ref (A 5))]))
  refine own_land X54 d10_225 rfl ?_
  refine own_iloadN X54 d10_226 rfl rfl ?_
  suffices J236_58 : ∀ (z57 : Int64), z57 = (if f.toInt32 = (0 : Int32) then ((1 : Int64) <<< (x1.toInt64 &&& 63)) else (0 : Int64)) → own_Fin p e below (own_End s n0 (own_qadd A u x1 f t d Z n0 h0) ({ frames := 0, cells := 0, slots := 0, locals := 0 } : Room).cells ({ frames := 0, cells := 0, slots := 0, locals := 0 } : Room).slots) (T53.setTop (mkF m 236 #[.val (.ref (A 0)), .val (.int u.toInt32), .val (.int x1), .val (.int f.toInt32), .val (.int t.toInt32), .val (.int (o_N d).toInt32), .val (.long ((1 : Int64) <<< (x1.toInt64 &&& 63))), .second] [(.long z57), (.long ((f51 f) &&& (f55 t))), (.int (o_N d).toInt32), (.ref (A 5))])) by
    refine own_if_ne X54 d10_227 (by decide) (pcT := 235) (by decide) rfl (fun hc59 => ?_) (fun hc59 => ?_)
    · skip
      refine own_lconst X54 (0 : Int64) d10_235 rfl (by decide) ?_
      exact J236_58 _ (by rw [if_neg hc59])
    · skip
      refine own_lload X54 d10_230 rfl rfl ?_
      refine own_goto X54 d10_232 (by decide) (pc' := 236) (by decide) ?_
      exact J236_58 _ (by rw [if_pos hc59])
  intro z57 hz57
  refine own_lor X54 d10_236 rfl ?_
  obtain ⟨f65, F66⟩ := own_LS_a5 P44
  refine own_lastoreF X54 (j := (o_N d)) F66 (by decide) (by omega) (own_ge P44 (by decide)) d10_237 rfl (fun T60 h62 X61 W63 => ?_)
  have P64 : own_LS Z h62 A n0 (own_up (o_te d) (o_N d) x1, own_up (o_lo d) (o_N d) f, own_up (o_hi d) (o_N d) t, o_tab d, o_key d, o_res d, o_N d, o_S d, o_D d) := own_LS_w5 P44 W63
  refine own_aloadN X61 d10_238 rfl rfl rfl ?_
  refine own_getf X61 (hw _ (List.mem_of_getElem? (i := 31) rfl)) (own_LS_f_allFalse P64) d10_239 rfl (fun T67 X68 => ?_)
  refine own_iload X68 d10_242 rfl rfl ?_
  refine own_aloadN X68 d10_244 rfl rfl rfl ?_
  refine own_getf X68 (hw _ (List.mem_of_getElem? (i := 31) rfl)) (own_LS_f_allFalse P64) d10_245 rfl (fun T69 X70 => ?_)
  refine own_iloadN X70 d10_248 rfl rfl ?_
  obtain ⟨f71, F72⟩ := own_LS_a6 P64
  refine own_laloadF X70 (j := f) F72 (by decide) hf d10_249 rfl ?_
  show own_Fin p e below (own_End s n0 (own_qadd A u x1 f t d Z n0 h0) ({ frames := 0, cells := 0, slots := 0, locals := 0 } : Room).cells ({ frames := 0, cells := 0, slots := 0, locals := 0 } : Room).slots) (T69.setTop (mkF m 250 #[.val (.ref (A 0)), .val (.int u.toInt32), .val (.int x1), .val (.int f.toInt32), .val (.int t.toInt32), .val (.int (o_N d).toInt32), .val (.long ((1 : Int64) <<< (x1.toInt64 &&& 63))), .second] [(.long (f71 f)), (.int (o_N d).toInt32), (.ref (A 6))]))
  refine own_aloadN X70 d10_250 rfl rfl rfl ?_
  refine own_getf X70 (hw _ (List.mem_of_getElem? (i := 31) rfl)) (own_LS_f_allFalse P64) d10_251 rfl (fun T73 X74 => ?_)
  refine own_iload X74 d10_254 rfl rfl ?_
  obtain ⟨f75, F76⟩ := own_LS_a6 P64
  refine own_laloadF X74 (j := t) F76 (by decide) ht d10_256 rfl ?_
  show own_Fin p e below (own_End s n0 (own_qadd A u x1 f t d Z n0 h0) ({ frames := 0, cells := 0, slots := 0, locals := 0 } : Room).cells ({ frames := 0, cells := 0, slots := 0, locals := 0 } : Room).slots) (T73.setTop (mkF m 257 #[.val (.ref (A 0)), .val (.int u.toInt32), .val (.int x1), .val (.int f.toInt32), .val (.int t.toInt32), .val (.int (o_N d).toInt32), .val (.long ((1 : Int64) <<< (x1.toInt64 &&& 63))), .second] [(.long (f75 t)), (.long (f71 f)), (.int (o_N d).toInt32), (.ref (A 6))]))
  refine own_land X74 d10_257 rfl ?_
  refine own_iload X74 d10_258 rfl rfl ?_
  suffices J269_78 : ∀ (z77 : Int64), z77 = (if t.toInt32 = (0 : Int32) then ((1 : Int64) <<< (x1.toInt64 &&& 63)) else (0 : Int64)) → own_Fin p e below (own_End s n0 (own_qadd A u x1 f t d Z n0 h0) ({ frames := 0, cells := 0, slots := 0, locals := 0 } : Room).cells ({ frames := 0, cells := 0, slots := 0, locals := 0 } : Room).slots) (T73.setTop (mkF m 269 #[.val (.ref (A 0)), .val (.int u.toInt32), .val (.int x1), .val (.int f.toInt32), .val (.int t.toInt32), .val (.int (o_N d).toInt32), .val (.long ((1 : Int64) <<< (x1.toInt64 &&& 63))), .second] [(.long z77), (.long ((f71 f) &&& (f75 t))), (.int (o_N d).toInt32), (.ref (A 6))])) by
    refine own_if_ne X74 d10_260 (by decide) (pcT := 268) (by decide) rfl (fun hc79 => ?_) (fun hc79 => ?_)
    · skip
      refine own_lconst X74 (0 : Int64) d10_268 rfl (by decide) ?_
      exact J269_78 _ (by rw [if_neg hc79])
    · skip
      refine own_lload X74 d10_263 rfl rfl ?_
      refine own_goto X74 d10_265 (by decide) (pc' := 269) (by decide) ?_
      exact J269_78 _ (by rw [if_pos hc79])
  intro z77 hz77
  refine own_lor X74 d10_269 rfl ?_
  obtain ⟨f85, F86⟩ := own_LS_a6 P64
  refine own_lastoreF X74 (j := (o_N d)) F86 (by decide) (by omega) (own_ge P64 (by decide)) d10_270 rfl (fun T80 h82 X81 W83 => ?_)
  have P84 : own_LS Z h82 A n0 (own_up (o_te d) (o_N d) x1, own_up (o_lo d) (o_N d) f, own_up (o_hi d) (o_N d) t, o_tab d, o_key d, o_res d, o_N d, o_S d, o_D d) := own_LS_w6 P64 W83
  refine own_aloadN X81 d10_271 rfl rfl rfl ?_
  refine own_getf X81 (hw _ (List.mem_of_getElem? (i := 33) rfl)) (own_LS_f_table P84) d10_272 rfl (fun T87 X88 => ?_)
  refine own_iloadN X88 d10_275 rfl rfl ?_
  refine own_iload X88 d10_276 rfl rfl ?_
  refine own_iastoreF X88 (j := u) (own_LS_a7 P84) (by decide) hu (own_ge P84 (by decide)) d10_278 rfl (fun T89 h91 X90 W92 => ?_)
  have P93 : own_LS Z h91 A n0 (own_up (o_te d) (o_N d) x1, own_up (o_lo d) (o_N d) f, own_up (o_hi d) (o_N d) t, own_up (o_tab d) u (o_N d), o_key d, o_res d, o_N d, o_S d, o_D d) := own_LS_w7 P84 W92
  refine own_aloadN X90 d10_279 rfl rfl rfl ?_
  refine own_dup X90 d10_280 rfl rfl ?_
  refine own_getf X90 (hw _ (List.mem_of_getElem? (i := 24) rfl)) (own_LS_f_nodes P93) d10_281 rfl (fun T94 X95 => ?_)
  show own_Fin p e below (own_End s n0 (own_qadd A u x1 f t d Z n0 h0) ({ frames := 0, cells := 0, slots := 0, locals := 0 } : Room).cells ({ frames := 0, cells := 0, slots := 0, locals := 0 } : Room).slots) (T94.setTop (mkF m 284 #[.val (.ref (A 0)), .val (.int u.toInt32), .val (.int x1), .val (.int f.toInt32), .val (.int t.toInt32), .val (.int (o_N d).toInt32), .val (.long ((1 : Int64) <<< (x1.toInt64 &&& 63))), .second] [(.int (o_N d).toInt32), (.ref (A 0))]))
  refine own_iconst X95 (1 : Int32) d10_284 rfl (by decide) ?_
  refine own_iadd X95 d10_285 rfl ?_
  rw [own_succ32 (by omega)]
  show own_Fin p e below (own_End s n0 (own_qadd A u x1 f t d Z n0 h0) ({ frames := 0, cells := 0, slots := 0, locals := 0 } : Room).cells ({ frames := 0, cells := 0, slots := 0, locals := 0 } : Room).slots) (T94.setTop (mkF m 286 #[.val (.ref (A 0)), .val (.int u.toInt32), .val (.int x1), .val (.int f.toInt32), .val (.int t.toInt32), .val (.int (o_N d).toInt32), .val (.long ((1 : Int64) <<< (x1.toInt64 &&& 63))), .second] [(.int (o_N d + 1).toInt32), (.ref (A 0))]))
  refine own_putf X95 (hw _ (List.mem_of_getElem? (i := 24) rfl)) (own_LS_f_nodes P93) (own_LS_exa P93) (Or.inl (hw _ (List.mem_of_getElem? (i := 25) rfl))) (hw _ (List.mem_of_getElem? (i := 1) rfl)) (ty := .int) (by decide) rfl rfl (own_ge P93 (by decide)) d10_286 rfl (fun T96 h98 X97 W99 => ?_)
  have P100 : own_LS Z h98 A n0 (own_up (o_te d) (o_N d) x1, own_up (o_lo d) (o_N d) f, own_up (o_hi d) (o_N d) t, own_up (o_tab d) u (o_N d), o_key d, o_res d, o_N d + 1, o_S d, o_D d) := own_LS_wN hw P93 W99
  refine own_iconst X97 (2 : Int32) d10_289 rfl (by decide) ?_
  refine own_aloadN X97 d10_290 rfl rfl rfl ?_
  refine own_getf X97 (hw _ (List.mem_of_getElem? (i := 24) rfl)) (own_LS_f_nodes P100) d10_291 rfl (fun T101 X102 => ?_)
  show own_Fin p e below (own_End s n0 (own_qadd A u x1 f t d Z n0 h0) ({ frames := 0, cells := 0, slots := 0, locals := 0 } : Room).cells ({ frames := 0, cells := 0, slots := 0, locals := 0 } : Room).slots) (T101.setTop (mkF m 294 #[.val (.ref (A 0)), .val (.int u.toInt32), .val (.int x1), .val (.int f.toInt32), .val (.int t.toInt32), .val (.int (o_N d).toInt32), .val (.long ((1 : Int64) <<< (x1.toInt64 &&& 63))), .second] [(.int (o_N d + 1).toInt32), (.int (2 : Int32))]))
  refine own_imul X102 d10_294 rfl ?_
  refine own_aloadN X102 d10_295 rfl rfl rfl ?_
  refine own_getf X102 (hw _ (List.mem_of_getElem? (i := 33) rfl)) (own_LS_f_table P100) d10_296 rfl (fun T103 X104 => ?_)
  refine own_alenI X104 (own_LS_a7 P100) (z := (64 : Int32)) (by decide) d10_299 rfl ?_
  refine own_icmp_le X104 d10_300 (by decide) (pcT := 307) (by decide) rfl (fun hc => ?_) (fun hc => absurd hc (own_n64 (by omega)))
  refine own_iload X104 d10_307 rfl rfl ?_
  exact own_retI X104 rfl d10_309 ⟨rfl, own_LS_gh P100⟩ (by decide) (by decide)

theorem own_irr (a : Int32) : ¬ a < a := fun h => Int32.lt_irrefl h
theorem own_z {i : Nat} (h : i < 64) (j : Nat) (hj : j < 64) : i.toInt32 = j.toInt32 ↔ i = j := own_inj (by omega) (by omega)
theorem own_node_hit {d : own_T} (I : own_Inv d) {k : Nat} {x1 : Int32} {f t : Nat} (hk : k < o_N d) (hN : o_N d < 32) (hx : ¬ x1 < 0) (hf : f < o_N d) (ht : t < o_N d) (h : ¬ own_h4 d k x1 f t = 0) : (∀ x, o_S d k x = if own_b x x1 = true then o_S d t x else o_S d f x) ∧ ¬ x1 < o_te d k ∧ o_D d k ≤ 1 + max (o_D d f) (o_D d t) := by
  unfold own_h4 at h
  by_cases q1 : o_te d k = x1
  · rw [if_pos q1] at h
    by_cases q2 : (o_lo d k).toInt32 = f.toInt32
    · rw [if_pos q2] at h
      by_cases q3 : (o_hi d k).toInt32 = t.toInt32
      · have k2 : 2 ≤ k := by
          refine Classical.byContradiction fun q => hx ?_
          rw [← q1]
          exact (own_leaf I hk).mpr (by omega)
        obtain ⟨-, -, n3, n4, -, -, -, n8, n9⟩ := I.2.2.2.2.1 k k2 hk
        have e2 : o_lo d k = f := (own_z (by omega) f (by omega)).mp q2
        have e3 : o_hi d k = t := (own_z (by omega) t (by omega)).mp q3
        rw [q1, e2, e3] at n8
        rw [e2, e3] at n9
        refine ⟨n8, fun z => ?_, by omega⟩
        rw [q1] at z
        exact absurd z (own_irr _)
      · rw [if_neg q3] at h; exact absurd rfl h
    · rw [if_neg q2] at h; exact absurd rfl h
  · rw [if_neg q1] at h; exact absurd rfl h
theorem own_slotN {u : Nat} (hu : u < 64) : ((u.toInt32 + (1 : Int32)) &&& ((64 : Int32) - (1 : Int32))) = ((u + 1) % 64).toInt32 := own_slot64 ⟨u, hu⟩
theorem d6_0 : decode prog_13_method_14_code 0 = .ok (.iload_n 2, 1) := by decide +kernel
theorem d6_1 : decode prog_13_method_14_code 1 = .ok (.iload_n 3, 1) := by decide +kernel
theorem d6_2 : decode prog_13_method_14_code 2 = .ok (.if_icmp .ne 9, 3) := by decide +kernel
theorem d6_5 : decode prog_13_method_14_code 5 = .ok (.iload_n 2, 1) := by decide +kernel
theorem d6_6 : decode prog_13_method_14_code 6 = .ok (.istore 4, 2) := by decide +kernel
theorem d6_8 : decode prog_13_method_14_code 8 = .ok (.goto 87, 3) := by decide +kernel
theorem d6_11 : decode prog_13_method_14_code 11 = .ok (.aload_n 0, 1) := by decide +kernel
theorem d6_12 : decode prog_13_method_14_code 12 = .ok (.iload_n 1, 1) := by decide +kernel
theorem d6_13 : decode prog_13_method_14_code 13 = .ok (.iload_n 2, 1) := by decide +kernel
theorem d6_14 : decode prog_13_method_14_code 14 = .ok (.iload_n 3, 1) := by decide +kernel
theorem d6_15 : decode prog_13_method_14_code 15 = .ok (.invokevirtual 161, 3) := by decide +kernel
theorem d6_18 : decode prog_13_method_14_code 18 = .ok (.istore 5, 2) := by decide +kernel
theorem d6_20 : decode prog_13_method_14_code 20 = .ok (.aload_n 0, 1) := by decide +kernel
theorem d6_21 : decode prog_13_method_14_code 21 = .ok (.getfield 33, 3) := by decide +kernel
theorem d6_24 : decode prog_13_method_14_code 24 = .ok (.iload 5, 2) := by decide +kernel
theorem d6_26 : decode prog_13_method_14_code 26 = .ok (.iaload, 1) := by decide +kernel
theorem d6_27 : decode prog_13_method_14_code 27 = .ok (.ifCond .eq 37, 3) := by decide +kernel
theorem d6_30 : decode prog_13_method_14_code 30 = .ok (.aload_n 0, 1) := by decide +kernel
theorem d6_31 : decode prog_13_method_14_code 31 = .ok (.aload_n 0, 1) := by decide +kernel
theorem d6_32 : decode prog_13_method_14_code 32 = .ok (.getfield 33, 3) := by decide +kernel
theorem d6_35 : decode prog_13_method_14_code 35 = .ok (.iload 5, 2) := by decide +kernel
theorem d6_37 : decode prog_13_method_14_code 37 = .ok (.iaload, 1) := by decide +kernel
theorem d6_38 : decode prog_13_method_14_code 38 = .ok (.iload_n 1, 1) := by decide +kernel
theorem d6_39 : decode prog_13_method_14_code 39 = .ok (.iload_n 2, 1) := by decide +kernel
theorem d6_40 : decode prog_13_method_14_code 40 = .ok (.iload_n 3, 1) := by decide +kernel
theorem d6_41 : decode prog_13_method_14_code 41 = .ok (.invokevirtual 164, 3) := by decide +kernel
theorem d6_44 : decode prog_13_method_14_code 44 = .ok (.ifCond .ne 20, 3) := by decide +kernel
theorem d6_47 : decode prog_13_method_14_code 47 = .ok (.iload 5, 2) := by decide +kernel
theorem d6_49 : decode prog_13_method_14_code 49 = .ok (.iconst 1, 1) := by decide +kernel
theorem d6_50 : decode prog_13_method_14_code 50 = .ok (.iadd, 1) := by decide +kernel
theorem d6_51 : decode prog_13_method_14_code 51 = .ok (.aload_n 0, 1) := by decide +kernel
theorem d6_52 : decode prog_13_method_14_code 52 = .ok (.getfield 33, 3) := by decide +kernel
theorem d6_55 : decode prog_13_method_14_code 55 = .ok (.arraylength, 1) := by decide +kernel
theorem d6_56 : decode prog_13_method_14_code 56 = .ok (.iconst 1, 1) := by decide +kernel
theorem d6_57 : decode prog_13_method_14_code 57 = .ok (.isub, 1) := by decide +kernel
theorem d6_58 : decode prog_13_method_14_code 58 = .ok (.iand, 1) := by decide +kernel
theorem d6_59 : decode prog_13_method_14_code 59 = .ok (.istore 5, 2) := by decide +kernel
theorem d6_61 : decode prog_13_method_14_code 61 = .ok (.goto (-41), 3) := by decide +kernel
theorem d6_64 : decode prog_13_method_14_code 64 = .ok (.aload_n 0, 1) := by decide +kernel
theorem d6_65 : decode prog_13_method_14_code 65 = .ok (.getfield 33, 3) := by decide +kernel
theorem d6_68 : decode prog_13_method_14_code 68 = .ok (.iload 5, 2) := by decide +kernel
theorem d6_70 : decode prog_13_method_14_code 70 = .ok (.iaload, 1) := by decide +kernel
theorem d6_71 : decode prog_13_method_14_code 71 = .ok (.ifCond .eq 13, 3) := by decide +kernel
theorem d6_74 : decode prog_13_method_14_code 74 = .ok (.aload_n 0, 1) := by decide +kernel
theorem d6_75 : decode prog_13_method_14_code 75 = .ok (.getfield 33, 3) := by decide +kernel
theorem d6_78 : decode prog_13_method_14_code 78 = .ok (.iload 5, 2) := by decide +kernel
theorem d6_80 : decode prog_13_method_14_code 80 = .ok (.iaload, 1) := by decide +kernel
theorem d6_81 : decode prog_13_method_14_code 81 = .ok (.goto 12, 3) := by decide +kernel
theorem d6_84 : decode prog_13_method_14_code 84 = .ok (.aload_n 0, 1) := by decide +kernel
theorem d6_85 : decode prog_13_method_14_code 85 = .ok (.iload 5, 2) := by decide +kernel
theorem d6_87 : decode prog_13_method_14_code 87 = .ok (.iload_n 1, 1) := by decide +kernel
theorem d6_88 : decode prog_13_method_14_code 88 = .ok (.iload_n 2, 1) := by decide +kernel
theorem d6_89 : decode prog_13_method_14_code 89 = .ok (.iload_n 3, 1) := by decide +kernel
theorem d6_90 : decode prog_13_method_14_code 90 = .ok (.invokevirtual 168, 3) := by decide +kernel
theorem d6_93 : decode prog_13_method_14_code 93 = .ok (.istore 4, 2) := by decide +kernel
theorem d6_95 : decode prog_13_method_14_code 95 = .ok (.iload 4, 2) := by decide +kernel
theorem d6_97 : decode prog_13_method_14_code 97 = .ok (.ireturn, 1) := by decide +kernel
theorem own_pnnd : plainFor (⟨"com/example/libgfg/libgfg/automaton/LetterSets", "node", "(III)I"⟩ : MethodName) = true := by first | exact plainFor_of_name (by first | (simp [plainName, overriddenIn, x]; done) | decide +kernel) | decide +kernel
theorem own_efnd (A : Nat → Addr) (x1 : Int32) (f t : Nat) (m : MethodId) : entryFrame m #[(.ref (A 0)), (.int x1), (.int f.toInt32), (.int t.toInt32)] 6 = mkF m 0 #[.val (.ref (A 0)), .val (.int x1), .val (.int f.toInt32), .val (.int t.toInt32), .unset, .unset] [] := by first | (simp [entryFrame, mkF, argsToLocals, Value.category]; done) | rfl
def own_qnd (A : Nat → Addr) (x1 : Int32) (f t : Nat) (d : own_T) (Z : State) (n0 : Nat) (h0 : Heap) (v : Option Value) (h : Heap) : Prop := ∃ (e : own_T) (r : Nat), v = some (.int r.toInt32) ∧ own_LS Z h A n0 e ∧ own_Inv e ∧ own_Le d e ∧ o_N e ≤ o_N d + 1 ∧ r < o_N e ∧ (∀ x, o_S e r x = if own_b x x1 = true then o_S d t x else o_S d f x) ∧ ¬ x1 < o_te e r ∧ o_D e r ≤ 1 + max (o_D d f) (o_D d t)
set_option maxRecDepth 65536 in
set_option maxHeartbeats 40000000 in
theorem own_mnd (l : Launch) (Z : State) (a0 : Array Value) (hw : ∀ d ∈ tables_1, d.before a0 Z = true) (A : Nat → Addr) (n0 : Nat) (x1 : Int32) (f t : Nat) (d : own_T) (h0 : Heap) (F : own_LS Z h0 A n0 d) (I : own_Inv d) (hf : f < o_N d) (ht : t < o_N d) (hx : ¬ x1 < 0) (hx64 : x1 < 64) (qf : o_te d f < x1) (qt : o_te d t < x1) (hN : o_N d < 32) :
    own_Met l Z (⟨"com/example/libgfg/libgfg/automaton/LetterSets", "node", "(III)I"⟩ : MethodName) prog_13_method_14_code 6 (some .int) [] ({ frames := 2, cells := 0, slots := 0, locals := 30 } : Room) #[(.ref (A 0)), (.int x1), (.int f.toInt32), (.int t.toInt32)] h0 n0 (own_qnd A x1 f t d Z n0 h0) := by
  refine own_enter (own := "com/example/libgfg/libgfg/automaton/LetterSets") (nm := "node") rfl rfl own_pnnd (own_efnd A x1 f t) ?_
  intro p e s m below meth c T0 X0
  refine own_iloadN X0 d6_0 rfl rfl ?_
  refine own_iloadN X0 d6_1 rfl rfl ?_
  refine own_icmp_ne X0 d6_2 (by decide) (pcT := 11) (by decide) rfl (fun hc1 => ?_) (fun hc1 => ?_)
  · skip
    refine own_aloadN X0 d6_11 rfl rfl rfl ?_
    refine own_iloadN X0 d6_12 rfl rfl ?_
    refine own_iloadN X0 d6_13 rfl rfl ?_
    refine own_iloadN X0 d6_14 rfl rfl ?_
    refine own_callP X0 (hw _ (List.mem_of_getElem? (i := 64) rfl)) (hw _ (List.mem_of_getElem? (i := 65) rfl)) (hw _ (List.mem_of_getElem? (i := 66) rfl)) (hw _ (List.mem_of_getElem? (i := 2) rfl)) (hw _ (List.mem_of_getElem? (i := 67) rfl)) (hw _ (List.mem_of_getElem? (i := 58) rfl)) (hw _ (List.mem_of_getElem? (i := 57) rfl)) rfl (by decide) (argsL := [(.int x1), (.int f.toInt32), (.int t.toInt32)]) (rest := []) (own_mtsl l Z a0 hw A n0 x1 f t d _ F) (own_LS_exa F) (pd_7) rfl d6_15 rfl rfl rfl (W := 0) rfl (by first | decide | (dsimp only; omega) | omega) (by first | decide | (dsimp only; omega) | omega) (cells' := 0) (slots' := 0) rfl rfl (by first | decide | (dsimp only; omega) | omega) (by first | decide | (dsimp only; omega) | omega) (fun v T2 h4 X3 q5 => ?_)
    obtain ⟨u0, rfl, rfl, hu0⟩ := q5
    show own_Fin p e below (own_End s n0 (own_qnd A x1 f t d Z n0 h0) ({ frames := 2, cells := 0, slots := 0, locals := 30 } : Room).cells ({ frames := 2, cells := 0, slots := 0, locals := 30 } : Room).slots) (T2.setTop (mkF m 18 #[.val (.ref (A 0)), .val (.int x1), .val (.int f.toInt32), .val (.int t.toInt32), .unset, .unset] [(.int u0.toInt32)]))
    refine own_istore X3 (L' := #[.val (.ref (A 0)), .val (.int x1), .val (.int f.toInt32), .val (.int t.toInt32), .unset, .val (.int u0.toInt32)]) d6_18 rfl rfl ?_
    have hft : f ≠ t := fun z => hc1 (by rw [z])
    have loop : ∀ (k u : Nat) (T9 : State), u < 64 → o_tab d ((u + k) % 64) = 0 → own_Cx Z p l e ({ frames := 2, cells := 0, slots := 0, locals := 30 } : Room) s m #[(.ref (A 0)), (.int x1), (.int f.toInt32), (.int t.toInt32)] below meth c n0 "com/example/libgfg/libgfg/automaton/LetterSets" prog_13_method_14_code 6 "node" (some .int) T9 h0 0 0 → own_Fin p e below (own_End s n0 (own_qnd A x1 f t d Z n0 h0) ({ frames := 2, cells := 0, slots := 0, locals := 30 } : Room).cells ({ frames := 2, cells := 0, slots := 0, locals := 30 } : Room).slots) (T9.setTop (mkF m 20 #[.val (.ref (A 0)), .val (.int x1), .val (.int f.toInt32), .val (.int t.toInt32), .unset, .val (.int u.toInt32)] [])) := by
      intro k
      induction k with
      | zero =>
        intro u T9 hu hz X9
        have htab : o_tab d u < o_N d := I.2.2.2.2.2.1 u hu
        refine own_aloadN X9 d6_20 rfl rfl rfl ?_
        refine own_getf X9 (hw _ (List.mem_of_getElem? (i := 33) rfl)) (own_LS_f_table F) d6_21 rfl (fun T6 X7 => ?_)
        refine own_iload X7 d6_24 rfl rfl ?_
        refine own_ialoadF X7 (j := u) (own_LS_a7 F) (by decide) hu d6_26 rfl ?_
        show own_Fin p e below (own_End s n0 (own_qnd A x1 f t d Z n0 h0) ({ frames := 2, cells := 0, slots := 0, locals := 30 } : Room).cells ({ frames := 2, cells := 0, slots := 0, locals := 30 } : Room).slots) (T6.setTop (mkF m 27 #[.val (.ref (A 0)), .val (.int x1), .val (.int f.toInt32), .val (.int t.toInt32), .unset, .val (.int u.toInt32)] [(.int (o_tab d u).toInt32)]))
        refine own_if_eq X7 d6_27 (by decide) (pcT := 64) (by decide) rfl (fun hc8 => ?_) (fun hc8 => ?_)
        · skip
          refine own_aloadN X7 d6_64 rfl rfl rfl ?_
          refine own_getf X7 (hw _ (List.mem_of_getElem? (i := 33) rfl)) (own_LS_f_table F) d6_65 rfl (fun T9 X10 => ?_)
          refine own_iload X10 d6_68 rfl rfl ?_
          refine own_ialoadF X10 (j := u) (own_LS_a7 F) (by decide) hu d6_70 rfl ?_
          show own_Fin p e below (own_End s n0 (own_qnd A x1 f t d Z n0 h0) ({ frames := 2, cells := 0, slots := 0, locals := 30 } : Room).cells ({ frames := 2, cells := 0, slots := 0, locals := 30 } : Room).slots) (T9.setTop (mkF m 71 #[.val (.ref (A 0)), .val (.int x1), .val (.int f.toInt32), .val (.int t.toInt32), .unset, .val (.int u.toInt32)] [(.int (o_tab d u).toInt32)]))
          refine own_if_eq X10 d6_71 (by decide) (pcT := 84) (by decide) rfl (fun hc => ?_) (fun hc => absurd hc8 hc)
          refine own_aloadN X10 d6_84 rfl rfl rfl ?_
          refine own_iload X10 d6_85 rfl rfl ?_
          refine own_iloadN X10 d6_87 rfl rfl ?_
          refine own_iloadN X10 d6_88 rfl rfl ?_
          refine own_iloadN X10 d6_89 rfl rfl ?_
          refine own_callP X10 (hw _ (List.mem_of_getElem? (i := 76) rfl)) (hw _ (List.mem_of_getElem? (i := 77) rfl)) (hw _ (List.mem_of_getElem? (i := 78) rfl)) (hw _ (List.mem_of_getElem? (i := 2) rfl)) (hw _ (List.mem_of_getElem? (i := 79) rfl)) (hw _ (List.mem_of_getElem? (i := 58) rfl)) (hw _ (List.mem_of_getElem? (i := 57) rfl)) rfl (by decide) (argsL := [(.int u.toInt32), (.int x1), (.int f.toInt32), (.int t.toInt32)]) (rest := []) (own_madd l Z a0 hw A n0 u x1 f t d _ F hu (by omega) (by omega) hN) (own_LS_exa F) (pd_10) rfl d6_90 rfl rfl rfl (W := 0) rfl (by first | decide | (dsimp only; omega) | omega) (by first | decide | (dsimp only; omega) | omega) (cells' := 0) (slots' := 0) rfl rfl (by first | decide | (dsimp only; omega) | omega) (by first | decide | (dsimp only; omega) | omega) (fun v T12 h14 X13 q15 => ?_)
          obtain ⟨rfl, P11⟩ := q15
          show own_Fin p e below (own_End s n0 (own_qnd A x1 f t d Z n0 h0) ({ frames := 2, cells := 0, slots := 0, locals := 30 } : Room).cells ({ frames := 2, cells := 0, slots := 0, locals := 30 } : Room).slots) (T12.setTop (mkF m 93 #[.val (.ref (A 0)), .val (.int x1), .val (.int f.toInt32), .val (.int t.toInt32), .unset, .val (.int u.toInt32)] [(.int (o_N d).toInt32)]))
          refine own_istore X13 (L' := #[.val (.ref (A 0)), .val (.int x1), .val (.int f.toInt32), .val (.int t.toInt32), .val (.int (o_N d).toInt32), .val (.int u.toInt32)]) d6_93 rfl rfl ?_
          refine own_iload X13 d6_95 rfl rfl ?_
          have a1 : o_te (own_add d u x1 f t) (o_N d) = x1 := own_up_same _ _ _
          have a4 : o_S (own_add d u x1 f t) (o_N d) = fun x => if own_b x x1 = true then o_S d t x else o_S d f x := own_up_same _ _ _
          have a5 : o_D (own_add d u x1 f t) (o_N d) = 1 + max (o_D d f) (o_D d t) := own_up_same _ _ _
          exact own_retI X13 rfl d6_97 ⟨own_add d u x1 f t, o_N d, rfl, P11, own_add_inv I hu hf ht hft hx hx64 qf qt, own_add_le _ _ _ _ _, Nat.le_refl _, Nat.lt_succ_self _, fun x => by rw [a4], by rw [a1]; exact own_irr _, by rw [a5]; exact Nat.le_refl _⟩ (by decide) (by decide)
        · skip
          refine own_aloadN X7 d6_30 rfl rfl rfl ?_
          refine own_aloadN X7 d6_31 rfl rfl rfl ?_
          refine own_getf X7 (hw _ (List.mem_of_getElem? (i := 33) rfl)) (own_LS_f_table F) d6_32 rfl (fun T16 X17 => ?_)
          refine own_iload X17 d6_35 rfl rfl ?_
          refine own_ialoadF X17 (j := u) (own_LS_a7 F) (by decide) hu d6_37 rfl ?_
          show own_Fin p e below (own_End s n0 (own_qnd A x1 f t d Z n0 h0) ({ frames := 2, cells := 0, slots := 0, locals := 30 } : Room).cells ({ frames := 2, cells := 0, slots := 0, locals := 30 } : Room).slots) (T16.setTop (mkF m 38 #[.val (.ref (A 0)), .val (.int x1), .val (.int f.toInt32), .val (.int t.toInt32), .unset, .val (.int u.toInt32)] [(.int (o_tab d u).toInt32), (.ref (A 0))]))
          refine own_iloadN X17 d6_38 rfl rfl ?_
          refine own_iloadN X17 d6_39 rfl rfl ?_
          refine own_iloadN X17 d6_40 rfl rfl ?_
          refine own_callP X17 (hw _ (List.mem_of_getElem? (i := 81) rfl)) (hw _ (List.mem_of_getElem? (i := 82) rfl)) (hw _ (List.mem_of_getElem? (i := 83) rfl)) (hw _ (List.mem_of_getElem? (i := 2) rfl)) (hw _ (List.mem_of_getElem? (i := 84) rfl)) (hw _ (List.mem_of_getElem? (i := 58) rfl)) (hw _ (List.mem_of_getElem? (i := 57) rfl)) rfl (by decide) (argsL := [(.int (o_tab d u).toInt32), (.int x1), (.int f.toInt32), (.int t.toInt32)]) (rest := []) (own_mh4 l Z a0 hw A n0 (o_tab d u) x1 f t d _ F (by omega)) (own_LS_exa F) (pd_11) rfl d6_41 rfl rfl rfl (W := 0) rfl (by first | decide | (dsimp only; omega) | omega) (by first | decide | (dsimp only; omega) | omega) (cells' := 0) (slots' := 0) rfl rfl (by first | decide | (dsimp only; omega) | omega) (by first | decide | (dsimp only; omega) | omega) (fun v T18 h20 X19 q21 => ?_)
          obtain ⟨rfl, rfl⟩ := q21
          show own_Fin p e below (own_End s n0 (own_qnd A x1 f t d Z n0 h0) ({ frames := 2, cells := 0, slots := 0, locals := 30 } : Room).cells ({ frames := 2, cells := 0, slots := 0, locals := 30 } : Room).slots) (T18.setTop (mkF m 44 #[.val (.ref (A 0)), .val (.int x1), .val (.int f.toInt32), .val (.int t.toInt32), .unset, .val (.int u.toInt32)] [(.int (own_h4 d (o_tab d u) x1 f t))]))
          refine own_if_ne X19 d6_44 (by decide) (pcT := 64) (by decide) rfl (fun hc22 => ?_) (fun hc22 => ?_)
          · skip
            refine own_aloadN X19 d6_64 rfl rfl rfl ?_
            refine own_getf X19 (hw _ (List.mem_of_getElem? (i := 33) rfl)) (own_LS_f_table F) d6_65 rfl (fun T23 X24 => ?_)
            refine own_iload X24 d6_68 rfl rfl ?_
            refine own_ialoadF X24 (j := u) (own_LS_a7 F) (by decide) hu d6_70 rfl ?_
            show own_Fin p e below (own_End s n0 (own_qnd A x1 f t d Z n0 h0) ({ frames := 2, cells := 0, slots := 0, locals := 30 } : Room).cells ({ frames := 2, cells := 0, slots := 0, locals := 30 } : Room).slots) (T23.setTop (mkF m 71 #[.val (.ref (A 0)), .val (.int x1), .val (.int f.toInt32), .val (.int t.toInt32), .unset, .val (.int u.toInt32)] [(.int (o_tab d u).toInt32)]))
            refine own_if_eq X24 d6_71 (by decide) (pcT := 84) (by decide) rfl (fun hc => absurd hc hc8) (fun hc => ?_)
            refine own_aloadN X24 d6_74 rfl rfl rfl ?_
            refine own_getf X24 (hw _ (List.mem_of_getElem? (i := 33) rfl)) (own_LS_f_table F) d6_75 rfl (fun T25 X26 => ?_)
            refine own_iload X26 d6_78 rfl rfl ?_
            refine own_ialoadF X26 (j := u) (own_LS_a7 F) (by decide) hu d6_80 rfl ?_
            show own_Fin p e below (own_End s n0 (own_qnd A x1 f t d Z n0 h0) ({ frames := 2, cells := 0, slots := 0, locals := 30 } : Room).cells ({ frames := 2, cells := 0, slots := 0, locals := 30 } : Room).slots) (T25.setTop (mkF m 81 #[.val (.ref (A 0)), .val (.int x1), .val (.int f.toInt32), .val (.int t.toInt32), .unset, .val (.int u.toInt32)] [(.int (o_tab d u).toInt32)]))
            refine own_goto X26 d6_81 (by decide) (pc' := 93) (by decide) ?_
            refine own_istore X26 (L' := #[.val (.ref (A 0)), .val (.int x1), .val (.int f.toInt32), .val (.int t.toInt32), .val (.int (o_tab d u).toInt32), .val (.int u.toInt32)]) d6_93 rfl rfl ?_
            refine own_iload X26 d6_95 rfl rfl ?_
            obtain ⟨n1, n2, n3⟩ := own_node_hit I htab hN hx hf ht hc22
            exact own_retI X26 rfl d6_97 ⟨d, o_tab d u, rfl, F, I, own_Le.refl d, Nat.le_succ _, htab, n1, n2, n3⟩ (by decide) (by decide)
          · skip
            refine own_iload X19 d6_47 rfl rfl ?_
            refine own_iconst X19 (1 : Int32) d6_49 rfl (by decide) ?_
            refine own_iadd X19 d6_50 rfl ?_
            refine own_aloadN X19 d6_51 rfl rfl rfl ?_
            refine own_getf X19 (hw _ (List.mem_of_getElem? (i := 33) rfl)) (own_LS_f_table F) d6_52 rfl (fun T27 X28 => ?_)
            refine own_alenI X28 (own_LS_a7 F) (z := (64 : Int32)) (by decide) d6_55 rfl ?_
            refine own_iconst X28 (1 : Int32) d6_56 rfl (by decide) ?_
            refine own_isub X28 d6_57 rfl ?_
            refine own_iand X28 d6_58 rfl ?_
            rw [own_slotN hu]
            show own_Fin p e below (own_End s n0 (own_qnd A x1 f t d Z n0 h0) ({ frames := 2, cells := 0, slots := 0, locals := 30 } : Room).cells ({ frames := 2, cells := 0, slots := 0, locals := 30 } : Room).slots) (T27.setTop (mkF m 59 #[.val (.ref (A 0)), .val (.int x1), .val (.int f.toInt32), .val (.int t.toInt32), .unset, .val (.int u.toInt32)] [(.int ((u + 1) % 64).toInt32)]))
            refine own_istore X28 (L' := #[.val (.ref (A 0)), .val (.int x1), .val (.int f.toInt32), .val (.int t.toInt32), .unset, .val (.int ((u + 1) % 64).toInt32)]) d6_59 rfl rfl ?_
            refine own_goto X28 d6_61 (by decide) (pc' := 20) (by decide) ?_
            exact absurd (by rw [show o_tab d u = 0 from (by rw [← hz]; congr 1; omega)]; rfl) hc8
      | succ k ih =>
        intro u T9 hu hz X9
        have htab : o_tab d u < o_N d := I.2.2.2.2.2.1 u hu
        refine own_aloadN X9 d6_20 rfl rfl rfl ?_
        refine own_getf X9 (hw _ (List.mem_of_getElem? (i := 33) rfl)) (own_LS_f_table F) d6_21 rfl (fun T29 X30 => ?_)
        refine own_iload X30 d6_24 rfl rfl ?_
        refine own_ialoadF X30 (j := u) (own_LS_a7 F) (by decide) hu d6_26 rfl ?_
        show own_Fin p e below (own_End s n0 (own_qnd A x1 f t d Z n0 h0) ({ frames := 2, cells := 0, slots := 0, locals := 30 } : Room).cells ({ frames := 2, cells := 0, slots := 0, locals := 30 } : Room).slots) (T29.setTop (mkF m 27 #[.val (.ref (A 0)), .val (.int x1), .val (.int f.toInt32), .val (.int t.toInt32), .unset, .val (.int u.toInt32)] [(.int (o_tab d u).toInt32)]))
        refine own_if_eq X30 d6_27 (by decide) (pcT := 64) (by decide) rfl (fun hc31 => ?_) (fun hc31 => ?_)
        · skip
          refine own_aloadN X30 d6_64 rfl rfl rfl ?_
          refine own_getf X30 (hw _ (List.mem_of_getElem? (i := 33) rfl)) (own_LS_f_table F) d6_65 rfl (fun T32 X33 => ?_)
          refine own_iload X33 d6_68 rfl rfl ?_
          refine own_ialoadF X33 (j := u) (own_LS_a7 F) (by decide) hu d6_70 rfl ?_
          show own_Fin p e below (own_End s n0 (own_qnd A x1 f t d Z n0 h0) ({ frames := 2, cells := 0, slots := 0, locals := 30 } : Room).cells ({ frames := 2, cells := 0, slots := 0, locals := 30 } : Room).slots) (T32.setTop (mkF m 71 #[.val (.ref (A 0)), .val (.int x1), .val (.int f.toInt32), .val (.int t.toInt32), .unset, .val (.int u.toInt32)] [(.int (o_tab d u).toInt32)]))
          refine own_if_eq X33 d6_71 (by decide) (pcT := 84) (by decide) rfl (fun hc => ?_) (fun hc => absurd hc31 hc)
          refine own_aloadN X33 d6_84 rfl rfl rfl ?_
          refine own_iload X33 d6_85 rfl rfl ?_
          refine own_iloadN X33 d6_87 rfl rfl ?_
          refine own_iloadN X33 d6_88 rfl rfl ?_
          refine own_iloadN X33 d6_89 rfl rfl ?_
          refine own_callP X33 (hw _ (List.mem_of_getElem? (i := 76) rfl)) (hw _ (List.mem_of_getElem? (i := 77) rfl)) (hw _ (List.mem_of_getElem? (i := 78) rfl)) (hw _ (List.mem_of_getElem? (i := 2) rfl)) (hw _ (List.mem_of_getElem? (i := 79) rfl)) (hw _ (List.mem_of_getElem? (i := 58) rfl)) (hw _ (List.mem_of_getElem? (i := 57) rfl)) rfl (by decide) (argsL := [(.int u.toInt32), (.int x1), (.int f.toInt32), (.int t.toInt32)]) (rest := []) (own_madd l Z a0 hw A n0 u x1 f t d _ F hu (by omega) (by omega) hN) (own_LS_exa F) (pd_10) rfl d6_90 rfl rfl rfl (W := 0) rfl (by first | decide | (dsimp only; omega) | omega) (by first | decide | (dsimp only; omega) | omega) (cells' := 0) (slots' := 0) rfl rfl (by first | decide | (dsimp only; omega) | omega) (by first | decide | (dsimp only; omega) | omega) (fun v T35 h37 X36 q38 => ?_)
          obtain ⟨rfl, P34⟩ := q38
          show own_Fin p e below (own_End s n0 (own_qnd A x1 f t d Z n0 h0) ({ frames := 2, cells := 0, slots := 0, locals := 30 } : Room).cells ({ frames := 2, cells := 0, slots := 0, locals := 30 } : Room).slots) (T35.setTop (mkF m 93 #[.val (.ref (A 0)), .val (.int x1), .val (.int f.toInt32), .val (.int t.toInt32), .unset, .val (.int u.toInt32)] [(.int (o_N d).toInt32)]))
          refine own_istore X36 (L' := #[.val (.ref (A 0)), .val (.int x1), .val (.int f.toInt32), .val (.int t.toInt32), .val (.int (o_N d).toInt32), .val (.int u.toInt32)]) d6_93 rfl rfl ?_
          refine own_iload X36 d6_95 rfl rfl ?_
          have a1 : o_te (own_add d u x1 f t) (o_N d) = x1 := own_up_same _ _ _
          have a4 : o_S (own_add d u x1 f t) (o_N d) = fun x => if own_b x x1 = true then o_S d t x else o_S d f x := own_up_same _ _ _
          have a5 : o_D (own_add d u x1 f t) (o_N d) = 1 + max (o_D d f) (o_D d t) := own_up_same _ _ _
          exact own_retI X36 rfl d6_97 ⟨own_add d u x1 f t, o_N d, rfl, P34, own_add_inv I hu hf ht hft hx hx64 qf qt, own_add_le _ _ _ _ _, Nat.le_refl _, Nat.lt_succ_self _, fun x => by rw [a4], by rw [a1]; exact own_irr _, by rw [a5]; exact Nat.le_refl _⟩ (by decide) (by decide)
        · skip
          refine own_aloadN X30 d6_30 rfl rfl rfl ?_
          refine own_aloadN X30 d6_31 rfl rfl rfl ?_
          refine own_getf X30 (hw _ (List.mem_of_getElem? (i := 33) rfl)) (own_LS_f_table F) d6_32 rfl (fun T39 X40 => ?_)
          refine own_iload X40 d6_35 rfl rfl ?_
          refine own_ialoadF X40 (j := u) (own_LS_a7 F) (by decide) hu d6_37 rfl ?_
          show own_Fin p e below (own_End s n0 (own_qnd A x1 f t d Z n0 h0) ({ frames := 2, cells := 0, slots := 0, locals := 30 } : Room).cells ({ frames := 2, cells := 0, slots := 0, locals := 30 } : Room).slots) (T39.setTop (mkF m 38 #[.val (.ref (A 0)), .val (.int x1), .val (.int f.toInt32), .val (.int t.toInt32), .unset, .val (.int u.toInt32)] [(.int (o_tab d u).toInt32), (.ref (A 0))]))
          refine own_iloadN X40 d6_38 rfl rfl ?_
          refine own_iloadN X40 d6_39 rfl rfl ?_
          refine own_iloadN X40 d6_40 rfl rfl ?_
          refine own_callP X40 (hw _ (List.mem_of_getElem? (i := 81) rfl)) (hw _ (List.mem_of_getElem? (i := 82) rfl)) (hw _ (List.mem_of_getElem? (i := 83) rfl)) (hw _ (List.mem_of_getElem? (i := 2) rfl)) (hw _ (List.mem_of_getElem? (i := 84) rfl)) (hw _ (List.mem_of_getElem? (i := 58) rfl)) (hw _ (List.mem_of_getElem? (i := 57) rfl)) rfl (by decide) (argsL := [(.int (o_tab d u).toInt32), (.int x1), (.int f.toInt32), (.int t.toInt32)]) (rest := []) (own_mh4 l Z a0 hw A n0 (o_tab d u) x1 f t d _ F (by omega)) (own_LS_exa F) (pd_11) rfl d6_41 rfl rfl rfl (W := 0) rfl (by first | decide | (dsimp only; omega) | omega) (by first | decide | (dsimp only; omega) | omega) (cells' := 0) (slots' := 0) rfl rfl (by first | decide | (dsimp only; omega) | omega) (by first | decide | (dsimp only; omega) | omega) (fun v T41 h43 X42 q44 => ?_)
          obtain ⟨rfl, rfl⟩ := q44
          show own_Fin p e below (own_End s n0 (own_qnd A x1 f t d Z n0 h0) ({ frames := 2, cells := 0, slots := 0, locals := 30 } : Room).cells ({ frames := 2, cells := 0, slots := 0, locals := 30 } : Room).slots) (T41.setTop (mkF m 44 #[.val (.ref (A 0)), .val (.int x1), .val (.int f.toInt32), .val (.int t.toInt32), .unset, .val (.int u.toInt32)] [(.int (own_h4 d (o_tab d u) x1 f t))]))
          refine own_if_ne X42 d6_44 (by decide) (pcT := 64) (by decide) rfl (fun hc45 => ?_) (fun hc45 => ?_)
          · skip
            refine own_aloadN X42 d6_64 rfl rfl rfl ?_
            refine own_getf X42 (hw _ (List.mem_of_getElem? (i := 33) rfl)) (own_LS_f_table F) d6_65 rfl (fun T46 X47 => ?_)
            refine own_iload X47 d6_68 rfl rfl ?_
            refine own_ialoadF X47 (j := u) (own_LS_a7 F) (by decide) hu d6_70 rfl ?_
            show own_Fin p e below (own_End s n0 (own_qnd A x1 f t d Z n0 h0) ({ frames := 2, cells := 0, slots := 0, locals := 30 } : Room).cells ({ frames := 2, cells := 0, slots := 0, locals := 30 } : Room).slots) (T46.setTop (mkF m 71 #[.val (.ref (A 0)), .val (.int x1), .val (.int f.toInt32), .val (.int t.toInt32), .unset, .val (.int u.toInt32)] [(.int (o_tab d u).toInt32)]))
            refine own_if_eq X47 d6_71 (by decide) (pcT := 84) (by decide) rfl (fun hc => absurd hc hc31) (fun hc => ?_)
            refine own_aloadN X47 d6_74 rfl rfl rfl ?_
            refine own_getf X47 (hw _ (List.mem_of_getElem? (i := 33) rfl)) (own_LS_f_table F) d6_75 rfl (fun T48 X49 => ?_)
            refine own_iload X49 d6_78 rfl rfl ?_
            refine own_ialoadF X49 (j := u) (own_LS_a7 F) (by decide) hu d6_80 rfl ?_
            show own_Fin p e below (own_End s n0 (own_qnd A x1 f t d Z n0 h0) ({ frames := 2, cells := 0, slots := 0, locals := 30 } : Room).cells ({ frames := 2, cells := 0, slots := 0, locals := 30 } : Room).slots) (T48.setTop (mkF m 81 #[.val (.ref (A 0)), .val (.int x1), .val (.int f.toInt32), .val (.int t.toInt32), .unset, .val (.int u.toInt32)] [(.int (o_tab d u).toInt32)]))
            refine own_goto X49 d6_81 (by decide) (pc' := 93) (by decide) ?_
            refine own_istore X49 (L' := #[.val (.ref (A 0)), .val (.int x1), .val (.int f.toInt32), .val (.int t.toInt32), .val (.int (o_tab d u).toInt32), .val (.int u.toInt32)]) d6_93 rfl rfl ?_
            refine own_iload X49 d6_95 rfl rfl ?_
            obtain ⟨n1, n2, n3⟩ := own_node_hit I htab hN hx hf ht hc45
            exact own_retI X49 rfl d6_97 ⟨d, o_tab d u, rfl, F, I, own_Le.refl d, Nat.le_succ _, htab, n1, n2, n3⟩ (by decide) (by decide)
          · skip
            refine own_iload X42 d6_47 rfl rfl ?_
            refine own_iconst X42 (1 : Int32) d6_49 rfl (by decide) ?_
            refine own_iadd X42 d6_50 rfl ?_
            refine own_aloadN X42 d6_51 rfl rfl rfl ?_
            refine own_getf X42 (hw _ (List.mem_of_getElem? (i := 33) rfl)) (own_LS_f_table F) d6_52 rfl (fun T50 X51 => ?_)
            refine own_alenI X51 (own_LS_a7 F) (z := (64 : Int32)) (by decide) d6_55 rfl ?_
            refine own_iconst X51 (1 : Int32) d6_56 rfl (by decide) ?_
            refine own_isub X51 d6_57 rfl ?_
            refine own_iand X51 d6_58 rfl ?_
            rw [own_slotN hu]
            show own_Fin p e below (own_End s n0 (own_qnd A x1 f t d Z n0 h0) ({ frames := 2, cells := 0, slots := 0, locals := 30 } : Room).cells ({ frames := 2, cells := 0, slots := 0, locals := 30 } : Room).slots) (T50.setTop (mkF m 59 #[.val (.ref (A 0)), .val (.int x1), .val (.int f.toInt32), .val (.int t.toInt32), .unset, .val (.int u.toInt32)] [(.int ((u + 1) % 64).toInt32)]))
            refine own_istore X51 (L' := #[.val (.ref (A 0)), .val (.int x1), .val (.int f.toInt32), .val (.int t.toInt32), .unset, .val (.int ((u + 1) % 64).toInt32)]) d6_59 rfl rfl ?_
            refine own_goto X51 d6_61 (by decide) (pc' := 20) (by decide) ?_
            exact ih ((u + 1) % 64) _ (Nat.mod_lt _ (by decide)) (by rw [← hz]; congr 1; omega) X51
    obtain ⟨fs, z1, z2⟩ := own_free (o_tab d) 64 (by have := I.2.2.2.2.2.2.1; omega)
    exact loop ((fs + 64 - u0) % 64) u0 _ hu0 (by rw [show (u0 + (fs + 64 - u0) % 64) % 64 = fs from by omega]; exact z2) X3
  · skip
    refine own_iloadN X0 d6_5 rfl rfl ?_
    refine own_istore X0 (L' := #[.val (.ref (A 0)), .val (.int x1), .val (.int f.toInt32), .val (.int t.toInt32), .val (.int f.toInt32), .unset]) d6_6 rfl rfl ?_
    refine own_goto X0 d6_8 (by decide) (pc' := 95) (by decide) ?_
    refine own_iload X0 d6_95 rfl rfl ?_
    have eft : f = t := (own_z (by omega) t (by omega)).mp hc1
    subst eft
    exact own_retI X0 rfl d6_97 ⟨d, f, rfl, F, I, own_Le.refl d, Nat.le_succ _, hf, fun x => (ite_self _).symm, fun z => own_irr _ (Int32.lt_trans qf z), by omega⟩ (by decide) (by decide)

def own_cnt : Nat → Nat
  | 0 => 0
  | n + 1 => 2 * own_cnt n + 1
theorem own_mnN {i j : Nat} (hi : i < 64) (hj : j < 64) : own_fmn i.toInt32 j.toInt32 = (min i j).toInt32 := by
  unfold own_fmn
  by_cases q : j.toInt32 < i.toInt32
  · rw [if_pos q]; rw [own_lt32 (by omega) (by omega)] at q; rw [Nat.min_eq_right (by omega)]
  · rw [if_neg q]; rw [own_lt32 (by omega) (by omega)] at q; rw [Nat.min_eq_left (by omega)]
theorem own_mxN {i j : Nat} (hi : i < 64) (hj : j < 64) : own_fmx i.toInt32 j.toInt32 = (max i j).toInt32 := by
  unfold own_fmx
  by_cases q : i.toInt32 < j.toInt32
  · rw [if_pos q]; rw [own_lt32 (by omega) (by omega)] at q; rw [Nat.max_eq_right (by omega)]
  · rw [if_neg q]; rw [own_lt32 (by omega) (by omega)] at q; rw [Nat.max_eq_left (by omega)]
theorem own_tp {a b tp : Int32} (h : tp = own_fmx a b) : ¬ tp < a ∧ ¬ tp < b ∧ (tp = a ∨ tp = b) := by
  unfold own_fmx at h
  by_cases q : a < b
  · rw [if_pos q] at h; subst h; exact ⟨fun z => own_irr _ (Int32.lt_trans q z), own_irr _, Or.inr rfl⟩
  · rw [if_neg q] at h; subst h; exact ⟨own_irr _, q, Or.inl rfl⟩
theorem own_sp_of {d : own_T} {op i j r : Nat} (hr : r = i ∨ r = j) (hi : i < o_N d) (hj : j < o_N d) (hS : ∀ x, o_S d r x = own_op op (o_S d i x) (o_S d j x)) : own_Sp d op i j r.toInt32 := by
  refine ⟨r, rfl, by rcases hr with rfl | rfl <;> assumption, hi, hj, hS, ?_, ?_⟩
  · rcases hr with rfl | rfl
    · exact Or.inl (own_irr _)
    · exact Or.inr (own_irr _)
  · rcases hr with rfl | rfl <;> omega
theorem own_sp_comm {d : own_T} {op i j : Nat} {r : Int32} (ho : op < 2) (h : own_Sp d op (min i j) (max i j) r) : own_Sp d op i j r := by
  by_cases q : i ≤ j
  · rw [Nat.min_eq_left q, Nat.max_eq_right q] at h; exact h
  · rw [Nat.min_eq_right (by omega), Nat.max_eq_left (by omega)] at h
    obtain ⟨r', h1, h2, h3, h4, h5, h6, h7⟩ := h
    refine ⟨r', h1, h2, h4, h3, fun x => ?_, h6.symm, by omega⟩
    rw [h5 x]
    have : op = 0 ∨ op = 1 := by omega
    rcases this with rfl | rfl
    · exact Bool.and_comm _ _
    · exact Bool.or_comm _ _
theorem own_cd_hit {d : own_T} (I : own_Inv d) {op i j : Nat} (ho : op < 3) (hi : i < 64) (hj : j < 64) (h : ¬ own_cd d (own_pk op i j) < 0) : own_Sp d op i j (own_cd d (own_pk op i j)) := by
  unfold own_cd at h ⊢
  by_cases q : o_key d (own_cs (own_pk op i j)) = own_pk op i j
  · rw [if_pos q]; exact I.2.2.2.2.2.2.2 _ (own_cs32 _) op i j ho hi hj q
  · rw [if_neg q] at h; exact absurd (by decide) h
theorem own_D0 {d : own_T} (I : own_Inv d) {k : Nat} (hk : k < o_N d) (h : o_D d k = 0) : k < 2 := by
  refine Classical.byContradiction fun q => ?_
  have := (I.2.2.2.2.1 k (by omega) hk).2.2.2.2.2.2.2.2
  omega
theorem own_br_ok {d : own_T} (I : own_Inv d) {k : Nat} {tp : Int32} (hk : k < o_N d) (h1 : ¬ tp < o_te d k) (h2 : ¬ tp < 0) (b : Int32) :
    own_br d k tp b < o_N d ∧ o_te d (own_br d k tp b) < tp ∧ (∀ x, (own_b x tp = true ↔ ¬ b = 0) → o_S d (own_br d k tp b) x = o_S d k x) ∧ o_D d (own_br d k tp b) ≤ o_D d k ∧ (o_te d k = tp → o_D d (own_br d k tp b) < o_D d k) := by
  unfold own_br
  by_cases q : o_te d k = tp
  · have k2 : 2 ≤ k := by
      refine Classical.byContradiction fun z => h2 ?_
      rw [← q]; exact (own_leaf I hk).mpr (by omega)
    obtain ⟨-, -, n3, n4, -, n6, n7, n8, n9⟩ := I.2.2.2.2.1 k k2 hk
    rw [q] at n6 n7 n8
    by_cases qb : b = 0
    · simp only [if_pos q, if_pos qb]
      refine ⟨by omega, n6, fun x hx => ?_, by omega, fun _ => by omega⟩
      rw [n8 x, if_neg (fun z => hx.mp z qb)]
    · simp only [if_pos q, if_neg qb]
      refine ⟨by omega, n7, fun x hx => ?_, by omega, fun _ => by omega⟩
      rw [n8 x, if_pos (hx.mpr qb)]
  · simp only [if_neg q]
    refine ⟨hk, ?_, by intro _ _; first | rfl | trivial, Nat.le_refl _, fun z => absurd z q⟩
    rw [Int32.lt_iff_toInt_lt] at h1 ⊢
    have : o_te d k ≠ tp := q
    have h3 : (o_te d k).toInt ≠ tp.toInt := fun z => q (Int32.toInt_inj.mp z)
    omega
theorem own_br_le {d e : own_T} (L : own_Le d e) {k : Nat} (hk : k < o_N d) (tp b : Int32) : own_br e k tp b = own_br d k tp b := by
  obtain ⟨a1, a2, a3, -, -⟩ := L.2 k hk
  unfold own_br
  rw [a1, a2, a3]
/-- one step of combine: the two halves and the node over them -/
theorem own_join {d e1 e2 e3 : own_T} {op a b q1 q2 r3 : Nat} {tp : Int32} (I : own_Inv d) (ha : a < o_N d) (hb : b < o_N d) (t1 : ¬ tp < o_te d a) (t2 : ¬ tp < o_te d b) (t3 : tp = o_te d a ∨ tp = o_te d b) (t0 : ¬ tp < 0)
    (L1 : own_Le d e1) (S1 : own_Sp e1 op (own_br d a tp 0) (own_br d b tp 0) q1.toInt32) (g1 : q1 < o_N e1) (L2 : own_Le e1 e2) (S2 : own_Sp e2 op (own_br d a tp 1) (own_br d b tp 1) q2.toInt32) (g2 : q2 < o_N e2) (h64 : o_N e2 ≤ 32)
    (L3 : own_Le e2 e3) (hr : r3 < o_N e3) (hS : ∀ x, o_S e3 r3 x = if own_b x tp = true then o_S e2 q2 x else o_S e2 q1 x) (ht : ¬ tp < o_te e3 r3) (hD : o_D e3 r3 ≤ 1 + max (o_D e2 q1) (o_D e2 q2)) : own_Sp e3 op a b r3.toInt32 := by
  have L12 := L1.trans L2
  have L13 := L12.trans L3
  obtain ⟨b1, b2, b3, b4, b5⟩ := own_br_ok I ha t1 t0 0
  obtain ⟨c1, c2, c3, c4, c5⟩ := own_br_ok I hb t2 t0 0
  obtain ⟨d1, d2, d3, d4, d5⟩ := own_br_ok I ha t1 t0 1
  obtain ⟨f1, f2, f3, f4, f5⟩ := own_br_ok I hb t2 t0 1
  obtain ⟨x1, u1, u2, u3, u4, u5, u6, u7⟩ := S1
  obtain ⟨x2, v1, v2, v3, v4, v5, v6, v7⟩ := S2
  have hN1 : o_N e1 ≤ 32 := Nat.le_trans L2.1 h64
  obtain rfl : q1 = x1 := (own_z (by omega) x1 (by omega)).mp u1
  obtain rfl : q2 = x2 := (own_z (by omega) x2 (by omega)).mp v1
  obtain ⟨A1, -, -, A4, A5⟩ := L13.2 a ha
  obtain ⟨B1, -, -, B4, B5⟩ := L13.2 b hb
  obtain ⟨-, -, -, Q4, Q5⟩ := L2.2 q1 u2
  refine ⟨r3, rfl, hr, Nat.lt_of_lt_of_le ha L13.1, Nat.lt_of_lt_of_le hb L13.1, fun x => ?_, ?_, ?_⟩
  · rw [hS x, A4, B4]
    by_cases z : own_b x tp = true
    · rw [if_pos z, v5 x, (L12.2 _ d1).2.2.2.1, (L12.2 _ f1).2.2.2.1, d3 x ⟨fun _ => by decide, fun _ => z⟩, f3 x ⟨fun _ => by decide, fun _ => z⟩]
    · rw [if_neg z, Q4, u5 x, (L1.2 _ b1).2.2.2.1, (L1.2 _ c1).2.2.2.1, b3 x ⟨fun y => absurd y z, fun y => absurd rfl y⟩, c3 x ⟨fun y => absurd y z, fun y => absurd rfl y⟩]
  · rw [A1, B1]
    rcases t3 with rfl | rfl
    · exact Or.inl ht
    · exact Or.inr ht
  · rw [A5, B5]
    rw [(L1.2 _ b1).2.2.2.2, (L1.2 _ c1).2.2.2.2] at u7
    rw [(L12.2 _ d1).2.2.2.2, (L12.2 _ f1).2.2.2.2] at v7
    rw [Q5] at hD
    rcases t3 with q | q
    · have := b5 q.symm
      have := d5 q.symm
      omega
    · have := c5 q.symm
      have := f5 q.symm
      omega
theorem own_sp_lt {d e : own_T} {op i j : Nat} {r : Nat} {tp : Int32} (L : own_Le d e) (hN : o_N e ≤ 32) (hr : r < o_N e) (S : own_Sp e op i j r.toInt32) (hi : i < o_N d) (hj : j < o_N d) (h1 : o_te d i < tp) (h2 : o_te d j < tp) : o_te e r < tp := by
  obtain ⟨x1, u1, u2, u3, u4, u5, u6, u7⟩ := S
  obtain rfl : r = x1 := (own_z (by omega) x1 (by omega)).mp u1
  rw [(L.2 i hi).1, (L.2 j hj).1] at u6
  rw [Int32.lt_iff_toInt_lt] at h1 h2 ⊢
  rw [Int32.lt_iff_toInt_lt, Int32.lt_iff_toInt_lt] at u6
  omega
theorem d17_0 : decode prog_13_method_11_code 0 = .ok (.iload_n 1, 1) := by decide +kernel
theorem d17_1 : decode prog_13_method_11_code 1 = .ok (.ifCond .ne 7, 3) := by decide +kernel
theorem d17_4 : decode prog_13_method_11_code 4 = .ok (.iconst 0, 1) := by decide +kernel
theorem d17_5 : decode prog_13_method_11_code 5 = .ok (.goto 4, 3) := by decide +kernel
theorem d17_9 : decode prog_13_method_11_code 9 = .ok (.istore 4, 2) := by decide +kernel
theorem d17_11 : decode prog_13_method_11_code 11 = .ok (.iload_n 1, 1) := by decide +kernel
theorem d17_12 : decode prog_13_method_11_code 12 = .ok (.ifCond .ne 7, 3) := by decide +kernel
theorem d17_15 : decode prog_13_method_11_code 15 = .ok (.iconst 1, 1) := by decide +kernel
theorem d17_16 : decode prog_13_method_11_code 16 = .ok (.goto 4, 3) := by decide +kernel
theorem d17_20 : decode prog_13_method_11_code 20 = .ok (.istore 5, 2) := by decide +kernel
theorem d17_22 : decode prog_13_method_11_code 22 = .ok (.iload_n 2, 1) := by decide +kernel
theorem d17_23 : decode prog_13_method_11_code 23 = .ok (.iload 4, 2) := by decide +kernel
theorem d17_25 : decode prog_13_method_11_code 25 = .ok (.if_icmp .eq 9, 3) := by decide +kernel
theorem d17_28 : decode prog_13_method_11_code 28 = .ok (.iload_n 3, 1) := by decide +kernel
theorem d17_29 : decode prog_13_method_11_code 29 = .ok (.iload 4, 2) := by decide +kernel
theorem d17_31 : decode prog_13_method_11_code 31 = .ok (.if_icmp .ne 10, 3) := by decide +kernel
theorem d17_34 : decode prog_13_method_11_code 34 = .ok (.iload 4, 2) := by decide +kernel
theorem d17_36 : decode prog_13_method_11_code 36 = .ok (.istore 6, 2) := by decide +kernel
theorem d17_38 : decode prog_13_method_11_code 38 = .ok (.goto 158, 3) := by decide +kernel
theorem d17_41 : decode prog_13_method_11_code 41 = .ok (.iload_n 2, 1) := by decide +kernel
theorem d17_42 : decode prog_13_method_11_code 42 = .ok (.iload 5, 2) := by decide +kernel
theorem d17_44 : decode prog_13_method_11_code 44 = .ok (.if_icmp .eq 8, 3) := by decide +kernel
theorem d17_47 : decode prog_13_method_11_code 47 = .ok (.iload_n 2, 1) := by decide +kernel
theorem d17_48 : decode prog_13_method_11_code 48 = .ok (.iload_n 3, 1) := by decide +kernel
theorem d17_49 : decode prog_13_method_11_code 49 = .ok (.if_icmp .ne 9, 3) := by decide +kernel
theorem d17_52 : decode prog_13_method_11_code 52 = .ok (.iload_n 3, 1) := by decide +kernel
theorem d17_53 : decode prog_13_method_11_code 53 = .ok (.istore 6, 2) := by decide +kernel
theorem d17_55 : decode prog_13_method_11_code 55 = .ok (.goto 141, 3) := by decide +kernel
theorem d17_58 : decode prog_13_method_11_code 58 = .ok (.iload_n 3, 1) := by decide +kernel
theorem d17_59 : decode prog_13_method_11_code 59 = .ok (.iload 5, 2) := by decide +kernel
theorem d17_61 : decode prog_13_method_11_code 61 = .ok (.if_icmp .ne 9, 3) := by decide +kernel
theorem d17_64 : decode prog_13_method_11_code 64 = .ok (.iload_n 2, 1) := by decide +kernel
theorem d17_65 : decode prog_13_method_11_code 65 = .ok (.istore 6, 2) := by decide +kernel
theorem d17_67 : decode prog_13_method_11_code 67 = .ok (.goto 129, 3) := by decide +kernel
theorem d17_70 : decode prog_13_method_11_code 70 = .ok (.iload_n 2, 1) := by decide +kernel
theorem d17_71 : decode prog_13_method_11_code 71 = .ok (.iload_n 3, 1) := by decide +kernel
theorem d17_72 : decode prog_13_method_11_code 72 = .ok (.invokestatic 139, 3) := by decide +kernel
theorem d17_75 : decode prog_13_method_11_code 75 = .ok (.istore 7, 2) := by decide +kernel
theorem d17_77 : decode prog_13_method_11_code 77 = .ok (.iload_n 2, 1) := by decide +kernel
theorem d17_78 : decode prog_13_method_11_code 78 = .ok (.iload_n 3, 1) := by decide +kernel
theorem d17_79 : decode prog_13_method_11_code 79 = .ok (.invokestatic 144, 3) := by decide +kernel
theorem d17_82 : decode prog_13_method_11_code 82 = .ok (.istore 8, 2) := by decide +kernel
theorem d17_84 : decode prog_13_method_11_code 84 = .ok (.iload_n 1, 1) := by decide +kernel
theorem d17_85 : decode prog_13_method_11_code 85 = .ok (.iload 7, 2) := by decide +kernel
theorem d17_87 : decode prog_13_method_11_code 87 = .ok (.iload 8, 2) := by decide +kernel
theorem d17_89 : decode prog_13_method_11_code 89 = .ok (.invokestatic 68, 3) := by decide +kernel
theorem d17_92 : decode prog_13_method_11_code 92 = .ok (.lstore 9, 2) := by decide +kernel
theorem d17_94 : decode prog_13_method_11_code 94 = .ok (.aload_n 0, 1) := by decide +kernel
theorem d17_95 : decode prog_13_method_11_code 95 = .ok (.lload 9, 2) := by decide +kernel
theorem d17_97 : decode prog_13_method_11_code 97 = .ok (.invokevirtual 72, 3) := by decide +kernel
theorem d17_100 : decode prog_13_method_11_code 100 = .ok (.istore 6, 2) := by decide +kernel
theorem d17_102 : decode prog_13_method_11_code 102 = .ok (.iload 6, 2) := by decide +kernel
theorem d17_104 : decode prog_13_method_11_code 104 = .ok (.ifCond .ge 92, 3) := by decide +kernel
theorem d17_107 : decode prog_13_method_11_code 107 = .ok (.aload_n 0, 1) := by decide +kernel
theorem d17_108 : decode prog_13_method_11_code 108 = .ok (.getfield 9, 3) := by decide +kernel
theorem d17_111 : decode prog_13_method_11_code 111 = .ok (.iload 7, 2) := by decide +kernel
theorem d17_113 : decode prog_13_method_11_code 113 = .ok (.iaload, 1) := by decide +kernel
theorem d17_114 : decode prog_13_method_11_code 114 = .ok (.aload_n 0, 1) := by decide +kernel
theorem d17_115 : decode prog_13_method_11_code 115 = .ok (.getfield 9, 3) := by decide +kernel
theorem d17_118 : decode prog_13_method_11_code 118 = .ok (.iload 8, 2) := by decide +kernel
theorem d17_120 : decode prog_13_method_11_code 120 = .ok (.iaload, 1) := by decide +kernel
theorem d17_121 : decode prog_13_method_11_code 121 = .ok (.invokestatic 144, 3) := by decide +kernel
theorem d17_124 : decode prog_13_method_11_code 124 = .ok (.istore 11, 2) := by decide +kernel
theorem d17_126 : decode prog_13_method_11_code 126 = .ok (.aload_n 0, 1) := by decide +kernel
theorem d17_127 : decode prog_13_method_11_code 127 = .ok (.iload_n 1, 1) := by decide +kernel
theorem d17_128 : decode prog_13_method_11_code 128 = .ok (.aload_n 0, 1) := by decide +kernel
theorem d17_129 : decode prog_13_method_11_code 129 = .ok (.iload 7, 2) := by decide +kernel
theorem d17_131 : decode prog_13_method_11_code 131 = .ok (.iload 11, 2) := by decide +kernel
theorem d17_133 : decode prog_13_method_11_code 133 = .ok (.iconst 0, 1) := by decide +kernel
theorem d17_134 : decode prog_13_method_11_code 134 = .ok (.invokevirtual 147, 3) := by decide +kernel
theorem d17_137 : decode prog_13_method_11_code 137 = .ok (.aload_n 0, 1) := by decide +kernel
theorem d17_138 : decode prog_13_method_11_code 138 = .ok (.iload 8, 2) := by decide +kernel
theorem d17_140 : decode prog_13_method_11_code 140 = .ok (.iload 11, 2) := by decide +kernel
theorem d17_142 : decode prog_13_method_11_code 142 = .ok (.iconst 0, 1) := by decide +kernel
theorem d17_143 : decode prog_13_method_11_code 143 = .ok (.invokevirtual 147, 3) := by decide +kernel
theorem d17_146 : decode prog_13_method_11_code 146 = .ok (.invokevirtual 65, 3) := by decide +kernel
theorem d17_149 : decode prog_13_method_11_code 149 = .ok (.istore 12, 2) := by decide +kernel
theorem d17_151 : decode prog_13_method_11_code 151 = .ok (.aload_n 0, 1) := by decide +kernel
theorem d17_152 : decode prog_13_method_11_code 152 = .ok (.iload_n 1, 1) := by decide +kernel
theorem d17_153 : decode prog_13_method_11_code 153 = .ok (.aload_n 0, 1) := by decide +kernel
theorem d17_154 : decode prog_13_method_11_code 154 = .ok (.iload 7, 2) := by decide +kernel
theorem d17_156 : decode prog_13_method_11_code 156 = .ok (.iload 11, 2) := by decide +kernel
theorem d17_158 : decode prog_13_method_11_code 158 = .ok (.iconst 1, 1) := by decide +kernel
theorem d17_159 : decode prog_13_method_11_code 159 = .ok (.invokevirtual 147, 3) := by decide +kernel
theorem d17_162 : decode prog_13_method_11_code 162 = .ok (.aload_n 0, 1) := by decide +kernel
theorem d17_163 : decode prog_13_method_11_code 163 = .ok (.iload 8, 2) := by decide +kernel
theorem d17_165 : decode prog_13_method_11_code 165 = .ok (.iload 11, 2) := by decide +kernel
theorem d17_167 : decode prog_13_method_11_code 167 = .ok (.iconst 1, 1) := by decide +kernel
theorem d17_168 : decode prog_13_method_11_code 168 = .ok (.invokevirtual 147, 3) := by decide +kernel
theorem d17_171 : decode prog_13_method_11_code 171 = .ok (.invokevirtual 65, 3) := by decide +kernel
theorem d17_174 : decode prog_13_method_11_code 174 = .ok (.istore 13, 2) := by decide +kernel
theorem d17_176 : decode prog_13_method_11_code 176 = .ok (.aload_n 0, 1) := by decide +kernel
theorem d17_177 : decode prog_13_method_11_code 177 = .ok (.iload 11, 2) := by decide +kernel
theorem d17_179 : decode prog_13_method_11_code 179 = .ok (.iload 12, 2) := by decide +kernel
theorem d17_181 : decode prog_13_method_11_code 181 = .ok (.iload 13, 2) := by decide +kernel
theorem d17_183 : decode prog_13_method_11_code 183 = .ok (.invokevirtual 61, 3) := by decide +kernel
theorem d17_186 : decode prog_13_method_11_code 186 = .ok (.istore 6, 2) := by decide +kernel
theorem d17_188 : decode prog_13_method_11_code 188 = .ok (.aload_n 0, 1) := by decide +kernel
theorem d17_189 : decode prog_13_method_11_code 189 = .ok (.lload 9, 2) := by decide +kernel
theorem d17_191 : decode prog_13_method_11_code 191 = .ok (.iload 6, 2) := by decide +kernel
theorem d17_193 : decode prog_13_method_11_code 193 = .ok (.invokevirtual 80, 3) := by decide +kernel
theorem d17_196 : decode prog_13_method_11_code 196 = .ok (.iload 6, 2) := by decide +kernel
theorem d17_198 : decode prog_13_method_11_code 198 = .ok (.ireturn, 1) := by decide +kernel
theorem own_pncb0 : plainFor (⟨"com/example/libgfg/libgfg/automaton/LetterSets", "combine", "(III)I"⟩ : MethodName) = true := by first | exact plainFor_of_name (by first | (simp [plainName, overriddenIn, x]; done) | decide +kernel) | decide +kernel
theorem own_efcb0 (A : Nat → Addr) (dep : Nat) (i j : Nat) (m : MethodId) : entryFrame m #[(.ref (A 0)), (.int (0 : Int32)), (.int i.toInt32), (.int j.toInt32)] 14 = mkF m 0 #[.val (.ref (A 0)), .val (.int (0 : Int32)), .val (.int i.toInt32), .val (.int j.toInt32), .unset, .unset, .unset, .unset, .unset, .unset, .unset, .unset, .unset, .unset] [] := by first | (simp [entryFrame, mkF, argsToLocals, Value.category]; done) | rfl
def own_qcb0 (A : Nat → Addr) (dep : Nat) (i j : Nat) (d : own_T) (Z : State) (n0 : Nat) (h0 : Heap) (v : Option Value) (h : Heap) : Prop := ∃ (e : own_T) (r : Int32), v = some (.int r) ∧ own_LS Z h A n0 e ∧ own_Inv e ∧ own_Le d e ∧ o_N e ≤ o_N d + own_cnt dep ∧ own_Sp e 0 i j r
set_option maxRecDepth 65536 in
set_option maxHeartbeats 40000000 in
theorem own_mcb0 (l : Launch) (Z : State) (a0 : Array Value) (hw : ∀ d ∈ tables_1, d.before a0 Z = true) (A : Nat → Addr) (n0 : Nat) (dep : Nat) : ∀ (i j : Nat) (d : own_T) (h0 : Heap) (F : own_LS Z h0 A n0 d) (I : own_Inv d) (hi : i < o_N d) (hj : j < o_N d) (hD : o_D d i + o_D d j ≤ dep + 1) (hN : o_N d + own_cnt dep ≤ 32),
    own_Met l Z (⟨"com/example/libgfg/libgfg/automaton/LetterSets", "combine", "(III)I"⟩ : MethodName) prog_13_method_11_code 14 (some .int) [] ({ frames := dep + 2, cells := 0, slots := 0, locals := 25 * dep + 22 } : Room) #[(.ref (A 0)), (.int (0 : Int32)), (.int i.toInt32), (.int j.toInt32)] h0 n0 (own_qcb0 A dep i j d Z n0 h0) := by
  induction dep with
  | zero =>
    intro i j d h0 F I hi hj hD hN
    refine own_enter (own := "com/example/libgfg/libgfg/automaton/LetterSets") (nm := "combine") rfl rfl own_pncb0 (own_efcb0 A 0 i j) ?_
    intro p e s m below meth c T0 X0
    refine own_iloadN X0 d17_0 rfl rfl ?_
    refine own_if_ne X0 d17_1 (by decide) (pcT := 8) (by decide) rfl (fun hc => absurd hc (by decide)) (fun hc => ?_)
    refine own_iconst X0 (0 : Int32) d17_4 rfl (by decide) ?_
    refine own_goto X0 d17_5 (by decide) (pc' := 9) (by decide) ?_
    refine own_istore X0 (L' := #[.val (.ref (A 0)), .val (.int (0 : Int32)), .val (.int i.toInt32), .val (.int j.toInt32), .val (.int (0 : Int32)), .unset, .unset, .unset, .unset, .unset, .unset, .unset, .unset, .unset]) d17_9 rfl rfl ?_
    refine own_iloadN X0 d17_11 rfl rfl ?_
    refine own_if_ne X0 d17_12 (by decide) (pcT := 19) (by decide) rfl (fun hc => absurd hc (by decide)) (fun hc => ?_)
    refine own_iconst X0 (1 : Int32) d17_15 rfl (by decide) ?_
    refine own_goto X0 d17_16 (by decide) (pc' := 20) (by decide) ?_
    refine own_istore X0 (L' := #[.val (.ref (A 0)), .val (.int (0 : Int32)), .val (.int i.toInt32), .val (.int j.toInt32), .val (.int (0 : Int32)), .val (.int (1 : Int32)), .unset, .unset, .unset, .unset, .unset, .unset, .unset, .unset]) d17_20 rfl rfl ?_
    refine own_iloadN X0 d17_22 rfl rfl ?_
    refine own_iload X0 d17_23 rfl rfl ?_
    refine own_icmp_eq X0 d17_25 (by decide) (pcT := 34) (by decide) rfl (fun hc1 => ?_) (fun hc1 => ?_)
    · skip
      refine own_iload X0 d17_34 rfl rfl ?_
      refine own_istore X0 (L' := #[.val (.ref (A 0)), .val (.int (0 : Int32)), .val (.int i.toInt32), .val (.int j.toInt32), .val (.int (0 : Int32)), .val (.int (1 : Int32)), .val (.int (0 : Int32)), .unset, .unset, .unset, .unset, .unset, .unset, .unset]) d17_36 rfl rfl ?_
      refine own_goto X0 d17_38 (by decide) (pc' := 196) (by decide) ?_
      refine own_iload X0 d17_196 rfl rfl ?_
      have ei : i = 0 := ((own_z (by omega) 0 (by omega)).mp hc1)
      exact own_retI X0 rfl d17_198 ⟨d, (0 : Nat).toInt32, rfl, F, I, own_Le.refl d, Nat.le_add_right _ _, own_sp_of (r := 0) (Or.inl ei.symm) hi hj (fun x => by rw [ei]; simp [own_op, (I.2.2.1.1 x)])⟩ (by first | decide | (dsimp only; omega) | omega) (by first | decide | (dsimp only; omega) | omega)
    · skip
      refine own_iloadN X0 d17_28 rfl rfl ?_
      refine own_iload X0 d17_29 rfl rfl ?_
      refine own_icmp_ne X0 d17_31 (by decide) (pcT := 41) (by decide) rfl (fun hc2 => ?_) (fun hc2 => ?_)
      · skip
        refine own_iloadN X0 d17_41 rfl rfl ?_
        refine own_iload X0 d17_42 rfl rfl ?_
        refine own_icmp_eq X0 d17_44 (by decide) (pcT := 52) (by decide) rfl (fun hc3 => ?_) (fun hc3 => ?_)
        · skip
          refine own_iloadN X0 d17_52 rfl rfl ?_
          refine own_istore X0 (L' := #[.val (.ref (A 0)), .val (.int (0 : Int32)), .val (.int i.toInt32), .val (.int j.toInt32), .val (.int (0 : Int32)), .val (.int (1 : Int32)), .val (.int j.toInt32), .unset, .unset, .unset, .unset, .unset, .unset, .unset]) d17_53 rfl rfl ?_
          refine own_goto X0 d17_55 (by decide) (pc' := 196) (by decide) ?_
          refine own_iload X0 d17_196 rfl rfl ?_
          have ei : i = 1 := ((own_z (by omega) 1 (by omega)).mp hc3)
          exact own_retI X0 rfl d17_198 ⟨d, j.toInt32, rfl, F, I, own_Le.refl d, Nat.le_add_right _ _, own_sp_of (r := j) (Or.inr rfl) hi hj (fun x => by rw [ei]; simp [own_op, (I.2.2.1.2 x)])⟩ (by first | decide | (dsimp only; omega) | omega) (by first | decide | (dsimp only; omega) | omega)
        · skip
          refine own_iloadN X0 d17_47 rfl rfl ?_
          refine own_iloadN X0 d17_48 rfl rfl ?_
          refine own_icmp_ne X0 d17_49 (by decide) (pcT := 58) (by decide) rfl (fun hc4 => ?_) (fun hc4 => ?_)
          · skip
            refine own_iloadN X0 d17_58 rfl rfl ?_
            refine own_iload X0 d17_59 rfl rfl ?_
            refine own_icmp_ne X0 d17_61 (by decide) (pcT := 70) (by decide) rfl (fun hc5 => ?_) (fun hc5 => ?_)
            · skip
              have i0 : i ≠ 0 := fun z => hc1 (by rw [z]; rfl)
              have i1 : i ≠ 1 := fun z => hc3 (by rw [z]; rfl)
              have dn_i : o_D d i ≠ 0 := fun z => by have := own_D0 I hi z; omega
              have j0 : j ≠ 0 := fun z => hc2 (by rw [z]; rfl)
              have j1 : j ≠ 1 := fun z => hc5 (by rw [z]; rfl)
              have dn_j : o_D d j ≠ 0 := fun z => by have := own_D0 I hj z; omega
              exact absurd hD (by omega)
            · skip
              refine own_iloadN X0 d17_64 rfl rfl ?_
              refine own_istore X0 (L' := #[.val (.ref (A 0)), .val (.int (0 : Int32)), .val (.int i.toInt32), .val (.int j.toInt32), .val (.int (0 : Int32)), .val (.int (1 : Int32)), .val (.int i.toInt32), .unset, .unset, .unset, .unset, .unset, .unset, .unset]) d17_65 rfl rfl ?_
              refine own_goto X0 d17_67 (by decide) (pc' := 196) (by decide) ?_
              refine own_iload X0 d17_196 rfl rfl ?_
              have ej : j = 1 := ((own_z (by omega) 1 (by omega)).mp hc5)
              exact own_retI X0 rfl d17_198 ⟨d, i.toInt32, rfl, F, I, own_Le.refl d, Nat.le_add_right _ _, own_sp_of (r := i) (Or.inl rfl) hi hj (fun x => by rw [ej]; simp [own_op, (I.2.2.1.2 x)])⟩ (by first | decide | (dsimp only; omega) | omega) (by first | decide | (dsimp only; omega) | omega)
          · skip
            refine own_iloadN X0 d17_52 rfl rfl ?_
            refine own_istore X0 (L' := #[.val (.ref (A 0)), .val (.int (0 : Int32)), .val (.int i.toInt32), .val (.int j.toInt32), .val (.int (0 : Int32)), .val (.int (1 : Int32)), .val (.int j.toInt32), .unset, .unset, .unset, .unset, .unset, .unset, .unset]) d17_53 rfl rfl ?_
            refine own_goto X0 d17_55 (by decide) (pc' := 196) (by decide) ?_
            refine own_iload X0 d17_196 rfl rfl ?_
            have ee : i = j := (own_z (by omega) j (by omega)).mp hc4
            exact own_retI X0 rfl d17_198 ⟨d, j.toInt32, rfl, F, I, own_Le.refl d, Nat.le_add_right _ _, own_sp_of (r := j) (Or.inr rfl) hi hj (fun x => by rw [ee]; simp [own_op])⟩ (by first | decide | (dsimp only; omega) | omega) (by first | decide | (dsimp only; omega) | omega)
      · skip
        refine own_iload X0 d17_34 rfl rfl ?_
        refine own_istore X0 (L' := #[.val (.ref (A 0)), .val (.int (0 : Int32)), .val (.int i.toInt32), .val (.int j.toInt32), .val (.int (0 : Int32)), .val (.int (1 : Int32)), .val (.int (0 : Int32)), .unset, .unset, .unset, .unset, .unset, .unset, .unset]) d17_36 rfl rfl ?_
        refine own_goto X0 d17_38 (by decide) (pc' := 196) (by decide) ?_
        refine own_iload X0 d17_196 rfl rfl ?_
        have ej : j = 0 := ((own_z (by omega) 0 (by omega)).mp hc2)
        exact own_retI X0 rfl d17_198 ⟨d, (0 : Nat).toInt32, rfl, F, I, own_Le.refl d, Nat.le_add_right _ _, own_sp_of (r := 0) (Or.inr ej.symm) hi hj (fun x => by rw [ej]; simp [own_op, (I.2.2.1.1 x)])⟩ (by first | decide | (dsimp only; omega) | omega) (by first | decide | (dsimp only; omega) | omega)
  | succ dep ih =>
    intro i j d h0 F I hi hj hD hN
    refine own_enter (own := "com/example/libgfg/libgfg/automaton/LetterSets") (nm := "combine") rfl rfl own_pncb0 (own_efcb0 A (dep + 1) i j) ?_
    intro p e s m below meth c T0 X0
    refine own_iloadN X0 d17_0 rfl rfl ?_
    refine own_if_ne X0 d17_1 (by decide) (pcT := 8) (by decide) rfl (fun hc => absurd hc (by decide)) (fun hc => ?_)
    refine own_iconst X0 (0 : Int32) d17_4 rfl (by decide) ?_
    refine own_goto X0 d17_5 (by decide) (pc' := 9) (by decide) ?_
    refine own_istore X0 (L' := #[.val (.ref (A 0)), .val (.int (0 : Int32)), .val (.int i.toInt32), .val (.int j.toInt32), .val (.int (0 : Int32)), .unset, .unset, .unset, .unset, .unset, .unset, .unset, .unset, .unset]) d17_9 rfl rfl ?_
    refine own_iloadN X0 d17_11 rfl rfl ?_
    refine own_if_ne X0 d17_12 (by decide) (pcT := 19) (by decide) rfl (fun hc => absurd hc (by decide)) (fun hc => ?_)
    refine own_iconst X0 (1 : Int32) d17_15 rfl (by decide) ?_
    refine own_goto X0 d17_16 (by decide) (pc' := 20) (by decide) ?_
    refine own_istore X0 (L' := #[.val (.ref (A 0)), .val (.int (0 : Int32)), .val (.int i.toInt32), .val (.int j.toInt32), .val (.int (0 : Int32)), .val (.int (1 : Int32)), .unset, .unset, .unset, .unset, .unset, .unset, .unset, .unset]) d17_20 rfl rfl ?_
    refine own_iloadN X0 d17_22 rfl rfl ?_
    refine own_iload X0 d17_23 rfl rfl ?_
    refine own_icmp_eq X0 d17_25 (by decide) (pcT := 34) (by decide) rfl (fun hc1 => ?_) (fun hc1 => ?_)
    · skip
      refine own_iload X0 d17_34 rfl rfl ?_
      refine own_istore X0 (L' := #[.val (.ref (A 0)), .val (.int (0 : Int32)), .val (.int i.toInt32), .val (.int j.toInt32), .val (.int (0 : Int32)), .val (.int (1 : Int32)), .val (.int (0 : Int32)), .unset, .unset, .unset, .unset, .unset, .unset, .unset]) d17_36 rfl rfl ?_
      refine own_goto X0 d17_38 (by decide) (pc' := 196) (by decide) ?_
      refine own_iload X0 d17_196 rfl rfl ?_
      have ei : i = 0 := ((own_z (by omega) 0 (by omega)).mp hc1)
      exact own_retI X0 rfl d17_198 ⟨d, (0 : Nat).toInt32, rfl, F, I, own_Le.refl d, Nat.le_add_right _ _, own_sp_of (r := 0) (Or.inl ei.symm) hi hj (fun x => by rw [ei]; simp [own_op, (I.2.2.1.1 x)])⟩ (by first | decide | (dsimp only; omega) | omega) (by first | decide | (dsimp only; omega) | omega)
    · skip
      refine own_iloadN X0 d17_28 rfl rfl ?_
      refine own_iload X0 d17_29 rfl rfl ?_
      refine own_icmp_ne X0 d17_31 (by decide) (pcT := 41) (by decide) rfl (fun hc2 => ?_) (fun hc2 => ?_)
      · skip
        refine own_iloadN X0 d17_41 rfl rfl ?_
        refine own_iload X0 d17_42 rfl rfl ?_
        refine own_icmp_eq X0 d17_44 (by decide) (pcT := 52) (by decide) rfl (fun hc3 => ?_) (fun hc3 => ?_)
        · skip
          refine own_iloadN X0 d17_52 rfl rfl ?_
          refine own_istore X0 (L' := #[.val (.ref (A 0)), .val (.int (0 : Int32)), .val (.int i.toInt32), .val (.int j.toInt32), .val (.int (0 : Int32)), .val (.int (1 : Int32)), .val (.int j.toInt32), .unset, .unset, .unset, .unset, .unset, .unset, .unset]) d17_53 rfl rfl ?_
          refine own_goto X0 d17_55 (by decide) (pc' := 196) (by decide) ?_
          refine own_iload X0 d17_196 rfl rfl ?_
          have ei : i = 1 := ((own_z (by omega) 1 (by omega)).mp hc3)
          exact own_retI X0 rfl d17_198 ⟨d, j.toInt32, rfl, F, I, own_Le.refl d, Nat.le_add_right _ _, own_sp_of (r := j) (Or.inr rfl) hi hj (fun x => by rw [ei]; simp [own_op, (I.2.2.1.2 x)])⟩ (by first | decide | (dsimp only; omega) | omega) (by first | decide | (dsimp only; omega) | omega)
        · skip
          refine own_iloadN X0 d17_47 rfl rfl ?_
          refine own_iloadN X0 d17_48 rfl rfl ?_
          refine own_icmp_ne X0 d17_49 (by decide) (pcT := 58) (by decide) rfl (fun hc4 => ?_) (fun hc4 => ?_)
          · skip
            refine own_iloadN X0 d17_58 rfl rfl ?_
            refine own_iload X0 d17_59 rfl rfl ?_
            refine own_icmp_ne X0 d17_61 (by decide) (pcT := 70) (by decide) rfl (fun hc5 => ?_) (fun hc5 => ?_)
            · skip
              have i0 : i ≠ 0 := fun z => hc1 (by rw [z]; rfl)
              have i1 : i ≠ 1 := fun z => hc3 (by rw [z]; rfl)
              have dn_i : o_D d i ≠ 0 := fun z => by have := own_D0 I hi z; omega
              have j0 : j ≠ 0 := fun z => hc2 (by rw [z]; rfl)
              have j1 : j ≠ 1 := fun z => hc5 (by rw [z]; rfl)
              have dn_j : o_D d j ≠ 0 := fun z => by have := own_D0 I hj z; omega
              have hcn : own_cnt (dep + 1) = 2 * own_cnt dep + 1 := rfl
              refine own_iloadN X0 d17_70 rfl rfl ?_
              refine own_iloadN X0 d17_71 rfl rfl ?_
              refine own_callS X0 (hw _ (List.mem_of_getElem? (i := 112) rfl)) (hw _ (List.mem_of_getElem? (i := 113) rfl)) (hw _ (List.mem_of_getElem? (i := 114) rfl)) (hw _ (List.mem_of_getElem? (i := 115) rfl)) (by decide) (argsL := [(.int i.toInt32), (.int j.toInt32)]) (rest := []) (own_mmn l Z a0 hw [] (i.toInt32) (j.toInt32) _ _) (pd_18) rfl d17_72 rfl rfl rfl (W := 0) rfl (by first | decide | (dsimp only; omega) | omega) (by first | decide | (dsimp only; omega) | omega) (cells' := 0) (slots' := 0) rfl rfl (by first | decide | (dsimp only; omega) | omega) (by first | decide | (dsimp only; omega) | omega) (fun v T6 h8 X7 q9 => ?_)
              obtain ⟨rfl, rfl⟩ := q9
              show own_Fin p e below (own_End s n0 (own_qcb0 A (dep + 1) i j d Z n0 h0) ({ frames := (dep + 1) + 2, cells := 0, slots := 0, locals := 25 * (dep + 1) + 22 } : Room).cells ({ frames := (dep + 1) + 2, cells := 0, slots := 0, locals := 25 * (dep + 1) + 22 } : Room).slots) (T6.setTop (mkF m 75 #[.val (.ref (A 0)), .val (.int (0 : Int32)), .val (.int i.toInt32), .val (.int j.toInt32), .val (.int (0 : Int32)), .val (.int (1 : Int32)), .unset, .unset, .unset, .unset, .unset, .unset, .unset, .unset] [(.int (own_fmn (i.toInt32) (j.toInt32)))]))
              rw [own_mnN (by omega) (by omega)]
              show own_Fin p e below (own_End s n0 (own_qcb0 A (dep + 1) i j d Z n0 h0) ({ frames := (dep + 1) + 2, cells := 0, slots := 0, locals := 25 * (dep + 1) + 22 } : Room).cells ({ frames := (dep + 1) + 2, cells := 0, slots := 0, locals := 25 * (dep + 1) + 22 } : Room).slots) (T6.setTop (mkF m 75 #[.val (.ref (A 0)), .val (.int (0 : Int32)), .val (.int i.toInt32), .val (.int j.toInt32), .val (.int (0 : Int32)), .val (.int (1 : Int32)), .unset, .unset, .unset, .unset, .unset, .unset, .unset, .unset] [(.int (min i j).toInt32)]))
              refine own_istore X7 (L' := #[.val (.ref (A 0)), .val (.int (0 : Int32)), .val (.int i.toInt32), .val (.int j.toInt32), .val (.int (0 : Int32)), .val (.int (1 : Int32)), .unset, .val (.int (min i j).toInt32), .unset, .unset, .unset, .unset, .unset, .unset]) d17_75 rfl rfl ?_
              refine own_iloadN X7 d17_77 rfl rfl ?_
              refine own_iloadN X7 d17_78 rfl rfl ?_
              refine own_callS X7 (hw _ (List.mem_of_getElem? (i := 116) rfl)) (hw _ (List.mem_of_getElem? (i := 117) rfl)) (hw _ (List.mem_of_getElem? (i := 114) rfl)) (hw _ (List.mem_of_getElem? (i := 118) rfl)) (by decide) (argsL := [(.int i.toInt32), (.int j.toInt32)]) (rest := []) (own_mmx l Z a0 hw [] (i.toInt32) (j.toInt32) _ _) (pd_19) rfl d17_79 rfl rfl rfl (W := 0) rfl (by first | decide | (dsimp only; omega) | omega) (by first | decide | (dsimp only; omega) | omega) (cells' := 0) (slots' := 0) rfl rfl (by first | decide | (dsimp only; omega) | omega) (by first | decide | (dsimp only; omega) | omega) (fun v T10 h12 X11 q13 => ?_)
              obtain ⟨rfl, rfl⟩ := q13
              show own_Fin p e below (own_End s n0 (own_qcb0 A (dep + 1) i j d Z n0 h0) ({ frames := (dep + 1) + 2, cells := 0, slots := 0, locals := 25 * (dep + 1) + 22 } : Room).cells ({ frames := (dep + 1) + 2, cells := 0, slots := 0, locals := 25 * (dep + 1) + 22 } : Room).slots) (T10.setTop (mkF m 82 #[.val (.ref (A 0)), .val (.int (0 : Int32)), .val (.int i.toInt32), .val (.int j.toInt32), .val (.int (0 : Int32)), .val (.int (1 : Int32)), .unset, .val (.int (min i j).toInt32), .unset, .unset, .unset, .unset, .unset, .unset] [(.int (own_fmx (i.toInt32) (j.toInt32)))]))
              rw [own_mxN (by omega) (by omega)]
              show own_Fin p e below (own_End s n0 (own_qcb0 A (dep + 1) i j d Z n0 h0) ({ frames := (dep + 1) + 2, cells := 0, slots := 0, locals := 25 * (dep + 1) + 22 } : Room).cells ({ frames := (dep + 1) + 2, cells := 0, slots := 0, locals := 25 * (dep + 1) + 22 } : Room).slots) (T10.setTop (mkF m 82 #[.val (.ref (A 0)), .val (.int (0 : Int32)), .val (.int i.toInt32), .val (.int j.toInt32), .val (.int (0 : Int32)), .val (.int (1 : Int32)), .unset, .val (.int (min i j).toInt32), .unset, .unset, .unset, .unset, .unset, .unset] [(.int (max i j).toInt32)]))
              refine own_istore X11 (L' := #[.val (.ref (A 0)), .val (.int (0 : Int32)), .val (.int i.toInt32), .val (.int j.toInt32), .val (.int (0 : Int32)), .val (.int (1 : Int32)), .unset, .val (.int (min i j).toInt32), .val (.int (max i j).toInt32), .unset, .unset, .unset, .unset, .unset]) d17_82 rfl rfl ?_
              refine own_iloadN X11 d17_84 rfl rfl ?_
              refine own_iload X11 d17_85 rfl rfl ?_
              refine own_iload X11 d17_87 rfl rfl ?_
              refine own_callS X11 (hw _ (List.mem_of_getElem? (i := 68) rfl)) (hw _ (List.mem_of_getElem? (i := 69) rfl)) (hw _ (List.mem_of_getElem? (i := 2) rfl)) (hw _ (List.mem_of_getElem? (i := 70) rfl)) (by decide) (argsL := [(.int (0 : Int32)), (.int (min i j).toInt32), (.int (max i j).toInt32)]) (rest := []) (own_mpk l Z a0 hw [] (0 : Int32) ((min i j).toInt32) ((max i j).toInt32) _ _) (pd_8) rfl d17_89 rfl rfl rfl (W := 0) rfl (by first | decide | (dsimp only; omega) | omega) (by first | decide | (dsimp only; omega) | omega) (cells' := 0) (slots' := 0) rfl rfl (by first | decide | (dsimp only; omega) | omega) (by first | decide | (dsimp only; omega) | omega) (fun v T14 h16 X15 q17 => ?_)
              obtain ⟨rfl, rfl⟩ := q17
              show own_Fin p e below (own_End s n0 (own_qcb0 A (dep + 1) i j d Z n0 h0) ({ frames := (dep + 1) + 2, cells := 0, slots := 0, locals := 25 * (dep + 1) + 22 } : Room).cells ({ frames := (dep + 1) + 2, cells := 0, slots := 0, locals := 25 * (dep + 1) + 22 } : Room).slots) (T14.setTop (mkF m 92 #[.val (.ref (A 0)), .val (.int (0 : Int32)), .val (.int i.toInt32), .val (.int j.toInt32), .val (.int (0 : Int32)), .val (.int (1 : Int32)), .unset, .val (.int (min i j).toInt32), .val (.int (max i j).toInt32), .unset, .unset, .unset, .unset, .unset] [(.long (own_fpk (0 : Int32) ((min i j).toInt32) ((max i j).toInt32)))]))
              show own_Fin p e below (own_End s n0 (own_qcb0 A (dep + 1) i j d Z n0 h0) ({ frames := (dep + 1) + 2, cells := 0, slots := 0, locals := 25 * (dep + 1) + 22 } : Room).cells ({ frames := (dep + 1) + 2, cells := 0, slots := 0, locals := 25 * (dep + 1) + 22 } : Room).slots) (T14.setTop (mkF m 92 #[.val (.ref (A 0)), .val (.int (0 : Int32)), .val (.int i.toInt32), .val (.int j.toInt32), .val (.int (0 : Int32)), .val (.int (1 : Int32)), .unset, .val (.int (min i j).toInt32), .val (.int (max i j).toInt32), .unset, .unset, .unset, .unset, .unset] [(.long (own_pk 0 (min i j) (max i j)))]))
              refine own_lstore X15 (L' := #[.val (.ref (A 0)), .val (.int (0 : Int32)), .val (.int i.toInt32), .val (.int j.toInt32), .val (.int (0 : Int32)), .val (.int (1 : Int32)), .unset, .val (.int (min i j).toInt32), .val (.int (max i j).toInt32), .val (.long (own_pk 0 (min i j) (max i j))), .second, .unset, .unset, .unset]) d17_92 rfl rfl ?_
              refine own_aloadN X15 d17_94 rfl rfl rfl ?_
              refine own_lload X15 d17_95 rfl rfl ?_
              refine own_callP X15 (hw _ (List.mem_of_getElem? (i := 90) rfl)) (hw _ (List.mem_of_getElem? (i := 91) rfl)) (hw _ (List.mem_of_getElem? (i := 92) rfl)) (hw _ (List.mem_of_getElem? (i := 2) rfl)) (hw _ (List.mem_of_getElem? (i := 93) rfl)) (hw _ (List.mem_of_getElem? (i := 58) rfl)) (hw _ (List.mem_of_getElem? (i := 57) rfl)) rfl (by decide) (argsL := [(.long (own_pk 0 (min i j) (max i j)))]) (rest := []) (own_mcd l Z a0 hw A n0 (own_pk 0 (min i j) (max i j)) d _ F) (own_LS_exa F) (pd_13) rfl d17_97 rfl rfl rfl (W := 0) rfl (by first | decide | (dsimp only; omega) | omega) (by first | decide | (dsimp only; omega) | omega) (cells' := 0) (slots' := 0) rfl rfl (by first | decide | (dsimp only; omega) | omega) (by first | decide | (dsimp only; omega) | omega) (fun v T18 h20 X19 q21 => ?_)
              obtain ⟨rfl, rfl⟩ := q21
              show own_Fin p e below (own_End s n0 (own_qcb0 A (dep + 1) i j d Z n0 h0) ({ frames := (dep + 1) + 2, cells := 0, slots := 0, locals := 25 * (dep + 1) + 22 } : Room).cells ({ frames := (dep + 1) + 2, cells := 0, slots := 0, locals := 25 * (dep + 1) + 22 } : Room).slots) (T18.setTop (mkF m 100 #[.val (.ref (A 0)), .val (.int (0 : Int32)), .val (.int i.toInt32), .val (.int j.toInt32), .val (.int (0 : Int32)), .val (.int (1 : Int32)), .unset, .val (.int (min i j).toInt32), .val (.int (max i j).toInt32), .val (.long (own_pk 0 (min i j) (max i j))), .second, .unset, .unset, .unset] [(.int (own_cd d (own_pk 0 (min i j) (max i j))))]))
              refine own_istore X19 (L' := #[.val (.ref (A 0)), .val (.int (0 : Int32)), .val (.int i.toInt32), .val (.int j.toInt32), .val (.int (0 : Int32)), .val (.int (1 : Int32)), .val (.int (own_cd d (own_pk 0 (min i j) (max i j)))), .val (.int (min i j).toInt32), .val (.int (max i j).toInt32), .val (.long (own_pk 0 (min i j) (max i j))), .second, .unset, .unset, .unset]) d17_100 rfl rfl ?_
              refine own_iload X19 d17_102 rfl rfl ?_
              refine own_if_ge X19 d17_104 (by decide) (pcT := 196) (by decide) rfl (fun hc22 => ?_) (fun hc22 => ?_)
              · skip
                refine own_iload X19 d17_196 rfl rfl ?_
                exact own_retI X19 rfl d17_198 ⟨d, (own_cd d (own_pk 0 (min i j) (max i j))), rfl, F, I, own_Le.refl d, Nat.le_add_right _ _, own_sp_comm (by decide) (own_cd_hit I (op := 0) (by decide) (by omega) (by omega) hc22)⟩ (by first | decide | (dsimp only; omega) | omega) (by first | decide | (dsimp only; omega) | omega)
              · skip
                refine own_aloadN X19 d17_107 rfl rfl rfl ?_
                refine own_getf X19 (hw _ (List.mem_of_getElem? (i := 18) rfl)) (own_LS_f_tested F) d17_108 rfl (fun T23 X24 => ?_)
                refine own_iload X24 d17_111 rfl rfl ?_
                refine own_ialoadF X24 (j := (min i j)) (own_LS_a1 F) (by decide) (by omega) d17_113 rfl ?_
                show own_Fin p e below (own_End s n0 (own_qcb0 A (dep + 1) i j d Z n0 h0) ({ frames := (dep + 1) + 2, cells := 0, slots := 0, locals := 25 * (dep + 1) + 22 } : Room).cells ({ frames := (dep + 1) + 2, cells := 0, slots := 0, locals := 25 * (dep + 1) + 22 } : Room).slots) (T23.setTop (mkF m 114 #[.val (.ref (A 0)), .val (.int (0 : Int32)), .val (.int i.toInt32), .val (.int j.toInt32), .val (.int (0 : Int32)), .val (.int (1 : Int32)), .val (.int (own_cd d (own_pk 0 (min i j) (max i j)))), .val (.int (min i j).toInt32), .val (.int (max i j).toInt32), .val (.long (own_pk 0 (min i j) (max i j))), .second, .unset, .unset, .unset] [(.int (o_te d (min i j)))]))
                refine own_aloadN X24 d17_114 rfl rfl rfl ?_
                refine own_getf X24 (hw _ (List.mem_of_getElem? (i := 18) rfl)) (own_LS_f_tested F) d17_115 rfl (fun T25 X26 => ?_)
                refine own_iload X26 d17_118 rfl rfl ?_
                refine own_ialoadF X26 (j := (max i j)) (own_LS_a1 F) (by decide) (by omega) d17_120 rfl ?_
                show own_Fin p e below (own_End s n0 (own_qcb0 A (dep + 1) i j d Z n0 h0) ({ frames := (dep + 1) + 2, cells := 0, slots := 0, locals := 25 * (dep + 1) + 22 } : Room).cells ({ frames := (dep + 1) + 2, cells := 0, slots := 0, locals := 25 * (dep + 1) + 22 } : Room).slots) (T25.setTop (mkF m 121 #[.val (.ref (A 0)), .val (.int (0 : Int32)), .val (.int i.toInt32), .val (.int j.toInt32), .val (.int (0 : Int32)), .val (.int (1 : Int32)), .val (.int (own_cd d (own_pk 0 (min i j) (max i j)))), .val (.int (min i j).toInt32), .val (.int (max i j).toInt32), .val (.long (own_pk 0 (min i j) (max i j))), .second, .unset, .unset, .unset] [(.int (o_te d (max i j))), (.int (o_te d (min i j)))]))
                refine own_callS X26 (hw _ (List.mem_of_getElem? (i := 116) rfl)) (hw _ (List.mem_of_getElem? (i := 117) rfl)) (hw _ (List.mem_of_getElem? (i := 114) rfl)) (hw _ (List.mem_of_getElem? (i := 118) rfl)) (by decide) (argsL := [(.int (o_te d (min i j))), (.int (o_te d (max i j)))]) (rest := []) (own_mmx l Z a0 hw [] (o_te d (min i j)) (o_te d (max i j)) _ _) (pd_19) rfl d17_121 rfl rfl rfl (W := 0) rfl (by first | decide | (dsimp only; omega) | omega) (by first | decide | (dsimp only; omega) | omega) (cells' := 0) (slots' := 0) rfl rfl (by first | decide | (dsimp only; omega) | omega) (by first | decide | (dsimp only; omega) | omega) (fun v T27 h29 X28 q30 => ?_)
                obtain ⟨rfl, rfl⟩ := q30
                show own_Fin p e below (own_End s n0 (own_qcb0 A (dep + 1) i j d Z n0 h0) ({ frames := (dep + 1) + 2, cells := 0, slots := 0, locals := 25 * (dep + 1) + 22 } : Room).cells ({ frames := (dep + 1) + 2, cells := 0, slots := 0, locals := 25 * (dep + 1) + 22 } : Room).slots) (T27.setTop (mkF m 124 #[.val (.ref (A 0)), .val (.int (0 : Int32)), .val (.int i.toInt32), .val (.int j.toInt32), .val (.int (0 : Int32)), .val (.int (1 : Int32)), .val (.int (own_cd d (own_pk 0 (min i j) (max i j)))), .val (.int (min i j).toInt32), .val (.int (max i j).toInt32), .val (.long (own_pk 0 (min i j) (max i j))), .second, .unset, .unset, .unset] [(.int (own_fmx (o_te d (min i j)) (o_te d (max i j))))]))
                obtain ⟨tp, htp⟩ : ∃ z, z = (own_fmx (o_te d (min i j)) (o_te d (max i j))) := ⟨_, rfl⟩
                rw [← htp]
                show own_Fin p e below (own_End s n0 (own_qcb0 A (dep + 1) i j d Z n0 h0) ({ frames := (dep + 1) + 2, cells := 0, slots := 0, locals := 25 * (dep + 1) + 22 } : Room).cells ({ frames := (dep + 1) + 2, cells := 0, slots := 0, locals := 25 * (dep + 1) + 22 } : Room).slots) (T27.setTop (mkF m 124 #[.val (.ref (A 0)), .val (.int (0 : Int32)), .val (.int i.toInt32), .val (.int j.toInt32), .val (.int (0 : Int32)), .val (.int (1 : Int32)), .val (.int (own_cd d (own_pk 0 (min i j) (max i j)))), .val (.int (min i j).toInt32), .val (.int (max i j).toInt32), .val (.long (own_pk 0 (min i j) (max i j))), .second, .unset, .unset, .unset] [(.int tp)]))
                obtain ⟨t1, t2, t3⟩ := own_tp htp
                have ha : min i j < o_N d := by omega
                have hb : max i j < o_N d := by omega
                have t0 : ¬ tp < 0 := fun z => by
                  rcases t3 with q | q
                  · rw [q] at z; have := (own_leaf I ha).mp z; omega
                  · rw [q] at z; have := (own_leaf I hb).mp z; omega
                have t64 : tp < 64 := by
                  rcases t3 with q | q
                  · rw [q]; exact (I.2.2.2.2.1 (min i j) (by omega) ha).2.1
                  · rw [q]; exact (I.2.2.2.2.1 (max i j) (by omega) hb).2.1
                have A0 := own_br_ok I ha t1 t0 0
                have B0 := own_br_ok I hb t2 t0 0
                have A1 := own_br_ok I ha t1 t0 1
                have B1 := own_br_ok I hb t2 t0 1
                have dA : o_te d (min i j) = tp ∨ o_te d (max i j) = tp := t3.imp Eq.symm Eq.symm
                have eD : o_D d (min i j) + o_D d (max i j) = o_D d i + o_D d j := by
                  by_cases q : i ≤ j
                  · rw [Nat.min_eq_left q, Nat.max_eq_right q]
                  · rw [Nat.min_eq_right (by omega), Nat.max_eq_left (by omega)]; omega
                have D0 : o_D d (own_br d (min i j) tp 0) + o_D d (own_br d (max i j) tp 0) ≤ dep + 1 := by
                  have := A0.2.2.2.1; have := B0.2.2.2.1
                  rcases dA with q | q
                  · have := A0.2.2.2.2 q; omega
                  · have := B0.2.2.2.2 q; omega
                have D1 : o_D d (own_br d (min i j) tp 1) + o_D d (own_br d (max i j) tp 1) ≤ dep + 1 := by
                  have := A1.2.2.2.1; have := B1.2.2.2.1
                  rcases dA with q | q
                  · have := A1.2.2.2.2 q; omega
                  · have := B1.2.2.2.2 q; omega
                refine own_istore X28 (L' := #[.val (.ref (A 0)), .val (.int (0 : Int32)), .val (.int i.toInt32), .val (.int j.toInt32), .val (.int (0 : Int32)), .val (.int (1 : Int32)), .val (.int (own_cd d (own_pk 0 (min i j) (max i j)))), .val (.int (min i j).toInt32), .val (.int (max i j).toInt32), .val (.long (own_pk 0 (min i j) (max i j))), .second, .val (.int tp), .unset, .unset]) d17_124 rfl rfl ?_
                refine own_aloadN X28 d17_126 rfl rfl rfl ?_
                refine own_iloadN X28 d17_127 rfl rfl ?_
                refine own_aloadN X28 d17_128 rfl rfl rfl ?_
                refine own_iload X28 d17_129 rfl rfl ?_
                refine own_iload X28 d17_131 rfl rfl ?_
                refine own_iconst X28 (0 : Int32) d17_133 rfl (by decide) ?_
                refine own_callP X28 (hw _ (List.mem_of_getElem? (i := 119) rfl)) (hw _ (List.mem_of_getElem? (i := 120) rfl)) (hw _ (List.mem_of_getElem? (i := 121) rfl)) (hw _ (List.mem_of_getElem? (i := 2) rfl)) (hw _ (List.mem_of_getElem? (i := 122) rfl)) (hw _ (List.mem_of_getElem? (i := 58) rfl)) (hw _ (List.mem_of_getElem? (i := 57) rfl)) rfl (by decide) (argsL := [(.int (min i j).toInt32), (.int tp), (.int (0 : Int32))]) (rest := [(.int (0 : Int32)), (.ref (A 0))]) (own_mbr l Z a0 hw A n0 (min i j) tp 0 d _ F (by omega)) (own_LS_exa F) (pd_20) rfl d17_134 rfl rfl rfl (W := 2) rfl (by first | decide | (dsimp only; omega) | omega) (by first | decide | (dsimp only; omega) | omega) (cells' := 0) (slots' := 0) rfl rfl (by first | decide | (dsimp only; omega) | omega) (by first | decide | (dsimp only; omega) | omega) (fun v T31 h33 X32 q34 => ?_)
                obtain ⟨rfl, rfl⟩ := q34
                show own_Fin p e below (own_End s n0 (own_qcb0 A (dep + 1) i j d Z n0 h0) ({ frames := (dep + 1) + 2, cells := 0, slots := 0, locals := 25 * (dep + 1) + 22 } : Room).cells ({ frames := (dep + 1) + 2, cells := 0, slots := 0, locals := 25 * (dep + 1) + 22 } : Room).slots) (T31.setTop (mkF m 137 #[.val (.ref (A 0)), .val (.int (0 : Int32)), .val (.int i.toInt32), .val (.int j.toInt32), .val (.int (0 : Int32)), .val (.int (1 : Int32)), .val (.int (own_cd d (own_pk 0 (min i j) (max i j)))), .val (.int (min i j).toInt32), .val (.int (max i j).toInt32), .val (.long (own_pk 0 (min i j) (max i j))), .second, .val (.int tp), .unset, .unset] [(.int (own_br d (min i j) tp 0).toInt32), (.int (0 : Int32)), (.ref (A 0))]))
                refine own_aloadN X32 d17_137 rfl rfl rfl ?_
                refine own_iload X32 d17_138 rfl rfl ?_
                refine own_iload X32 d17_140 rfl rfl ?_
                refine own_iconst X32 (0 : Int32) d17_142 rfl (by decide) ?_
                refine own_callP X32 (hw _ (List.mem_of_getElem? (i := 119) rfl)) (hw _ (List.mem_of_getElem? (i := 120) rfl)) (hw _ (List.mem_of_getElem? (i := 121) rfl)) (hw _ (List.mem_of_getElem? (i := 2) rfl)) (hw _ (List.mem_of_getElem? (i := 122) rfl)) (hw _ (List.mem_of_getElem? (i := 58) rfl)) (hw _ (List.mem_of_getElem? (i := 57) rfl)) rfl (by decide) (argsL := [(.int (max i j).toInt32), (.int tp), (.int (0 : Int32))]) (rest := [(.int (own_br d (min i j) tp 0).toInt32), (.int (0 : Int32)), (.ref (A 0))]) (own_mbr l Z a0 hw A n0 (max i j) tp 0 d _ F (by omega)) (own_LS_exa F) (pd_20) rfl d17_143 rfl rfl rfl (W := 3) rfl (by first | decide | (dsimp only; omega) | omega) (by first | decide | (dsimp only; omega) | omega) (cells' := 0) (slots' := 0) rfl rfl (by first | decide | (dsimp only; omega) | omega) (by first | decide | (dsimp only; omega) | omega) (fun v T35 h37 X36 q38 => ?_)
                obtain ⟨rfl, rfl⟩ := q38
                show own_Fin p e below (own_End s n0 (own_qcb0 A (dep + 1) i j d Z n0 h0) ({ frames := (dep + 1) + 2, cells := 0, slots := 0, locals := 25 * (dep + 1) + 22 } : Room).cells ({ frames := (dep + 1) + 2, cells := 0, slots := 0, locals := 25 * (dep + 1) + 22 } : Room).slots) (T35.setTop (mkF m 146 #[.val (.ref (A 0)), .val (.int (0 : Int32)), .val (.int i.toInt32), .val (.int j.toInt32), .val (.int (0 : Int32)), .val (.int (1 : Int32)), .val (.int (own_cd d (own_pk 0 (min i j) (max i j)))), .val (.int (min i j).toInt32), .val (.int (max i j).toInt32), .val (.long (own_pk 0 (min i j) (max i j))), .second, .val (.int tp), .unset, .unset] [(.int (own_br d (max i j) tp 0).toInt32), (.int (own_br d (min i j) tp 0).toInt32), (.int (0 : Int32)), (.ref (A 0))]))
                refine own_callP X36 (hw _ (List.mem_of_getElem? (i := 108) rfl)) (hw _ (List.mem_of_getElem? (i := 109) rfl)) (hw _ (List.mem_of_getElem? (i := 110) rfl)) (hw _ (List.mem_of_getElem? (i := 2) rfl)) (hw _ (List.mem_of_getElem? (i := 111) rfl)) (hw _ (List.mem_of_getElem? (i := 58) rfl)) (hw _ (List.mem_of_getElem? (i := 57) rfl)) rfl (by decide) (argsL := [(.int (0 : Int32)), (.int (own_br d (min i j) tp 0).toInt32), (.int (own_br d (max i j) tp 0).toInt32)]) (rest := []) (ih (own_br d (min i j) tp 0) (own_br d (max i j) tp 0) d _ F I A0.1 B0.1 D0 (by omega)) (own_LS_exa F) (pd_17) rfl d17_146 rfl rfl rfl (W := 0) rfl (by first | decide | (dsimp only; omega) | omega) (by first | decide | (dsimp only; omega) | omega) (cells' := 0) (slots' := 0) rfl rfl (by first | decide | (dsimp only; omega) | omega) (by first | decide | (dsimp only; omega) | omega) (fun v T39 h41 X40 q42 => ?_)
                obtain ⟨e1, q1', rfl, P1, I1, L1, N1, S1⟩ := q42
                show own_Fin p e below (own_End s n0 (own_qcb0 A (dep + 1) i j d Z n0 h0) ({ frames := (dep + 1) + 2, cells := 0, slots := 0, locals := 25 * (dep + 1) + 22 } : Room).cells ({ frames := (dep + 1) + 2, cells := 0, slots := 0, locals := 25 * (dep + 1) + 22 } : Room).slots) (T39.setTop (mkF m 149 #[.val (.ref (A 0)), .val (.int (0 : Int32)), .val (.int i.toInt32), .val (.int j.toInt32), .val (.int (0 : Int32)), .val (.int (1 : Int32)), .val (.int (own_cd d (own_pk 0 (min i j) (max i j)))), .val (.int (min i j).toInt32), .val (.int (max i j).toInt32), .val (.long (own_pk 0 (min i j) (max i j))), .second, .val (.int tp), .unset, .unset] [(.int q1')]))
                obtain ⟨q1, rfl, g1, -⟩ := id S1
                show own_Fin p e below (own_End s n0 (own_qcb0 A (dep + 1) i j d Z n0 h0) ({ frames := (dep + 1) + 2, cells := 0, slots := 0, locals := 25 * (dep + 1) + 22 } : Room).cells ({ frames := (dep + 1) + 2, cells := 0, slots := 0, locals := 25 * (dep + 1) + 22 } : Room).slots) (T39.setTop (mkF m 149 #[.val (.ref (A 0)), .val (.int (0 : Int32)), .val (.int i.toInt32), .val (.int j.toInt32), .val (.int (0 : Int32)), .val (.int (1 : Int32)), .val (.int (own_cd d (own_pk 0 (min i j) (max i j)))), .val (.int (min i j).toInt32), .val (.int (max i j).toInt32), .val (.long (own_pk 0 (min i j) (max i j))), .second, .val (.int tp), .unset, .unset] [(.int q1.toInt32)]))
                refine own_istore X40 (L' := #[.val (.ref (A 0)), .val (.int (0 : Int32)), .val (.int i.toInt32), .val (.int j.toInt32), .val (.int (0 : Int32)), .val (.int (1 : Int32)), .val (.int (own_cd d (own_pk 0 (min i j) (max i j)))), .val (.int (min i j).toInt32), .val (.int (max i j).toInt32), .val (.long (own_pk 0 (min i j) (max i j))), .second, .val (.int tp), .val (.int q1.toInt32), .unset]) d17_149 rfl rfl ?_
                refine own_aloadN X40 d17_151 rfl rfl rfl ?_
                refine own_iloadN X40 d17_152 rfl rfl ?_
                refine own_aloadN X40 d17_153 rfl rfl rfl ?_
                refine own_iload X40 d17_154 rfl rfl ?_
                refine own_iload X40 d17_156 rfl rfl ?_
                refine own_iconst X40 (1 : Int32) d17_158 rfl (by decide) ?_
                refine own_callP X40 (hw _ (List.mem_of_getElem? (i := 119) rfl)) (hw _ (List.mem_of_getElem? (i := 120) rfl)) (hw _ (List.mem_of_getElem? (i := 121) rfl)) (hw _ (List.mem_of_getElem? (i := 2) rfl)) (hw _ (List.mem_of_getElem? (i := 122) rfl)) (hw _ (List.mem_of_getElem? (i := 58) rfl)) (hw _ (List.mem_of_getElem? (i := 57) rfl)) rfl (by decide) (argsL := [(.int (min i j).toInt32), (.int tp), (.int (1 : Int32))]) (rest := [(.int (0 : Int32)), (.ref (A 0))]) (own_mbr l Z a0 hw A n0 (min i j) tp 1 e1 _ P1 (by omega)) (own_LS_exa P1) (pd_20) rfl d17_159 rfl rfl rfl (W := 2) rfl (by first | decide | (dsimp only; omega) | omega) (by first | decide | (dsimp only; omega) | omega) (cells' := 0) (slots' := 0) rfl rfl (by first | decide | (dsimp only; omega) | omega) (by first | decide | (dsimp only; omega) | omega) (fun v T43 h45 X44 q46 => ?_)
                obtain ⟨rfl, rfl⟩ := q46
                show own_Fin p e below (own_End s n0 (own_qcb0 A (dep + 1) i j d Z n0 h0) ({ frames := (dep + 1) + 2, cells := 0, slots := 0, locals := 25 * (dep + 1) + 22 } : Room).cells ({ frames := (dep + 1) + 2, cells := 0, slots := 0, locals := 25 * (dep + 1) + 22 } : Room).slots) (T43.setTop (mkF m 162 #[.val (.ref (A 0)), .val (.int (0 : Int32)), .val (.int i.toInt32), .val (.int j.toInt32), .val (.int (0 : Int32)), .val (.int (1 : Int32)), .val (.int (own_cd d (own_pk 0 (min i j) (max i j)))), .val (.int (min i j).toInt32), .val (.int (max i j).toInt32), .val (.long (own_pk 0 (min i j) (max i j))), .second, .val (.int tp), .val (.int q1.toInt32), .unset] [(.int (own_br e1 (min i j) tp 1).toInt32), (.int (0 : Int32)), (.ref (A 0))]))
                rw [own_br_le L1 ha]
                show own_Fin p e below (own_End s n0 (own_qcb0 A (dep + 1) i j d Z n0 h0) ({ frames := (dep + 1) + 2, cells := 0, slots := 0, locals := 25 * (dep + 1) + 22 } : Room).cells ({ frames := (dep + 1) + 2, cells := 0, slots := 0, locals := 25 * (dep + 1) + 22 } : Room).slots) (T43.setTop (mkF m 162 #[.val (.ref (A 0)), .val (.int (0 : Int32)), .val (.int i.toInt32), .val (.int j.toInt32), .val (.int (0 : Int32)), .val (.int (1 : Int32)), .val (.int (own_cd d (own_pk 0 (min i j) (max i j)))), .val (.int (min i j).toInt32), .val (.int (max i j).toInt32), .val (.long (own_pk 0 (min i j) (max i j))), .second, .val (.int tp), .val (.int q1.toInt32), .unset] [(.int (own_br d (min i j) tp 1).toInt32), (.int (0 : Int32)), (.ref (A 0))]))
                refine own_aloadN X44 d17_162 rfl rfl rfl ?_
                refine own_iload X44 d17_163 rfl rfl ?_
                refine own_iload X44 d17_165 rfl rfl ?_
                refine own_iconst X44 (1 : Int32) d17_167 rfl (by decide) ?_
                refine own_callP X44 (hw _ (List.mem_of_getElem? (i := 119) rfl)) (hw _ (List.mem_of_getElem? (i := 120) rfl)) (hw _ (List.mem_of_getElem? (i := 121) rfl)) (hw _ (List.mem_of_getElem? (i := 2) rfl)) (hw _ (List.mem_of_getElem? (i := 122) rfl)) (hw _ (List.mem_of_getElem? (i := 58) rfl)) (hw _ (List.mem_of_getElem? (i := 57) rfl)) rfl (by decide) (argsL := [(.int (max i j).toInt32), (.int tp), (.int (1 : Int32))]) (rest := [(.int (own_br d (min i j) tp 1).toInt32), (.int (0 : Int32)), (.ref (A 0))]) (own_mbr l Z a0 hw A n0 (max i j) tp 1 e1 _ P1 (by omega)) (own_LS_exa P1) (pd_20) rfl d17_168 rfl rfl rfl (W := 3) rfl (by first | decide | (dsimp only; omega) | omega) (by first | decide | (dsimp only; omega) | omega) (cells' := 0) (slots' := 0) rfl rfl (by first | decide | (dsimp only; omega) | omega) (by first | decide | (dsimp only; omega) | omega) (fun v T47 h49 X48 q50 => ?_)
                obtain ⟨rfl, rfl⟩ := q50
                show own_Fin p e below (own_End s n0 (own_qcb0 A (dep + 1) i j d Z n0 h0) ({ frames := (dep + 1) + 2, cells := 0, slots := 0, locals := 25 * (dep + 1) + 22 } : Room).cells ({ frames := (dep + 1) + 2, cells := 0, slots := 0, locals := 25 * (dep + 1) + 22 } : Room).slots) (T47.setTop (mkF m 171 #[.val (.ref (A 0)), .val (.int (0 : Int32)), .val (.int i.toInt32), .val (.int j.toInt32), .val (.int (0 : Int32)), .val (.int (1 : Int32)), .val (.int (own_cd d (own_pk 0 (min i j) (max i j)))), .val (.int (min i j).toInt32), .val (.int (max i j).toInt32), .val (.long (own_pk 0 (min i j) (max i j))), .second, .val (.int tp), .val (.int q1.toInt32), .unset] [(.int (own_br e1 (max i j) tp 1).toInt32), (.int (own_br d (min i j) tp 1).toInt32), (.int (0 : Int32)), (.ref (A 0))]))
                rw [own_br_le L1 hb]
                show own_Fin p e below (own_End s n0 (own_qcb0 A (dep + 1) i j d Z n0 h0) ({ frames := (dep + 1) + 2, cells := 0, slots := 0, locals := 25 * (dep + 1) + 22 } : Room).cells ({ frames := (dep + 1) + 2, cells := 0, slots := 0, locals := 25 * (dep + 1) + 22 } : Room).slots) (T47.setTop (mkF m 171 #[.val (.ref (A 0)), .val (.int (0 : Int32)), .val (.int i.toInt32), .val (.int j.toInt32), .val (.int (0 : Int32)), .val (.int (1 : Int32)), .val (.int (own_cd d (own_pk 0 (min i j) (max i j)))), .val (.int (min i j).toInt32), .val (.int (max i j).toInt32), .val (.long (own_pk 0 (min i j) (max i j))), .second, .val (.int tp), .val (.int q1.toInt32), .unset] [(.int (own_br d (max i j) tp 1).toInt32), (.int (own_br d (min i j) tp 1).toInt32), (.int (0 : Int32)), (.ref (A 0))]))
                refine own_callP X48 (hw _ (List.mem_of_getElem? (i := 108) rfl)) (hw _ (List.mem_of_getElem? (i := 109) rfl)) (hw _ (List.mem_of_getElem? (i := 110) rfl)) (hw _ (List.mem_of_getElem? (i := 2) rfl)) (hw _ (List.mem_of_getElem? (i := 111) rfl)) (hw _ (List.mem_of_getElem? (i := 58) rfl)) (hw _ (List.mem_of_getElem? (i := 57) rfl)) rfl (by decide) (argsL := [(.int (0 : Int32)), (.int (own_br d (min i j) tp 1).toInt32), (.int (own_br d (max i j) tp 1).toInt32)]) (rest := []) (ih (own_br d (min i j) tp 1) (own_br d (max i j) tp 1) e1 _ P1 I1 (Nat.lt_of_lt_of_le A1.1 L1.1) (Nat.lt_of_lt_of_le B1.1 L1.1) (by rw [(L1.2 _ A1.1).2.2.2.2, (L1.2 _ B1.1).2.2.2.2]; exact D1) (by omega)) (own_LS_exa P1) (pd_17) rfl d17_171 rfl rfl rfl (W := 0) rfl (by first | decide | (dsimp only; omega) | omega) (by first | decide | (dsimp only; omega) | omega) (cells' := 0) (slots' := 0) rfl rfl (by first | decide | (dsimp only; omega) | omega) (by first | decide | (dsimp only; omega) | omega) (fun v T51 h53 X52 q54 => ?_)
                obtain ⟨e2, q2', rfl, P2, I2, L2, N2, S2⟩ := q54
                show own_Fin p e below (own_End s n0 (own_qcb0 A (dep + 1) i j d Z n0 h0) ({ frames := (dep + 1) + 2, cells := 0, slots := 0, locals := 25 * (dep + 1) + 22 } : Room).cells ({ frames := (dep + 1) + 2, cells := 0, slots := 0, locals := 25 * (dep + 1) + 22 } : Room).slots) (T51.setTop (mkF m 174 #[.val (.ref (A 0)), .val (.int (0 : Int32)), .val (.int i.toInt32), .val (.int j.toInt32), .val (.int (0 : Int32)), .val (.int (1 : Int32)), .val (.int (own_cd d (own_pk 0 (min i j) (max i j)))), .val (.int (min i j).toInt32), .val (.int (max i j).toInt32), .val (.long (own_pk 0 (min i j) (max i j))), .second, .val (.int tp), .val (.int q1.toInt32), .unset] [(.int q2')]))
                obtain ⟨q2, rfl, g2, -⟩ := id S2
                show own_Fin p e below (own_End s n0 (own_qcb0 A (dep + 1) i j d Z n0 h0) ({ frames := (dep + 1) + 2, cells := 0, slots := 0, locals := 25 * (dep + 1) + 22 } : Room).cells ({ frames := (dep + 1) + 2, cells := 0, slots := 0, locals := 25 * (dep + 1) + 22 } : Room).slots) (T51.setTop (mkF m 174 #[.val (.ref (A 0)), .val (.int (0 : Int32)), .val (.int i.toInt32), .val (.int j.toInt32), .val (.int (0 : Int32)), .val (.int (1 : Int32)), .val (.int (own_cd d (own_pk 0 (min i j) (max i j)))), .val (.int (min i j).toInt32), .val (.int (max i j).toInt32), .val (.long (own_pk 0 (min i j) (max i j))), .second, .val (.int tp), .val (.int q1.toInt32), .unset] [(.int q2.toInt32)]))
                refine own_istore X52 (L' := #[.val (.ref (A 0)), .val (.int (0 : Int32)), .val (.int i.toInt32), .val (.int j.toInt32), .val (.int (0 : Int32)), .val (.int (1 : Int32)), .val (.int (own_cd d (own_pk 0 (min i j) (max i j)))), .val (.int (min i j).toInt32), .val (.int (max i j).toInt32), .val (.long (own_pk 0 (min i j) (max i j))), .second, .val (.int tp), .val (.int q1.toInt32), .val (.int q2.toInt32)]) d17_174 rfl rfl ?_
                refine own_aloadN X52 d17_176 rfl rfl rfl ?_
                refine own_iload X52 d17_177 rfl rfl ?_
                refine own_iload X52 d17_179 rfl rfl ?_
                refine own_iload X52 d17_181 rfl rfl ?_
                have T1 := own_sp_lt L1 (by omega) g1 S1 A0.1 B0.1 A0.2.1 B0.2.1
                have T2 := own_sp_lt (L1.trans L2) (by omega) g2 S2 A1.1 B1.1 A1.2.1 B1.2.1
                refine own_callP X52 (hw _ (List.mem_of_getElem? (i := 60) rfl)) (hw _ (List.mem_of_getElem? (i := 61) rfl)) (hw _ (List.mem_of_getElem? (i := 62) rfl)) (hw _ (List.mem_of_getElem? (i := 2) rfl)) (hw _ (List.mem_of_getElem? (i := 63) rfl)) (hw _ (List.mem_of_getElem? (i := 58) rfl)) (hw _ (List.mem_of_getElem? (i := 57) rfl)) rfl (by decide) (argsL := [(.int tp), (.int q1.toInt32), (.int q2.toInt32)]) (rest := []) (own_mnd l Z a0 hw A n0 tp q1 q2 e2 _ P2 I2 (Nat.lt_of_lt_of_le g1 L2.1) g2 t0 t64 (by rw [(L2.2 q1 g1).1]; exact T1) T2 (by omega)) (own_LS_exa P2) (pd_6) rfl d17_183 rfl rfl rfl (W := 0) rfl (by first | decide | (dsimp only; omega) | omega) (by first | decide | (dsimp only; omega) | omega) (cells' := 0) (slots' := 0) rfl rfl (by first | decide | (dsimp only; omega) | omega) (by first | decide | (dsimp only; omega) | omega) (fun v T55 h57 X56 q58 => ?_)
                obtain ⟨e3, r3, rfl, P3, I3, L3, N3, g3, S3, T3, D3⟩ := q58
                show own_Fin p e below (own_End s n0 (own_qcb0 A (dep + 1) i j d Z n0 h0) ({ frames := (dep + 1) + 2, cells := 0, slots := 0, locals := 25 * (dep + 1) + 22 } : Room).cells ({ frames := (dep + 1) + 2, cells := 0, slots := 0, locals := 25 * (dep + 1) + 22 } : Room).slots) (T55.setTop (mkF m 186 #[.val (.ref (A 0)), .val (.int (0 : Int32)), .val (.int i.toInt32), .val (.int j.toInt32), .val (.int (0 : Int32)), .val (.int (1 : Int32)), .val (.int (own_cd d (own_pk 0 (min i j) (max i j)))), .val (.int (min i j).toInt32), .val (.int (max i j).toInt32), .val (.long (own_pk 0 (min i j) (max i j))), .second, .val (.int tp), .val (.int q1.toInt32), .val (.int q2.toInt32)] [(.int r3.toInt32)]))
                have SP := own_join (op := 0) I ha hb t1 t2 t3 t0 L1 S1 g1 L2 S2 g2 (by omega) L3 g3 S3 T3 D3
                refine own_istore X56 (L' := #[.val (.ref (A 0)), .val (.int (0 : Int32)), .val (.int i.toInt32), .val (.int j.toInt32), .val (.int (0 : Int32)), .val (.int (1 : Int32)), .val (.int r3.toInt32), .val (.int (min i j).toInt32), .val (.int (max i j).toInt32), .val (.long (own_pk 0 (min i j) (max i j))), .second, .val (.int tp), .val (.int q1.toInt32), .val (.int q2.toInt32)]) d17_186 rfl rfl ?_
                refine own_aloadN X56 d17_188 rfl rfl rfl ?_
                refine own_lload X56 d17_189 rfl rfl ?_
                refine own_iload X56 d17_191 rfl rfl ?_
                refine own_callP X56 (hw _ (List.mem_of_getElem? (i := 99) rfl)) (hw _ (List.mem_of_getElem? (i := 100) rfl)) (hw _ (List.mem_of_getElem? (i := 101) rfl)) (hw _ (List.mem_of_getElem? (i := 2) rfl)) (hw _ (List.mem_of_getElem? (i := 102) rfl)) (hw _ (List.mem_of_getElem? (i := 58) rfl)) (hw _ (List.mem_of_getElem? (i := 57) rfl)) rfl (by decide) (argsL := [(.long (own_pk 0 (min i j) (max i j))), (.int r3.toInt32)]) (rest := []) (own_mrem l Z a0 hw A n0 (own_pk 0 (min i j) (max i j)) r3.toInt32 e3 _ P3) (own_LS_exa P3) (pd_15) rfl d17_193 rfl rfl rfl (W := 0) rfl (by first | decide | (dsimp only; omega) | omega) (by first | decide | (dsimp only; omega) | omega) (cells' := 0) (slots' := 0) rfl rfl (by first | decide | (dsimp only; omega) | omega) (by first | decide | (dsimp only; omega) | omega) (fun v T59 h61 X60 q62 => ?_)
                obtain ⟨rfl, P4⟩ := q62
                show own_Fin p e below (own_End s n0 (own_qcb0 A (dep + 1) i j d Z n0 h0) ({ frames := (dep + 1) + 2, cells := 0, slots := 0, locals := 25 * (dep + 1) + 22 } : Room).cells ({ frames := (dep + 1) + 2, cells := 0, slots := 0, locals := 25 * (dep + 1) + 22 } : Room).slots) (T59.setTop (mkF m 196 #[.val (.ref (A 0)), .val (.int (0 : Int32)), .val (.int i.toInt32), .val (.int j.toInt32), .val (.int (0 : Int32)), .val (.int (1 : Int32)), .val (.int r3.toInt32), .val (.int (min i j).toInt32), .val (.int (max i j).toInt32), .val (.long (own_pk 0 (min i j) (max i j))), .second, .val (.int tp), .val (.int q1.toInt32), .val (.int q2.toInt32)] []))
                refine own_iload X60 d17_196 rfl rfl ?_
                exact own_retI X60 rfl d17_198 ⟨(own_rem e3 (own_pk 0 (min i j) (max i j)) r3.toInt32), r3.toInt32, rfl, P4, own_rem_inv I3 (by decide) (by omega) (by omega) SP, ((L1.trans L2).trans L3).trans (own_rem_le _ _ _), (show o_N e3 ≤ _ by omega), (own_sp_comm (by decide) SP).le (own_rem_le _ _ _)⟩ (by first | decide | (dsimp only; omega) | omega) (by first | decide | (dsimp only; omega) | omega)
            · skip
              refine own_iloadN X0 d17_64 rfl rfl ?_
              refine own_istore X0 (L' := #[.val (.ref (A 0)), .val (.int (0 : Int32)), .val (.int i.toInt32), .val (.int j.toInt32), .val (.int (0 : Int32)), .val (.int (1 : Int32)), .val (.int i.toInt32), .unset, .unset, .unset, .unset, .unset, .unset, .unset]) d17_65 rfl rfl ?_
              refine own_goto X0 d17_67 (by decide) (pc' := 196) (by decide) ?_
              refine own_iload X0 d17_196 rfl rfl ?_
              have ej : j = 1 := ((own_z (by omega) 1 (by omega)).mp hc5)
              exact own_retI X0 rfl d17_198 ⟨d, i.toInt32, rfl, F, I, own_Le.refl d, Nat.le_add_right _ _, own_sp_of (r := i) (Or.inl rfl) hi hj (fun x => by rw [ej]; simp [own_op, (I.2.2.1.2 x)])⟩ (by first | decide | (dsimp only; omega) | omega) (by first | decide | (dsimp only; omega) | omega)
          · skip
            refine own_iloadN X0 d17_52 rfl rfl ?_
            refine own_istore X0 (L' := #[.val (.ref (A 0)), .val (.int (0 : Int32)), .val (.int i.toInt32), .val (.int j.toInt32), .val (.int (0 : Int32)), .val (.int (1 : Int32)), .val (.int j.toInt32), .unset, .unset, .unset, .unset, .unset, .unset, .unset]) d17_53 rfl rfl ?_
            refine own_goto X0 d17_55 (by decide) (pc' := 196) (by decide) ?_
            refine own_iload X0 d17_196 rfl rfl ?_
            have ee : i = j := (own_z (by omega) j (by omega)).mp hc4
            exact own_retI X0 rfl d17_198 ⟨d, j.toInt32, rfl, F, I, own_Le.refl d, Nat.le_add_right _ _, own_sp_of (r := j) (Or.inr rfl) hi hj (fun x => by rw [ee]; simp [own_op])⟩ (by first | decide | (dsimp only; omega) | omega) (by first | decide | (dsimp only; omega) | omega)
      · skip
        refine own_iload X0 d17_34 rfl rfl ?_
        refine own_istore X0 (L' := #[.val (.ref (A 0)), .val (.int (0 : Int32)), .val (.int i.toInt32), .val (.int j.toInt32), .val (.int (0 : Int32)), .val (.int (1 : Int32)), .val (.int (0 : Int32)), .unset, .unset, .unset, .unset, .unset, .unset, .unset]) d17_36 rfl rfl ?_
        refine own_goto X0 d17_38 (by decide) (pc' := 196) (by decide) ?_
        refine own_iload X0 d17_196 rfl rfl ?_
        have ej : j = 0 := ((own_z (by omega) 0 (by omega)).mp hc2)
        exact own_retI X0 rfl d17_198 ⟨d, (0 : Nat).toInt32, rfl, F, I, own_Le.refl d, Nat.le_add_right _ _, own_sp_of (r := 0) (Or.inr ej.symm) hi hj (fun x => by rw [ej]; simp [own_op, (I.2.2.1.1 x)])⟩ (by first | decide | (dsimp only; omega) | omega) (by first | decide | (dsimp only; omega) | omega)
theorem d17_8 : decode prog_13_method_11_code 8 = .ok (.iconst 1, 1) := by decide +kernel
theorem d17_19 : decode prog_13_method_11_code 19 = .ok (.iconst 0, 1) := by decide +kernel
theorem own_pncb1 : plainFor (⟨"com/example/libgfg/libgfg/automaton/LetterSets", "combine", "(III)I"⟩ : MethodName) = true := by first | exact plainFor_of_name (by first | (simp [plainName, overriddenIn, x]; done) | decide +kernel) | decide +kernel
theorem own_efcb1 (A : Nat → Addr) (dep : Nat) (i j : Nat) (m : MethodId) : entryFrame m #[(.ref (A 0)), (.int (1 : Int32)), (.int i.toInt32), (.int j.toInt32)] 14 = mkF m 0 #[.val (.ref (A 0)), .val (.int (1 : Int32)), .val (.int i.toInt32), .val (.int j.toInt32), .unset, .unset, .unset, .unset, .unset, .unset, .unset, .unset, .unset, .unset] [] := by first | (simp [entryFrame, mkF, argsToLocals, Value.category]; done) | rfl
def own_qcb1 (A : Nat → Addr) (dep : Nat) (i j : Nat) (d : own_T) (Z : State) (n0 : Nat) (h0 : Heap) (v : Option Value) (h : Heap) : Prop := ∃ (e : own_T) (r : Int32), v = some (.int r) ∧ own_LS Z h A n0 e ∧ own_Inv e ∧ own_Le d e ∧ o_N e ≤ o_N d + own_cnt dep ∧ own_Sp e 1 i j r
set_option maxRecDepth 65536 in
set_option maxHeartbeats 40000000 in
theorem own_mcb1 (l : Launch) (Z : State) (a0 : Array Value) (hw : ∀ d ∈ tables_1, d.before a0 Z = true) (A : Nat → Addr) (n0 : Nat) (dep : Nat) : ∀ (i j : Nat) (d : own_T) (h0 : Heap) (F : own_LS Z h0 A n0 d) (I : own_Inv d) (hi : i < o_N d) (hj : j < o_N d) (hD : o_D d i + o_D d j ≤ dep + 1) (hN : o_N d + own_cnt dep ≤ 32),
    own_Met l Z (⟨"com/example/libgfg/libgfg/automaton/LetterSets", "combine", "(III)I"⟩ : MethodName) prog_13_method_11_code 14 (some .int) [] ({ frames := dep + 2, cells := 0, slots := 0, locals := 25 * dep + 22 } : Room) #[(.ref (A 0)), (.int (1 : Int32)), (.int i.toInt32), (.int j.toInt32)] h0 n0 (own_qcb1 A dep i j d Z n0 h0) := by
  induction dep with
  | zero =>
    intro i j d h0 F I hi hj hD hN
    refine own_enter (own := "com/example/libgfg/libgfg/automaton/LetterSets") (nm := "combine") rfl rfl own_pncb1 (own_efcb1 A 0 i j) ?_
    intro p e s m below meth c T0 X0
    refine own_iloadN X0 d17_0 rfl rfl ?_
    refine own_if_ne X0 d17_1 (by decide) (pcT := 8) (by decide) rfl (fun hc => ?_) (fun hc => absurd hc (by decide))
    refine own_iconst X0 (1 : Int32) d17_8 rfl (by decide) ?_
    refine own_istore X0 (L' := #[.val (.ref (A 0)), .val (.int (1 : Int32)), .val (.int i.toInt32), .val (.int j.toInt32), .val (.int (1 : Int32)), .unset, .unset, .unset, .unset, .unset, .unset, .unset, .unset, .unset]) d17_9 rfl rfl ?_
    refine own_iloadN X0 d17_11 rfl rfl ?_
    refine own_if_ne X0 d17_12 (by decide) (pcT := 19) (by decide) rfl (fun hc => ?_) (fun hc => absurd hc (by decide))
    refine own_iconst X0 (0 : Int32) d17_19 rfl (by decide) ?_
    refine own_istore X0 (L' := #[.val (.ref (A 0)), .val (.int (1 : Int32)), .val (.int i.toInt32), .val (.int j.toInt32), .val (.int (1 : Int32)), .val (.int (0 : Int32)), .unset, .unset, .unset, .unset, .unset, .unset, .unset, .unset]) d17_20 rfl rfl ?_
    refine own_iloadN X0 d17_22 rfl rfl ?_
    refine own_iload X0 d17_23 rfl rfl ?_
    refine own_icmp_eq X0 d17_25 (by decide) (pcT := 34) (by decide) rfl (fun hc1 => ?_) (fun hc1 => ?_)
    · skip
      refine own_iload X0 d17_34 rfl rfl ?_
      refine own_istore X0 (L' := #[.val (.ref (A 0)), .val (.int (1 : Int32)), .val (.int i.toInt32), .val (.int j.toInt32), .val (.int (1 : Int32)), .val (.int (0 : Int32)), .val (.int (1 : Int32)), .unset, .unset, .unset, .unset, .unset, .unset, .unset]) d17_36 rfl rfl ?_
      refine own_goto X0 d17_38 (by decide) (pc' := 196) (by decide) ?_
      refine own_iload X0 d17_196 rfl rfl ?_
      have ei : i = 1 := ((own_z (by omega) 1 (by omega)).mp hc1)
      exact own_retI X0 rfl d17_198 ⟨d, (1 : Nat).toInt32, rfl, F, I, own_Le.refl d, Nat.le_add_right _ _, own_sp_of (r := 1) (Or.inl ei.symm) hi hj (fun x => by rw [ei]; simp [own_op, (I.2.2.1.2 x)])⟩ (by first | decide | (dsimp only; omega) | omega) (by first | decide | (dsimp only; omega) | omega)
    · skip
      refine own_iloadN X0 d17_28 rfl rfl ?_
      refine own_iload X0 d17_29 rfl rfl ?_
      refine own_icmp_ne X0 d17_31 (by decide) (pcT := 41) (by decide) rfl (fun hc2 => ?_) (fun hc2 => ?_)
      · skip
        refine own_iloadN X0 d17_41 rfl rfl ?_
        refine own_iload X0 d17_42 rfl rfl ?_
        refine own_icmp_eq X0 d17_44 (by decide) (pcT := 52) (by decide) rfl (fun hc3 => ?_) (fun hc3 => ?_)
        · skip
          refine own_iloadN X0 d17_52 rfl rfl ?_
          refine own_istore X0 (L' := #[.val (.ref (A 0)), .val (.int (1 : Int32)), .val (.int i.toInt32), .val (.int j.toInt32), .val (.int (1 : Int32)), .val (.int (0 : Int32)), .val (.int j.toInt32), .unset, .unset, .unset, .unset, .unset, .unset, .unset]) d17_53 rfl rfl ?_
          refine own_goto X0 d17_55 (by decide) (pc' := 196) (by decide) ?_
          refine own_iload X0 d17_196 rfl rfl ?_
          have ei : i = 0 := ((own_z (by omega) 0 (by omega)).mp hc3)
          exact own_retI X0 rfl d17_198 ⟨d, j.toInt32, rfl, F, I, own_Le.refl d, Nat.le_add_right _ _, own_sp_of (r := j) (Or.inr rfl) hi hj (fun x => by rw [ei]; simp [own_op, (I.2.2.1.1 x)])⟩ (by first | decide | (dsimp only; omega) | omega) (by first | decide | (dsimp only; omega) | omega)
        · skip
          refine own_iloadN X0 d17_47 rfl rfl ?_
          refine own_iloadN X0 d17_48 rfl rfl ?_
          refine own_icmp_ne X0 d17_49 (by decide) (pcT := 58) (by decide) rfl (fun hc4 => ?_) (fun hc4 => ?_)
          · skip
            refine own_iloadN X0 d17_58 rfl rfl ?_
            refine own_iload X0 d17_59 rfl rfl ?_
            refine own_icmp_ne X0 d17_61 (by decide) (pcT := 70) (by decide) rfl (fun hc5 => ?_) (fun hc5 => ?_)
            · skip
              have i0 : i ≠ 0 := fun z => hc3 (by rw [z]; rfl)
              have i1 : i ≠ 1 := fun z => hc1 (by rw [z]; rfl)
              have dn_i : o_D d i ≠ 0 := fun z => by have := own_D0 I hi z; omega
              have j0 : j ≠ 0 := fun z => hc5 (by rw [z]; rfl)
              have j1 : j ≠ 1 := fun z => hc2 (by rw [z]; rfl)
              have dn_j : o_D d j ≠ 0 := fun z => by have := own_D0 I hj z; omega
              exact absurd hD (by omega)
            · skip
              refine own_iloadN X0 d17_64 rfl rfl ?_
              refine own_istore X0 (L' := #[.val (.ref (A 0)), .val (.int (1 : Int32)), .val (.int i.toInt32), .val (.int j.toInt32), .val (.int (1 : Int32)), .val (.int (0 : Int32)), .val (.int i.toInt32), .unset, .unset, .unset, .unset, .unset, .unset, .unset]) d17_65 rfl rfl ?_
              refine own_goto X0 d17_67 (by decide) (pc' := 196) (by decide) ?_
              refine own_iload X0 d17_196 rfl rfl ?_
              have ej : j = 0 := ((own_z (by omega) 0 (by omega)).mp hc5)
              exact own_retI X0 rfl d17_198 ⟨d, i.toInt32, rfl, F, I, own_Le.refl d, Nat.le_add_right _ _, own_sp_of (r := i) (Or.inl rfl) hi hj (fun x => by rw [ej]; simp [own_op, (I.2.2.1.1 x)])⟩ (by first | decide | (dsimp only; omega) | omega) (by first | decide | (dsimp only; omega) | omega)
          · skip
            refine own_iloadN X0 d17_52 rfl rfl ?_
            refine own_istore X0 (L' := #[.val (.ref (A 0)), .val (.int (1 : Int32)), .val (.int i.toInt32), .val (.int j.toInt32), .val (.int (1 : Int32)), .val (.int (0 : Int32)), .val (.int j.toInt32), .unset, .unset, .unset, .unset, .unset, .unset, .unset]) d17_53 rfl rfl ?_
            refine own_goto X0 d17_55 (by decide) (pc' := 196) (by decide) ?_
            refine own_iload X0 d17_196 rfl rfl ?_
            have ee : i = j := (own_z (by omega) j (by omega)).mp hc4
            exact own_retI X0 rfl d17_198 ⟨d, j.toInt32, rfl, F, I, own_Le.refl d, Nat.le_add_right _ _, own_sp_of (r := j) (Or.inr rfl) hi hj (fun x => by rw [ee]; simp [own_op])⟩ (by first | decide | (dsimp only; omega) | omega) (by first | decide | (dsimp only; omega) | omega)
      · skip
        refine own_iload X0 d17_34 rfl rfl ?_
        refine own_istore X0 (L' := #[.val (.ref (A 0)), .val (.int (1 : Int32)), .val (.int i.toInt32), .val (.int j.toInt32), .val (.int (1 : Int32)), .val (.int (0 : Int32)), .val (.int (1 : Int32)), .unset, .unset, .unset, .unset, .unset, .unset, .unset]) d17_36 rfl rfl ?_
        refine own_goto X0 d17_38 (by decide) (pc' := 196) (by decide) ?_
        refine own_iload X0 d17_196 rfl rfl ?_
        have ej : j = 1 := ((own_z (by omega) 1 (by omega)).mp hc2)
        exact own_retI X0 rfl d17_198 ⟨d, (1 : Nat).toInt32, rfl, F, I, own_Le.refl d, Nat.le_add_right _ _, own_sp_of (r := 1) (Or.inr ej.symm) hi hj (fun x => by rw [ej]; simp [own_op, (I.2.2.1.2 x)])⟩ (by first | decide | (dsimp only; omega) | omega) (by first | decide | (dsimp only; omega) | omega)
  | succ dep ih =>
    intro i j d h0 F I hi hj hD hN
    refine own_enter (own := "com/example/libgfg/libgfg/automaton/LetterSets") (nm := "combine") rfl rfl own_pncb1 (own_efcb1 A (dep + 1) i j) ?_
    intro p e s m below meth c T0 X0
    refine own_iloadN X0 d17_0 rfl rfl ?_
    refine own_if_ne X0 d17_1 (by decide) (pcT := 8) (by decide) rfl (fun hc => ?_) (fun hc => absurd hc (by decide))
    refine own_iconst X0 (1 : Int32) d17_8 rfl (by decide) ?_
    refine own_istore X0 (L' := #[.val (.ref (A 0)), .val (.int (1 : Int32)), .val (.int i.toInt32), .val (.int j.toInt32), .val (.int (1 : Int32)), .unset, .unset, .unset, .unset, .unset, .unset, .unset, .unset, .unset]) d17_9 rfl rfl ?_
    refine own_iloadN X0 d17_11 rfl rfl ?_
    refine own_if_ne X0 d17_12 (by decide) (pcT := 19) (by decide) rfl (fun hc => ?_) (fun hc => absurd hc (by decide))
    refine own_iconst X0 (0 : Int32) d17_19 rfl (by decide) ?_
    refine own_istore X0 (L' := #[.val (.ref (A 0)), .val (.int (1 : Int32)), .val (.int i.toInt32), .val (.int j.toInt32), .val (.int (1 : Int32)), .val (.int (0 : Int32)), .unset, .unset, .unset, .unset, .unset, .unset, .unset, .unset]) d17_20 rfl rfl ?_
    refine own_iloadN X0 d17_22 rfl rfl ?_
    refine own_iload X0 d17_23 rfl rfl ?_
    refine own_icmp_eq X0 d17_25 (by decide) (pcT := 34) (by decide) rfl (fun hc1 => ?_) (fun hc1 => ?_)
    · skip
      refine own_iload X0 d17_34 rfl rfl ?_
      refine own_istore X0 (L' := #[.val (.ref (A 0)), .val (.int (1 : Int32)), .val (.int i.toInt32), .val (.int j.toInt32), .val (.int (1 : Int32)), .val (.int (0 : Int32)), .val (.int (1 : Int32)), .unset, .unset, .unset, .unset, .unset, .unset, .unset]) d17_36 rfl rfl ?_
      refine own_goto X0 d17_38 (by decide) (pc' := 196) (by decide) ?_
      refine own_iload X0 d17_196 rfl rfl ?_
      have ei : i = 1 := ((own_z (by omega) 1 (by omega)).mp hc1)
      exact own_retI X0 rfl d17_198 ⟨d, (1 : Nat).toInt32, rfl, F, I, own_Le.refl d, Nat.le_add_right _ _, own_sp_of (r := 1) (Or.inl ei.symm) hi hj (fun x => by rw [ei]; simp [own_op, (I.2.2.1.2 x)])⟩ (by first | decide | (dsimp only; omega) | omega) (by first | decide | (dsimp only; omega) | omega)
    · skip
      refine own_iloadN X0 d17_28 rfl rfl ?_
      refine own_iload X0 d17_29 rfl rfl ?_
      refine own_icmp_ne X0 d17_31 (by decide) (pcT := 41) (by decide) rfl (fun hc2 => ?_) (fun hc2 => ?_)
      · skip
        refine own_iloadN X0 d17_41 rfl rfl ?_
        refine own_iload X0 d17_42 rfl rfl ?_
        refine own_icmp_eq X0 d17_44 (by decide) (pcT := 52) (by decide) rfl (fun hc3 => ?_) (fun hc3 => ?_)
        · skip
          refine own_iloadN X0 d17_52 rfl rfl ?_
          refine own_istore X0 (L' := #[.val (.ref (A 0)), .val (.int (1 : Int32)), .val (.int i.toInt32), .val (.int j.toInt32), .val (.int (1 : Int32)), .val (.int (0 : Int32)), .val (.int j.toInt32), .unset, .unset, .unset, .unset, .unset, .unset, .unset]) d17_53 rfl rfl ?_
          refine own_goto X0 d17_55 (by decide) (pc' := 196) (by decide) ?_
          refine own_iload X0 d17_196 rfl rfl ?_
          have ei : i = 0 := ((own_z (by omega) 0 (by omega)).mp hc3)
          exact own_retI X0 rfl d17_198 ⟨d, j.toInt32, rfl, F, I, own_Le.refl d, Nat.le_add_right _ _, own_sp_of (r := j) (Or.inr rfl) hi hj (fun x => by rw [ei]; simp [own_op, (I.2.2.1.1 x)])⟩ (by first | decide | (dsimp only; omega) | omega) (by first | decide | (dsimp only; omega) | omega)
        · skip
          refine own_iloadN X0 d17_47 rfl rfl ?_
          refine own_iloadN X0 d17_48 rfl rfl ?_
          refine own_icmp_ne X0 d17_49 (by decide) (pcT := 58) (by decide) rfl (fun hc4 => ?_) (fun hc4 => ?_)
          · skip
            refine own_iloadN X0 d17_58 rfl rfl ?_
            refine own_iload X0 d17_59 rfl rfl ?_
            refine own_icmp_ne X0 d17_61 (by decide) (pcT := 70) (by decide) rfl (fun hc5 => ?_) (fun hc5 => ?_)
            · skip
              have i0 : i ≠ 0 := fun z => hc3 (by rw [z]; rfl)
              have i1 : i ≠ 1 := fun z => hc1 (by rw [z]; rfl)
              have dn_i : o_D d i ≠ 0 := fun z => by have := own_D0 I hi z; omega
              have j0 : j ≠ 0 := fun z => hc5 (by rw [z]; rfl)
              have j1 : j ≠ 1 := fun z => hc2 (by rw [z]; rfl)
              have dn_j : o_D d j ≠ 0 := fun z => by have := own_D0 I hj z; omega
              have hcn : own_cnt (dep + 1) = 2 * own_cnt dep + 1 := rfl
              refine own_iloadN X0 d17_70 rfl rfl ?_
              refine own_iloadN X0 d17_71 rfl rfl ?_
              refine own_callS X0 (hw _ (List.mem_of_getElem? (i := 112) rfl)) (hw _ (List.mem_of_getElem? (i := 113) rfl)) (hw _ (List.mem_of_getElem? (i := 114) rfl)) (hw _ (List.mem_of_getElem? (i := 115) rfl)) (by decide) (argsL := [(.int i.toInt32), (.int j.toInt32)]) (rest := []) (own_mmn l Z a0 hw [] (i.toInt32) (j.toInt32) _ _) (pd_18) rfl d17_72 rfl rfl rfl (W := 0) rfl (by first | decide | (dsimp only; omega) | omega) (by first | decide | (dsimp only; omega) | omega) (cells' := 0) (slots' := 0) rfl rfl (by first | decide | (dsimp only; omega) | omega) (by first | decide | (dsimp only; omega) | omega) (fun v T6 h8 X7 q9 => ?_)
              obtain ⟨rfl, rfl⟩ := q9
              show own_Fin p e below (own_End s n0 (own_qcb1 A (dep + 1) i j d Z n0 h0) ({ frames := (dep + 1) + 2, cells := 0, slots := 0, locals := 25 * (dep + 1) + 22 } : Room).cells ({ frames := (dep + 1) + 2, cells := 0, slots := 0, locals := 25 * (dep + 1) + 22 } : Room).slots) (T6.setTop (mkF m 75 #[.val (.ref (A 0)), .val (.int (1 : Int32)), .val (.int i.toInt32), .val (.int j.toInt32), .val (.int (1 : Int32)), .val (.int (0 : Int32)), .unset, .unset, .unset, .unset, .unset, .unset, .unset, .unset] [(.int (own_fmn (i.toInt32) (j.toInt32)))]))
              rw [own_mnN (by omega) (by omega)]
              show own_Fin p e below (own_End s n0 (own_qcb1 A (dep + 1) i j d Z n0 h0) ({ frames := (dep + 1) + 2, cells := 0, slots := 0, locals := 25 * (dep + 1) + 22 } : Room).cells ({ frames := (dep + 1) + 2, cells := 0, slots := 0, locals := 25 * (dep + 1) + 22 } : Room).slots) (T6.setTop (mkF m 75 #[.val (.ref (A 0)), .val (.int (1 : Int32)), .val (.int i.toInt32), .val (.int j.toInt32), .val (.int (1 : Int32)), .val (.int (0 : Int32)), .unset, .unset, .unset, .unset, .unset, .unset, .unset, .unset] [(.int (min i j).toInt32)]))
              refine own_istore X7 (L' := #[.val (.ref (A 0)), .val (.int (1 : Int32)), .val (.int i.toInt32), .val (.int j.toInt32), .val (.int (1 : Int32)), .val (.int (0 : Int32)), .unset, .val (.int (min i j).toInt32), .unset, .unset, .unset, .unset, .unset, .unset]) d17_75 rfl rfl ?_
              refine own_iloadN X7 d17_77 rfl rfl ?_
              refine own_iloadN X7 d17_78 rfl rfl ?_
              refine own_callS X7 (hw _ (List.mem_of_getElem? (i := 116) rfl)) (hw _ (List.mem_of_getElem? (i := 117) rfl)) (hw _ (List.mem_of_getElem? (i := 114) rfl)) (hw _ (List.mem_of_getElem? (i := 118) rfl)) (by decide) (argsL := [(.int i.toInt32), (.int j.toInt32)]) (rest := []) (own_mmx l Z a0 hw [] (i.toInt32) (j.toInt32) _ _) (pd_19) rfl d17_79 rfl rfl rfl (W := 0) rfl (by first | decide | (dsimp only; omega) | omega) (by first | decide | (dsimp only; omega) | omega) (cells' := 0) (slots' := 0) rfl rfl (by first | decide | (dsimp only; omega) | omega) (by first | decide | (dsimp only; omega) | omega) (fun v T10 h12 X11 q13 => ?_)
              obtain ⟨rfl, rfl⟩ := q13
              show own_Fin p e below (own_End s n0 (own_qcb1 A (dep + 1) i j d Z n0 h0) ({ frames := (dep + 1) + 2, cells := 0, slots := 0, locals := 25 * (dep + 1) + 22 } : Room).cells ({ frames := (dep + 1) + 2, cells := 0, slots := 0, locals := 25 * (dep + 1) + 22 } : Room).slots) (T10.setTop (mkF m 82 #[.val (.ref (A 0)), .val (.int (1 : Int32)), .val (.int i.toInt32), .val (.int j.toInt32), .val (.int (1 : Int32)), .val (.int (0 : Int32)), .unset, .val (.int (min i j).toInt32), .unset, .unset, .unset, .unset, .unset, .unset] [(.int (own_fmx (i.toInt32) (j.toInt32)))]))
              rw [own_mxN (by omega) (by omega)]
              show own_Fin p e below (own_End s n0 (own_qcb1 A (dep + 1) i j d Z n0 h0) ({ frames := (dep + 1) + 2, cells := 0, slots := 0, locals := 25 * (dep + 1) + 22 } : Room).cells ({ frames := (dep + 1) + 2, cells := 0, slots := 0, locals := 25 * (dep + 1) + 22 } : Room).slots) (T10.setTop (mkF m 82 #[.val (.ref (A 0)), .val (.int (1 : Int32)), .val (.int i.toInt32), .val (.int j.toInt32), .val (.int (1 : Int32)), .val (.int (0 : Int32)), .unset, .val (.int (min i j).toInt32), .unset, .unset, .unset, .unset, .unset, .unset] [(.int (max i j).toInt32)]))
              refine own_istore X11 (L' := #[.val (.ref (A 0)), .val (.int (1 : Int32)), .val (.int i.toInt32), .val (.int j.toInt32), .val (.int (1 : Int32)), .val (.int (0 : Int32)), .unset, .val (.int (min i j).toInt32), .val (.int (max i j).toInt32), .unset, .unset, .unset, .unset, .unset]) d17_82 rfl rfl ?_
              refine own_iloadN X11 d17_84 rfl rfl ?_
              refine own_iload X11 d17_85 rfl rfl ?_
              refine own_iload X11 d17_87 rfl rfl ?_
              refine own_callS X11 (hw _ (List.mem_of_getElem? (i := 68) rfl)) (hw _ (List.mem_of_getElem? (i := 69) rfl)) (hw _ (List.mem_of_getElem? (i := 2) rfl)) (hw _ (List.mem_of_getElem? (i := 70) rfl)) (by decide) (argsL := [(.int (1 : Int32)), (.int (min i j).toInt32), (.int (max i j).toInt32)]) (rest := []) (own_mpk l Z a0 hw [] (1 : Int32) ((min i j).toInt32) ((max i j).toInt32) _ _) (pd_8) rfl d17_89 rfl rfl rfl (W := 0) rfl (by first | decide | (dsimp only; omega) | omega) (by first | decide | (dsimp only; omega) | omega) (cells' := 0) (slots' := 0) rfl rfl (by first | decide | (dsimp only; omega) | omega) (by first | decide | (dsimp only; omega) | omega) (fun v T14 h16 X15 q17 => ?_)
              obtain ⟨rfl, rfl⟩ := q17
              show own_Fin p e below (own_End s n0 (own_qcb1 A (dep + 1) i j d Z n0 h0) ({ frames := (dep + 1) + 2, cells := 0, slots := 0, locals := 25 * (dep + 1) + 22 } : Room).cells ({ frames := (dep + 1) + 2, cells := 0, slots := 0, locals := 25 * (dep + 1) + 22 } : Room).slots) (T14.setTop (mkF m 92 #[.val (.ref (A 0)), .val (.int (1 : Int32)), .val (.int i.toInt32), .val (.int j.toInt32), .val (.int (1 : Int32)), .val (.int (0 : Int32)), .unset, .val (.int (min i j).toInt32), .val (.int (max i j).toInt32), .unset, .unset, .unset, .unset, .unset] [(.long (own_fpk (1 : Int32) ((min i j).toInt32) ((max i j).toInt32)))]))
              show own_Fin p e below (own_End s n0 (own_qcb1 A (dep + 1) i j d Z n0 h0) ({ frames := (dep + 1) + 2, cells := 0, slots := 0, locals := 25 * (dep + 1) + 22 } : Room).cells ({ frames := (dep + 1) + 2, cells := 0, slots := 0, locals := 25 * (dep + 1) + 22 } : Room).slots) (T14.setTop (mkF m 92 #[.val (.ref (A 0)), .val (.int (1 : Int32)), .val (.int i.toInt32), .val (.int j.toInt32), .val (.int (1 : Int32)), .val (.int (0 : Int32)), .unset, .val (.int (min i j).toInt32), .val (.int (max i j).toInt32), .unset, .unset, .unset, .unset, .unset] [(.long (own_pk 1 (min i j) (max i j)))]))
              refine own_lstore X15 (L' := #[.val (.ref (A 0)), .val (.int (1 : Int32)), .val (.int i.toInt32), .val (.int j.toInt32), .val (.int (1 : Int32)), .val (.int (0 : Int32)), .unset, .val (.int (min i j).toInt32), .val (.int (max i j).toInt32), .val (.long (own_pk 1 (min i j) (max i j))), .second, .unset, .unset, .unset]) d17_92 rfl rfl ?_
              refine own_aloadN X15 d17_94 rfl rfl rfl ?_
              refine own_lload X15 d17_95 rfl rfl ?_
              refine own_callP X15 (hw _ (List.mem_of_getElem? (i := 90) rfl)) (hw _ (List.mem_of_getElem? (i := 91) rfl)) (hw _ (List.mem_of_getElem? (i := 92) rfl)) (hw _ (List.mem_of_getElem? (i := 2) rfl)) (hw _ (List.mem_of_getElem? (i := 93) rfl)) (hw _ (List.mem_of_getElem? (i := 58) rfl)) (hw _ (List.mem_of_getElem? (i := 57) rfl)) rfl (by decide) (argsL := [(.long (own_pk 1 (min i j) (max i j)))]) (rest := []) (own_mcd l Z a0 hw A n0 (own_pk 1 (min i j) (max i j)) d _ F) (own_LS_exa F) (pd_13) rfl d17_97 rfl rfl rfl (W := 0) rfl (by first | decide | (dsimp only; omega) | omega) (by first | decide | (dsimp only; omega) | omega) (cells' := 0) (slots' := 0) rfl rfl (by first | decide | (dsimp only; omega) | omega) (by first | decide | (dsimp only; omega) | omega) (fun v T18 h20 X19 q21 => ?_)
              obtain ⟨rfl, rfl⟩ := q21
              show own_Fin p e below (own_End s n0 (own_qcb1 A (dep + 1) i j d Z n0 h0) ({ frames := (dep + 1) + 2, cells := 0, slots := 0, locals := 25 * (dep + 1) + 22 } : Room).cells ({ frames := (dep + 1) + 2, cells := 0, slots := 0, locals := 25 * (dep + 1) + 22 } : Room).slots) (T18.setTop (mkF m 100 #[.val (.ref (A 0)), .val (.int (1 : Int32)), .val (.int i.toInt32), .val (.int j.toInt32), .val (.int (1 : Int32)), .val (.int (0 : Int32)), .unset, .val (.int (min i j).toInt32), .val (.int (max i j).toInt32), .val (.long (own_pk 1 (min i j) (max i j))), .second, .unset, .unset, .unset] [(.int (own_cd d (own_pk 1 (min i j) (max i j))))]))
              refine own_istore X19 (L' := #[.val (.ref (A 0)), .val (.int (1 : Int32)), .val (.int i.toInt32), .val (.int j.toInt32), .val (.int (1 : Int32)), .val (.int (0 : Int32)), .val (.int (own_cd d (own_pk 1 (min i j) (max i j)))), .val (.int (min i j).toInt32), .val (.int (max i j).toInt32), .val (.long (own_pk 1 (min i j) (max i j))), .second, .unset, .unset, .unset]) d17_100 rfl rfl ?_
              refine own_iload X19 d17_102 rfl rfl ?_
              refine own_if_ge X19 d17_104 (by decide) (pcT := 196) (by decide) rfl (fun hc22 => ?_) (fun hc22 => ?_)
              · skip
                refine own_iload X19 d17_196 rfl rfl ?_
                exact own_retI X19 rfl d17_198 ⟨d, (own_cd d (own_pk 1 (min i j) (max i j))), rfl, F, I, own_Le.refl d, Nat.le_add_right _ _, own_sp_comm (by decide) (own_cd_hit I (op := 1) (by decide) (by omega) (by omega) hc22)⟩ (by first | decide | (dsimp only; omega) | omega) (by first | decide | (dsimp only; omega) | omega)
              · skip
                refine own_aloadN X19 d17_107 rfl rfl rfl ?_
                refine own_getf X19 (hw _ (List.mem_of_getElem? (i := 18) rfl)) (own_LS_f_tested F) d17_108 rfl (fun T23 X24 => ?_)
                refine own_iload X24 d17_111 rfl rfl ?_
                refine own_ialoadF X24 (j := (min i j)) (own_LS_a1 F) (by decide) (by omega) d17_113 rfl ?_
                show own_Fin p e below (own_End s n0 (own_qcb1 A (dep + 1) i j d Z n0 h0) ({ frames := (dep + 1) + 2, cells := 0, slots := 0, locals := 25 * (dep + 1) + 22 } : Room).cells ({ frames := (dep + 1) + 2, cells := 0, slots := 0, locals := 25 * (dep + 1) + 22 } : Room).slots) (T23.setTop (mkF m 114 #[.val (.ref (A 0)), .val (.int (1 : Int32)), .val (.int i.toInt32), .val (.int j.toInt32), .val (.int (1 : Int32)), .val (.int (0 : Int32)), .val (.int (own_cd d (own_pk 1 (min i j) (max i j)))), .val (.int (min i j).toInt32), .val (.int (max i j).toInt32), .val (.long (own_pk 1 (min i j) (max i j))), .second, .unset, .unset, .unset] [(.int (o_te d (min i j)))]))
                refine own_aloadN X24 d17_114 rfl rfl rfl ?_
                refine own_getf X24 (hw _ (List.mem_of_getElem? (i := 18) rfl)) (own_LS_f_tested F) d17_115 rfl (fun T25 X26 => ?_)
                refine own_iload X26 d17_118 rfl rfl ?_
                refine own_ialoadF X26 (j := (max i j)) (own_LS_a1 F) (by decide) (by omega) d17_120 rfl ?_
                show own_Fin p e below (own_End s n0 (own_qcb1 A (dep + 1) i j d Z n0 h0) ({ frames := (dep + 1) + 2, cells := 0, slots := 0, locals := 25 * (dep + 1) + 22 } : Room).cells ({ frames := (dep + 1) + 2, cells := 0, slots := 0, locals := 25 * (dep + 1) + 22 } : Room).slots) (T25.setTop (mkF m 121 #[.val (.ref (A 0)), .val (.int (1 : Int32)), .val (.int i.toInt32), .val (.int j.toInt32), .val (.int (1 : Int32)), .val (.int (0 : Int32)), .val (.int (own_cd d (own_pk 1 (min i j) (max i j)))), .val (.int (min i j).toInt32), .val (.int (max i j).toInt32), .val (.long (own_pk 1 (min i j) (max i j))), .second, .unset, .unset, .unset] [(.int (o_te d (max i j))), (.int (o_te d (min i j)))]))
                refine own_callS X26 (hw _ (List.mem_of_getElem? (i := 116) rfl)) (hw _ (List.mem_of_getElem? (i := 117) rfl)) (hw _ (List.mem_of_getElem? (i := 114) rfl)) (hw _ (List.mem_of_getElem? (i := 118) rfl)) (by decide) (argsL := [(.int (o_te d (min i j))), (.int (o_te d (max i j)))]) (rest := []) (own_mmx l Z a0 hw [] (o_te d (min i j)) (o_te d (max i j)) _ _) (pd_19) rfl d17_121 rfl rfl rfl (W := 0) rfl (by first | decide | (dsimp only; omega) | omega) (by first | decide | (dsimp only; omega) | omega) (cells' := 0) (slots' := 0) rfl rfl (by first | decide | (dsimp only; omega) | omega) (by first | decide | (dsimp only; omega) | omega) (fun v T27 h29 X28 q30 => ?_)
                obtain ⟨rfl, rfl⟩ := q30
                show own_Fin p e below (own_End s n0 (own_qcb1 A (dep + 1) i j d Z n0 h0) ({ frames := (dep + 1) + 2, cells := 0, slots := 0, locals := 25 * (dep + 1) + 22 } : Room).cells ({ frames := (dep + 1) + 2, cells := 0, slots := 0, locals := 25 * (dep + 1) + 22 } : Room).slots) (T27.setTop (mkF m 124 #[.val (.ref (A 0)), .val (.int (1 : Int32)), .val (.int i.toInt32), .val (.int j.toInt32), .val (.int (1 : Int32)), .val (.int (0 : Int32)), .val (.int (own_cd d (own_pk 1 (min i j) (max i j)))), .val (.int (min i j).toInt32), .val (.int (max i j).toInt32), .val (.long (own_pk 1 (min i j) (max i j))), .second, .unset, .unset, .unset] [(.int (own_fmx (o_te d (min i j)) (o_te d (max i j))))]))
                obtain ⟨tp, htp⟩ : ∃ z, z = (own_fmx (o_te d (min i j)) (o_te d (max i j))) := ⟨_, rfl⟩
                rw [← htp]
                show own_Fin p e below (own_End s n0 (own_qcb1 A (dep + 1) i j d Z n0 h0) ({ frames := (dep + 1) + 2, cells := 0, slots := 0, locals := 25 * (dep + 1) + 22 } : Room).cells ({ frames := (dep + 1) + 2, cells := 0, slots := 0, locals := 25 * (dep + 1) + 22 } : Room).slots) (T27.setTop (mkF m 124 #[.val (.ref (A 0)), .val (.int (1 : Int32)), .val (.int i.toInt32), .val (.int j.toInt32), .val (.int (1 : Int32)), .val (.int (0 : Int32)), .val (.int (own_cd d (own_pk 1 (min i j) (max i j)))), .val (.int (min i j).toInt32), .val (.int (max i j).toInt32), .val (.long (own_pk 1 (min i j) (max i j))), .second, .unset, .unset, .unset] [(.int tp)]))
                obtain ⟨t1, t2, t3⟩ := own_tp htp
                have ha : min i j < o_N d := by omega
                have hb : max i j < o_N d := by omega
                have t0 : ¬ tp < 0 := fun z => by
                  rcases t3 with q | q
                  · rw [q] at z; have := (own_leaf I ha).mp z; omega
                  · rw [q] at z; have := (own_leaf I hb).mp z; omega
                have t64 : tp < 64 := by
                  rcases t3 with q | q
                  · rw [q]; exact (I.2.2.2.2.1 (min i j) (by omega) ha).2.1
                  · rw [q]; exact (I.2.2.2.2.1 (max i j) (by omega) hb).2.1
                have A0 := own_br_ok I ha t1 t0 0
                have B0 := own_br_ok I hb t2 t0 0
                have A1 := own_br_ok I ha t1 t0 1
                have B1 := own_br_ok I hb t2 t0 1
                have dA : o_te d (min i j) = tp ∨ o_te d (max i j) = tp := t3.imp Eq.symm Eq.symm
                have eD : o_D d (min i j) + o_D d (max i j) = o_D d i + o_D d j := by
                  by_cases q : i ≤ j
                  · rw [Nat.min_eq_left q, Nat.max_eq_right q]
                  · rw [Nat.min_eq_right (by omega), Nat.max_eq_left (by omega)]; omega
                have D0 : o_D d (own_br d (min i j) tp 0) + o_D d (own_br d (max i j) tp 0) ≤ dep + 1 := by
                  have := A0.2.2.2.1; have := B0.2.2.2.1
                  rcases dA with q | q
                  · have := A0.2.2.2.2 q; omega
                  · have := B0.2.2.2.2 q; omega
                have D1 : o_D d (own_br d (min i j) tp 1) + o_D d (own_br d (max i j) tp 1) ≤ dep + 1 := by
                  have := A1.2.2.2.1; have := B1.2.2.2.1
                  rcases dA with q | q
                  · have := A1.2.2.2.2 q; omega
                  · have := B1.2.2.2.2 q; omega
                refine own_istore X28 (L' := #[.val (.ref (A 0)), .val (.int (1 : Int32)), .val (.int i.toInt32), .val (.int j.toInt32), .val (.int (1 : Int32)), .val (.int (0 : Int32)), .val (.int (own_cd d (own_pk 1 (min i j) (max i j)))), .val (.int (min i j).toInt32), .val (.int (max i j).toInt32), .val (.long (own_pk 1 (min i j) (max i j))), .second, .val (.int tp), .unset, .unset]) d17_124 rfl rfl ?_
                refine own_aloadN X28 d17_126 rfl rfl rfl ?_
                refine own_iloadN X28 d17_127 rfl rfl ?_
                refine own_aloadN X28 d17_128 rfl rfl rfl ?_
                refine own_iload X28 d17_129 rfl rfl ?_
                refine own_iload X28 d17_131 rfl rfl ?_
                refine own_iconst X28 (0 : Int32) d17_133 rfl (by decide) ?_
                refine own_callP X28 (hw _ (List.mem_of_getElem? (i := 119) rfl)) (hw _ (List.mem_of_getElem? (i := 120) rfl)) (hw _ (List.mem_of_getElem? (i := 121) rfl)) (hw _ (List.mem_of_getElem? (i := 2) rfl)) (hw _ (List.mem_of_getElem? (i := 122) rfl)) (hw _ (List.mem_of_getElem? (i := 58) rfl)) (hw _ (List.mem_of_getElem? (i := 57) rfl)) rfl (by decide) (argsL := [(.int (min i j).toInt32), (.int tp), (.int (0 : Int32))]) (rest := [(.int (1 : Int32)), (.ref (A 0))]) (own_mbr l Z a0 hw A n0 (min i j) tp 0 d _ F (by omega)) (own_LS_exa F) (pd_20) rfl d17_134 rfl rfl rfl (W := 2) rfl (by first | decide | (dsimp only; omega) | omega) (by first | decide | (dsimp only; omega) | omega) (cells' := 0) (slots' := 0) rfl rfl (by first | decide | (dsimp only; omega) | omega) (by first | decide | (dsimp only; omega) | omega) (fun v T31 h33 X32 q34 => ?_)
                obtain ⟨rfl, rfl⟩ := q34
                show own_Fin p e below (own_End s n0 (own_qcb1 A (dep + 1) i j d Z n0 h0) ({ frames := (dep + 1) + 2, cells := 0, slots := 0, locals := 25 * (dep + 1) + 22 } : Room).cells ({ frames := (dep + 1) + 2, cells := 0, slots := 0, locals := 25 * (dep + 1) + 22 } : Room).slots) (T31.setTop (mkF m 137 #[.val (.ref (A 0)), .val (.int (1 : Int32)), .val (.int i.toInt32), .val (.int j.toInt32), .val (.int (1 : Int32)), .val (.int (0 : Int32)), .val (.int (own_cd d (own_pk 1 (min i j) (max i j)))), .val (.int (min i j).toInt32), .val (.int (max i j).toInt32), .val (.long (own_pk 1 (min i j) (max i j))), .second, .val (.int tp), .unset, .unset] [(.int (own_br d (min i j) tp 0).toInt32), (.int (1 : Int32)), (.ref (A 0))]))
                refine own_aloadN X32 d17_137 rfl rfl rfl ?_
                refine own_iload X32 d17_138 rfl rfl ?_
                refine own_iload X32 d17_140 rfl rfl ?_
                refine own_iconst X32 (0 : Int32) d17_142 rfl (by decide) ?_
                refine own_callP X32 (hw _ (List.mem_of_getElem? (i := 119) rfl)) (hw _ (List.mem_of_getElem? (i := 120) rfl)) (hw _ (List.mem_of_getElem? (i := 121) rfl)) (hw _ (List.mem_of_getElem? (i := 2) rfl)) (hw _ (List.mem_of_getElem? (i := 122) rfl)) (hw _ (List.mem_of_getElem? (i := 58) rfl)) (hw _ (List.mem_of_getElem? (i := 57) rfl)) rfl (by decide) (argsL := [(.int (max i j).toInt32), (.int tp), (.int (0 : Int32))]) (rest := [(.int (own_br d (min i j) tp 0).toInt32), (.int (1 : Int32)), (.ref (A 0))]) (own_mbr l Z a0 hw A n0 (max i j) tp 0 d _ F (by omega)) (own_LS_exa F) (pd_20) rfl d17_143 rfl rfl rfl (W := 3) rfl (by first | decide | (dsimp only; omega) | omega) (by first | decide | (dsimp only; omega) | omega) (cells' := 0) (slots' := 0) rfl rfl (by first | decide | (dsimp only; omega) | omega) (by first | decide | (dsimp only; omega) | omega) (fun v T35 h37 X36 q38 => ?_)
                obtain ⟨rfl, rfl⟩ := q38
                show own_Fin p e below (own_End s n0 (own_qcb1 A (dep + 1) i j d Z n0 h0) ({ frames := (dep + 1) + 2, cells := 0, slots := 0, locals := 25 * (dep + 1) + 22 } : Room).cells ({ frames := (dep + 1) + 2, cells := 0, slots := 0, locals := 25 * (dep + 1) + 22 } : Room).slots) (T35.setTop (mkF m 146 #[.val (.ref (A 0)), .val (.int (1 : Int32)), .val (.int i.toInt32), .val (.int j.toInt32), .val (.int (1 : Int32)), .val (.int (0 : Int32)), .val (.int (own_cd d (own_pk 1 (min i j) (max i j)))), .val (.int (min i j).toInt32), .val (.int (max i j).toInt32), .val (.long (own_pk 1 (min i j) (max i j))), .second, .val (.int tp), .unset, .unset] [(.int (own_br d (max i j) tp 0).toInt32), (.int (own_br d (min i j) tp 0).toInt32), (.int (1 : Int32)), (.ref (A 0))]))
                refine own_callP X36 (hw _ (List.mem_of_getElem? (i := 108) rfl)) (hw _ (List.mem_of_getElem? (i := 109) rfl)) (hw _ (List.mem_of_getElem? (i := 110) rfl)) (hw _ (List.mem_of_getElem? (i := 2) rfl)) (hw _ (List.mem_of_getElem? (i := 111) rfl)) (hw _ (List.mem_of_getElem? (i := 58) rfl)) (hw _ (List.mem_of_getElem? (i := 57) rfl)) rfl (by decide) (argsL := [(.int (1 : Int32)), (.int (own_br d (min i j) tp 0).toInt32), (.int (own_br d (max i j) tp 0).toInt32)]) (rest := []) (ih (own_br d (min i j) tp 0) (own_br d (max i j) tp 0) d _ F I A0.1 B0.1 D0 (by omega)) (own_LS_exa F) (pd_17) rfl d17_146 rfl rfl rfl (W := 0) rfl (by first | decide | (dsimp only; omega) | omega) (by first | decide | (dsimp only; omega) | omega) (cells' := 0) (slots' := 0) rfl rfl (by first | decide | (dsimp only; omega) | omega) (by first | decide | (dsimp only; omega) | omega) (fun v T39 h41 X40 q42 => ?_)
                obtain ⟨e1, q1', rfl, P1, I1, L1, N1, S1⟩ := q42
                show own_Fin p e below (own_End s n0 (own_qcb1 A (dep + 1) i j d Z n0 h0) ({ frames := (dep + 1) + 2, cells := 0, slots := 0, locals := 25 * (dep + 1) + 22 } : Room).cells ({ frames := (dep + 1) + 2, cells := 0, slots := 0, locals := 25 * (dep + 1) + 22 } : Room).slots) (T39.setTop (mkF m 149 #[.val (.ref (A 0)), .val (.int (1 : Int32)), .val (.int i.toInt32), .val (.int j.toInt32), .val (.int (1 : Int32)), .val (.int (0 : Int32)), .val (.int (own_cd d (own_pk 1 (min i j) (max i j)))), .val (.int (min i j).toInt32), .val (.int (max i j).toInt32), .val (.long (own_pk 1 (min i j) (max i j))), .second, .val (.int tp), .unset, .unset] [(.int q1')]))
                obtain ⟨q1, rfl, g1, -⟩ := id S1
                show own_Fin p e below (own_End s n0 (own_qcb1 A (dep + 1) i j d Z n0 h0) ({ frames := (dep + 1) + 2, cells := 0, slots := 0, locals := 25 * (dep + 1) + 22 } : Room).cells ({ frames := (dep + 1) + 2, cells := 0, slots := 0, locals := 25 * (dep + 1) + 22 } : Room).slots) (T39.setTop (mkF m 149 #[.val (.ref (A 0)), .val (.int (1 : Int32)), .val (.int i.toInt32), .val (.int j.toInt32), .val (.int (1 : Int32)), .val (.int (0 : Int32)), .val (.int (own_cd d (own_pk 1 (min i j) (max i j)))), .val (.int (min i j).toInt32), .val (.int (max i j).toInt32), .val (.long (own_pk 1 (min i j) (max i j))), .second, .val (.int tp), .unset, .unset] [(.int q1.toInt32)]))
                refine own_istore X40 (L' := #[.val (.ref (A 0)), .val (.int (1 : Int32)), .val (.int i.toInt32), .val (.int j.toInt32), .val (.int (1 : Int32)), .val (.int (0 : Int32)), .val (.int (own_cd d (own_pk 1 (min i j) (max i j)))), .val (.int (min i j).toInt32), .val (.int (max i j).toInt32), .val (.long (own_pk 1 (min i j) (max i j))), .second, .val (.int tp), .val (.int q1.toInt32), .unset]) d17_149 rfl rfl ?_
                refine own_aloadN X40 d17_151 rfl rfl rfl ?_
                refine own_iloadN X40 d17_152 rfl rfl ?_
                refine own_aloadN X40 d17_153 rfl rfl rfl ?_
                refine own_iload X40 d17_154 rfl rfl ?_
                refine own_iload X40 d17_156 rfl rfl ?_
                refine own_iconst X40 (1 : Int32) d17_158 rfl (by decide) ?_
                refine own_callP X40 (hw _ (List.mem_of_getElem? (i := 119) rfl)) (hw _ (List.mem_of_getElem? (i := 120) rfl)) (hw _ (List.mem_of_getElem? (i := 121) rfl)) (hw _ (List.mem_of_getElem? (i := 2) rfl)) (hw _ (List.mem_of_getElem? (i := 122) rfl)) (hw _ (List.mem_of_getElem? (i := 58) rfl)) (hw _ (List.mem_of_getElem? (i := 57) rfl)) rfl (by decide) (argsL := [(.int (min i j).toInt32), (.int tp), (.int (1 : Int32))]) (rest := [(.int (1 : Int32)), (.ref (A 0))]) (own_mbr l Z a0 hw A n0 (min i j) tp 1 e1 _ P1 (by omega)) (own_LS_exa P1) (pd_20) rfl d17_159 rfl rfl rfl (W := 2) rfl (by first | decide | (dsimp only; omega) | omega) (by first | decide | (dsimp only; omega) | omega) (cells' := 0) (slots' := 0) rfl rfl (by first | decide | (dsimp only; omega) | omega) (by first | decide | (dsimp only; omega) | omega) (fun v T43 h45 X44 q46 => ?_)
                obtain ⟨rfl, rfl⟩ := q46
                show own_Fin p e below (own_End s n0 (own_qcb1 A (dep + 1) i j d Z n0 h0) ({ frames := (dep + 1) + 2, cells := 0, slots := 0, locals := 25 * (dep + 1) + 22 } : Room).cells ({ frames := (dep + 1) + 2, cells := 0, slots := 0, locals := 25 * (dep + 1) + 22 } : Room).slots) (T43.setTop (mkF m 162 #[.val (.ref (A 0)), .val (.int (1 : Int32)), .val (.int i.toInt32), .val (.int j.toInt32), .val (.int (1 : Int32)), .val (.int (0 : Int32)), .val (.int (own_cd d (own_pk 1 (min i j) (max i j)))), .val (.int (min i j).toInt32), .val (.int (max i j).toInt32), .val (.long (own_pk 1 (min i j) (max i j))), .second, .val (.int tp), .val (.int q1.toInt32), .unset] [(.int (own_br e1 (min i j) tp 1).toInt32), (.int (1 : Int32)), (.ref (A 0))]))
                rw [own_br_le L1 ha]
                show own_Fin p e below (own_End s n0 (own_qcb1 A (dep + 1) i j d Z n0 h0) ({ frames := (dep + 1) + 2, cells := 0, slots := 0, locals := 25 * (dep + 1) + 22 } : Room).cells ({ frames := (dep + 1) + 2, cells := 0, slots := 0, locals := 25 * (dep + 1) + 22 } : Room).slots) (T43.setTop (mkF m 162 #[.val (.ref (A 0)), .val (.int (1 : Int32)), .val (.int i.toInt32), .val (.int j.toInt32), .val (.int (1 : Int32)), .val (.int (0 : Int32)), .val (.int (own_cd d (own_pk 1 (min i j) (max i j)))), .val (.int (min i j).toInt32), .val (.int (max i j).toInt32), .val (.long (own_pk 1 (min i j) (max i j))), .second, .val (.int tp), .val (.int q1.toInt32), .unset] [(.int (own_br d (min i j) tp 1).toInt32), (.int (1 : Int32)), (.ref (A 0))]))
                refine own_aloadN X44 d17_162 rfl rfl rfl ?_
                refine own_iload X44 d17_163 rfl rfl ?_
                refine own_iload X44 d17_165 rfl rfl ?_
                refine own_iconst X44 (1 : Int32) d17_167 rfl (by decide) ?_
                refine own_callP X44 (hw _ (List.mem_of_getElem? (i := 119) rfl)) (hw _ (List.mem_of_getElem? (i := 120) rfl)) (hw _ (List.mem_of_getElem? (i := 121) rfl)) (hw _ (List.mem_of_getElem? (i := 2) rfl)) (hw _ (List.mem_of_getElem? (i := 122) rfl)) (hw _ (List.mem_of_getElem? (i := 58) rfl)) (hw _ (List.mem_of_getElem? (i := 57) rfl)) rfl (by decide) (argsL := [(.int (max i j).toInt32), (.int tp), (.int (1 : Int32))]) (rest := [(.int (own_br d (min i j) tp 1).toInt32), (.int (1 : Int32)), (.ref (A 0))]) (own_mbr l Z a0 hw A n0 (max i j) tp 1 e1 _ P1 (by omega)) (own_LS_exa P1) (pd_20) rfl d17_168 rfl rfl rfl (W := 3) rfl (by first | decide | (dsimp only; omega) | omega) (by first | decide | (dsimp only; omega) | omega) (cells' := 0) (slots' := 0) rfl rfl (by first | decide | (dsimp only; omega) | omega) (by first | decide | (dsimp only; omega) | omega) (fun v T47 h49 X48 q50 => ?_)
                obtain ⟨rfl, rfl⟩ := q50
                show own_Fin p e below (own_End s n0 (own_qcb1 A (dep + 1) i j d Z n0 h0) ({ frames := (dep + 1) + 2, cells := 0, slots := 0, locals := 25 * (dep + 1) + 22 } : Room).cells ({ frames := (dep + 1) + 2, cells := 0, slots := 0, locals := 25 * (dep + 1) + 22 } : Room).slots) (T47.setTop (mkF m 171 #[.val (.ref (A 0)), .val (.int (1 : Int32)), .val (.int i.toInt32), .val (.int j.toInt32), .val (.int (1 : Int32)), .val (.int (0 : Int32)), .val (.int (own_cd d (own_pk 1 (min i j) (max i j)))), .val (.int (min i j).toInt32), .val (.int (max i j).toInt32), .val (.long (own_pk 1 (min i j) (max i j))), .second, .val (.int tp), .val (.int q1.toInt32), .unset] [(.int (own_br e1 (max i j) tp 1).toInt32), (.int (own_br d (min i j) tp 1).toInt32), (.int (1 : Int32)), (.ref (A 0))]))
                rw [own_br_le L1 hb]
                show own_Fin p e below (own_End s n0 (own_qcb1 A (dep + 1) i j d Z n0 h0) ({ frames := (dep + 1) + 2, cells := 0, slots := 0, locals := 25 * (dep + 1) + 22 } : Room).cells ({ frames := (dep + 1) + 2, cells := 0, slots := 0, locals := 25 * (dep + 1) + 22 } : Room).slots) (T47.setTop (mkF m 171 #[.val (.ref (A 0)), .val (.int (1 : Int32)), .val (.int i.toInt32), .val (.int j.toInt32), .val (.int (1 : Int32)), .val (.int (0 : Int32)), .val (.int (own_cd d (own_pk 1 (min i j) (max i j)))), .val (.int (min i j).toInt32), .val (.int (max i j).toInt32), .val (.long (own_pk 1 (min i j) (max i j))), .second, .val (.int tp), .val (.int q1.toInt32), .unset] [(.int (own_br d (max i j) tp 1).toInt32), (.int (own_br d (min i j) tp 1).toInt32), (.int (1 : Int32)), (.ref (A 0))]))
                refine own_callP X48 (hw _ (List.mem_of_getElem? (i := 108) rfl)) (hw _ (List.mem_of_getElem? (i := 109) rfl)) (hw _ (List.mem_of_getElem? (i := 110) rfl)) (hw _ (List.mem_of_getElem? (i := 2) rfl)) (hw _ (List.mem_of_getElem? (i := 111) rfl)) (hw _ (List.mem_of_getElem? (i := 58) rfl)) (hw _ (List.mem_of_getElem? (i := 57) rfl)) rfl (by decide) (argsL := [(.int (1 : Int32)), (.int (own_br d (min i j) tp 1).toInt32), (.int (own_br d (max i j) tp 1).toInt32)]) (rest := []) (ih (own_br d (min i j) tp 1) (own_br d (max i j) tp 1) e1 _ P1 I1 (Nat.lt_of_lt_of_le A1.1 L1.1) (Nat.lt_of_lt_of_le B1.1 L1.1) (by rw [(L1.2 _ A1.1).2.2.2.2, (L1.2 _ B1.1).2.2.2.2]; exact D1) (by omega)) (own_LS_exa P1) (pd_17) rfl d17_171 rfl rfl rfl (W := 0) rfl (by first | decide | (dsimp only; omega) | omega) (by first | decide | (dsimp only; omega) | omega) (cells' := 0) (slots' := 0) rfl rfl (by first | decide | (dsimp only; omega) | omega) (by first | decide | (dsimp only; omega) | omega) (fun v T51 h53 X52 q54 => ?_)
                obtain ⟨e2, q2', rfl, P2, I2, L2, N2, S2⟩ := q54
                show own_Fin p e below (own_End s n0 (own_qcb1 A (dep + 1) i j d Z n0 h0) ({ frames := (dep + 1) + 2, cells := 0, slots := 0, locals := 25 * (dep + 1) + 22 } : Room).cells ({ frames := (dep + 1) + 2, cells := 0, slots := 0, locals := 25 * (dep + 1) + 22 } : Room).slots) (T51.setTop (mkF m 174 #[.val (.ref (A 0)), .val (.int (1 : Int32)), .val (.int i.toInt32), .val (.int j.toInt32), .val (.int (1 : Int32)), .val (.int (0 : Int32)), .val (.int (own_cd d (own_pk 1 (min i j) (max i j)))), .val (.int (min i j).toInt32), .val (.int (max i j).toInt32), .val (.long (own_pk 1 (min i j) (max i j))), .second, .val (.int tp), .val (.int q1.toInt32), .unset] [(.int q2')]))
                obtain ⟨q2, rfl, g2, -⟩ := id S2
                show own_Fin p e below (own_End s n0 (own_qcb1 A (dep + 1) i j d Z n0 h0) ({ frames := (dep + 1) + 2, cells := 0, slots := 0, locals := 25 * (dep + 1) + 22 } : Room).cells ({ frames := (dep + 1) + 2, cells := 0, slots := 0, locals := 25 * (dep + 1) + 22 } : Room).slots) (T51.setTop (mkF m 174 #[.val (.ref (A 0)), .val (.int (1 : Int32)), .val (.int i.toInt32), .val (.int j.toInt32), .val (.int (1 : Int32)), .val (.int (0 : Int32)), .val (.int (own_cd d (own_pk 1 (min i j) (max i j)))), .val (.int (min i j).toInt32), .val (.int (max i j).toInt32), .val (.long (own_pk 1 (min i j) (max i j))), .second, .val (.int tp), .val (.int q1.toInt32), .unset] [(.int q2.toInt32)]))
                refine own_istore X52 (L' := #[.val (.ref (A 0)), .val (.int (1 : Int32)), .val (.int i.toInt32), .val (.int j.toInt32), .val (.int (1 : Int32)), .val (.int (0 : Int32)), .val (.int (own_cd d (own_pk 1 (min i j) (max i j)))), .val (.int (min i j).toInt32), .val (.int (max i j).toInt32), .val (.long (own_pk 1 (min i j) (max i j))), .second, .val (.int tp), .val (.int q1.toInt32), .val (.int q2.toInt32)]) d17_174 rfl rfl ?_
                refine own_aloadN X52 d17_176 rfl rfl rfl ?_
                refine own_iload X52 d17_177 rfl rfl ?_
                refine own_iload X52 d17_179 rfl rfl ?_
                refine own_iload X52 d17_181 rfl rfl ?_
                have T1 := own_sp_lt L1 (by omega) g1 S1 A0.1 B0.1 A0.2.1 B0.2.1
                have T2 := own_sp_lt (L1.trans L2) (by omega) g2 S2 A1.1 B1.1 A1.2.1 B1.2.1
                refine own_callP X52 (hw _ (List.mem_of_getElem? (i := 60) rfl)) (hw _ (List.mem_of_getElem? (i := 61) rfl)) (hw _ (List.mem_of_getElem? (i := 62) rfl)) (hw _ (List.mem_of_getElem? (i := 2) rfl)) (hw _ (List.mem_of_getElem? (i := 63) rfl)) (hw _ (List.mem_of_getElem? (i := 58) rfl)) (hw _ (List.mem_of_getElem? (i := 57) rfl)) rfl (by decide) (argsL := [(.int tp), (.int q1.toInt32), (.int q2.toInt32)]) (rest := []) (own_mnd l Z a0 hw A n0 tp q1 q2 e2 _ P2 I2 (Nat.lt_of_lt_of_le g1 L2.1) g2 t0 t64 (by rw [(L2.2 q1 g1).1]; exact T1) T2 (by omega)) (own_LS_exa P2) (pd_6) rfl d17_183 rfl rfl rfl (W := 0) rfl (by first | decide | (dsimp only; omega) | omega) (by first | decide | (dsimp only; omega) | omega) (cells' := 0) (slots' := 0) rfl rfl (by first | decide | (dsimp only; omega) | omega) (by first | decide | (dsimp only; omega) | omega) (fun v T55 h57 X56 q58 => ?_)
                obtain ⟨e3, r3, rfl, P3, I3, L3, N3, g3, S3, T3, D3⟩ := q58
                show own_Fin p e below (own_End s n0 (own_qcb1 A (dep + 1) i j d Z n0 h0) ({ frames := (dep + 1) + 2, cells := 0, slots := 0, locals := 25 * (dep + 1) + 22 } : Room).cells ({ frames := (dep + 1) + 2, cells := 0, slots := 0, locals := 25 * (dep + 1) + 22 } : Room).slots) (T55.setTop (mkF m 186 #[.val (.ref (A 0)), .val (.int (1 : Int32)), .val (.int i.toInt32), .val (.int j.toInt32), .val (.int (1 : Int32)), .val (.int (0 : Int32)), .val (.int (own_cd d (own_pk 1 (min i j) (max i j)))), .val (.int (min i j).toInt32), .val (.int (max i j).toInt32), .val (.long (own_pk 1 (min i j) (max i j))), .second, .val (.int tp), .val (.int q1.toInt32), .val (.int q2.toInt32)] [(.int r3.toInt32)]))
                have SP := own_join (op := 1) I ha hb t1 t2 t3 t0 L1 S1 g1 L2 S2 g2 (by omega) L3 g3 S3 T3 D3
                refine own_istore X56 (L' := #[.val (.ref (A 0)), .val (.int (1 : Int32)), .val (.int i.toInt32), .val (.int j.toInt32), .val (.int (1 : Int32)), .val (.int (0 : Int32)), .val (.int r3.toInt32), .val (.int (min i j).toInt32), .val (.int (max i j).toInt32), .val (.long (own_pk 1 (min i j) (max i j))), .second, .val (.int tp), .val (.int q1.toInt32), .val (.int q2.toInt32)]) d17_186 rfl rfl ?_
                refine own_aloadN X56 d17_188 rfl rfl rfl ?_
                refine own_lload X56 d17_189 rfl rfl ?_
                refine own_iload X56 d17_191 rfl rfl ?_
                refine own_callP X56 (hw _ (List.mem_of_getElem? (i := 99) rfl)) (hw _ (List.mem_of_getElem? (i := 100) rfl)) (hw _ (List.mem_of_getElem? (i := 101) rfl)) (hw _ (List.mem_of_getElem? (i := 2) rfl)) (hw _ (List.mem_of_getElem? (i := 102) rfl)) (hw _ (List.mem_of_getElem? (i := 58) rfl)) (hw _ (List.mem_of_getElem? (i := 57) rfl)) rfl (by decide) (argsL := [(.long (own_pk 1 (min i j) (max i j))), (.int r3.toInt32)]) (rest := []) (own_mrem l Z a0 hw A n0 (own_pk 1 (min i j) (max i j)) r3.toInt32 e3 _ P3) (own_LS_exa P3) (pd_15) rfl d17_193 rfl rfl rfl (W := 0) rfl (by first | decide | (dsimp only; omega) | omega) (by first | decide | (dsimp only; omega) | omega) (cells' := 0) (slots' := 0) rfl rfl (by first | decide | (dsimp only; omega) | omega) (by first | decide | (dsimp only; omega) | omega) (fun v T59 h61 X60 q62 => ?_)
                obtain ⟨rfl, P4⟩ := q62
                show own_Fin p e below (own_End s n0 (own_qcb1 A (dep + 1) i j d Z n0 h0) ({ frames := (dep + 1) + 2, cells := 0, slots := 0, locals := 25 * (dep + 1) + 22 } : Room).cells ({ frames := (dep + 1) + 2, cells := 0, slots := 0, locals := 25 * (dep + 1) + 22 } : Room).slots) (T59.setTop (mkF m 196 #[.val (.ref (A 0)), .val (.int (1 : Int32)), .val (.int i.toInt32), .val (.int j.toInt32), .val (.int (1 : Int32)), .val (.int (0 : Int32)), .val (.int r3.toInt32), .val (.int (min i j).toInt32), .val (.int (max i j).toInt32), .val (.long (own_pk 1 (min i j) (max i j))), .second, .val (.int tp), .val (.int q1.toInt32), .val (.int q2.toInt32)] []))
                refine own_iload X60 d17_196 rfl rfl ?_
                exact own_retI X60 rfl d17_198 ⟨(own_rem e3 (own_pk 1 (min i j) (max i j)) r3.toInt32), r3.toInt32, rfl, P4, own_rem_inv I3 (by decide) (by omega) (by omega) SP, ((L1.trans L2).trans L3).trans (own_rem_le _ _ _), (show o_N e3 ≤ _ by omega), (own_sp_comm (by decide) SP).le (own_rem_le _ _ _)⟩ (by first | decide | (dsimp only; omega) | omega) (by first | decide | (dsimp only; omega) | omega)
            · skip
              refine own_iloadN X0 d17_64 rfl rfl ?_
              refine own_istore X0 (L' := #[.val (.ref (A 0)), .val (.int (1 : Int32)), .val (.int i.toInt32), .val (.int j.toInt32), .val (.int (1 : Int32)), .val (.int (0 : Int32)), .val (.int i.toInt32), .unset, .unset, .unset, .unset, .unset, .unset, .unset]) d17_65 rfl rfl ?_
              refine own_goto X0 d17_67 (by decide) (pc' := 196) (by decide) ?_
              refine own_iload X0 d17_196 rfl rfl ?_
              have ej : j = 0 := ((own_z (by omega) 0 (by omega)).mp hc5)
              exact own_retI X0 rfl d17_198 ⟨d, i.toInt32, rfl, F, I, own_Le.refl d, Nat.le_add_right _ _, own_sp_of (r := i) (Or.inl rfl) hi hj (fun x => by rw [ej]; simp [own_op, (I.2.2.1.1 x)])⟩ (by first | decide | (dsimp only; omega) | omega) (by first | decide | (dsimp only; omega) | omega)
          · skip
            refine own_iloadN X0 d17_52 rfl rfl ?_
            refine own_istore X0 (L' := #[.val (.ref (A 0)), .val (.int (1 : Int32)), .val (.int i.toInt32), .val (.int j.toInt32), .val (.int (1 : Int32)), .val (.int (0 : Int32)), .val (.int j.toInt32), .unset, .unset, .unset, .unset, .unset, .unset, .unset]) d17_53 rfl rfl ?_
            refine own_goto X0 d17_55 (by decide) (pc' := 196) (by decide) ?_
            refine own_iload X0 d17_196 rfl rfl ?_
            have ee : i = j := (own_z (by omega) j (by omega)).mp hc4
            exact own_retI X0 rfl d17_198 ⟨d, j.toInt32, rfl, F, I, own_Le.refl d, Nat.le_add_right _ _, own_sp_of (r := j) (Or.inr rfl) hi hj (fun x => by rw [ee]; simp [own_op])⟩ (by first | decide | (dsimp only; omega) | omega) (by first | decide | (dsimp only; omega) | omega)
      · skip
        refine own_iload X0 d17_34 rfl rfl ?_
        refine own_istore X0 (L' := #[.val (.ref (A 0)), .val (.int (1 : Int32)), .val (.int i.toInt32), .val (.int j.toInt32), .val (.int (1 : Int32)), .val (.int (0 : Int32)), .val (.int (1 : Int32)), .unset, .unset, .unset, .unset, .unset, .unset, .unset]) d17_36 rfl rfl ?_
        refine own_goto X0 d17_38 (by decide) (pc' := 196) (by decide) ?_
        refine own_iload X0 d17_196 rfl rfl ?_
        have ej : j = 1 := ((own_z (by omega) 1 (by omega)).mp hc2)
        exact own_retI X0 rfl d17_198 ⟨d, (1 : Nat).toInt32, rfl, F, I, own_Le.refl d, Nat.le_add_right _ _, own_sp_of (r := 1) (Or.inr ej.symm) hi hj (fun x => by rw [ej]; simp [own_op, (I.2.2.1.2 x)])⟩ (by first | decide | (dsimp only; omega) | omega) (by first | decide | (dsimp only; omega) | omega)

theorem own_sp_not0 {d : own_T} (I : own_Inv d) : own_Sp d 2 0 0 (1 : Nat).toInt32 := ⟨1, rfl, by have := I.1; omega, by have := I.1; omega, by have := I.1; omega, fun x => by rw [I.2.2.1.1 x, I.2.2.1.2 x]; rfl, Or.inl (by rw [I.2.1.1, I.2.1.2]; decide), by rw [I.2.2.2.1.2]; omega⟩
theorem own_sp_not1 {d : own_T} (I : own_Inv d) : own_Sp d 2 1 0 (0 : Nat).toInt32 := ⟨0, rfl, by have := I.1; omega, by have := I.1; omega, by have := I.1; omega, fun x => by rw [I.2.2.1.1 x, I.2.2.1.2 x]; rfl, Or.inl (by rw [I.2.1.1, I.2.1.2]; decide), by rw [I.2.2.2.1.1]; omega⟩
theorem own_joinN {d e1 e2 e3 : own_T} {k q1 q2 r3 : Nat} (I : own_Inv d) (k2 : 2 ≤ k) (hk : k < o_N d)
    (L1 : own_Le d e1) (S1 : own_Sp e1 2 (o_lo d k) 0 q1.toInt32) (g1 : q1 < o_N e1) (L2 : own_Le e1 e2) (S2 : own_Sp e2 2 (o_hi d k) 0 q2.toInt32) (g2 : q2 < o_N e2) (h64 : o_N e2 ≤ 32)
    (L3 : own_Le e2 e3) (hr : r3 < o_N e3) (hS : ∀ x, o_S e3 r3 x = if own_b x (o_te d k) = true then o_S e2 q2 x else o_S e2 q1 x) (ht : ¬ o_te d k < o_te e3 r3) (hD : o_D e3 r3 ≤ 1 + max (o_D e2 q1) (o_D e2 q2)) : own_Sp e3 2 k 0 r3.toInt32 := by
  have L12 := L1.trans L2
  have L13 := L12.trans L3
  obtain ⟨-, -, n3, n4, -, n6, n7, n8, n9⟩ := I.2.2.2.2.1 k k2 hk
  have l1 : o_lo d k < o_N d := by omega
  have l2 : o_hi d k < o_N d := by omega
  have h0 : 0 < o_N d := by omega
  obtain ⟨x1, u1, u2, u3, u4, u5, u6, u7⟩ := S1
  obtain ⟨x2, v1, v2, v3, v4, v5, v6, v7⟩ := S2
  have hN1 : o_N e1 ≤ 32 := Nat.le_trans L2.1 h64
  obtain rfl : q1 = x1 := (own_z (by omega) x1 (by omega)).mp u1
  obtain rfl : q2 = x2 := (own_z (by omega) x2 (by omega)).mp v1
  obtain ⟨A1, -, -, A4, A5⟩ := L13.2 k hk
  obtain ⟨B1, -, -, B4, B5⟩ := L13.2 0 h0
  obtain ⟨-, -, -, Q4, Q5⟩ := L2.2 q1 u2
  refine ⟨r3, rfl, hr, Nat.lt_of_lt_of_le hk L13.1, Nat.lt_of_lt_of_le h0 L13.1, fun x => ?_, Or.inl (by rw [A1]; exact ht), ?_⟩
  · show o_S e3 r3 x = !(o_S e3 k x)
    rw [hS x, A4, n8 x]
    by_cases z : own_b x (o_te d k) = true
    · rw [if_pos z, if_pos z, v5 x, (L12.2 _ l2).2.2.2.1]; rfl
    · rw [if_neg z, if_neg z, Q4, u5 x, (L1.2 _ l1).2.2.2.1]; rfl
  · rw [A5, B5, I.2.2.2.1.1]
    rw [(L1.2 _ l1).2.2.2.2, (L1.2 _ h0).2.2.2.2, I.2.2.2.1.1] at u7
    rw [(L12.2 _ l2).2.2.2.2, (L12.2 _ h0).2.2.2.2, I.2.2.2.1.1] at v7
    rw [Q5] at hD
    omega
theorem d12_0 : decode prog_13_method_5_code 0 = .ok (.iload_n 1, 1) := by decide +kernel
theorem d12_1 : decode prog_13_method_5_code 1 = .ok (.ifCond .ne 8, 3) := by decide +kernel
theorem d12_4 : decode prog_13_method_5_code 4 = .ok (.iconst 1, 1) := by decide +kernel
theorem d12_5 : decode prog_13_method_5_code 5 = .ok (.istore_n 2, 1) := by decide +kernel
theorem d12_6 : decode prog_13_method_5_code 6 = .ok (.goto 67, 3) := by decide +kernel
theorem d12_9 : decode prog_13_method_5_code 9 = .ok (.iload_n 1, 1) := by decide +kernel
theorem d12_10 : decode prog_13_method_5_code 10 = .ok (.iconst 1, 1) := by decide +kernel
theorem d12_11 : decode prog_13_method_5_code 11 = .ok (.if_icmp .ne 8, 3) := by decide +kernel
theorem d12_14 : decode prog_13_method_5_code 14 = .ok (.iconst 0, 1) := by decide +kernel
theorem d12_15 : decode prog_13_method_5_code 15 = .ok (.istore_n 2, 1) := by decide +kernel
theorem d12_16 : decode prog_13_method_5_code 16 = .ok (.goto 57, 3) := by decide +kernel
theorem d12_19 : decode prog_13_method_5_code 19 = .ok (.iconst 2, 1) := by decide +kernel
theorem d12_20 : decode prog_13_method_5_code 20 = .ok (.iload_n 1, 1) := by decide +kernel
theorem d12_21 : decode prog_13_method_5_code 21 = .ok (.iconst 0, 1) := by decide +kernel
theorem d12_22 : decode prog_13_method_5_code 22 = .ok (.invokestatic 68, 3) := by decide +kernel
theorem d12_25 : decode prog_13_method_5_code 25 = .ok (.lstore_n 3, 1) := by decide +kernel
theorem d12_26 : decode prog_13_method_5_code 26 = .ok (.aload_n 0, 1) := by decide +kernel
theorem d12_27 : decode prog_13_method_5_code 27 = .ok (.lload_n 3, 1) := by decide +kernel
theorem d12_28 : decode prog_13_method_5_code 28 = .ok (.invokevirtual 72, 3) := by decide +kernel
theorem d12_31 : decode prog_13_method_5_code 31 = .ok (.istore_n 2, 1) := by decide +kernel
theorem d12_32 : decode prog_13_method_5_code 32 = .ok (.iload_n 2, 1) := by decide +kernel
theorem d12_33 : decode prog_13_method_5_code 33 = .ok (.ifCond .ge 40, 3) := by decide +kernel
theorem d12_36 : decode prog_13_method_5_code 36 = .ok (.aload_n 0, 1) := by decide +kernel
theorem d12_37 : decode prog_13_method_5_code 37 = .ok (.aload_n 0, 1) := by decide +kernel
theorem d12_38 : decode prog_13_method_5_code 38 = .ok (.getfield 9, 3) := by decide +kernel
theorem d12_41 : decode prog_13_method_5_code 41 = .ok (.iload_n 1, 1) := by decide +kernel
theorem d12_42 : decode prog_13_method_5_code 42 = .ok (.iaload, 1) := by decide +kernel
theorem d12_43 : decode prog_13_method_5_code 43 = .ok (.aload_n 0, 1) := by decide +kernel
theorem d12_44 : decode prog_13_method_5_code 44 = .ok (.aload_n 0, 1) := by decide +kernel
theorem d12_45 : decode prog_13_method_5_code 45 = .ok (.getfield 13, 3) := by decide +kernel
theorem d12_48 : decode prog_13_method_5_code 48 = .ok (.iload_n 1, 1) := by decide +kernel
theorem d12_49 : decode prog_13_method_5_code 49 = .ok (.iaload, 1) := by decide +kernel
theorem d12_50 : decode prog_13_method_5_code 50 = .ok (.invokevirtual 76, 3) := by decide +kernel
theorem d12_53 : decode prog_13_method_5_code 53 = .ok (.aload_n 0, 1) := by decide +kernel
theorem d12_54 : decode prog_13_method_5_code 54 = .ok (.aload_n 0, 1) := by decide +kernel
theorem d12_55 : decode prog_13_method_5_code 55 = .ok (.getfield 16, 3) := by decide +kernel
theorem d12_58 : decode prog_13_method_5_code 58 = .ok (.iload_n 1, 1) := by decide +kernel
theorem d12_59 : decode prog_13_method_5_code 59 = .ok (.iaload, 1) := by decide +kernel
theorem d12_60 : decode prog_13_method_5_code 60 = .ok (.invokevirtual 76, 3) := by decide +kernel
theorem d12_63 : decode prog_13_method_5_code 63 = .ok (.invokevirtual 61, 3) := by decide +kernel
theorem d12_66 : decode prog_13_method_5_code 66 = .ok (.istore_n 2, 1) := by decide +kernel
theorem d12_67 : decode prog_13_method_5_code 67 = .ok (.aload_n 0, 1) := by decide +kernel
theorem d12_68 : decode prog_13_method_5_code 68 = .ok (.lload_n 3, 1) := by decide +kernel
theorem d12_69 : decode prog_13_method_5_code 69 = .ok (.iload_n 2, 1) := by decide +kernel
theorem d12_70 : decode prog_13_method_5_code 70 = .ok (.invokevirtual 80, 3) := by decide +kernel
theorem d12_73 : decode prog_13_method_5_code 73 = .ok (.iload_n 2, 1) := by decide +kernel
theorem d12_74 : decode prog_13_method_5_code 74 = .ok (.ireturn, 1) := by decide +kernel
theorem own_pnnt : plainFor (⟨"com/example/libgfg/libgfg/automaton/LetterSets", "not", "(I)I"⟩ : MethodName) = true := by first | exact plainFor_of_name (by first | (simp [plainName, overriddenIn, x]; done) | decide +kernel) | decide +kernel
theorem own_efnt (A : Nat → Addr) (dep : Nat) (i : Nat) (m : MethodId) : entryFrame m #[(.ref (A 0)), (.int i.toInt32)] 5 = mkF m 0 #[.val (.ref (A 0)), .val (.int i.toInt32), .unset, .unset, .unset] [] := by first | (simp [entryFrame, mkF, argsToLocals, Value.category]; done) | rfl
def own_qnt (A : Nat → Addr) (dep : Nat) (i : Nat) (d : own_T) (Z : State) (n0 : Nat) (h0 : Heap) (v : Option Value) (h : Heap) : Prop := ∃ (e : own_T) (r : Int32), v = some (.int r) ∧ own_LS Z h A n0 e ∧ own_Inv e ∧ own_Le d e ∧ o_N e ≤ o_N d + own_cnt dep ∧ own_Sp e 2 i 0 r
set_option maxRecDepth 65536 in
set_option maxHeartbeats 40000000 in
theorem own_mnt (l : Launch) (Z : State) (a0 : Array Value) (hw : ∀ d ∈ tables_1, d.before a0 Z = true) (A : Nat → Addr) (n0 : Nat) (dep : Nat) : ∀ (i : Nat) (d : own_T) (h0 : Heap) (F : own_LS Z h0 A n0 d) (I : own_Inv d) (hi : i < o_N d) (hD : o_D d i ≤ dep) (hN : o_N d + own_cnt dep ≤ 32),
    own_Met l Z (⟨"com/example/libgfg/libgfg/automaton/LetterSets", "not", "(I)I"⟩ : MethodName) prog_13_method_5_code 5 (some .int) [] ({ frames := dep + 2, cells := 0, slots := 0, locals := 19 * dep + 28 } : Room) #[(.ref (A 0)), (.int i.toInt32)] h0 n0 (own_qnt A dep i d Z n0 h0) := by
  induction dep with
  | zero =>
    intro i d h0 F I hi hD hN
    refine own_enter (own := "com/example/libgfg/libgfg/automaton/LetterSets") (nm := "not") rfl rfl own_pnnt (own_efnt A 0 i) ?_
    intro p e s m below meth c T0 X0
    refine own_iloadN X0 d12_0 rfl rfl ?_
    refine own_if_ne X0 d12_1 (by decide) (pcT := 9) (by decide) rfl (fun hc1 => ?_) (fun hc1 => ?_)
    · skip
      refine own_iloadN X0 d12_9 rfl rfl ?_
      refine own_iconst X0 (1 : Int32) d12_10 rfl (by decide) ?_
      refine own_icmp_ne X0 d12_11 (by decide) (pcT := 19) (by decide) rfl (fun hc2 => ?_) (fun hc2 => ?_)
      · skip
        have i0 : i ≠ 0 := fun z => hc1 (by rw [z]; rfl)
        have i1 : i ≠ 1 := fun z => hc2 (by rw [z]; rfl)
        have i2 : 2 ≤ i := by omega
        exact absurd (own_D0 I hi (by omega)) (by omega)
      · skip
        refine own_iconst X0 (0 : Int32) d12_14 rfl (by decide) ?_
        refine own_istoreN X0 (L' := #[.val (.ref (A 0)), .val (.int i.toInt32), .val (.int (0 : Int32)), .unset, .unset]) d12_15 rfl rfl ?_
        refine own_goto X0 d12_16 (by decide) (pc' := 73) (by decide) ?_
        refine own_iloadN X0 d12_73 rfl rfl ?_
        have ei : i = 1 := (own_z (by omega) 1 (by omega)).mp hc2
        subst ei
        exact own_retI X0 rfl d12_74 ⟨d, (0 : Nat).toInt32, rfl, F, I, own_Le.refl d, Nat.le_add_right _ _, own_sp_not1 I⟩ (by first | decide | (dsimp only; omega) | omega) (by first | decide | (dsimp only; omega) | omega)
    · skip
      refine own_iconst X0 (1 : Int32) d12_4 rfl (by decide) ?_
      refine own_istoreN X0 (L' := #[.val (.ref (A 0)), .val (.int i.toInt32), .val (.int (1 : Int32)), .unset, .unset]) d12_5 rfl rfl ?_
      refine own_goto X0 d12_6 (by decide) (pc' := 73) (by decide) ?_
      refine own_iloadN X0 d12_73 rfl rfl ?_
      have ei : i = 0 := (own_z (by omega) 0 (by omega)).mp hc1
      subst ei
      exact own_retI X0 rfl d12_74 ⟨d, (1 : Nat).toInt32, rfl, F, I, own_Le.refl d, Nat.le_add_right _ _, own_sp_not0 I⟩ (by first | decide | (dsimp only; omega) | omega) (by first | decide | (dsimp only; omega) | omega)
  | succ dep ih =>
    intro i d h0 F I hi hD hN
    refine own_enter (own := "com/example/libgfg/libgfg/automaton/LetterSets") (nm := "not") rfl rfl own_pnnt (own_efnt A (dep + 1) i) ?_
    intro p e s m below meth c T0 X0
    refine own_iloadN X0 d12_0 rfl rfl ?_
    refine own_if_ne X0 d12_1 (by decide) (pcT := 9) (by decide) rfl (fun hc1 => ?_) (fun hc1 => ?_)
    · skip
      refine own_iloadN X0 d12_9 rfl rfl ?_
      refine own_iconst X0 (1 : Int32) d12_10 rfl (by decide) ?_
      refine own_icmp_ne X0 d12_11 (by decide) (pcT := 19) (by decide) rfl (fun hc2 => ?_) (fun hc2 => ?_)
      · skip
        have i0 : i ≠ 0 := fun z => hc1 (by rw [z]; rfl)
        have i1 : i ≠ 1 := fun z => hc2 (by rw [z]; rfl)
        have i2 : 2 ≤ i := by omega
        have hcn : own_cnt (dep + 1) = 2 * own_cnt dep + 1 := rfl
        obtain ⟨m1, m2, m3, m4, m5, m6, m7, m8, m9⟩ := I.2.2.2.2.1 i i2 hi
        have m0 : o_te d 0 < o_te d i := by rw [I.2.1.1]; rw [Int32.lt_iff_toInt_lt] at m1 ⊢; have : (-1 : Int32).toInt = -1 := rfl; have : (0 : Int32).toInt = 0 := rfl; omega
        have l1 : o_lo d i < o_N d := by omega
        have l2 : o_hi d i < o_N d := by omega
        have l0 : 0 < o_N d := by omega
        refine own_iconst X0 (2 : Int32) d12_19 rfl (by decide) ?_
        refine own_iloadN X0 d12_20 rfl rfl ?_
        refine own_iconst X0 (0 : Int32) d12_21 rfl (by decide) ?_
        refine own_callS X0 (hw _ (List.mem_of_getElem? (i := 68) rfl)) (hw _ (List.mem_of_getElem? (i := 69) rfl)) (hw _ (List.mem_of_getElem? (i := 2) rfl)) (hw _ (List.mem_of_getElem? (i := 70) rfl)) (by decide) (argsL := [(.int (2 : Int32)), (.int i.toInt32), (.int (0 : Int32))]) (rest := []) (own_mpk l Z a0 hw [] (2 : Int32) (i.toInt32) (0 : Int32) _ _) (pd_8) rfl d12_22 rfl rfl rfl (W := 0) rfl (by first | decide | (dsimp only; omega) | omega) (by first | decide | (dsimp only; omega) | omega) (cells' := 0) (slots' := 0) rfl rfl (by first | decide | (dsimp only; omega) | omega) (by first | decide | (dsimp only; omega) | omega) (fun v T3 h5 X4 q6 => ?_)
        obtain ⟨rfl, rfl⟩ := q6
        show own_Fin p e below (own_End s n0 (own_qnt A (dep + 1) i d Z n0 h0) ({ frames := (dep + 1) + 2, cells := 0, slots := 0, locals := 19 * (dep + 1) + 28 } : Room).cells ({ frames := (dep + 1) + 2, cells := 0, slots := 0, locals := 19 * (dep + 1) + 28 } : Room).slots) (T3.setTop (mkF m 25 #[.val (.ref (A 0)), .val (.int i.toInt32), .unset, .unset, .unset] [(.long (own_fpk (2 : Int32) (i.toInt32) (0 : Int32)))]))
        show own_Fin p e below (own_End s n0 (own_qnt A (dep + 1) i d Z n0 h0) ({ frames := (dep + 1) + 2, cells := 0, slots := 0, locals := 19 * (dep + 1) + 28 } : Room).cells ({ frames := (dep + 1) + 2, cells := 0, slots := 0, locals := 19 * (dep + 1) + 28 } : Room).slots) (T3.setTop (mkF m 25 #[.val (.ref (A 0)), .val (.int i.toInt32), .unset, .unset, .unset] [(.long (own_pk 2 i 0))]))
        refine own_lstoreN X4 (L' := #[.val (.ref (A 0)), .val (.int i.toInt32), .unset, .val (.long (own_pk 2 i 0)), .second]) d12_25 rfl rfl ?_
        refine own_aloadN X4 d12_26 rfl rfl rfl ?_
        refine own_lloadN X4 d12_27 rfl rfl ?_
        refine own_callP X4 (hw _ (List.mem_of_getElem? (i := 90) rfl)) (hw _ (List.mem_of_getElem? (i := 91) rfl)) (hw _ (List.mem_of_getElem? (i := 92) rfl)) (hw _ (List.mem_of_getElem? (i := 2) rfl)) (hw _ (List.mem_of_getElem? (i := 93) rfl)) (hw _ (List.mem_of_getElem? (i := 58) rfl)) (hw _ (List.mem_of_getElem? (i := 57) rfl)) rfl (by decide) (argsL := [(.long (own_pk 2 i 0))]) (rest := []) (own_mcd l Z a0 hw A n0 (own_pk 2 i 0) d _ F) (own_LS_exa F) (pd_13) rfl d12_28 rfl rfl rfl (W := 0) rfl (by first | decide | (dsimp only; omega) | omega) (by first | decide | (dsimp only; omega) | omega) (cells' := 0) (slots' := 0) rfl rfl (by first | decide | (dsimp only; omega) | omega) (by first | decide | (dsimp only; omega) | omega) (fun v T7 h9 X8 q10 => ?_)
        obtain ⟨rfl, rfl⟩ := q10
        show own_Fin p e below (own_End s n0 (own_qnt A (dep + 1) i d Z n0 h0) ({ frames := (dep + 1) + 2, cells := 0, slots := 0, locals := 19 * (dep + 1) + 28 } : Room).cells ({ frames := (dep + 1) + 2, cells := 0, slots := 0, locals := 19 * (dep + 1) + 28 } : Room).slots) (T7.setTop (mkF m 31 #[.val (.ref (A 0)), .val (.int i.toInt32), .unset, .val (.long (own_pk 2 i 0)), .second] [(.int (own_cd d (own_pk 2 i 0)))]))
        refine own_istoreN X8 (L' := #[.val (.ref (A 0)), .val (.int i.toInt32), .val (.int (own_cd d (own_pk 2 i 0))), .val (.long (own_pk 2 i 0)), .second]) d12_31 rfl rfl ?_
        refine own_iloadN X8 d12_32 rfl rfl ?_
        refine own_if_ge X8 d12_33 (by decide) (pcT := 73) (by decide) rfl (fun hc11 => ?_) (fun hc11 => ?_)
        · skip
          refine own_iloadN X8 d12_73 rfl rfl ?_
          exact own_retI X8 rfl d12_74 ⟨d, (own_cd d (own_pk 2 i 0)), rfl, F, I, own_Le.refl d, Nat.le_add_right _ _, own_cd_hit I (op := 2) (by decide) (by omega) (by omega) hc11⟩ (by first | decide | (dsimp only; omega) | omega) (by first | decide | (dsimp only; omega) | omega)
        · skip
          refine own_aloadN X8 d12_36 rfl rfl rfl ?_
          refine own_aloadN X8 d12_37 rfl rfl rfl ?_
          refine own_getf X8 (hw _ (List.mem_of_getElem? (i := 18) rfl)) (own_LS_f_tested F) d12_38 rfl (fun T12 X13 => ?_)
          refine own_iloadN X13 d12_41 rfl rfl ?_
          refine own_ialoadF X13 (j := i) (own_LS_a1 F) (by decide) (by omega) d12_42 rfl ?_
          show own_Fin p e below (own_End s n0 (own_qnt A (dep + 1) i d Z n0 h0) ({ frames := (dep + 1) + 2, cells := 0, slots := 0, locals := 19 * (dep + 1) + 28 } : Room).cells ({ frames := (dep + 1) + 2, cells := 0, slots := 0, locals := 19 * (dep + 1) + 28 } : Room).slots) (T12.setTop (mkF m 43 #[.val (.ref (A 0)), .val (.int i.toInt32), .val (.int (own_cd d (own_pk 2 i 0))), .val (.long (own_pk 2 i 0)), .second] [(.int (o_te d i)), (.ref (A 0))]))
          refine own_aloadN X13 d12_43 rfl rfl rfl ?_
          refine own_aloadN X13 d12_44 rfl rfl rfl ?_
          refine own_getf X13 (hw _ (List.mem_of_getElem? (i := 20) rfl)) (own_LS_f_low F) d12_45 rfl (fun T14 X15 => ?_)
          refine own_iloadN X15 d12_48 rfl rfl ?_
          refine own_ialoadF X15 (j := i) (own_LS_a2 F) (by decide) (by omega) d12_49 rfl ?_
          show own_Fin p e below (own_End s n0 (own_qnt A (dep + 1) i d Z n0 h0) ({ frames := (dep + 1) + 2, cells := 0, slots := 0, locals := 19 * (dep + 1) + 28 } : Room).cells ({ frames := (dep + 1) + 2, cells := 0, slots := 0, locals := 19 * (dep + 1) + 28 } : Room).slots) (T14.setTop (mkF m 50 #[.val (.ref (A 0)), .val (.int i.toInt32), .val (.int (own_cd d (own_pk 2 i 0))), .val (.long (own_pk 2 i 0)), .second] [(.int (o_lo d i).toInt32), (.ref (A 0)), (.int (o_te d i)), (.ref (A 0))]))
          refine own_callV X15 (hw _ (List.mem_of_getElem? (i := 98) rfl)) (hw _ (List.mem_of_getElem? (i := 86) rfl)) (hw _ (List.mem_of_getElem? (i := 88) rfl)) (hw _ (List.mem_of_getElem? (i := 87) rfl)) (hw _ (List.mem_of_getElem? (i := 2) rfl)) (hw _ (List.mem_of_getElem? (i := 89) rfl)) (by decide) (argsL := [(.int (o_lo d i).toInt32)]) (rest := [(.int (o_te d i)), (.ref (A 0))]) (ih (o_lo d i) d _ F I l1 (by omega) (by omega)) (own_LS_exa F) (pd_12) rfl d12_50 rfl rfl rfl (W := 2) rfl (by first | decide | (dsimp only; omega) | omega) (by first | decide | (dsimp only; omega) | omega) (cells' := 0) (slots' := 0) rfl rfl (by first | decide | (dsimp only; omega) | omega) (by first | decide | (dsimp only; omega) | omega) (fun v T16 h18 X17 q19 => ?_)
          obtain ⟨e1, q1', rfl, P1, I1, L1, N1, S1⟩ := q19
          show own_Fin p e below (own_End s n0 (own_qnt A (dep + 1) i d Z n0 h0) ({ frames := (dep + 1) + 2, cells := 0, slots := 0, locals := 19 * (dep + 1) + 28 } : Room).cells ({ frames := (dep + 1) + 2, cells := 0, slots := 0, locals := 19 * (dep + 1) + 28 } : Room).slots) (T16.setTop (mkF m 53 #[.val (.ref (A 0)), .val (.int i.toInt32), .val (.int (own_cd d (own_pk 2 i 0))), .val (.long (own_pk 2 i 0)), .second] [(.int q1'), (.int (o_te d i)), (.ref (A 0))]))
          obtain ⟨q1, rfl, g1, -⟩ := id S1
          show own_Fin p e below (own_End s n0 (own_qnt A (dep + 1) i d Z n0 h0) ({ frames := (dep + 1) + 2, cells := 0, slots := 0, locals := 19 * (dep + 1) + 28 } : Room).cells ({ frames := (dep + 1) + 2, cells := 0, slots := 0, locals := 19 * (dep + 1) + 28 } : Room).slots) (T16.setTop (mkF m 53 #[.val (.ref (A 0)), .val (.int i.toInt32), .val (.int (own_cd d (own_pk 2 i 0))), .val (.long (own_pk 2 i 0)), .second] [(.int q1.toInt32), (.int (o_te d i)), (.ref (A 0))]))
          refine own_aloadN X17 d12_53 rfl rfl rfl ?_
          refine own_aloadN X17 d12_54 rfl rfl rfl ?_
          refine own_getf X17 (hw _ (List.mem_of_getElem? (i := 22) rfl)) (own_LS_f_high P1) d12_55 rfl (fun T20 X21 => ?_)
          refine own_iloadN X21 d12_58 rfl rfl ?_
          refine own_ialoadF X21 (j := i) (own_LS_a3 P1) (by decide) (by omega) d12_59 rfl ?_
          show own_Fin p e below (own_End s n0 (own_qnt A (dep + 1) i d Z n0 h0) ({ frames := (dep + 1) + 2, cells := 0, slots := 0, locals := 19 * (dep + 1) + 28 } : Room).cells ({ frames := (dep + 1) + 2, cells := 0, slots := 0, locals := 19 * (dep + 1) + 28 } : Room).slots) (T20.setTop (mkF m 60 #[.val (.ref (A 0)), .val (.int i.toInt32), .val (.int (own_cd d (own_pk 2 i 0))), .val (.long (own_pk 2 i 0)), .second] [(.int (o_hi e1 i).toInt32), (.ref (A 0)), (.int q1.toInt32), (.int (o_te d i)), (.ref (A 0))]))
          rw [(L1.2 i hi).2.2.1]
          show own_Fin p e below (own_End s n0 (own_qnt A (dep + 1) i d Z n0 h0) ({ frames := (dep + 1) + 2, cells := 0, slots := 0, locals := 19 * (dep + 1) + 28 } : Room).cells ({ frames := (dep + 1) + 2, cells := 0, slots := 0, locals := 19 * (dep + 1) + 28 } : Room).slots) (T20.setTop (mkF m 60 #[.val (.ref (A 0)), .val (.int i.toInt32), .val (.int (own_cd d (own_pk 2 i 0))), .val (.long (own_pk 2 i 0)), .second] [(.int (o_hi d i).toInt32), (.ref (A 0)), (.int q1.toInt32), (.int (o_te d i)), (.ref (A 0))]))
          refine own_callV X21 (hw _ (List.mem_of_getElem? (i := 98) rfl)) (hw _ (List.mem_of_getElem? (i := 86) rfl)) (hw _ (List.mem_of_getElem? (i := 88) rfl)) (hw _ (List.mem_of_getElem? (i := 87) rfl)) (hw _ (List.mem_of_getElem? (i := 2) rfl)) (hw _ (List.mem_of_getElem? (i := 89) rfl)) (by decide) (argsL := [(.int (o_hi d i).toInt32)]) (rest := [(.int q1.toInt32), (.int (o_te d i)), (.ref (A 0))]) (ih (o_hi d i) e1 _ P1 I1 (Nat.lt_of_lt_of_le l2 L1.1) (by rw [(L1.2 _ l2).2.2.2.2]; omega) (by omega)) (own_LS_exa P1) (pd_12) rfl d12_60 rfl rfl rfl (W := 3) rfl (by first | decide | (dsimp only; omega) | omega) (by first | decide | (dsimp only; omega) | omega) (cells' := 0) (slots' := 0) rfl rfl (by first | decide | (dsimp only; omega) | omega) (by first | decide | (dsimp only; omega) | omega) (fun v T22 h24 X23 q25 => ?_)
          obtain ⟨e2, q2', rfl, P2, I2, L2, N2, S2⟩ := q25
          show own_Fin p e below (own_End s n0 (own_qnt A (dep + 1) i d Z n0 h0) ({ frames := (dep + 1) + 2, cells := 0, slots := 0, locals := 19 * (dep + 1) + 28 } : Room).cells ({ frames := (dep + 1) + 2, cells := 0, slots := 0, locals := 19 * (dep + 1) + 28 } : Room).slots) (T22.setTop (mkF m 63 #[.val (.ref (A 0)), .val (.int i.toInt32), .val (.int (own_cd d (own_pk 2 i 0))), .val (.long (own_pk 2 i 0)), .second] [(.int q2'), (.int q1.toInt32), (.int (o_te d i)), (.ref (A 0))]))
          obtain ⟨q2, rfl, g2, -⟩ := id S2
          show own_Fin p e below (own_End s n0 (own_qnt A (dep + 1) i d Z n0 h0) ({ frames := (dep + 1) + 2, cells := 0, slots := 0, locals := 19 * (dep + 1) + 28 } : Room).cells ({ frames := (dep + 1) + 2, cells := 0, slots := 0, locals := 19 * (dep + 1) + 28 } : Room).slots) (T22.setTop (mkF m 63 #[.val (.ref (A 0)), .val (.int i.toInt32), .val (.int (own_cd d (own_pk 2 i 0))), .val (.long (own_pk 2 i 0)), .second] [(.int q2.toInt32), (.int q1.toInt32), (.int (o_te d i)), (.ref (A 0))]))
          have T1 := own_sp_lt (tp := o_te d i) L1 (by omega) g1 S1 l1 l0 m6 m0
          have T2 := own_sp_lt (tp := o_te d i) (L1.trans L2) (by omega) g2 S2 l2 l0 m7 m0
          refine own_callP X23 (hw _ (List.mem_of_getElem? (i := 60) rfl)) (hw _ (List.mem_of_getElem? (i := 61) rfl)) (hw _ (List.mem_of_getElem? (i := 62) rfl)) (hw _ (List.mem_of_getElem? (i := 2) rfl)) (hw _ (List.mem_of_getElem? (i := 63) rfl)) (hw _ (List.mem_of_getElem? (i := 58) rfl)) (hw _ (List.mem_of_getElem? (i := 57) rfl)) rfl (by decide) (argsL := [(.int (o_te d i)), (.int q1.toInt32), (.int q2.toInt32)]) (rest := []) (own_mnd l Z a0 hw A n0 (o_te d i) q1 q2 e2 _ P2 I2 (Nat.lt_of_lt_of_le g1 L2.1) g2 m1 m2 (by rw [(L2.2 q1 g1).1]; exact T1) T2 (by omega)) (own_LS_exa P2) (pd_6) rfl d12_63 rfl rfl rfl (W := 0) rfl (by first | decide | (dsimp only; omega) | omega) (by first | decide | (dsimp only; omega) | omega) (cells' := 0) (slots' := 0) rfl rfl (by first | decide | (dsimp only; omega) | omega) (by first | decide | (dsimp only; omega) | omega) (fun v T26 h28 X27 q29 => ?_)
          obtain ⟨e3, r3, rfl, P3, I3, L3, N3, g3, S3, T3, D3⟩ := q29
          show own_Fin p e below (own_End s n0 (own_qnt A (dep + 1) i d Z n0 h0) ({ frames := (dep + 1) + 2, cells := 0, slots := 0, locals := 19 * (dep + 1) + 28 } : Room).cells ({ frames := (dep + 1) + 2, cells := 0, slots := 0, locals := 19 * (dep + 1) + 28 } : Room).slots) (T26.setTop (mkF m 66 #[.val (.ref (A 0)), .val (.int i.toInt32), .val (.int (own_cd d (own_pk 2 i 0))), .val (.long (own_pk 2 i 0)), .second] [(.int r3.toInt32)]))
          have SP := own_joinN I i2 hi L1 S1 g1 L2 S2 g2 (by omega) L3 g3 S3 T3 D3
          refine own_istoreN X27 (L' := #[.val (.ref (A 0)), .val (.int i.toInt32), .val (.int r3.toInt32), .val (.long (own_pk 2 i 0)), .second]) d12_66 rfl rfl ?_
          refine own_aloadN X27 d12_67 rfl rfl rfl ?_
          refine own_lloadN X27 d12_68 rfl rfl ?_
          refine own_iloadN X27 d12_69 rfl rfl ?_
          refine own_callP X27 (hw _ (List.mem_of_getElem? (i := 99) rfl)) (hw _ (List.mem_of_getElem? (i := 100) rfl)) (hw _ (List.mem_of_getElem? (i := 101) rfl)) (hw _ (List.mem_of_getElem? (i := 2) rfl)) (hw _ (List.mem_of_getElem? (i := 102) rfl)) (hw _ (List.mem_of_getElem? (i := 58) rfl)) (hw _ (List.mem_of_getElem? (i := 57) rfl)) rfl (by decide) (argsL := [(.long (own_pk 2 i 0)), (.int r3.toInt32)]) (rest := []) (own_mrem l Z a0 hw A n0 (own_pk 2 i 0) r3.toInt32 e3 _ P3) (own_LS_exa P3) (pd_15) rfl d12_70 rfl rfl rfl (W := 0) rfl (by first | decide | (dsimp only; omega) | omega) (by first | decide | (dsimp only; omega) | omega) (cells' := 0) (slots' := 0) rfl rfl (by first | decide | (dsimp only; omega) | omega) (by first | decide | (dsimp only; omega) | omega) (fun v T30 h32 X31 q33 => ?_)
          obtain ⟨rfl, P4⟩ := q33
          show own_Fin p e below (own_End s n0 (own_qnt A (dep + 1) i d Z n0 h0) ({ frames := (dep + 1) + 2, cells := 0, slots := 0, locals := 19 * (dep + 1) + 28 } : Room).cells ({ frames := (dep + 1) + 2, cells := 0, slots := 0, locals := 19 * (dep + 1) + 28 } : Room).slots) (T30.setTop (mkF m 73 #[.val (.ref (A 0)), .val (.int i.toInt32), .val (.int r3.toInt32), .val (.long (own_pk 2 i 0)), .second] []))
          refine own_iloadN X31 d12_73 rfl rfl ?_
          exact own_retI X31 rfl d12_74 ⟨(own_rem e3 (own_pk 2 i 0) r3.toInt32), r3.toInt32, rfl, P4, own_rem_inv I3 (by decide) (by omega) (by omega) SP, ((L1.trans L2).trans L3).trans (own_rem_le _ _ _), (show o_N e3 ≤ _ by omega), SP.le (own_rem_le _ _ _)⟩ (by first | decide | (dsimp only; omega) | omega) (by first | decide | (dsimp only; omega) | omega)
      · skip
        refine own_iconst X0 (0 : Int32) d12_14 rfl (by decide) ?_
        refine own_istoreN X0 (L' := #[.val (.ref (A 0)), .val (.int i.toInt32), .val (.int (0 : Int32)), .unset, .unset]) d12_15 rfl rfl ?_
        refine own_goto X0 d12_16 (by decide) (pc' := 73) (by decide) ?_
        refine own_iloadN X0 d12_73 rfl rfl ?_
        have ei : i = 1 := (own_z (by omega) 1 (by omega)).mp hc2
        subst ei
        exact own_retI X0 rfl d12_74 ⟨d, (0 : Nat).toInt32, rfl, F, I, own_Le.refl d, Nat.le_add_right _ _, own_sp_not1 I⟩ (by first | decide | (dsimp only; omega) | omega) (by first | decide | (dsimp only; omega) | omega)
    · skip
      refine own_iconst X0 (1 : Int32) d12_4 rfl (by decide) ?_
      refine own_istoreN X0 (L' := #[.val (.ref (A 0)), .val (.int i.toInt32), .val (.int (1 : Int32)), .unset, .unset]) d12_5 rfl rfl ?_
      refine own_goto X0 d12_6 (by decide) (pc' := 73) (by decide) ?_
      refine own_iloadN X0 d12_73 rfl rfl ?_
      have ei : i = 0 := (own_z (by omega) 0 (by omega)).mp hc1
      subst ei
      exact own_retI X0 rfl d12_74 ⟨d, (1 : Nat).toInt32, rfl, F, I, own_Le.refl d, Nat.le_add_right _ _, own_sp_not0 I⟩ (by first | decide | (dsimp only; omega) | omega) (by first | decide | (dsimp only; omega) | omega)
theorem d5_0 : decode prog_13_method_2_code 0 = .ok (.aload_n 0, 1) := by decide +kernel
theorem d5_1 : decode prog_13_method_2_code 1 = .ok (.iload_n 1, 1) := by decide +kernel
theorem d5_2 : decode prog_13_method_2_code 2 = .ok (.iconst 0, 1) := by decide +kernel
theorem d5_3 : decode prog_13_method_2_code 3 = .ok (.iconst 1, 1) := by decide +kernel
theorem d5_4 : decode prog_13_method_2_code 4 = .ok (.invokevirtual 61, 3) := by decide +kernel
theorem d5_7 : decode prog_13_method_2_code 7 = .ok (.ireturn, 1) := by decide +kernel
theorem own_pnpp : plainFor (⟨"com/example/libgfg/libgfg/automaton/LetterSets", "proposition", "(I)I"⟩ : MethodName) = true := by first | exact plainFor_of_name (by first | (simp [plainName, overriddenIn, x]; done) | decide +kernel) | decide +kernel
theorem own_efpp (A : Nat → Addr) (k : Nat) (m : MethodId) : entryFrame m #[(.ref (A 0)), (.int k.toInt32)] 2 = mkF m 0 #[.val (.ref (A 0)), .val (.int k.toInt32)] [] := by first | (simp [entryFrame, mkF, argsToLocals, Value.category]; done) | rfl
def own_qpp (A : Nat → Addr) (k : Nat) (d : own_T) (Z : State) (n0 : Nat) (h0 : Heap) (v : Option Value) (h : Heap) : Prop := ∃ (e : own_T) (r : Nat), v = some (.int r.toInt32) ∧ own_LS Z h A n0 e ∧ own_Inv e ∧ own_Le d e ∧ o_N e ≤ o_N d + 1 ∧ r < o_N e ∧ (∀ x, o_S e r x = own_b x k.toInt32) ∧ o_D e r ≤ 1
set_option maxRecDepth 65536 in
set_option maxHeartbeats 40000000 in
theorem own_mpp (l : Launch) (Z : State) (a0 : Array Value) (hw : ∀ d ∈ tables_1, d.before a0 Z = true) (A : Nat → Addr) (n0 : Nat) (k : Nat) (d : own_T) (h0 : Heap) (F : own_LS Z h0 A n0 d) (I : own_Inv d) (hk : k < 64) (hN : o_N d < 32) :
    own_Met l Z (⟨"com/example/libgfg/libgfg/automaton/LetterSets", "proposition", "(I)I"⟩ : MethodName) prog_13_method_2_code 2 (some .int) [] ({ frames := 3, cells := 0, slots := 0, locals := 47 } : Room) #[(.ref (A 0)), (.int k.toInt32)] h0 n0 (own_qpp A k d Z n0 h0) := by
  refine own_enter (own := "com/example/libgfg/libgfg/automaton/LetterSets") (nm := "proposition") rfl rfl own_pnpp (own_efpp A k) ?_
  intro p e s m below meth c T0 X0
  refine own_aloadN X0 d5_0 rfl rfl rfl ?_
  refine own_iloadN X0 d5_1 rfl rfl ?_
  refine own_iconst X0 (0 : Int32) d5_2 rfl (by decide) ?_
  refine own_iconst X0 (1 : Int32) d5_3 rfl (by decide) ?_
  have i1 := I.1
  have k0 : ¬ k.toInt32 < 0 := own_nneg (by omega)
  have k1 : (-1 : Int32) < k.toInt32 := by rw [Int32.lt_iff_toInt_lt, own_i32 (by omega)]; show (-1 : Int) < k; omega
  have k64 : k.toInt32 < 64 := by rw [Int32.lt_iff_toInt_lt, own_i32 (by omega)]; show (k : Int) < 64; omega
  refine own_callP X0 (hw _ (List.mem_of_getElem? (i := 60) rfl)) (hw _ (List.mem_of_getElem? (i := 61) rfl)) (hw _ (List.mem_of_getElem? (i := 62) rfl)) (hw _ (List.mem_of_getElem? (i := 2) rfl)) (hw _ (List.mem_of_getElem? (i := 63) rfl)) (hw _ (List.mem_of_getElem? (i := 58) rfl)) (hw _ (List.mem_of_getElem? (i := 57) rfl)) rfl (by decide) (argsL := [(.int k.toInt32), (.int (0 : Int32)), (.int (1 : Int32))]) (rest := []) (own_mnd l Z a0 hw A n0 k.toInt32 0 1 d _ F I (by omega) (by omega) k0 k64 (by rw [I.2.1.1]; exact k1) (by rw [I.2.1.2]; exact k1) hN) (own_LS_exa F) (pd_6) rfl d5_4 rfl rfl rfl (W := 0) rfl (by first | decide | (dsimp only; omega) | omega) (by first | decide | (dsimp only; omega) | omega) (cells' := 0) (slots' := 0) rfl rfl (by first | decide | (dsimp only; omega) | omega) (by first | decide | (dsimp only; omega) | omega) (fun v T1 h3 X2 q4 => ?_)
  obtain ⟨e1, r, rfl, P1, I1, L1, N1, g1, S1, Tt1, D1⟩ := q4
  show own_Fin p e below (own_End s n0 (own_qpp A k d Z n0 h0) ({ frames := 3, cells := 0, slots := 0, locals := 47 } : Room).cells ({ frames := 3, cells := 0, slots := 0, locals := 47 } : Room).slots) (T1.setTop (mkF m 7 #[.val (.ref (A 0)), .val (.int k.toInt32)] [(.int r.toInt32)]))
  exact own_retI X2 rfl d5_7 ⟨e1, r, rfl, P1, I1, L1, N1, g1, fun x => by rw [S1 x, I.2.2.1.1 x, I.2.2.1.2 x]; cases own_b x k.toInt32 <;> rfl, by rw [I.2.2.2.1.1, I.2.2.2.1.2] at D1; exact D1⟩ (by decide) (by decide)
theorem d21_0 : decode prog_13_method_3_code 0 = .ok (.aload_n 0, 1) := by decide +kernel
theorem d21_1 : decode prog_13_method_3_code 1 = .ok (.iconst 0, 1) := by decide +kernel
theorem d21_2 : decode prog_13_method_3_code 2 = .ok (.iload_n 1, 1) := by decide +kernel
theorem d21_3 : decode prog_13_method_3_code 3 = .ok (.iload_n 2, 1) := by decide +kernel
theorem d21_4 : decode prog_13_method_3_code 4 = .ok (.invokevirtual 65, 3) := by decide +kernel
theorem d21_7 : decode prog_13_method_3_code 7 = .ok (.ireturn, 1) := by decide +kernel
theorem own_pnand : plainFor (⟨"com/example/libgfg/libgfg/automaton/LetterSets", "and", "(II)I"⟩ : MethodName) = true := by first | exact plainFor_of_name (by first | (simp [plainName, overriddenIn, x]; done) | decide +kernel) | decide +kernel
theorem own_efand (A : Nat → Addr) (dep : Nat) (i j : Nat) (m : MethodId) : entryFrame m #[(.ref (A 0)), (.int i.toInt32), (.int j.toInt32)] 3 = mkF m 0 #[.val (.ref (A 0)), .val (.int i.toInt32), .val (.int j.toInt32)] [] := by first | (simp [entryFrame, mkF, argsToLocals, Value.category]; done) | rfl
def own_qand (A : Nat → Addr) (dep : Nat) (i j : Nat) (d : own_T) (Z : State) (n0 : Nat) (h0 : Heap) (v : Option Value) (h : Heap) : Prop := ∃ (e : own_T) (r : Int32), v = some (.int r) ∧ own_LS Z h A n0 e ∧ own_Inv e ∧ own_Le d e ∧ o_N e ≤ o_N d + own_cnt dep ∧ own_Sp e 0 i j r
set_option maxRecDepth 65536 in
set_option maxHeartbeats 40000000 in
theorem own_mand (l : Launch) (Z : State) (a0 : Array Value) (hw : ∀ d ∈ tables_1, d.before a0 Z = true) (A : Nat → Addr) (n0 : Nat) (dep : Nat) (i j : Nat) (d : own_T) (h0 : Heap) (F : own_LS Z h0 A n0 d) (I : own_Inv d) (hi : i < o_N d) (hj : j < o_N d) (hD : o_D d i + o_D d j ≤ dep + 1) (hN : o_N d + own_cnt dep ≤ 32) :
    own_Met l Z (⟨"com/example/libgfg/libgfg/automaton/LetterSets", "and", "(II)I"⟩ : MethodName) prog_13_method_3_code 3 (some .int) [] ({ frames := dep + 3, cells := 0, slots := 0, locals := 25 * dep + 47 } : Room) #[(.ref (A 0)), (.int i.toInt32), (.int j.toInt32)] h0 n0 (own_qand A dep i j d Z n0 h0) := by
  refine own_enter (own := "com/example/libgfg/libgfg/automaton/LetterSets") (nm := "and") rfl rfl own_pnand (own_efand A dep i j) ?_
  intro p e s m below meth c T0 X0
  refine own_aloadN X0 d21_0 rfl rfl rfl ?_
  refine own_iconst X0 (0 : Int32) d21_1 rfl (by decide) ?_
  refine own_iloadN X0 d21_2 rfl rfl ?_
  refine own_iloadN X0 d21_3 rfl rfl ?_
  refine own_callP X0 (hw _ (List.mem_of_getElem? (i := 108) rfl)) (hw _ (List.mem_of_getElem? (i := 109) rfl)) (hw _ (List.mem_of_getElem? (i := 110) rfl)) (hw _ (List.mem_of_getElem? (i := 2) rfl)) (hw _ (List.mem_of_getElem? (i := 111) rfl)) (hw _ (List.mem_of_getElem? (i := 58) rfl)) (hw _ (List.mem_of_getElem? (i := 57) rfl)) rfl (by decide) (argsL := [(.int (0 : Int32)), (.int i.toInt32), (.int j.toInt32)]) (rest := []) (own_mcb0 l Z a0 hw A n0 dep i j d _ F I hi hj hD hN) (own_LS_exa F) (pd_17) rfl d21_4 rfl rfl rfl (W := 0) rfl (by first | decide | (dsimp only; omega) | omega) (by first | decide | (dsimp only; omega) | omega) (cells' := 0) (slots' := 0) rfl rfl (by first | decide | (dsimp only; omega) | omega) (by first | decide | (dsimp only; omega) | omega) (fun v T1 h3 X2 q4 => ?_)
  obtain ⟨e1, r, rfl, P1, I1, L1, N1, S1⟩ := q4
  show own_Fin p e below (own_End s n0 (own_qand A dep i j d Z n0 h0) ({ frames := dep + 3, cells := 0, slots := 0, locals := 25 * dep + 47 } : Room).cells ({ frames := dep + 3, cells := 0, slots := 0, locals := 25 * dep + 47 } : Room).slots) (T1.setTop (mkF m 7 #[.val (.ref (A 0)), .val (.int i.toInt32), .val (.int j.toInt32)] [(.int r)]))
  exact own_retI X2 rfl d21_7 ⟨e1, r, rfl, P1, I1, L1, N1, S1⟩ (by first | decide | (dsimp only; omega) | omega) (by first | decide | (dsimp only; omega) | omega)
theorem d16_0 : decode prog_13_method_4_code 0 = .ok (.aload_n 0, 1) := by decide +kernel
theorem d16_1 : decode prog_13_method_4_code 1 = .ok (.iconst 1, 1) := by decide +kernel
theorem d16_2 : decode prog_13_method_4_code 2 = .ok (.iload_n 1, 1) := by decide +kernel
theorem d16_3 : decode prog_13_method_4_code 3 = .ok (.iload_n 2, 1) := by decide +kernel
theorem d16_4 : decode prog_13_method_4_code 4 = .ok (.invokevirtual 65, 3) := by decide +kernel
theorem d16_7 : decode prog_13_method_4_code 7 = .ok (.ireturn, 1) := by decide +kernel
theorem own_pnor : plainFor (⟨"com/example/libgfg/libgfg/automaton/LetterSets", "or", "(II)I"⟩ : MethodName) = true := by first | exact plainFor_of_name (by first | (simp [plainName, overriddenIn, x]; done) | decide +kernel) | decide +kernel
theorem own_efor (A : Nat → Addr) (dep : Nat) (i j : Nat) (m : MethodId) : entryFrame m #[(.ref (A 0)), (.int i.toInt32), (.int j.toInt32)] 3 = mkF m 0 #[.val (.ref (A 0)), .val (.int i.toInt32), .val (.int j.toInt32)] [] := by first | (simp [entryFrame, mkF, argsToLocals, Value.category]; done) | rfl
def own_qor (A : Nat → Addr) (dep : Nat) (i j : Nat) (d : own_T) (Z : State) (n0 : Nat) (h0 : Heap) (v : Option Value) (h : Heap) : Prop := ∃ (e : own_T) (r : Int32), v = some (.int r) ∧ own_LS Z h A n0 e ∧ own_Inv e ∧ own_Le d e ∧ o_N e ≤ o_N d + own_cnt dep ∧ own_Sp e 1 i j r
set_option maxRecDepth 65536 in
set_option maxHeartbeats 40000000 in
theorem own_mor (l : Launch) (Z : State) (a0 : Array Value) (hw : ∀ d ∈ tables_1, d.before a0 Z = true) (A : Nat → Addr) (n0 : Nat) (dep : Nat) (i j : Nat) (d : own_T) (h0 : Heap) (F : own_LS Z h0 A n0 d) (I : own_Inv d) (hi : i < o_N d) (hj : j < o_N d) (hD : o_D d i + o_D d j ≤ dep + 1) (hN : o_N d + own_cnt dep ≤ 32) :
    own_Met l Z (⟨"com/example/libgfg/libgfg/automaton/LetterSets", "or", "(II)I"⟩ : MethodName) prog_13_method_4_code 3 (some .int) [] ({ frames := dep + 3, cells := 0, slots := 0, locals := 25 * dep + 47 } : Room) #[(.ref (A 0)), (.int i.toInt32), (.int j.toInt32)] h0 n0 (own_qor A dep i j d Z n0 h0) := by
  refine own_enter (own := "com/example/libgfg/libgfg/automaton/LetterSets") (nm := "or") rfl rfl own_pnor (own_efor A dep i j) ?_
  intro p e s m below meth c T0 X0
  refine own_aloadN X0 d16_0 rfl rfl rfl ?_
  refine own_iconst X0 (1 : Int32) d16_1 rfl (by decide) ?_
  refine own_iloadN X0 d16_2 rfl rfl ?_
  refine own_iloadN X0 d16_3 rfl rfl ?_
  refine own_callP X0 (hw _ (List.mem_of_getElem? (i := 108) rfl)) (hw _ (List.mem_of_getElem? (i := 109) rfl)) (hw _ (List.mem_of_getElem? (i := 110) rfl)) (hw _ (List.mem_of_getElem? (i := 2) rfl)) (hw _ (List.mem_of_getElem? (i := 111) rfl)) (hw _ (List.mem_of_getElem? (i := 58) rfl)) (hw _ (List.mem_of_getElem? (i := 57) rfl)) rfl (by decide) (argsL := [(.int (1 : Int32)), (.int i.toInt32), (.int j.toInt32)]) (rest := []) (own_mcb1 l Z a0 hw A n0 dep i j d _ F I hi hj hD hN) (own_LS_exa F) (pd_17) rfl d16_4 rfl rfl rfl (W := 0) rfl (by first | decide | (dsimp only; omega) | omega) (by first | decide | (dsimp only; omega) | omega) (cells' := 0) (slots' := 0) rfl rfl (by first | decide | (dsimp only; omega) | omega) (by first | decide | (dsimp only; omega) | omega) (fun v T1 h3 X2 q4 => ?_)
  obtain ⟨e1, r, rfl, P1, I1, L1, N1, S1⟩ := q4
  show own_Fin p e below (own_End s n0 (own_qor A dep i j d Z n0 h0) ({ frames := dep + 3, cells := 0, slots := 0, locals := 25 * dep + 47 } : Room).cells ({ frames := dep + 3, cells := 0, slots := 0, locals := 25 * dep + 47 } : Room).slots) (T1.setTop (mkF m 7 #[.val (.ref (A 0)), .val (.int i.toInt32), .val (.int j.toInt32)] [(.int r)]))
  exact own_retI X2 rfl d16_7 ⟨e1, r, rfl, P1, I1, L1, N1, S1⟩ (by first | decide | (dsimp only; omega) | omega) (by first | decide | (dsimp only; omega) | omega)
theorem d23_0 : decode prog_13_method_7_code 0 = .ok (.iload_n 1, 1) := by decide +kernel
theorem d23_1 : decode prog_13_method_7_code 1 = .ok (.istore 4, 2) := by decide +kernel
theorem d23_3 : decode prog_13_method_7_code 3 = .ok (.aload_n 0, 1) := by decide +kernel
theorem d23_4 : decode prog_13_method_7_code 4 = .ok (.getfield 9, 3) := by decide +kernel
theorem d23_7 : decode prog_13_method_7_code 7 = .ok (.iload 4, 2) := by decide +kernel
theorem d23_9 : decode prog_13_method_7_code 9 = .ok (.iaload, 1) := by decide +kernel
theorem d23_10 : decode prog_13_method_7_code 10 = .ok (.ifCond .lt 41, 3) := by decide +kernel
theorem d23_13 : decode prog_13_method_7_code 13 = .ok (.lload_n 2, 1) := by decide +kernel
theorem d23_14 : decode prog_13_method_7_code 14 = .ok (.aload_n 0, 1) := by decide +kernel
theorem d23_15 : decode prog_13_method_7_code 15 = .ok (.getfield 9, 3) := by decide +kernel
theorem d23_18 : decode prog_13_method_7_code 18 = .ok (.iload 4, 2) := by decide +kernel
theorem d23_20 : decode prog_13_method_7_code 20 = .ok (.iaload, 1) := by decide +kernel
theorem d23_21 : decode prog_13_method_7_code 21 = .ok (.lushr, 1) := by decide +kernel
theorem d23_22 : decode prog_13_method_7_code 22 = .ok (.lconst 1, 1) := by decide +kernel
theorem d23_23 : decode prog_13_method_7_code 23 = .ok (.land, 1) := by decide +kernel
theorem d23_24 : decode prog_13_method_7_code 24 = .ok (.lconst 0, 1) := by decide +kernel
theorem d23_25 : decode prog_13_method_7_code 25 = .ok (.lcmp, 1) := by decide +kernel
theorem d23_26 : decode prog_13_method_7_code 26 = .ok (.ifCond .eq 13, 3) := by decide +kernel
theorem d23_29 : decode prog_13_method_7_code 29 = .ok (.aload_n 0, 1) := by decide +kernel
theorem d23_30 : decode prog_13_method_7_code 30 = .ok (.getfield 16, 3) := by decide +kernel
theorem d23_33 : decode prog_13_method_7_code 33 = .ok (.iload 4, 2) := by decide +kernel
theorem d23_35 : decode prog_13_method_7_code 35 = .ok (.iaload, 1) := by decide +kernel
theorem d23_36 : decode prog_13_method_7_code 36 = .ok (.goto 10, 3) := by decide +kernel
theorem d23_39 : decode prog_13_method_7_code 39 = .ok (.aload_n 0, 1) := by decide +kernel
theorem d23_40 : decode prog_13_method_7_code 40 = .ok (.getfield 13, 3) := by decide +kernel
theorem d23_43 : decode prog_13_method_7_code 43 = .ok (.iload 4, 2) := by decide +kernel
theorem d23_45 : decode prog_13_method_7_code 45 = .ok (.iaload, 1) := by decide +kernel
theorem d23_46 : decode prog_13_method_7_code 46 = .ok (.istore 4, 2) := by decide +kernel
theorem d23_48 : decode prog_13_method_7_code 48 = .ok (.goto (-45), 3) := by decide +kernel
theorem d23_51 : decode prog_13_method_7_code 51 = .ok (.iload 4, 2) := by decide +kernel
theorem d23_53 : decode prog_13_method_7_code 53 = .ok (.iconst 1, 1) := by decide +kernel
theorem d23_54 : decode prog_13_method_7_code 54 = .ok (.if_icmp .ne 7, 3) := by decide +kernel
theorem d23_57 : decode prog_13_method_7_code 57 = .ok (.iconst 1, 1) := by decide +kernel
theorem d23_58 : decode prog_13_method_7_code 58 = .ok (.goto 4, 3) := by decide +kernel
theorem d23_61 : decode prog_13_method_7_code 61 = .ok (.iconst 0, 1) := by decide +kernel
theorem d23_62 : decode prog_13_method_7_code 62 = .ok (.ireturn, 1) := by decide +kernel
theorem own_pnho : plainFor (⟨"com/example/libgfg/libgfg/automaton/LetterSets", "holds", "(IJ)Z"⟩ : MethodName) = true := by first | exact plainFor_of_name (by first | (simp [plainName, overriddenIn, x]; done) | decide +kernel) | decide +kernel
theorem own_efho (A : Nat → Addr) (i : Nat) (x : Int64) (m : MethodId) : entryFrame m #[(.ref (A 0)), (.int i.toInt32), (.long x)] 5 = mkF m 0 #[.val (.ref (A 0)), .val (.int i.toInt32), .val (.long x), .second, .unset] [] := by first | (simp [entryFrame, mkF, argsToLocals, Value.category]; done) | rfl
def own_qho (A : Nat → Addr) (i : Nat) (x : Int64) (d : own_T) (Z : State) (n0 : Nat) (h0 : Heap) (v : Option Value) (h : Heap) : Prop := v = some (.int (if o_S d i x = true then (1 : Int32) else (0 : Int32))) ∧ h0 = h
set_option maxRecDepth 65536 in
set_option maxHeartbeats 40000000 in
theorem own_mho (l : Launch) (Z : State) (a0 : Array Value) (hw : ∀ d ∈ tables_1, d.before a0 Z = true) (A : Nat → Addr) (n0 : Nat) (i : Nat) (x : Int64) (d : own_T) (h0 : Heap) (F : own_LS Z h0 A n0 d) (I : own_Inv d) (hi : i < o_N d) (hN : o_N d ≤ 32) :
    own_Met l Z (⟨"com/example/libgfg/libgfg/automaton/LetterSets", "holds", "(IJ)Z"⟩ : MethodName) prog_13_method_7_code 5 (some .boolean) [] ({ frames := 0, cells := 0, slots := 0, locals := 0 } : Room) #[(.ref (A 0)), (.int i.toInt32), (.long x)] h0 n0 (own_qho A i x d Z n0 h0) := by
  refine own_enter (own := "com/example/libgfg/libgfg/automaton/LetterSets") (nm := "holds") rfl rfl own_pnho (own_efho A i x) ?_
  intro p e s m below meth c T0 X0
  refine own_iloadN X0 d23_0 rfl rfl ?_
  refine own_istore X0 (L' := #[.val (.ref (A 0)), .val (.int i.toInt32), .val (.long x), .second, .val (.int i.toInt32)]) d23_1 rfl rfl ?_
  have loop : ∀ (b k : Nat) (T9 : State), k < b → k < o_N d → o_S d k x = o_S d i x → own_Cx Z p l e ({ frames := 0, cells := 0, slots := 0, locals := 0 } : Room) s m #[(.ref (A 0)), (.int i.toInt32), (.long x)] below meth c n0 "com/example/libgfg/libgfg/automaton/LetterSets" prog_13_method_7_code 5 "holds" (some .boolean) T9 h0 0 0 → own_Fin p e below (own_End s n0 (own_qho A i x d Z n0 h0) ({ frames := 0, cells := 0, slots := 0, locals := 0 } : Room).cells ({ frames := 0, cells := 0, slots := 0, locals := 0 } : Room).slots) (T9.setTop (mkF m 3 #[.val (.ref (A 0)), .val (.int i.toInt32), .val (.long x), .second, .val (.int k.toInt32)] [])) := by
    intro b
    induction b with
    | zero => intro k T9 q; exact absurd q (Nat.not_lt_zero _)
    | succ b ih =>
      intro k T9 hb hk hS X9
      refine own_aloadN X9 d23_3 rfl rfl rfl ?_
      refine own_getf X9 (hw _ (List.mem_of_getElem? (i := 18) rfl)) (own_LS_f_tested F) d23_4 rfl (fun T1 X2 => ?_)
      refine own_iload X2 d23_7 rfl rfl ?_
      refine own_ialoadF X2 (j := k) (own_LS_a1 F) (by decide) (by omega) d23_9 rfl ?_
      show own_Fin p e below (own_End s n0 (own_qho A i x d Z n0 h0) ({ frames := 0, cells := 0, slots := 0, locals := 0 } : Room).cells ({ frames := 0, cells := 0, slots := 0, locals := 0 } : Room).slots) (T1.setTop (mkF m 10 #[.val (.ref (A 0)), .val (.int i.toInt32), .val (.long x), .second, .val (.int k.toInt32)] [(.int (o_te d k))]))
      refine own_if_lt X2 d23_10 (by decide) (pcT := 51) (by decide) rfl (fun hc3 => ?_) (fun hc3 => ?_)
      · skip
        refine own_iload X2 d23_51 rfl rfl ?_
        refine own_iconst X2 (1 : Int32) d23_53 rfl (by decide) ?_
        refine own_icmp_ne X2 d23_54 (by decide) (pcT := 61) (by decide) rfl (fun hc4 => ?_) (fun hc4 => ?_)
        · skip
          refine own_iconst X2 (0 : Int32) d23_61 rfl (by decide) ?_
          have k2 := (own_leaf I hk).mp hc3
          have ek : k = 0 := by have : k ≠ 1 := fun z => hc4 (by rw [z]; rfl); omega
          subst ek
          exact own_retZ X2 rfl d23_62 rfl ⟨by rw [← hS, I.2.2.1.1 x]; rfl, rfl⟩ (by decide) (by decide)
        · skip
          refine own_iconst X2 (1 : Int32) d23_57 rfl (by decide) ?_
          refine own_goto X2 d23_58 (by decide) (pc' := 62) (by decide) ?_
          have k2 := (own_leaf I hk).mp hc3
          have ek : k = 1 := (own_z (by omega) 1 (by omega)).mp hc4
          subst ek
          exact own_retZ X2 rfl d23_62 rfl ⟨by rw [← hS, I.2.2.1.2 x]; rfl, rfl⟩ (by decide) (by decide)
      · skip
        refine own_lloadN X2 d23_13 rfl rfl ?_
        refine own_aloadN X2 d23_14 rfl rfl rfl ?_
        refine own_getf X2 (hw _ (List.mem_of_getElem? (i := 18) rfl)) (own_LS_f_tested F) d23_15 rfl (fun T5 X6 => ?_)
        refine own_iload X6 d23_18 rfl rfl ?_
        refine own_ialoadF X6 (j := k) (own_LS_a1 F) (by decide) (by omega) d23_20 rfl ?_
        show own_Fin p e below (own_End s n0 (own_qho A i x d Z n0 h0) ({ frames := 0, cells := 0, slots := 0, locals := 0 } : Room).cells ({ frames := 0, cells := 0, slots := 0, locals := 0 } : Room).slots) (T5.setTop (mkF m 21 #[.val (.ref (A 0)), .val (.int i.toInt32), .val (.long x), .second, .val (.int k.toInt32)] [(.int (o_te d k)), (.long x)]))
        refine own_lushr X6 d23_21 rfl ?_
        refine own_lconst X6 (1 : Int64) d23_22 rfl (by decide) ?_
        refine own_land X6 d23_23 rfl ?_
        refine own_lconst X6 (0 : Int64) d23_24 rfl (by decide) ?_
        refine own_lcmp_eq X6 d23_25 rfl d23_26 (by decide) (pcT := 39) (by decide) rfl (fun hc7 => ?_) (fun hc7 => ?_)
        · skip
          refine own_aloadN X6 d23_39 rfl rfl rfl ?_
          refine own_getf X6 (hw _ (List.mem_of_getElem? (i := 20) rfl)) (own_LS_f_low F) d23_40 rfl (fun T8 X9 => ?_)
          refine own_iload X9 d23_43 rfl rfl ?_
          refine own_ialoadF X9 (j := k) (own_LS_a2 F) (by decide) (by omega) d23_45 rfl ?_
          show own_Fin p e below (own_End s n0 (own_qho A i x d Z n0 h0) ({ frames := 0, cells := 0, slots := 0, locals := 0 } : Room).cells ({ frames := 0, cells := 0, slots := 0, locals := 0 } : Room).slots) (T8.setTop (mkF m 46 #[.val (.ref (A 0)), .val (.int i.toInt32), .val (.long x), .second, .val (.int k.toInt32)] [(.int (o_lo d k).toInt32)]))
          refine own_istore X9 (L' := #[.val (.ref (A 0)), .val (.int i.toInt32), .val (.long x), .second, .val (.int (o_lo d k).toInt32)]) d23_46 rfl rfl ?_
          refine own_goto X9 d23_48 (by decide) (pc' := 3) (by decide) ?_
          have k2 : 2 ≤ k := Classical.byContradiction fun z => hc3 ((own_leaf I hk).mpr (by omega))
          obtain ⟨-, -, n3, n4, -, -, -, n8, -⟩ := I.2.2.2.2.1 k k2 hk
          have hb1 : own_b x (o_te d k) = false := by unfold own_b; simp [hc7]
          exact ih (o_lo d k) _ (by omega) (by omega) (by rw [← hS, n8 x, hb1]; rfl) X9
        · skip
          refine own_aloadN X6 d23_29 rfl rfl rfl ?_
          refine own_getf X6 (hw _ (List.mem_of_getElem? (i := 22) rfl)) (own_LS_f_high F) d23_30 rfl (fun T10 X11 => ?_)
          refine own_iload X11 d23_33 rfl rfl ?_
          refine own_ialoadF X11 (j := k) (own_LS_a3 F) (by decide) (by omega) d23_35 rfl ?_
          show own_Fin p e below (own_End s n0 (own_qho A i x d Z n0 h0) ({ frames := 0, cells := 0, slots := 0, locals := 0 } : Room).cells ({ frames := 0, cells := 0, slots := 0, locals := 0 } : Room).slots) (T10.setTop (mkF m 36 #[.val (.ref (A 0)), .val (.int i.toInt32), .val (.long x), .second, .val (.int k.toInt32)] [(.int (o_hi d k).toInt32)]))
          refine own_goto X11 d23_36 (by decide) (pc' := 46) (by decide) ?_
          refine own_istore X11 (L' := #[.val (.ref (A 0)), .val (.int i.toInt32), .val (.long x), .second, .val (.int (o_hi d k).toInt32)]) d23_46 rfl rfl ?_
          refine own_goto X11 d23_48 (by decide) (pc' := 3) (by decide) ?_
          have k2 : 2 ≤ k := Classical.byContradiction fun z => hc3 ((own_leaf I hk).mpr (by omega))
          obtain ⟨-, -, n3, n4, -, -, -, n8, -⟩ := I.2.2.2.2.1 k k2 hk
          have hb1 : own_b x (o_te d k) = true := by unfold own_b; simp [hc7]
          exact ih (o_hi d k) _ (by omega) (by omega) (by rw [← hS, n8 x, hb1]; rfl) X11
  exact loop (i + 1) i _ (Nat.lt_succ_self _) hi rfl X0
section OwnW
variable {Z : State} {p : Program} {l : Launch} {e : Env} {R : Room} {s : State} {m : MethodId} {args : Array Value} {below : List Frame} {meth : Method} {c : Code} {n0 : Nat} {own : String} {bytes : ByteArray} {maxL : Nat} {nm : String} {ret : Option FieldType} {T : State} {h h' : Heap} {cells slots : Nat} {G : Outcome → State → Prop} {L : Array Slot} {st : List Value} {pc pc' : Nat} {a0 : Array Value} {a b : Addr} {n : Nat} {sl : Nat} {v : Value}
def own_EndW (s : State) (n0 : Nat) (q : Option Value → Prop) (k n : Nat) (o : Outcome) (U' : State) : Prop := ∃ v L, o = .returned v ∧ (q v ∧ Fr n0 L) ∧ ReturnedEndW s o U' L k n
theorem own_enterW {y : MethodName} {ws : List Jvm.Cond} {rm : Room} {as' : Array Value} {h0 : Heap} {q : Option Value → Prop} {L0 : Array Slot} {own nm : String} (ho : y.cls = own) (hnm0 : y.name = nm) (pn : plainFor y = true) (ef : ∀ m, entryFrame m as' maxL = mkF m 0 L0 [])
    (body : ∀ p e s m below meth c T, own_Cx Z p l e rm s m as' below meth c n0 own bytes maxL nm ret T h0 0 0 → own_Fin p e below (own_EndW s n0 q rm.cells rm.slots) (T.setTop (mkF m 0 L0 []))) :
    MetFree l y (head1 (Jvm.Cond.code y bytes maxL ret :: ws) rm) (fun a U => a = as' ∧ Z.Warmed39 U.vm ∧ U.heap = h0) (fun _ _ _ _ _ => True) (fun _ U o U' => own_EndW U n0 q rm.cells rm.slots o U') := by
  subst ho hnm0
  refine MetFree.of_bodySF pn hisR ?_
  intro p e s m args below meth c s₁ Bd hml0 hP hK
  obtain ⟨rfl, hZ, hh⟩ := hP
  have hnm := (name_of_methodNamed Bd.named Bd.method).1
  have e0 : s₁.heap = h0 := by rw [← hh, Bd.state]; rfl
  obtain ⟨s2, o, k1, k2, k3, k4⟩ := body p e s m below meth c s₁ ⟨[], Stand.of_body Bd, Fr.nil _, e0, Bd.exec, hZ, findClass_of_methodNamed Bd.named, Bd.bytes, hml0, hnm, Bd.returns, Bd.notSynchronized⟩
  exact ⟨s2, o, castTop (ef m) k1, k2, k3, k4⟩
theorem own_retZW {vm1 : Vm} {k1 : Nat} (X : own_Cx Z p l e R (s.setVm vm1) m args below meth c n0 own bytes maxL nm ret T h cells slots) (hS : s.Since vm1 k1) (hk1 : k1 ≤ h.size) {z : Int32} {q : Option Value → Prop} {k n : Nat} (hr0 : ret = some .boolean) (d : decode bytes pc = .ok (.ireturn, 1)) (hz : narrow .boolean (.int z) = .int z) (hq : q (some (.int z))) (hc : cells ≤ k) (hs : slots ≤ n) :
    own_Fin p e below (own_EndW s n0 q k n) (T.setTop (mkF m pc L ((.int z) :: st))) := by
  obtain ⟨locs, X, N, eT, hx, hZ, hown, hby, hml, hnm, hret, hlk⟩ := X
  obtain ⟨fs, hr, hrun, hended, hE⟩ := Jvm.Stand.leaveW X hS (by rw [eT]; exact hk1) (v := some (.int z)) (fun h => by rw [hret, hr0] at h; cases h) hlk
  exact ⟨_, _, retOut X hx (hret.trans hr0) hz (Or.inl ⟨rfl, Or.inr (Or.inl rfl), _, rfl⟩) (hb hby d) hr, hrun, hended, _, _, rfl, ⟨hq, N⟩, hE.1, hE.2.1, hE.2.2.1, hE.2.2.2.mono hc hs⟩
theorem own_ldcS (X : own_Cx Z p l e R s m args below meth c n0 own bytes maxL nm ret T h cells slots) {text : String} {i k : Nat} (w : (Jvm.Cond.stringLink own i text).before a0 Z = true) (wS : ∀ a ∈ Bundle.stringAtoms, a.before a0 Z = true) (d : decode bytes pc = .ok (.ldc i, 2)) (hp : pc + 2 = pc') (hk : 4 * text.toList.length ≤ k) (hbig : k ≤ 536870912) {cells' slots' : Nat} (ec : cells + 2 = cells') (es : slots + (k + 4) = slots') (hc : cells' ≤ R.cells) (hl : slots' ≤ R.slots)
    (q : ∀ (vm1 : Vm) (T' : State) (h' : Heap) (a : Addr) (k1 : Nat), own_Cx Z p l e R (s.setVm vm1) m args below meth c n0 own bytes maxL nm ret T' h' cells' slots' → Ext h h' → s.Since vm1 k1 → k1 ≤ h'.size → own_Fin p e below G (T'.setTop (mkF m pc' L ((.ref a) :: st)))) : own_Fin p e below G (T.setTop (mkF m pc L (st))) := by
  obtain ⟨locs, X, N, eT, hx, hZ, hown, hby, hml, hnm, hret, hlk⟩ := X
  subst hp ec es
  have X' : Stand p l e R (s.setVm s.vm) m args below meth c T locs cells slots := X
  have hB : s.Since s.vm 0 := ⟨State.Warmed39.refl s, fun j p hj hp => absurd (Array.getElem?_eq_some_iff.mp hp).1 (Nat.not_lt.mpr hj)⟩
  obtain ⟨a, T1, h1, k1, X1, e1, E1, S1, K1, Z1, O1, st1⟩ := ldcS X' hx hZ hown w wS eT hB (Nat.zero_le _) (g := mkF m pc L st) rfl (hb hby d) hk hbig hc hl
  exact own_go st1 (q T1.vm T1 h1 a k1 ⟨locs, X1, N, e1, hx, Z1, O1, hby, hml, hnm, hret, hlk⟩ E1 S1 K1)
end OwnW
theorem own_mono (A : Nat → Nat) (n : Nat) (h : ∀ k, k + 1 < n → A k < A (k + 1)) : ∀ i j, i < j → j < n → A i < A j := fun i j => by
  induction j with
  | zero => intro q; exact absurd q (Nat.not_lt_zero _)
  | succ j ih =>
    intro q r
    by_cases z : i = j
    · subst z; exact h i r
    · exact Nat.lt_trans (ih (by omega) (by omega)) (h j r)
def own_d0 : own_T := (own_up (own_up (fun _ => (0 : Int32)) 0 ((-1) : Int32)) 1 ((-1) : Int32), fun _ => 0, fun _ => 0, fun _ => 0, fun _ => ((-1) : Int64), fun _ => (0 : Int32), 2, fun k _ => decide (k = 1), fun _ => 0)
theorem own_nz0 : ∀ n, own_nz (fun _ => 0) n = 0
  | 0 => rfl
  | n + 1 => by rw [own_nz, own_nz0 n]; rfl
theorem own_d0_inv : own_Inv own_d0 := by
  refine ⟨Nat.le_refl _, ⟨rfl, rfl⟩, ⟨fun _ => rfl, fun _ => rfl⟩, ⟨rfl, rfl⟩, fun k a b => absurd b (Nat.not_lt.mpr a), fun s _ => (by decide : (0 : Nat) < 2), ?_, fun s _ op i j ho hi hj e => absurd e (own_pk_neg ho hi hj)⟩
  show own_nz (fun _ => 0) 64 + 2 ≤ 2
  rw [own_nz0]
  exact Nat.le_refl _
def own_Rep (e : own_T) (k : Nat) (f : Int64 → Bool) (D : Nat) : Prop := k < o_N e ∧ (∀ x, o_S e k x = f x) ∧ o_D e k ≤ D
theorem own_Rep.le {d e : own_T} {k D : Nat} {f : Int64 → Bool} (h : own_Rep d k f D) (L : own_Le d e) : own_Rep e k f D := ⟨Nat.lt_of_lt_of_le h.1 L.1, fun x => by rw [(L.2 k h.1).2.2.2.1]; exact h.2.1 x, by rw [(L.2 k h.1).2.2.2.2]; exact h.2.2⟩
theorem own_rep_sp {d e : own_T} {op i j D1 D2 : Nat} {r : Int32} {f g : Int64 → Bool} (h1 : own_Rep d i f D1) (h2 : own_Rep d j g D2) (L : own_Le d e) (S : own_Sp e op i j r) : ∃ k : Nat, r = k.toInt32 ∧ own_Rep e k (fun x => own_op op (f x) (g x)) (D1 + D2) := by
  obtain ⟨k, e1, e2, -, -, e5, -, e7⟩ := S
  have a := h1.le L
  have b := h2.le L
  refine ⟨k, e1, e2, fun x => by rw [e5 x, a.2.1 x, b.2.1 x], ?_⟩
  have := a.2.2
  have := b.2.2
  omega
theorem own_rep0 {d : own_T} (I : own_Inv d) : own_Rep d 0 (fun _ => false) 0 := ⟨by have := I.1; omega, I.2.2.1.1, by rw [I.2.2.2.1.1]; omega⟩
theorem d4_0 : decode jdk_65_method_101_code 0 = .ok (.iconst 0, 1) := by decide +kernel
theorem d4_1 : decode jdk_65_method_101_code 1 = .ok (.istore_n 3, 1) := by decide +kernel
theorem d4_2 : decode jdk_65_method_101_code 2 = .ok (.aload_n 0, 1) := by decide +kernel
theorem d4_3 : decode jdk_65_method_101_code 3 = .ok (.arraylength, 1) := by decide +kernel
theorem d4_4 : decode jdk_65_method_101_code 4 = .ok (.istore 4, 2) := by decide +kernel
theorem d4_6 : decode jdk_65_method_101_code 6 = .ok (.iload_n 3, 1) := by decide +kernel
theorem d4_7 : decode jdk_65_method_101_code 7 = .ok (.iload 4, 2) := by decide +kernel
theorem d4_9 : decode jdk_65_method_101_code 9 = .ok (.if_icmp .ge 13, 3) := by decide +kernel
theorem d4_12 : decode jdk_65_method_101_code 12 = .ok (.aload_n 0, 1) := by decide +kernel
theorem d4_13 : decode jdk_65_method_101_code 13 = .ok (.iload_n 3, 1) := by decide +kernel
theorem d4_14 : decode jdk_65_method_101_code 14 = .ok (.lload_n 1, 1) := by decide +kernel
theorem d4_15 : decode jdk_65_method_101_code 15 = .ok (.lastore, 1) := by decide +kernel
theorem d4_16 : decode jdk_65_method_101_code 16 = .ok (.iinc 3 1, 3) := by decide +kernel
theorem d4_19 : decode jdk_65_method_101_code 19 = .ok (.goto (-13), 3) := by decide +kernel
theorem d4_22 : decode jdk_65_method_101_code 22 = .ok (.return_, 1) := by decide +kernel
theorem own_pnfl : plainFor (⟨"java/util/Arrays", "fill", "([JJ)V"⟩ : MethodName) = true := by first | exact plainFor_of_name (by first | (simp [plainName, overriddenIn, x]; done) | decide +kernel) | decide +kernel
theorem own_effl (b_ : Addr) (x_ : Int64) (m : MethodId) : entryFrame m #[(.ref b_), (.long x_)] 5 = mkF m 0 #[.val (.ref b_), .val (.long x_), .second, .unset, .unset] [] := by
  first | (simp [entryFrame, mkF, argsToLocals, Value.category]; done) | rfl
def own_qfl (b_ : Addr) (x_ : Int64) (f : Nat → Int64) (Z : State) (h0 : Heap) (v : Option Value) (h : Heap) : Prop := v = none ∧ Keep h0 h [b_] ∧ own_AJ Z h b_ 32 (fun _ => x_)
set_option maxRecDepth 65536 in
set_option maxHeartbeats 40000000 in
theorem own_mfl (l : Launch) (Z : State) (a0 : Array Value) (hw : ∀ d ∈ tables_1, d.before a0 Z = true) (ws : List Jvm.Cond) (b_ : Addr) (x_ : Int64) (f : Nat → Int64) (h0 : Heap) (n0 : Nat) (Z0 : n0 ≤ h0.size) (F1 : own_AJ Z h0 b_ 32 f) (ge_b_ : n0 ≤ b_) :
    own_Met l Z (⟨"java/util/Arrays", "fill", "([JJ)V"⟩ : MethodName) jdk_65_method_101_code 5 none ws ({ frames := 0, cells := 0, slots := 0, locals := 0 } : Room) #[(.ref b_), (.long x_)] h0 n0 (own_qfl b_ x_ f Z h0) := by
  refine own_enter (own := "java/util/Arrays") (nm := "fill") rfl rfl own_pnfl (own_effl b_ x_) ?_
  intro p e s m below meth c T0 X0
  have K2 := (Keep.refl h0 [b_])
  refine own_iconst X0 (0 : Int32) d4_0 rfl (by decide) ?_
  refine own_istoreN X0 (L' := #[.val (.ref b_), .val (.long x_), .second, .val (.int (0 : Int32)), .unset]) d4_1 rfl rfl ?_
  refine own_aloadN X0 d4_2 rfl rfl rfl ?_
  refine own_alenJ X0 F1 (z := (32 : Int32)) (by decide) d4_3 rfl ?_
  refine own_istore X0 (L' := #[.val (.ref b_), .val (.long x_), .second, .val (.int (0 : Int32)), .val (.int (32 : Int32))]) d4_4 rfl rfl ?_
  have loop : ∀ (k i : Nat) (T9 : State) (h9 : Heap), i + k = 32 → own_Cx Z p l e ({ frames := 0, cells := 0, slots := 0, locals := 0 } : Room) s m #[(.ref b_), (.long x_)] below meth c n0 "java/util/Arrays" jdk_65_method_101_code 5 "fill" none T9 h9 0 0 → own_AJ Z h9 b_ 32 (fun j => if j < i then x_ else f j) → Keep h0 h9 [b_] → own_Fin p e below (own_End s n0 (own_qfl b_ x_ f Z h0) ({ frames := 0, cells := 0, slots := 0, locals := 0 } : Room).cells ({ frames := 0, cells := 0, slots := 0, locals := 0 } : Room).slots) (T9.setTop (mkF m 6 #[.val (.ref b_), .val (.long x_), .second, .val (.int i.toInt32), .val (.int (32 : Int32))] [])) := by
    intro k
    induction k with
    | zero =>
      intro i T9 h9 hi X9 G8 K9
      refine own_iloadN X9 d4_6 rfl rfl ?_
      refine own_iload X9 d4_7 rfl rfl ?_
      refine own_icmp_ge X9 d4_9 (by decide) (pcT := 22) (by decide) rfl (fun hc => ?_) (fun hc => absurd hc (by rw [show (32 : Int32) = (32 : Nat).toInt32 from rfl, own_lt32 (by omega) (by omega)]; omega))
      exact own_retV X9 rfl d4_22 ⟨rfl, K9, G8.eq (fun j hj => if_pos (by omega))⟩ (by decide) (by decide)
    | succ k ih =>
      intro i T9 h9 hi X9 G8 K9
      refine own_iloadN X9 d4_6 rfl rfl ?_
      refine own_iload X9 d4_7 rfl rfl ?_
      refine own_icmp_ge X9 d4_9 (by decide) (pcT := 22) (by decide) rfl (fun hc => absurd hc (by rw [show (32 : Int32) = (32 : Nat).toInt32 from rfl, own_lt32 (by omega) (by omega)]; omega)) (fun hc => ?_)
      refine own_aloadN X9 d4_12 rfl rfl rfl ?_
      refine own_iloadN X9 d4_13 rfl rfl ?_
      refine own_lloadN X9 d4_14 rfl rfl ?_
      refine own_lastoreF X9 (j := i) G8 (by decide) (by omega) ge_b_ d4_15 rfl (fun T3 h5 X4 W6 => ?_)
      have G7 : own_AJ Z h5 b_ 32 (fun j => if j < i + 1 then x_ else f j) := (G8.set W6).eq (fun j hj => by
        unfold own_up
        by_cases q : j = i
        · rw [if_pos q, if_pos (by omega)]
        · rw [if_neg q]; dsimp only; by_cases q2 : j < i
          · rw [if_pos q2, if_pos (by omega)]
          · rw [if_neg q2, if_neg (by omega)])
      have K7 := K9.wr W6 (Or.inl (List.mem_of_getElem? (i := 0) rfl))
      refine own_iinc X4 (L' := #[.val (.ref b_), .val (.long x_), .second, .val (.int (i.toInt32 + (1 : Int32))), .val (.int (32 : Int32))]) (1 : Int32) d4_16 rfl (by decide) rfl rfl ?_
      refine own_goto X4 d4_19 (by decide) (pc' := 6) (by decide) ?_
      rw [own_succ32 (by omega)]
      exact ih (i + 1) _ _ (by omega) X4 G7 K7
  exact loop 32 0 _ _ rfl X0 (F1.eq (fun j hj => (if_neg (Nat.not_lt_zero _)).symm)) (Keep.refl _ _)
theorem d3_0 : decode prog_13_method_24_code 0 = .ok (.iload_n 0, 1) := by decide +kernel
theorem d3_1 : decode prog_13_method_24_code 1 = .ok (.newarray .long, 2) := by decide +kernel
theorem d3_3 : decode prog_13_method_24_code 3 = .ok (.astore_n 1, 1) := by decide +kernel
theorem d3_4 : decode prog_13_method_24_code 4 = .ok (.aload_n 1, 1) := by decide +kernel
theorem d3_5 : decode prog_13_method_24_code 5 = .ok (.ldc2_w 59, 3) := by decide +kernel
theorem d3_8 : decode prog_13_method_24_code 8 = .ok (.invokestatic 208, 3) := by decide +kernel
theorem d3_11 : decode prog_13_method_24_code 11 = .ok (.aload_n 1, 1) := by decide +kernel
theorem d3_12 : decode prog_13_method_24_code 12 = .ok (.areturn, 1) := by decide +kernel
theorem own_pnec : plainFor (⟨"com/example/libgfg/libgfg/automaton/LetterSets", "emptyCache", "(I)[J"⟩ : MethodName) = true := by first | exact plainFor_of_name (by first | (simp [plainName, overriddenIn, x]; done) | decide +kernel) | decide +kernel
theorem own_efec  (m : MethodId) : entryFrame m #[(.int (32 : Int32))] 2 = mkF m 0 #[.val (.int (32 : Int32)), .unset] [] := by
  first | (simp [entryFrame, mkF, argsToLocals, Value.category]; done) | rfl
def own_qec  (Z : State) (h0 : Heap) (v : Option Value) (h : Heap) : Prop := ∃ (r_ : Addr), v = some (.ref r_) ∧ Keep h0 h [] ∧ own_AJ Z h r_ 32 (fun _ => ((-1) : Int64)) ∧ h0.size ≤ r_
set_option maxRecDepth 65536 in
set_option maxHeartbeats 40000000 in
theorem own_mec (l : Launch) (Z : State) (a0 : Array Value) (hw : ∀ d ∈ tables_1, d.before a0 Z = true) (ws : List Jvm.Cond)  (h0 : Heap) (n0 : Nat) (Z0 : n0 ≤ h0.size)  :
    own_Met l Z (⟨"com/example/libgfg/libgfg/automaton/LetterSets", "emptyCache", "(I)[J"⟩ : MethodName) prog_13_method_24_code 2 (some (.array .long)) ws ({ frames := 1, cells := 1, slots := 32, locals := 16 } : Room) #[(.int (32 : Int32))] h0 n0 (own_qec  Z h0) := by
  refine own_enter (own := "com/example/libgfg/libgfg/automaton/LetterSets") (nm := "emptyCache") rfl rfl own_pnec (own_efec ) ?_
  intro p e s m below meth c T0 X0
  have K1 := (Keep.refl h0 [])
  refine own_iloadN X0 d3_0 rfl rfl ?_
  refine own_newarray X0 (hw _ (List.mem_of_getElem? (i := 26) rfl)) (n := (32 : Int32)) 32 (by decide) (by decide) (by decide) d3_1 rfl (cells' := 1) (slots' := 32) rfl rfl (by decide) (by decide) (fun T2 h4 cA9 a7 g8 X3 E5 A6 => ?_)
  have ge_a7 : n0 ≤ a7 := Nat.le_trans Z0 (Nat.le_of_eq g8.symm)
  have fr_a7 : h0.size ≤ a7 := Nat.le_trans K1.1 (Nat.le_of_eq g8.symm)
  have Z10 : n0 ≤ h4.size := (Nat.le_trans Z0 E5.1)
  have K11 := (K1.ext E5)
  have F12 := own_AJ_new (n := 32) A6 (by decide)
  refine own_astoreN X3 (L' := #[.val (.int (32 : Int32)), .val (.ref a7)]) d3_3 rfl rfl rfl ?_
  refine own_aloadN X3 d3_4 rfl rfl rfl ?_
  refine own_ldc2J X3 (v := ((-1) : Int64)) d3_5 rfl (hw _ (List.mem_of_getElem? (i := 38) rfl)) ?_
  refine own_callS X3 (hw _ (List.mem_of_getElem? (i := 39) rfl)) (hw _ (List.mem_of_getElem? (i := 40) rfl)) (hw _ (List.mem_of_getElem? (i := 41) rfl)) (hw _ (List.mem_of_getElem? (i := 42) rfl)) (by decide) (argsL := [(.ref a7), (.long ((-1) : Int64))]) (rest := []) (own_mfl l Z a0 hw [] a7 ((-1) : Int64) (fun _ => 0) _ _ Z10 F12 ge_a7) (pd_4) rfl d3_8 rfl rfl rfl (W := 0) rfl (by decide) (by decide) (cells' := 1) (slots' := 32) rfl rfl (by decide) (by decide) (fun v T15 h17 X16 q18 => ?_)
  obtain ⟨rfl, K14, F13⟩ := q18
  show own_Fin p e below (own_End s n0 (own_qec  Z h0) ({ frames := 1, cells := 1, slots := 32, locals := 16 } : Room).cells ({ frames := 1, cells := 1, slots := 32, locals := 16 } : Room).slots) (T15.setTop (mkF m 11 #[.val (.int (32 : Int32)), .val (.ref a7)] []))
  have Z19 : n0 ≤ h17.size := (Nat.le_trans Z10 K14.1)
  have K20 := (K11.trans K14 (allS (P := fun x => x ∈ _ ∨ _ ≤ x) (Or.inr fr_a7) all0))
  refine own_aloadN X16 d3_11 rfl rfl rfl ?_
  exact own_retA X16 rfl rfl rfl d3_12 ⟨_, rfl, K20, F13, fr_a7⟩ (by decide) (by decide)
theorem d1_0 : decode prog_13_method_1_code 0 = .ok (.aload_n 0, 1) := by decide +kernel
theorem d1_1 : decode prog_13_method_1_code 1 = .ok (.invokespecial 1, 3) := by decide +kernel
theorem d1_4 : decode prog_13_method_1_code 4 = .ok (.aload_n 0, 1) := by decide +kernel
theorem d1_5 : decode prog_13_method_1_code 5 = .ok (.bipush 64, 2) := by decide +kernel
theorem d1_7 : decode prog_13_method_1_code 7 = .ok (.newarray .int, 2) := by decide +kernel
theorem d1_9 : decode prog_13_method_1_code 9 = .ok (.putfield 9, 3) := by decide +kernel
theorem d1_12 : decode prog_13_method_1_code 12 = .ok (.aload_n 0, 1) := by decide +kernel
theorem d1_13 : decode prog_13_method_1_code 13 = .ok (.bipush 64, 2) := by decide +kernel
theorem d1_15 : decode prog_13_method_1_code 15 = .ok (.newarray .int, 2) := by decide +kernel
theorem d1_17 : decode prog_13_method_1_code 17 = .ok (.putfield 13, 3) := by decide +kernel
theorem d1_20 : decode prog_13_method_1_code 20 = .ok (.aload_n 0, 1) := by decide +kernel
theorem d1_21 : decode prog_13_method_1_code 21 = .ok (.bipush 64, 2) := by decide +kernel
theorem d1_23 : decode prog_13_method_1_code 23 = .ok (.newarray .int, 2) := by decide +kernel
theorem d1_25 : decode prog_13_method_1_code 25 = .ok (.putfield 16, 3) := by decide +kernel
theorem d1_28 : decode prog_13_method_1_code 28 = .ok (.aload_n 0, 1) := by decide +kernel
theorem d1_29 : decode prog_13_method_1_code 29 = .ok (.iconst 2, 1) := by decide +kernel
theorem d1_30 : decode prog_13_method_1_code 30 = .ok (.putfield 19, 3) := by decide +kernel
theorem d1_33 : decode prog_13_method_1_code 33 = .ok (.aload_n 0, 1) := by decide +kernel
theorem d1_34 : decode prog_13_method_1_code 34 = .ok (.bipush 64, 2) := by decide +kernel
theorem d1_36 : decode prog_13_method_1_code 36 = .ok (.newarray .long, 2) := by decide +kernel
theorem d1_38 : decode prog_13_method_1_code 38 = .ok (.putfield 23, 3) := by decide +kernel
theorem d1_41 : decode prog_13_method_1_code 41 = .ok (.aload_n 0, 1) := by decide +kernel
theorem d1_42 : decode prog_13_method_1_code 42 = .ok (.bipush 64, 2) := by decide +kernel
theorem d1_44 : decode prog_13_method_1_code 44 = .ok (.newarray .long, 2) := by decide +kernel
theorem d1_46 : decode prog_13_method_1_code 46 = .ok (.putfield 27, 3) := by decide +kernel
theorem d1_49 : decode prog_13_method_1_code 49 = .ok (.aload_n 0, 1) := by decide +kernel
theorem d1_50 : decode prog_13_method_1_code 50 = .ok (.bipush 64, 2) := by decide +kernel
theorem d1_52 : decode prog_13_method_1_code 52 = .ok (.newarray .long, 2) := by decide +kernel
theorem d1_54 : decode prog_13_method_1_code 54 = .ok (.putfield 30, 3) := by decide +kernel
theorem d1_57 : decode prog_13_method_1_code 57 = .ok (.aload_n 0, 1) := by decide +kernel
theorem d1_58 : decode prog_13_method_1_code 58 = .ok (.bipush 64, 2) := by decide +kernel
theorem d1_60 : decode prog_13_method_1_code 60 = .ok (.newarray .int, 2) := by decide +kernel
theorem d1_62 : decode prog_13_method_1_code 62 = .ok (.putfield 33, 3) := by decide +kernel
theorem d1_65 : decode prog_13_method_1_code 65 = .ok (.aload_n 0, 1) := by decide +kernel
theorem d1_66 : decode prog_13_method_1_code 66 = .ok (.bipush 32, 2) := by decide +kernel
theorem d1_68 : decode prog_13_method_1_code 68 = .ok (.invokestatic 36, 3) := by decide +kernel
theorem d1_71 : decode prog_13_method_1_code 71 = .ok (.putfield 40, 3) := by decide +kernel
theorem d1_74 : decode prog_13_method_1_code 74 = .ok (.aload_n 0, 1) := by decide +kernel
theorem d1_75 : decode prog_13_method_1_code 75 = .ok (.bipush 32, 2) := by decide +kernel
theorem d1_77 : decode prog_13_method_1_code 77 = .ok (.newarray .int, 2) := by decide +kernel
theorem d1_79 : decode prog_13_method_1_code 79 = .ok (.putfield 43, 3) := by decide +kernel
theorem d1_82 : decode prog_13_method_1_code 82 = .ok (.aload_n 0, 1) := by decide +kernel
theorem d1_83 : decode prog_13_method_1_code 83 = .ok (.bipush 64, 2) := by decide +kernel
theorem d1_85 : decode prog_13_method_1_code 85 = .ok (.anewarray 46, 3) := by decide +kernel
theorem d1_88 : decode prog_13_method_1_code 88 = .ok (.putfield 48, 3) := by decide +kernel
theorem d1_91 : decode prog_13_method_1_code 91 = .ok (.aload_n 0, 1) := by decide +kernel
theorem d1_92 : decode prog_13_method_1_code 92 = .ok (.iload_n 1, 1) := by decide +kernel
theorem d1_93 : decode prog_13_method_1_code 93 = .ok (.putfield 52, 3) := by decide +kernel
theorem d1_96 : decode prog_13_method_1_code 96 = .ok (.aload_n 0, 1) := by decide +kernel
theorem d1_97 : decode prog_13_method_1_code 97 = .ok (.aload_n 2, 1) := by decide +kernel
theorem d1_98 : decode prog_13_method_1_code 98 = .ok (.putfield 55, 3) := by decide +kernel
theorem d1_101 : decode prog_13_method_1_code 101 = .ok (.aload_n 0, 1) := by decide +kernel
theorem d1_102 : decode prog_13_method_1_code 102 = .ok (.getfield 9, 3) := by decide +kernel
theorem d1_105 : decode prog_13_method_1_code 105 = .ok (.iconst 0, 1) := by decide +kernel
theorem d1_106 : decode prog_13_method_1_code 106 = .ok (.iconst (-1), 1) := by decide +kernel
theorem d1_107 : decode prog_13_method_1_code 107 = .ok (.iastore, 1) := by decide +kernel
theorem d1_108 : decode prog_13_method_1_code 108 = .ok (.aload_n 0, 1) := by decide +kernel
theorem d1_109 : decode prog_13_method_1_code 109 = .ok (.getfield 27, 3) := by decide +kernel
theorem d1_112 : decode prog_13_method_1_code 112 = .ok (.iconst 0, 1) := by decide +kernel
theorem d1_113 : decode prog_13_method_1_code 113 = .ok (.ldc2_w 59, 3) := by decide +kernel
theorem d1_116 : decode prog_13_method_1_code 116 = .ok (.lastore, 1) := by decide +kernel
theorem d1_117 : decode prog_13_method_1_code 117 = .ok (.aload_n 0, 1) := by decide +kernel
theorem d1_118 : decode prog_13_method_1_code 118 = .ok (.getfield 30, 3) := by decide +kernel
theorem d1_121 : decode prog_13_method_1_code 121 = .ok (.iconst 0, 1) := by decide +kernel
theorem d1_122 : decode prog_13_method_1_code 122 = .ok (.ldc2_w 59, 3) := by decide +kernel
theorem d1_125 : decode prog_13_method_1_code 125 = .ok (.lastore, 1) := by decide +kernel
theorem d1_126 : decode prog_13_method_1_code 126 = .ok (.aload_n 0, 1) := by decide +kernel
theorem d1_127 : decode prog_13_method_1_code 127 = .ok (.getfield 9, 3) := by decide +kernel
theorem d1_130 : decode prog_13_method_1_code 130 = .ok (.iconst 1, 1) := by decide +kernel
theorem d1_131 : decode prog_13_method_1_code 131 = .ok (.iconst (-1), 1) := by decide +kernel
theorem d1_132 : decode prog_13_method_1_code 132 = .ok (.iastore, 1) := by decide +kernel
theorem d1_133 : decode prog_13_method_1_code 133 = .ok (.return_, 1) := by decide +kernel
theorem own_pnin : plainFor (⟨"com/example/libgfg/libgfg/automaton/LetterSets", "<init>", "(ILjava/lang/String;)V"⟩ : MethodName) = true := by first | exact plainFor_of_name (by first | (simp [plainName, overriddenIn, x]; done) | decide +kernel) | decide +kernel
theorem own_efin (a0_ : Addr) (n_ : Int32) (sr : Addr) (m : MethodId) : entryFrame m #[(.ref a0_), (.int n_), (.ref sr)] 3 = mkF m 0 #[.val (.ref a0_), .val (.int n_), .val (.ref sr)] [] := by
  first | (simp [entryFrame, mkF, argsToLocals, Value.category]; done) | rfl
def own_qin (a0_ : Addr) (n_ : Int32) (sr : Addr) (n0 : Nat) (Z : State) (h0 : Heap) (v : Option Value) (h : Heap) : Prop := ∃ (A : Nat → Addr), v = none ∧ A 0 = a0_ ∧ own_LS Z h A n0 own_d0 ∧ h0.size ≤ A 1
set_option maxRecDepth 65536 in
set_option maxHeartbeats 40000000 in
theorem own_min (l : Launch) (Z : State) (a0 : Array Value) (hw : ∀ d ∈ tables_1, d.before a0 Z = true) (ws : List Jvm.Cond) (a0_ : Addr) (n_ : Int32) (sr : Addr) (n0 : Nat) (h0 : Heap) (n0 : Nat) (Z0 : n0 ≤ h0.size) (F1 : Exa Z h0 a0_ "com/example/libgfg/libgfg/automaton/LetterSets") (F2 : Fld Z h0 a0_ "com/example/libgfg/libgfg/automaton/LetterSets" "tested" "[I" (.null)) (F3 : Fld Z h0 a0_ "com/example/libgfg/libgfg/automaton/LetterSets" "low" "[I" (.null)) (F4 : Fld Z h0 a0_ "com/example/libgfg/libgfg/automaton/LetterSets" "high" "[I" (.null)) (F5 : Fld Z h0 a0_ "com/example/libgfg/libgfg/automaton/LetterSets" "nodes" "I" (.int (0 : Int32))) (F6 : Fld Z h0 a0_ "com/example/libgfg/libgfg/automaton/LetterSets" "support" "[J" (.null)) (F7 : Fld Z h0 a0_ "com/example/libgfg/libgfg/automaton/LetterSets" "allTrue" "[J" (.null)) (F8 : Fld Z h0 a0_ "com/example/libgfg/libgfg/automaton/LetterSets" "allFalse" "[J" (.null)) (F9 : Fld Z h0 a0_ "com/example/libgfg/libgfg/automaton/LetterSets" "table" "[I" (.null)) (F10 : Fld Z h0 a0_ "com/example/libgfg/libgfg/automaton/LetterSets" "cachedKeys" "[J" (.null)) (F11 : Fld Z h0 a0_ "com/example/libgfg/libgfg/automaton/LetterSets" "cachedResults" "[I" (.null)) (F12 : Fld Z h0 a0_ "com/example/libgfg/libgfg/automaton/LetterSets" "counts" "[Ljava/math/BigInteger;" (.null)) (F13 : Fld Z h0 a0_ "com/example/libgfg/libgfg/automaton/LetterSets" "propositions" "I" (.int (0 : Int32))) (F14 : Fld Z h0 a0_ "com/example/libgfg/libgfg/automaton/LetterSets" "subject" "Ljava/lang/String;" (.null)) (ge_a0_ : n0 ≤ a0_) :
    own_Met l Z (⟨"com/example/libgfg/libgfg/automaton/LetterSets", "<init>", "(ILjava/lang/String;)V"⟩ : MethodName) prog_13_method_1_code 3 none ws ({ frames := 2, cells := 10, slots := 576, locals := 30 } : Room) #[(.ref a0_), (.int n_), (.ref sr)] h0 n0 (own_qin a0_ n_ sr n0 Z h0) := by
  refine own_enter (own := "com/example/libgfg/libgfg/automaton/LetterSets") (nm := "<init>") rfl rfl own_pnin (own_efin a0_ n_ sr) ?_
  intro p e s m below meth c T0 X0
  have K15 := (Keep.refl h0 [a0_])
  refine own_aloadN X0 d1_0 rfl rfl rfl ?_
  refine own_initO X0 (hw _ (List.mem_of_getElem? (i := 14) rfl)) (hw _ (List.mem_of_getElem? (i := 15) rfl)) (hw _ (List.mem_of_getElem? (i := 16) rfl)) d1_1 rfl rfl (by decide) (W := 0) rfl (by decide) (fun T16 X17 => ?_)
  refine own_aloadN X17 d1_4 rfl rfl rfl ?_
  refine own_bipush X17 (64 : Int32) d1_5 rfl (by decide) ?_
  refine own_newarray X17 (hw _ (List.mem_of_getElem? (i := 17) rfl)) (n := (64 : Int32)) 64 (by decide) (by decide) (by decide) d1_7 rfl (cells' := 1) (slots' := 64) rfl rfl (by decide) (by decide) (fun T18 h20 cA25 a23 g24 X19 E21 A22 => ?_)
  have ge_a23 : n0 ≤ a23 := Nat.le_trans Z0 (Nat.le_of_eq g24.symm)
  have lt_a0__a23 : a0_ < a23 := g24 ▸ F1.lt
  have ne_a0__a23 : a0_ ≠ a23 := Nat.ne_of_lt lt_a0__a23
  have fr_a23 : h0.size ≤ a23 := Nat.le_trans K15.1 (Nat.le_of_eq g24.symm)
  have F26 := (F1.ext E21)
  have F27 := (F2.ext E21)
  have F28 := (F3.ext E21)
  have F29 := (F4.ext E21)
  have F30 := (F5.ext E21)
  have F31 := (F6.ext E21)
  have F32 := (F7.ext E21)
  have F33 := (F8.ext E21)
  have F34 := (F9.ext E21)
  have F35 := (F10.ext E21)
  have F36 := (F11.ext E21)
  have F37 := (F12.ext E21)
  have F38 := (F13.ext E21)
  have F39 := (F14.ext E21)
  have Z40 : n0 ≤ h20.size := (Nat.le_trans Z0 E21.1)
  have K41 := (K15.ext E21)
  have F42 := own_AI_new (n := 64) A22 (by decide)
  refine own_putf X19 (hw _ (List.mem_of_getElem? (i := 18) rfl)) F27 F26 (Or.inl (hw _ (List.mem_of_getElem? (i := 19) rfl))) (hw _ (List.mem_of_getElem? (i := 1) rfl)) (ty := (.array .int)) (by decide) rfl rfl ge_a0_ d1_9 rfl (fun T43 h45 X44 W46 => ?_)
  have F47 := (F26.wr W46)
  have F48 := (F27.same W46)
  have F49 := (F28.other W46 (Or.inr (slot_ne (Or.inl (hw _ (List.mem_of_getElem? (i := 21) rfl))) (Or.inl (hw _ (List.mem_of_getElem? (i := 19) rfl))) (by decide) (t := (.array .int)) (t' := (.array .int)) (by decide) (by decide))))
  have F50 := (F29.other W46 (Or.inr (slot_ne (Or.inl (hw _ (List.mem_of_getElem? (i := 23) rfl))) (Or.inl (hw _ (List.mem_of_getElem? (i := 19) rfl))) (by decide) (t := (.array .int)) (t' := (.array .int)) (by decide) (by decide))))
  have F51 := (F30.other W46 (Or.inr (slot_ne (Or.inl (hw _ (List.mem_of_getElem? (i := 25) rfl))) (Or.inl (hw _ (List.mem_of_getElem? (i := 19) rfl))) (by decide) (t := .int) (t' := (.array .int)) (by decide) (by decide))))
  have F52 := (F31.other W46 (Or.inr (slot_ne (Or.inl (hw _ (List.mem_of_getElem? (i := 28) rfl))) (Or.inl (hw _ (List.mem_of_getElem? (i := 19) rfl))) (by decide) (t := (.array .long)) (t' := (.array .int)) (by decide) (by decide))))
  have F53 := (F32.other W46 (Or.inr (slot_ne (Or.inl (hw _ (List.mem_of_getElem? (i := 30) rfl))) (Or.inl (hw _ (List.mem_of_getElem? (i := 19) rfl))) (by decide) (t := (.array .long)) (t' := (.array .int)) (by decide) (by decide))))
  have F54 := (F33.other W46 (Or.inr (slot_ne (Or.inl (hw _ (List.mem_of_getElem? (i := 32) rfl))) (Or.inl (hw _ (List.mem_of_getElem? (i := 19) rfl))) (by decide) (t := (.array .long)) (t' := (.array .int)) (by decide) (by decide))))
  have F55 := (F34.other W46 (Or.inr (slot_ne (Or.inl (hw _ (List.mem_of_getElem? (i := 34) rfl))) (Or.inl (hw _ (List.mem_of_getElem? (i := 19) rfl))) (by decide) (t := (.array .int)) (t' := (.array .int)) (by decide) (by decide))))
  have F56 := (F35.other W46 (Or.inr (slot_ne (Or.inl (hw _ (List.mem_of_getElem? (i := 44) rfl))) (Or.inl (hw _ (List.mem_of_getElem? (i := 19) rfl))) (by decide) (t := (.array .long)) (t' := (.array .int)) (by decide) (by decide))))
  have F57 := (F36.other W46 (Or.inr (slot_ne (Or.inl (hw _ (List.mem_of_getElem? (i := 46) rfl))) (Or.inl (hw _ (List.mem_of_getElem? (i := 19) rfl))) (by decide) (t := (.array .int)) (t' := (.array .int)) (by decide) (by decide))))
  have F58 := (F37.other W46 (Or.inr (slot_ne (Or.inl (hw _ (List.mem_of_getElem? (i := 50) rfl))) (Or.inl (hw _ (List.mem_of_getElem? (i := 19) rfl))) (by decide) (t := (.array (.object "java/math/BigInteger"))) (t' := (.array .int)) (by decide) (by decide))))
  have F59 := (F38.other W46 (Or.inr (slot_ne (Or.inr (hw _ (List.mem_of_getElem? (i := 52) rfl))) (Or.inl (hw _ (List.mem_of_getElem? (i := 19) rfl))) (by decide) (t := .int) (t' := (.array .int)) (by decide) (by decide))))
  have F60 := (F39.other W46 (Or.inr (slot_ne (Or.inr (hw _ (List.mem_of_getElem? (i := 54) rfl))) (Or.inl (hw _ (List.mem_of_getElem? (i := 19) rfl))) (by decide) (t := (.object "java/lang/String")) (t' := (.array .int)) (by decide) (by decide))))
  have F61 := (F42.other W46 (Ne.symm ne_a0__a23))
  have Z62 : n0 ≤ h45.size := (Nat.le_trans Z40 (Nat.le_of_eq W46.size.symm))
  have K63 := (K41.wr W46 (Or.inl (List.mem_of_getElem? (i := 0) rfl)))
  refine own_aloadN X44 d1_12 rfl rfl rfl ?_
  refine own_bipush X44 (64 : Int32) d1_13 rfl (by decide) ?_
  refine own_newarray X44 (hw _ (List.mem_of_getElem? (i := 17) rfl)) (n := (64 : Int32)) 64 (by decide) (by decide) (by decide) d1_15 rfl (cells' := 2) (slots' := 128) rfl rfl (by decide) (by decide) (fun T64 h66 cA71 a69 g70 X65 E67 A68 => ?_)
  have ge_a69 : n0 ≤ a69 := Nat.le_trans Z62 (Nat.le_of_eq g70.symm)
  have lt_a0__a69 : a0_ < a69 := g70 ▸ F47.lt
  have ne_a0__a69 : a0_ ≠ a69 := Nat.ne_of_lt lt_a0__a69
  have lt_a23_a69 : a23 < a69 := g70 ▸ F61.lt
  have ne_a23_a69 : a23 ≠ a69 := Nat.ne_of_lt lt_a23_a69
  have fr_a69 : h0.size ≤ a69 := Nat.le_trans K63.1 (Nat.le_of_eq g70.symm)
  have F72 := (F47.ext E67)
  have F73 := (F48.ext E67)
  have F74 := (F49.ext E67)
  have F75 := (F50.ext E67)
  have F76 := (F51.ext E67)
  have F77 := (F52.ext E67)
  have F78 := (F53.ext E67)
  have F79 := (F54.ext E67)
  have F80 := (F55.ext E67)
  have F81 := (F56.ext E67)
  have F82 := (F57.ext E67)
  have F83 := (F58.ext E67)
  have F84 := (F59.ext E67)
  have F85 := (F60.ext E67)
  have F86 := (F61.ext E67)
  have Z87 : n0 ≤ h66.size := (Nat.le_trans Z62 E67.1)
  have K88 := (K63.ext E67)
  have F89 := own_AI_new (n := 64) A68 (by decide)
  refine own_putf X65 (hw _ (List.mem_of_getElem? (i := 20) rfl)) F74 F72 (Or.inl (hw _ (List.mem_of_getElem? (i := 21) rfl))) (hw _ (List.mem_of_getElem? (i := 1) rfl)) (ty := (.array .int)) (by decide) rfl rfl ge_a0_ d1_17 rfl (fun T90 h92 X91 W93 => ?_)
  have F94 := (F72.wr W93)
  have F95 := (F73.other W93 (Or.inr (slot_ne (Or.inl (hw _ (List.mem_of_getElem? (i := 19) rfl))) (Or.inl (hw _ (List.mem_of_getElem? (i := 21) rfl))) (by decide) (t := (.array .int)) (t' := (.array .int)) (by decide) (by decide))))
  have F96 := (F74.same W93)
  have F97 := (F75.other W93 (Or.inr (slot_ne (Or.inl (hw _ (List.mem_of_getElem? (i := 23) rfl))) (Or.inl (hw _ (List.mem_of_getElem? (i := 21) rfl))) (by decide) (t := (.array .int)) (t' := (.array .int)) (by decide) (by decide))))
  have F98 := (F76.other W93 (Or.inr (slot_ne (Or.inl (hw _ (List.mem_of_getElem? (i := 25) rfl))) (Or.inl (hw _ (List.mem_of_getElem? (i := 21) rfl))) (by decide) (t := .int) (t' := (.array .int)) (by decide) (by decide))))
  have F99 := (F77.other W93 (Or.inr (slot_ne (Or.inl (hw _ (List.mem_of_getElem? (i := 28) rfl))) (Or.inl (hw _ (List.mem_of_getElem? (i := 21) rfl))) (by decide) (t := (.array .long)) (t' := (.array .int)) (by decide) (by decide))))
  have F100 := (F78.other W93 (Or.inr (slot_ne (Or.inl (hw _ (List.mem_of_getElem? (i := 30) rfl))) (Or.inl (hw _ (List.mem_of_getElem? (i := 21) rfl))) (by decide) (t := (.array .long)) (t' := (.array .int)) (by decide) (by decide))))
  have F101 := (F79.other W93 (Or.inr (slot_ne (Or.inl (hw _ (List.mem_of_getElem? (i := 32) rfl))) (Or.inl (hw _ (List.mem_of_getElem? (i := 21) rfl))) (by decide) (t := (.array .long)) (t' := (.array .int)) (by decide) (by decide))))
  have F102 := (F80.other W93 (Or.inr (slot_ne (Or.inl (hw _ (List.mem_of_getElem? (i := 34) rfl))) (Or.inl (hw _ (List.mem_of_getElem? (i := 21) rfl))) (by decide) (t := (.array .int)) (t' := (.array .int)) (by decide) (by decide))))
  have F103 := (F81.other W93 (Or.inr (slot_ne (Or.inl (hw _ (List.mem_of_getElem? (i := 44) rfl))) (Or.inl (hw _ (List.mem_of_getElem? (i := 21) rfl))) (by decide) (t := (.array .long)) (t' := (.array .int)) (by decide) (by decide))))
  have F104 := (F82.other W93 (Or.inr (slot_ne (Or.inl (hw _ (List.mem_of_getElem? (i := 46) rfl))) (Or.inl (hw _ (List.mem_of_getElem? (i := 21) rfl))) (by decide) (t := (.array .int)) (t' := (.array .int)) (by decide) (by decide))))
  have F105 := (F83.other W93 (Or.inr (slot_ne (Or.inl (hw _ (List.mem_of_getElem? (i := 50) rfl))) (Or.inl (hw _ (List.mem_of_getElem? (i := 21) rfl))) (by decide) (t := (.array (.object "java/math/BigInteger"))) (t' := (.array .int)) (by decide) (by decide))))
  have F106 := (F84.other W93 (Or.inr (slot_ne (Or.inr (hw _ (List.mem_of_getElem? (i := 52) rfl))) (Or.inl (hw _ (List.mem_of_getElem? (i := 21) rfl))) (by decide) (t := .int) (t' := (.array .int)) (by decide) (by decide))))
  have F107 := (F85.other W93 (Or.inr (slot_ne (Or.inr (hw _ (List.mem_of_getElem? (i := 54) rfl))) (Or.inl (hw _ (List.mem_of_getElem? (i := 21) rfl))) (by decide) (t := (.object "java/lang/String")) (t' := (.array .int)) (by decide) (by decide))))
  have F108 := (F86.other W93 (Ne.symm ne_a0__a23))
  have F109 := (F89.other W93 (Ne.symm ne_a0__a69))
  have Z110 : n0 ≤ h92.size := (Nat.le_trans Z87 (Nat.le_of_eq W93.size.symm))
  have K111 := (K88.wr W93 (Or.inl (List.mem_of_getElem? (i := 0) rfl)))
  refine own_aloadN X91 d1_20 rfl rfl rfl ?_
  refine own_bipush X91 (64 : Int32) d1_21 rfl (by decide) ?_
  refine own_newarray X91 (hw _ (List.mem_of_getElem? (i := 17) rfl)) (n := (64 : Int32)) 64 (by decide) (by decide) (by decide) d1_23 rfl (cells' := 3) (slots' := 192) rfl rfl (by decide) (by decide) (fun T112 h114 cA119 a117 g118 X113 E115 A116 => ?_)
  have ge_a117 : n0 ≤ a117 := Nat.le_trans Z110 (Nat.le_of_eq g118.symm)
  have lt_a0__a117 : a0_ < a117 := g118 ▸ F94.lt
  have ne_a0__a117 : a0_ ≠ a117 := Nat.ne_of_lt lt_a0__a117
  have lt_a23_a117 : a23 < a117 := g118 ▸ F108.lt
  have ne_a23_a117 : a23 ≠ a117 := Nat.ne_of_lt lt_a23_a117
  have lt_a69_a117 : a69 < a117 := g118 ▸ F109.lt
  have ne_a69_a117 : a69 ≠ a117 := Nat.ne_of_lt lt_a69_a117
  have fr_a117 : h0.size ≤ a117 := Nat.le_trans K111.1 (Nat.le_of_eq g118.symm)
  have F120 := (F94.ext E115)
  have F121 := (F95.ext E115)
  have F122 := (F96.ext E115)
  have F123 := (F97.ext E115)
  have F124 := (F98.ext E115)
  have F125 := (F99.ext E115)
  have F126 := (F100.ext E115)
  have F127 := (F101.ext E115)
  have F128 := (F102.ext E115)
  have F129 := (F103.ext E115)
  have F130 := (F104.ext E115)
  have F131 := (F105.ext E115)
  have F132 := (F106.ext E115)
  have F133 := (F107.ext E115)
  have F134 := (F108.ext E115)
  have F135 := (F109.ext E115)
  have Z136 : n0 ≤ h114.size := (Nat.le_trans Z110 E115.1)
  have K137 := (K111.ext E115)
  have F138 := own_AI_new (n := 64) A116 (by decide)
  refine own_putf X113 (hw _ (List.mem_of_getElem? (i := 22) rfl)) F123 F120 (Or.inl (hw _ (List.mem_of_getElem? (i := 23) rfl))) (hw _ (List.mem_of_getElem? (i := 1) rfl)) (ty := (.array .int)) (by decide) rfl rfl ge_a0_ d1_25 rfl (fun T139 h141 X140 W142 => ?_)
  have F143 := (F120.wr W142)
  have F144 := (F121.other W142 (Or.inr (slot_ne (Or.inl (hw _ (List.mem_of_getElem? (i := 19) rfl))) (Or.inl (hw _ (List.mem_of_getElem? (i := 23) rfl))) (by decide) (t := (.array .int)) (t' := (.array .int)) (by decide) (by decide))))
  have F145 := (F122.other W142 (Or.inr (slot_ne (Or.inl (hw _ (List.mem_of_getElem? (i := 21) rfl))) (Or.inl (hw _ (List.mem_of_getElem? (i := 23) rfl))) (by decide) (t := (.array .int)) (t' := (.array .int)) (by decide) (by decide))))
  have F146 := (F123.same W142)
  have F147 := (F124.other W142 (Or.inr (slot_ne (Or.inl (hw _ (List.mem_of_getElem? (i := 25) rfl))) (Or.inl (hw _ (List.mem_of_getElem? (i := 23) rfl))) (by decide) (t := .int) (t' := (.array .int)) (by decide) (by decide))))
  have F148 := (F125.other W142 (Or.inr (slot_ne (Or.inl (hw _ (List.mem_of_getElem? (i := 28) rfl))) (Or.inl (hw _ (List.mem_of_getElem? (i := 23) rfl))) (by decide) (t := (.array .long)) (t' := (.array .int)) (by decide) (by decide))))
  have F149 := (F126.other W142 (Or.inr (slot_ne (Or.inl (hw _ (List.mem_of_getElem? (i := 30) rfl))) (Or.inl (hw _ (List.mem_of_getElem? (i := 23) rfl))) (by decide) (t := (.array .long)) (t' := (.array .int)) (by decide) (by decide))))
  have F150 := (F127.other W142 (Or.inr (slot_ne (Or.inl (hw _ (List.mem_of_getElem? (i := 32) rfl))) (Or.inl (hw _ (List.mem_of_getElem? (i := 23) rfl))) (by decide) (t := (.array .long)) (t' := (.array .int)) (by decide) (by decide))))
  have F151 := (F128.other W142 (Or.inr (slot_ne (Or.inl (hw _ (List.mem_of_getElem? (i := 34) rfl))) (Or.inl (hw _ (List.mem_of_getElem? (i := 23) rfl))) (by decide) (t := (.array .int)) (t' := (.array .int)) (by decide) (by decide))))
  have F152 := (F129.other W142 (Or.inr (slot_ne (Or.inl (hw _ (List.mem_of_getElem? (i := 44) rfl))) (Or.inl (hw _ (List.mem_of_getElem? (i := 23) rfl))) (by decide) (t := (.array .long)) (t' := (.array .int)) (by decide) (by decide))))
  have F153 := (F130.other W142 (Or.inr (slot_ne (Or.inl (hw _ (List.mem_of_getElem? (i := 46) rfl))) (Or.inl (hw _ (List.mem_of_getElem? (i := 23) rfl))) (by decide) (t := (.array .int)) (t' := (.array .int)) (by decide) (by decide))))
  have F154 := (F131.other W142 (Or.inr (slot_ne (Or.inl (hw _ (List.mem_of_getElem? (i := 50) rfl))) (Or.inl (hw _ (List.mem_of_getElem? (i := 23) rfl))) (by decide) (t := (.array (.object "java/math/BigInteger"))) (t' := (.array .int)) (by decide) (by decide))))
  have F155 := (F132.other W142 (Or.inr (slot_ne (Or.inr (hw _ (List.mem_of_getElem? (i := 52) rfl))) (Or.inl (hw _ (List.mem_of_getElem? (i := 23) rfl))) (by decide) (t := .int) (t' := (.array .int)) (by decide) (by decide))))
  have F156 := (F133.other W142 (Or.inr (slot_ne (Or.inr (hw _ (List.mem_of_getElem? (i := 54) rfl))) (Or.inl (hw _ (List.mem_of_getElem? (i := 23) rfl))) (by decide) (t := (.object "java/lang/String")) (t' := (.array .int)) (by decide) (by decide))))
  have F157 := (F134.other W142 (Ne.symm ne_a0__a23))
  have F158 := (F135.other W142 (Ne.symm ne_a0__a69))
  have F159 := (F138.other W142 (Ne.symm ne_a0__a117))
  have Z160 : n0 ≤ h141.size := (Nat.le_trans Z136 (Nat.le_of_eq W142.size.symm))
  have K161 := (K137.wr W142 (Or.inl (List.mem_of_getElem? (i := 0) rfl)))
  refine own_aloadN X140 d1_28 rfl rfl rfl ?_
  refine own_iconst X140 (2 : Int32) d1_29 rfl (by decide) ?_
  refine own_putf X140 (hw _ (List.mem_of_getElem? (i := 24) rfl)) F147 F143 (Or.inl (hw _ (List.mem_of_getElem? (i := 25) rfl))) (hw _ (List.mem_of_getElem? (i := 1) rfl)) (ty := .int) (by decide) rfl rfl ge_a0_ d1_30 rfl (fun T162 h164 X163 W165 => ?_)
  have F166 := (F143.wr W165)
  have F167 := (F144.other W165 (Or.inr (slot_ne (Or.inl (hw _ (List.mem_of_getElem? (i := 19) rfl))) (Or.inl (hw _ (List.mem_of_getElem? (i := 25) rfl))) (by decide) (t := (.array .int)) (t' := .int) (by decide) (by decide))))
  have F168 := (F145.other W165 (Or.inr (slot_ne (Or.inl (hw _ (List.mem_of_getElem? (i := 21) rfl))) (Or.inl (hw _ (List.mem_of_getElem? (i := 25) rfl))) (by decide) (t := (.array .int)) (t' := .int) (by decide) (by decide))))
  have F169 := (F146.other W165 (Or.inr (slot_ne (Or.inl (hw _ (List.mem_of_getElem? (i := 23) rfl))) (Or.inl (hw _ (List.mem_of_getElem? (i := 25) rfl))) (by decide) (t := (.array .int)) (t' := .int) (by decide) (by decide))))
  have F170 := (F147.same W165)
  have F171 := (F148.other W165 (Or.inr (slot_ne (Or.inl (hw _ (List.mem_of_getElem? (i := 28) rfl))) (Or.inl (hw _ (List.mem_of_getElem? (i := 25) rfl))) (by decide) (t := (.array .long)) (t' := .int) (by decide) (by decide))))
  have F172 := (F149.other W165 (Or.inr (slot_ne (Or.inl (hw _ (List.mem_of_getElem? (i := 30) rfl))) (Or.inl (hw _ (List.mem_of_getElem? (i := 25) rfl))) (by decide) (t := (.array .long)) (t' := .int) (by decide) (by decide))))
  have F173 := (F150.other W165 (Or.inr (slot_ne (Or.inl (hw _ (List.mem_of_getElem? (i := 32) rfl))) (Or.inl (hw _ (List.mem_of_getElem? (i := 25) rfl))) (by decide) (t := (.array .long)) (t' := .int) (by decide) (by decide))))
  have F174 := (F151.other W165 (Or.inr (slot_ne (Or.inl (hw _ (List.mem_of_getElem? (i := 34) rfl))) (Or.inl (hw _ (List.mem_of_getElem? (i := 25) rfl))) (by decide) (t := (.array .int)) (t' := .int) (by decide) (by decide))))
  have F175 := (F152.other W165 (Or.inr (slot_ne (Or.inl (hw _ (List.mem_of_getElem? (i := 44) rfl))) (Or.inl (hw _ (List.mem_of_getElem? (i := 25) rfl))) (by decide) (t := (.array .long)) (t' := .int) (by decide) (by decide))))
  have F176 := (F153.other W165 (Or.inr (slot_ne (Or.inl (hw _ (List.mem_of_getElem? (i := 46) rfl))) (Or.inl (hw _ (List.mem_of_getElem? (i := 25) rfl))) (by decide) (t := (.array .int)) (t' := .int) (by decide) (by decide))))
  have F177 := (F154.other W165 (Or.inr (slot_ne (Or.inl (hw _ (List.mem_of_getElem? (i := 50) rfl))) (Or.inl (hw _ (List.mem_of_getElem? (i := 25) rfl))) (by decide) (t := (.array (.object "java/math/BigInteger"))) (t' := .int) (by decide) (by decide))))
  have F178 := (F155.other W165 (Or.inr (slot_ne (Or.inr (hw _ (List.mem_of_getElem? (i := 52) rfl))) (Or.inl (hw _ (List.mem_of_getElem? (i := 25) rfl))) (by decide) (t := .int) (t' := .int) (by decide) (by decide))))
  have F179 := (F156.other W165 (Or.inr (slot_ne (Or.inr (hw _ (List.mem_of_getElem? (i := 54) rfl))) (Or.inl (hw _ (List.mem_of_getElem? (i := 25) rfl))) (by decide) (t := (.object "java/lang/String")) (t' := .int) (by decide) (by decide))))
  have F180 := (F157.other W165 (Ne.symm ne_a0__a23))
  have F181 := (F158.other W165 (Ne.symm ne_a0__a69))
  have F182 := (F159.other W165 (Ne.symm ne_a0__a117))
  have Z183 : n0 ≤ h164.size := (Nat.le_trans Z160 (Nat.le_of_eq W165.size.symm))
  have K184 := (K161.wr W165 (Or.inl (List.mem_of_getElem? (i := 0) rfl)))
  refine own_aloadN X163 d1_33 rfl rfl rfl ?_
  refine own_bipush X163 (64 : Int32) d1_34 rfl (by decide) ?_
  refine own_newarray X163 (hw _ (List.mem_of_getElem? (i := 26) rfl)) (n := (64 : Int32)) 64 (by decide) (by decide) (by decide) d1_36 rfl (cells' := 4) (slots' := 256) rfl rfl (by decide) (by decide) (fun T185 h187 cA192 a190 g191 X186 E188 A189 => ?_)
  have ge_a190 : n0 ≤ a190 := Nat.le_trans Z183 (Nat.le_of_eq g191.symm)
  have lt_a0__a190 : a0_ < a190 := g191 ▸ F166.lt
  have ne_a0__a190 : a0_ ≠ a190 := Nat.ne_of_lt lt_a0__a190
  have lt_a23_a190 : a23 < a190 := g191 ▸ F180.lt
  have ne_a23_a190 : a23 ≠ a190 := Nat.ne_of_lt lt_a23_a190
  have lt_a69_a190 : a69 < a190 := g191 ▸ F181.lt
  have ne_a69_a190 : a69 ≠ a190 := Nat.ne_of_lt lt_a69_a190
  have lt_a117_a190 : a117 < a190 := g191 ▸ F182.lt
  have ne_a117_a190 : a117 ≠ a190 := Nat.ne_of_lt lt_a117_a190
  have fr_a190 : h0.size ≤ a190 := Nat.le_trans K184.1 (Nat.le_of_eq g191.symm)
  have F193 := (F166.ext E188)
  have F194 := (F167.ext E188)
  have F195 := (F168.ext E188)
  have F196 := (F169.ext E188)
  have F197 := (F170.ext E188)
  have F198 := (F171.ext E188)
  have F199 := (F172.ext E188)
  have F200 := (F173.ext E188)
  have F201 := (F174.ext E188)
  have F202 := (F175.ext E188)
  have F203 := (F176.ext E188)
  have F204 := (F177.ext E188)
  have F205 := (F178.ext E188)
  have F206 := (F179.ext E188)
  have F207 := (F180.ext E188)
  have F208 := (F181.ext E188)
  have F209 := (F182.ext E188)
  have Z210 : n0 ≤ h187.size := (Nat.le_trans Z183 E188.1)
  have K211 := (K184.ext E188)
  have F212 := own_AJ_new (n := 64) A189 (by decide)
  refine own_putf X186 (hw _ (List.mem_of_getElem? (i := 27) rfl)) F198 F193 (Or.inl (hw _ (List.mem_of_getElem? (i := 28) rfl))) (hw _ (List.mem_of_getElem? (i := 1) rfl)) (ty := (.array .long)) (by decide) rfl rfl ge_a0_ d1_38 rfl (fun T213 h215 X214 W216 => ?_)
  have F217 := (F193.wr W216)
  have F218 := (F194.other W216 (Or.inr (slot_ne (Or.inl (hw _ (List.mem_of_getElem? (i := 19) rfl))) (Or.inl (hw _ (List.mem_of_getElem? (i := 28) rfl))) (by decide) (t := (.array .int)) (t' := (.array .long)) (by decide) (by decide))))
  have F219 := (F195.other W216 (Or.inr (slot_ne (Or.inl (hw _ (List.mem_of_getElem? (i := 21) rfl))) (Or.inl (hw _ (List.mem_of_getElem? (i := 28) rfl))) (by decide) (t := (.array .int)) (t' := (.array .long)) (by decide) (by decide))))
  have F220 := (F196.other W216 (Or.inr (slot_ne (Or.inl (hw _ (List.mem_of_getElem? (i := 23) rfl))) (Or.inl (hw _ (List.mem_of_getElem? (i := 28) rfl))) (by decide) (t := (.array .int)) (t' := (.array .long)) (by decide) (by decide))))
  have F221 := (F197.other W216 (Or.inr (slot_ne (Or.inl (hw _ (List.mem_of_getElem? (i := 25) rfl))) (Or.inl (hw _ (List.mem_of_getElem? (i := 28) rfl))) (by decide) (t := .int) (t' := (.array .long)) (by decide) (by decide))))
  have F222 := (F198.same W216)
  have F223 := (F199.other W216 (Or.inr (slot_ne (Or.inl (hw _ (List.mem_of_getElem? (i := 30) rfl))) (Or.inl (hw _ (List.mem_of_getElem? (i := 28) rfl))) (by decide) (t := (.array .long)) (t' := (.array .long)) (by decide) (by decide))))
  have F224 := (F200.other W216 (Or.inr (slot_ne (Or.inl (hw _ (List.mem_of_getElem? (i := 32) rfl))) (Or.inl (hw _ (List.mem_of_getElem? (i := 28) rfl))) (by decide) (t := (.array .long)) (t' := (.array .long)) (by decide) (by decide))))
  have F225 := (F201.other W216 (Or.inr (slot_ne (Or.inl (hw _ (List.mem_of_getElem? (i := 34) rfl))) (Or.inl (hw _ (List.mem_of_getElem? (i := 28) rfl))) (by decide) (t := (.array .int)) (t' := (.array .long)) (by decide) (by decide))))
  have F226 := (F202.other W216 (Or.inr (slot_ne (Or.inl (hw _ (List.mem_of_getElem? (i := 44) rfl))) (Or.inl (hw _ (List.mem_of_getElem? (i := 28) rfl))) (by decide) (t := (.array .long)) (t' := (.array .long)) (by decide) (by decide))))
  have F227 := (F203.other W216 (Or.inr (slot_ne (Or.inl (hw _ (List.mem_of_getElem? (i := 46) rfl))) (Or.inl (hw _ (List.mem_of_getElem? (i := 28) rfl))) (by decide) (t := (.array .int)) (t' := (.array .long)) (by decide) (by decide))))
  have F228 := (F204.other W216 (Or.inr (slot_ne (Or.inl (hw _ (List.mem_of_getElem? (i := 50) rfl))) (Or.inl (hw _ (List.mem_of_getElem? (i := 28) rfl))) (by decide) (t := (.array (.object "java/math/BigInteger"))) (t' := (.array .long)) (by decide) (by decide))))
  have F229 := (F205.other W216 (Or.inr (slot_ne (Or.inr (hw _ (List.mem_of_getElem? (i := 52) rfl))) (Or.inl (hw _ (List.mem_of_getElem? (i := 28) rfl))) (by decide) (t := .int) (t' := (.array .long)) (by decide) (by decide))))
  have F230 := (F206.other W216 (Or.inr (slot_ne (Or.inr (hw _ (List.mem_of_getElem? (i := 54) rfl))) (Or.inl (hw _ (List.mem_of_getElem? (i := 28) rfl))) (by decide) (t := (.object "java/lang/String")) (t' := (.array .long)) (by decide) (by decide))))
  have F231 := (F207.other W216 (Ne.symm ne_a0__a23))
  have F232 := (F208.other W216 (Ne.symm ne_a0__a69))
  have F233 := (F209.other W216 (Ne.symm ne_a0__a117))
  have F234 := (F212.other W216 (Ne.symm ne_a0__a190))
  have Z235 : n0 ≤ h215.size := (Nat.le_trans Z210 (Nat.le_of_eq W216.size.symm))
  have K236 := (K211.wr W216 (Or.inl (List.mem_of_getElem? (i := 0) rfl)))
  refine own_aloadN X214 d1_41 rfl rfl rfl ?_
  refine own_bipush X214 (64 : Int32) d1_42 rfl (by decide) ?_
  refine own_newarray X214 (hw _ (List.mem_of_getElem? (i := 26) rfl)) (n := (64 : Int32)) 64 (by decide) (by decide) (by decide) d1_44 rfl (cells' := 5) (slots' := 320) rfl rfl (by decide) (by decide) (fun T237 h239 cA244 a242 g243 X238 E240 A241 => ?_)
  have ge_a242 : n0 ≤ a242 := Nat.le_trans Z235 (Nat.le_of_eq g243.symm)
  have lt_a0__a242 : a0_ < a242 := g243 ▸ F217.lt
  have ne_a0__a242 : a0_ ≠ a242 := Nat.ne_of_lt lt_a0__a242
  have lt_a23_a242 : a23 < a242 := g243 ▸ F231.lt
  have ne_a23_a242 : a23 ≠ a242 := Nat.ne_of_lt lt_a23_a242
  have lt_a69_a242 : a69 < a242 := g243 ▸ F232.lt
  have ne_a69_a242 : a69 ≠ a242 := Nat.ne_of_lt lt_a69_a242
  have lt_a117_a242 : a117 < a242 := g243 ▸ F233.lt
  have ne_a117_a242 : a117 ≠ a242 := Nat.ne_of_lt lt_a117_a242
  have lt_a190_a242 : a190 < a242 := g243 ▸ F234.lt
  have ne_a190_a242 : a190 ≠ a242 := Nat.ne_of_lt lt_a190_a242
  have fr_a242 : h0.size ≤ a242 := Nat.le_trans K236.1 (Nat.le_of_eq g243.symm)
  have F245 := (F217.ext E240)
  have F246 := (F218.ext E240)
  have F247 := (F219.ext E240)
  have F248 := (F220.ext E240)
  have F249 := (F221.ext E240)
  have F250 := (F222.ext E240)
  have F251 := (F223.ext E240)
  have F252 := (F224.ext E240)
  have F253 := (F225.ext E240)
  have F254 := (F226.ext E240)
  have F255 := (F227.ext E240)
  have F256 := (F228.ext E240)
  have F257 := (F229.ext E240)
  have F258 := (F230.ext E240)
  have F259 := (F231.ext E240)
  have F260 := (F232.ext E240)
  have F261 := (F233.ext E240)
  have F262 := (F234.ext E240)
  have Z263 : n0 ≤ h239.size := (Nat.le_trans Z235 E240.1)
  have K264 := (K236.ext E240)
  have F265 := own_AJ_new (n := 64) A241 (by decide)
  refine own_putf X238 (hw _ (List.mem_of_getElem? (i := 29) rfl)) F251 F245 (Or.inl (hw _ (List.mem_of_getElem? (i := 30) rfl))) (hw _ (List.mem_of_getElem? (i := 1) rfl)) (ty := (.array .long)) (by decide) rfl rfl ge_a0_ d1_46 rfl (fun T266 h268 X267 W269 => ?_)
  have F270 := (F245.wr W269)
  have F271 := (F246.other W269 (Or.inr (slot_ne (Or.inl (hw _ (List.mem_of_getElem? (i := 19) rfl))) (Or.inl (hw _ (List.mem_of_getElem? (i := 30) rfl))) (by decide) (t := (.array .int)) (t' := (.array .long)) (by decide) (by decide))))
  have F272 := (F247.other W269 (Or.inr (slot_ne (Or.inl (hw _ (List.mem_of_getElem? (i := 21) rfl))) (Or.inl (hw _ (List.mem_of_getElem? (i := 30) rfl))) (by decide) (t := (.array .int)) (t' := (.array .long)) (by decide) (by decide))))
  have F273 := (F248.other W269 (Or.inr (slot_ne (Or.inl (hw _ (List.mem_of_getElem? (i := 23) rfl))) (Or.inl (hw _ (List.mem_of_getElem? (i := 30) rfl))) (by decide) (t := (.array .int)) (t' := (.array .long)) (by decide) (by decide))))
  have F274 := (F249.other W269 (Or.inr (slot_ne (Or.inl (hw _ (List.mem_of_getElem? (i := 25) rfl))) (Or.inl (hw _ (List.mem_of_getElem? (i := 30) rfl))) (by decide) (t := .int) (t' := (.array .long)) (by decide) (by decide))))
  have F275 := (F250.other W269 (Or.inr (slot_ne (Or.inl (hw _ (List.mem_of_getElem? (i := 28) rfl))) (Or.inl (hw _ (List.mem_of_getElem? (i := 30) rfl))) (by decide) (t := (.array .long)) (t' := (.array .long)) (by decide) (by decide))))
  have F276 := (F251.same W269)
  have F277 := (F252.other W269 (Or.inr (slot_ne (Or.inl (hw _ (List.mem_of_getElem? (i := 32) rfl))) (Or.inl (hw _ (List.mem_of_getElem? (i := 30) rfl))) (by decide) (t := (.array .long)) (t' := (.array .long)) (by decide) (by decide))))
  have F278 := (F253.other W269 (Or.inr (slot_ne (Or.inl (hw _ (List.mem_of_getElem? (i := 34) rfl))) (Or.inl (hw _ (List.mem_of_getElem? (i := 30) rfl))) (by decide) (t := (.array .int)) (t' := (.array .long)) (by decide) (by decide))))
  have F279 := (F254.other W269 (Or.inr (slot_ne (Or.inl (hw _ (List.mem_of_getElem? (i := 44) rfl))) (Or.inl (hw _ (List.mem_of_getElem? (i := 30) rfl))) (by decide) (t := (.array .long)) (t' := (.array .long)) (by decide) (by decide))))
  have F280 := (F255.other W269 (Or.inr (slot_ne (Or.inl (hw _ (List.mem_of_getElem? (i := 46) rfl))) (Or.inl (hw _ (List.mem_of_getElem? (i := 30) rfl))) (by decide) (t := (.array .int)) (t' := (.array .long)) (by decide) (by decide))))
  have F281 := (F256.other W269 (Or.inr (slot_ne (Or.inl (hw _ (List.mem_of_getElem? (i := 50) rfl))) (Or.inl (hw _ (List.mem_of_getElem? (i := 30) rfl))) (by decide) (t := (.array (.object "java/math/BigInteger"))) (t' := (.array .long)) (by decide) (by decide))))
  have F282 := (F257.other W269 (Or.inr (slot_ne (Or.inr (hw _ (List.mem_of_getElem? (i := 52) rfl))) (Or.inl (hw _ (List.mem_of_getElem? (i := 30) rfl))) (by decide) (t := .int) (t' := (.array .long)) (by decide) (by decide))))
  have F283 := (F258.other W269 (Or.inr (slot_ne (Or.inr (hw _ (List.mem_of_getElem? (i := 54) rfl))) (Or.inl (hw _ (List.mem_of_getElem? (i := 30) rfl))) (by decide) (t := (.object "java/lang/String")) (t' := (.array .long)) (by decide) (by decide))))
  have F284 := (F259.other W269 (Ne.symm ne_a0__a23))
  have F285 := (F260.other W269 (Ne.symm ne_a0__a69))
  have F286 := (F261.other W269 (Ne.symm ne_a0__a117))
  have F287 := (F262.other W269 (Ne.symm ne_a0__a190))
  have F288 := (F265.other W269 (Ne.symm ne_a0__a242))
  have Z289 : n0 ≤ h268.size := (Nat.le_trans Z263 (Nat.le_of_eq W269.size.symm))
  have K290 := (K264.wr W269 (Or.inl (List.mem_of_getElem? (i := 0) rfl)))
  refine own_aloadN X267 d1_49 rfl rfl rfl ?_
  refine own_bipush X267 (64 : Int32) d1_50 rfl (by decide) ?_
  refine own_newarray X267 (hw _ (List.mem_of_getElem? (i := 26) rfl)) (n := (64 : Int32)) 64 (by decide) (by decide) (by decide) d1_52 rfl (cells' := 6) (slots' := 384) rfl rfl (by decide) (by decide) (fun T291 h293 cA298 a296 g297 X292 E294 A295 => ?_)
  have ge_a296 : n0 ≤ a296 := Nat.le_trans Z289 (Nat.le_of_eq g297.symm)
  have lt_a0__a296 : a0_ < a296 := g297 ▸ F270.lt
  have ne_a0__a296 : a0_ ≠ a296 := Nat.ne_of_lt lt_a0__a296
  have lt_a23_a296 : a23 < a296 := g297 ▸ F284.lt
  have ne_a23_a296 : a23 ≠ a296 := Nat.ne_of_lt lt_a23_a296
  have lt_a69_a296 : a69 < a296 := g297 ▸ F285.lt
  have ne_a69_a296 : a69 ≠ a296 := Nat.ne_of_lt lt_a69_a296
  have lt_a117_a296 : a117 < a296 := g297 ▸ F286.lt
  have ne_a117_a296 : a117 ≠ a296 := Nat.ne_of_lt lt_a117_a296
  have lt_a190_a296 : a190 < a296 := g297 ▸ F287.lt
  have ne_a190_a296 : a190 ≠ a296 := Nat.ne_of_lt lt_a190_a296
  have lt_a242_a296 : a242 < a296 := g297 ▸ F288.lt
  have ne_a242_a296 : a242 ≠ a296 := Nat.ne_of_lt lt_a242_a296
  have fr_a296 : h0.size ≤ a296 := Nat.le_trans K290.1 (Nat.le_of_eq g297.symm)
  have F299 := (F270.ext E294)
  have F300 := (F271.ext E294)
  have F301 := (F272.ext E294)
  have F302 := (F273.ext E294)
  have F303 := (F274.ext E294)
  have F304 := (F275.ext E294)
  have F305 := (F276.ext E294)
  have F306 := (F277.ext E294)
  have F307 := (F278.ext E294)
  have F308 := (F279.ext E294)
  have F309 := (F280.ext E294)
  have F310 := (F281.ext E294)
  have F311 := (F282.ext E294)
  have F312 := (F283.ext E294)
  have F313 := (F284.ext E294)
  have F314 := (F285.ext E294)
  have F315 := (F286.ext E294)
  have F316 := (F287.ext E294)
  have F317 := (F288.ext E294)
  have Z318 : n0 ≤ h293.size := (Nat.le_trans Z289 E294.1)
  have K319 := (K290.ext E294)
  have F320 := own_AJ_new (n := 64) A295 (by decide)
  refine own_putf X292 (hw _ (List.mem_of_getElem? (i := 31) rfl)) F306 F299 (Or.inl (hw _ (List.mem_of_getElem? (i := 32) rfl))) (hw _ (List.mem_of_getElem? (i := 1) rfl)) (ty := (.array .long)) (by decide) rfl rfl ge_a0_ d1_54 rfl (fun T321 h323 X322 W324 => ?_)
  have F325 := (F299.wr W324)
  have F326 := (F300.other W324 (Or.inr (slot_ne (Or.inl (hw _ (List.mem_of_getElem? (i := 19) rfl))) (Or.inl (hw _ (List.mem_of_getElem? (i := 32) rfl))) (by decide) (t := (.array .int)) (t' := (.array .long)) (by decide) (by decide))))
  have F327 := (F301.other W324 (Or.inr (slot_ne (Or.inl (hw _ (List.mem_of_getElem? (i := 21) rfl))) (Or.inl (hw _ (List.mem_of_getElem? (i := 32) rfl))) (by decide) (t := (.array .int)) (t' := (.array .long)) (by decide) (by decide))))
  have F328 := (F302.other W324 (Or.inr (slot_ne (Or.inl (hw _ (List.mem_of_getElem? (i := 23) rfl))) (Or.inl (hw _ (List.mem_of_getElem? (i := 32) rfl))) (by decide) (t := (.array .int)) (t' := (.array .long)) (by decide) (by decide))))
  have F329 := (F303.other W324 (Or.inr (slot_ne (Or.inl (hw _ (List.mem_of_getElem? (i := 25) rfl))) (Or.inl (hw _ (List.mem_of_getElem? (i := 32) rfl))) (by decide) (t := .int) (t' := (.array .long)) (by decide) (by decide))))
  have F330 := (F304.other W324 (Or.inr (slot_ne (Or.inl (hw _ (List.mem_of_getElem? (i := 28) rfl))) (Or.inl (hw _ (List.mem_of_getElem? (i := 32) rfl))) (by decide) (t := (.array .long)) (t' := (.array .long)) (by decide) (by decide))))
  have F331 := (F305.other W324 (Or.inr (slot_ne (Or.inl (hw _ (List.mem_of_getElem? (i := 30) rfl))) (Or.inl (hw _ (List.mem_of_getElem? (i := 32) rfl))) (by decide) (t := (.array .long)) (t' := (.array .long)) (by decide) (by decide))))
  have F332 := (F306.same W324)
  have F333 := (F307.other W324 (Or.inr (slot_ne (Or.inl (hw _ (List.mem_of_getElem? (i := 34) rfl))) (Or.inl (hw _ (List.mem_of_getElem? (i := 32) rfl))) (by decide) (t := (.array .int)) (t' := (.array .long)) (by decide) (by decide))))
  have F334 := (F308.other W324 (Or.inr (slot_ne (Or.inl (hw _ (List.mem_of_getElem? (i := 44) rfl))) (Or.inl (hw _ (List.mem_of_getElem? (i := 32) rfl))) (by decide) (t := (.array .long)) (t' := (.array .long)) (by decide) (by decide))))
  have F335 := (F309.other W324 (Or.inr (slot_ne (Or.inl (hw _ (List.mem_of_getElem? (i := 46) rfl))) (Or.inl (hw _ (List.mem_of_getElem? (i := 32) rfl))) (by decide) (t := (.array .int)) (t' := (.array .long)) (by decide) (by decide))))
  have F336 := (F310.other W324 (Or.inr (slot_ne (Or.inl (hw _ (List.mem_of_getElem? (i := 50) rfl))) (Or.inl (hw _ (List.mem_of_getElem? (i := 32) rfl))) (by decide) (t := (.array (.object "java/math/BigInteger"))) (t' := (.array .long)) (by decide) (by decide))))
  have F337 := (F311.other W324 (Or.inr (slot_ne (Or.inr (hw _ (List.mem_of_getElem? (i := 52) rfl))) (Or.inl (hw _ (List.mem_of_getElem? (i := 32) rfl))) (by decide) (t := .int) (t' := (.array .long)) (by decide) (by decide))))
  have F338 := (F312.other W324 (Or.inr (slot_ne (Or.inr (hw _ (List.mem_of_getElem? (i := 54) rfl))) (Or.inl (hw _ (List.mem_of_getElem? (i := 32) rfl))) (by decide) (t := (.object "java/lang/String")) (t' := (.array .long)) (by decide) (by decide))))
  have F339 := (F313.other W324 (Ne.symm ne_a0__a23))
  have F340 := (F314.other W324 (Ne.symm ne_a0__a69))
  have F341 := (F315.other W324 (Ne.symm ne_a0__a117))
  have F342 := (F316.other W324 (Ne.symm ne_a0__a190))
  have F343 := (F317.other W324 (Ne.symm ne_a0__a242))
  have F344 := (F320.other W324 (Ne.symm ne_a0__a296))
  have Z345 : n0 ≤ h323.size := (Nat.le_trans Z318 (Nat.le_of_eq W324.size.symm))
  have K346 := (K319.wr W324 (Or.inl (List.mem_of_getElem? (i := 0) rfl)))
  refine own_aloadN X322 d1_57 rfl rfl rfl ?_
  refine own_bipush X322 (64 : Int32) d1_58 rfl (by decide) ?_
  refine own_newarray X322 (hw _ (List.mem_of_getElem? (i := 17) rfl)) (n := (64 : Int32)) 64 (by decide) (by decide) (by decide) d1_60 rfl (cells' := 7) (slots' := 448) rfl rfl (by decide) (by decide) (fun T347 h349 cA354 a352 g353 X348 E350 A351 => ?_)
  have ge_a352 : n0 ≤ a352 := Nat.le_trans Z345 (Nat.le_of_eq g353.symm)
  have lt_a0__a352 : a0_ < a352 := g353 ▸ F325.lt
  have ne_a0__a352 : a0_ ≠ a352 := Nat.ne_of_lt lt_a0__a352
  have lt_a23_a352 : a23 < a352 := g353 ▸ F339.lt
  have ne_a23_a352 : a23 ≠ a352 := Nat.ne_of_lt lt_a23_a352
  have lt_a69_a352 : a69 < a352 := g353 ▸ F340.lt
  have ne_a69_a352 : a69 ≠ a352 := Nat.ne_of_lt lt_a69_a352
  have lt_a117_a352 : a117 < a352 := g353 ▸ F341.lt
  have ne_a117_a352 : a117 ≠ a352 := Nat.ne_of_lt lt_a117_a352
  have lt_a190_a352 : a190 < a352 := g353 ▸ F342.lt
  have ne_a190_a352 : a190 ≠ a352 := Nat.ne_of_lt lt_a190_a352
  have lt_a242_a352 : a242 < a352 := g353 ▸ F343.lt
  have ne_a242_a352 : a242 ≠ a352 := Nat.ne_of_lt lt_a242_a352
  have lt_a296_a352 : a296 < a352 := g353 ▸ F344.lt
  have ne_a296_a352 : a296 ≠ a352 := Nat.ne_of_lt lt_a296_a352
  have fr_a352 : h0.size ≤ a352 := Nat.le_trans K346.1 (Nat.le_of_eq g353.symm)
  have F355 := (F325.ext E350)
  have F356 := (F326.ext E350)
  have F357 := (F327.ext E350)
  have F358 := (F328.ext E350)
  have F359 := (F329.ext E350)
  have F360 := (F330.ext E350)
  have F361 := (F331.ext E350)
  have F362 := (F332.ext E350)
  have F363 := (F333.ext E350)
  have F364 := (F334.ext E350)
  have F365 := (F335.ext E350)
  have F366 := (F336.ext E350)
  have F367 := (F337.ext E350)
  have F368 := (F338.ext E350)
  have F369 := (F339.ext E350)
  have F370 := (F340.ext E350)
  have F371 := (F341.ext E350)
  have F372 := (F342.ext E350)
  have F373 := (F343.ext E350)
  have F374 := (F344.ext E350)
  have Z375 : n0 ≤ h349.size := (Nat.le_trans Z345 E350.1)
  have K376 := (K346.ext E350)
  have F377 := own_AI_new (n := 64) A351 (by decide)
  refine own_putf X348 (hw _ (List.mem_of_getElem? (i := 33) rfl)) F363 F355 (Or.inl (hw _ (List.mem_of_getElem? (i := 34) rfl))) (hw _ (List.mem_of_getElem? (i := 1) rfl)) (ty := (.array .int)) (by decide) rfl rfl ge_a0_ d1_62 rfl (fun T378 h380 X379 W381 => ?_)
  have F382 := (F355.wr W381)
  have F383 := (F356.other W381 (Or.inr (slot_ne (Or.inl (hw _ (List.mem_of_getElem? (i := 19) rfl))) (Or.inl (hw _ (List.mem_of_getElem? (i := 34) rfl))) (by decide) (t := (.array .int)) (t' := (.array .int)) (by decide) (by decide))))
  have F384 := (F357.other W381 (Or.inr (slot_ne (Or.inl (hw _ (List.mem_of_getElem? (i := 21) rfl))) (Or.inl (hw _ (List.mem_of_getElem? (i := 34) rfl))) (by decide) (t := (.array .int)) (t' := (.array .int)) (by decide) (by decide))))
  have F385 := (F358.other W381 (Or.inr (slot_ne (Or.inl (hw _ (List.mem_of_getElem? (i := 23) rfl))) (Or.inl (hw _ (List.mem_of_getElem? (i := 34) rfl))) (by decide) (t := (.array .int)) (t' := (.array .int)) (by decide) (by decide))))
  have F386 := (F359.other W381 (Or.inr (slot_ne (Or.inl (hw _ (List.mem_of_getElem? (i := 25) rfl))) (Or.inl (hw _ (List.mem_of_getElem? (i := 34) rfl))) (by decide) (t := .int) (t' := (.array .int)) (by decide) (by decide))))
  have F387 := (F360.other W381 (Or.inr (slot_ne (Or.inl (hw _ (List.mem_of_getElem? (i := 28) rfl))) (Or.inl (hw _ (List.mem_of_getElem? (i := 34) rfl))) (by decide) (t := (.array .long)) (t' := (.array .int)) (by decide) (by decide))))
  have F388 := (F361.other W381 (Or.inr (slot_ne (Or.inl (hw _ (List.mem_of_getElem? (i := 30) rfl))) (Or.inl (hw _ (List.mem_of_getElem? (i := 34) rfl))) (by decide) (t := (.array .long)) (t' := (.array .int)) (by decide) (by decide))))
  have F389 := (F362.other W381 (Or.inr (slot_ne (Or.inl (hw _ (List.mem_of_getElem? (i := 32) rfl))) (Or.inl (hw _ (List.mem_of_getElem? (i := 34) rfl))) (by decide) (t := (.array .long)) (t' := (.array .int)) (by decide) (by decide))))
  have F390 := (F363.same W381)
  have F391 := (F364.other W381 (Or.inr (slot_ne (Or.inl (hw _ (List.mem_of_getElem? (i := 44) rfl))) (Or.inl (hw _ (List.mem_of_getElem? (i := 34) rfl))) (by decide) (t := (.array .long)) (t' := (.array .int)) (by decide) (by decide))))
  have F392 := (F365.other W381 (Or.inr (slot_ne (Or.inl (hw _ (List.mem_of_getElem? (i := 46) rfl))) (Or.inl (hw _ (List.mem_of_getElem? (i := 34) rfl))) (by decide) (t := (.array .int)) (t' := (.array .int)) (by decide) (by decide))))
  have F393 := (F366.other W381 (Or.inr (slot_ne (Or.inl (hw _ (List.mem_of_getElem? (i := 50) rfl))) (Or.inl (hw _ (List.mem_of_getElem? (i := 34) rfl))) (by decide) (t := (.array (.object "java/math/BigInteger"))) (t' := (.array .int)) (by decide) (by decide))))
  have F394 := (F367.other W381 (Or.inr (slot_ne (Or.inr (hw _ (List.mem_of_getElem? (i := 52) rfl))) (Or.inl (hw _ (List.mem_of_getElem? (i := 34) rfl))) (by decide) (t := .int) (t' := (.array .int)) (by decide) (by decide))))
  have F395 := (F368.other W381 (Or.inr (slot_ne (Or.inr (hw _ (List.mem_of_getElem? (i := 54) rfl))) (Or.inl (hw _ (List.mem_of_getElem? (i := 34) rfl))) (by decide) (t := (.object "java/lang/String")) (t' := (.array .int)) (by decide) (by decide))))
  have F396 := (F369.other W381 (Ne.symm ne_a0__a23))
  have F397 := (F370.other W381 (Ne.symm ne_a0__a69))
  have F398 := (F371.other W381 (Ne.symm ne_a0__a117))
  have F399 := (F372.other W381 (Ne.symm ne_a0__a190))
  have F400 := (F373.other W381 (Ne.symm ne_a0__a242))
  have F401 := (F374.other W381 (Ne.symm ne_a0__a296))
  have F402 := (F377.other W381 (Ne.symm ne_a0__a352))
  have Z403 : n0 ≤ h380.size := (Nat.le_trans Z375 (Nat.le_of_eq W381.size.symm))
  have K404 := (K376.wr W381 (Or.inl (List.mem_of_getElem? (i := 0) rfl)))
  refine own_aloadN X379 d1_65 rfl rfl rfl ?_
  refine own_bipush X379 (32 : Int32) d1_66 rfl (by decide) ?_
  refine own_callS X379 (hw _ (List.mem_of_getElem? (i := 35) rfl)) (hw _ (List.mem_of_getElem? (i := 36) rfl)) (hw _ (List.mem_of_getElem? (i := 2) rfl)) (hw _ (List.mem_of_getElem? (i := 37) rfl)) (by decide) (argsL := [(.int (32 : Int32))]) (rest := [(.ref a0_)]) (own_mec l Z a0 hw []  _ _ Z403 ) (pd_3) rfl d1_68 rfl rfl rfl (W := 1) rfl (by decide) (by decide) (cells' := 8) (slots' := 480) rfl rfl (by decide) (by decide) (fun v T409 h411 X410 q412 => ?_)
  obtain ⟨r405, rfl, K408, F406, F407⟩ := q412
  show own_Fin p e below (own_End s n0 (own_qin a0_ n_ sr n0 Z h0) ({ frames := 2, cells := 10, slots := 576, locals := 30 } : Room).cells ({ frames := 2, cells := 10, slots := 576, locals := 30 } : Room).slots) (T409.setTop (mkF m 71 #[.val (.ref a0_), .val (.int n_), .val (.ref sr)] [(.ref r405), (.ref a0_)]))
  have F413 := (F382.keep K408)
  have F414 := (F383.keep K408 nin0)
  have F415 := (F384.keep K408 nin0)
  have F416 := (F385.keep K408 nin0)
  have F417 := (F386.keep K408 nin0)
  have F418 := (F387.keep K408 nin0)
  have F419 := (F388.keep K408 nin0)
  have F420 := (F389.keep K408 nin0)
  have F421 := (F390.keep K408 nin0)
  have F422 := (F391.keep K408 nin0)
  have F423 := (F392.keep K408 nin0)
  have F424 := (F393.keep K408 nin0)
  have F425 := (F394.keep K408 nin0)
  have F426 := (F395.keep K408 nin0)
  have F427 := (F396.keep K408 nin0)
  have F428 := (F397.keep K408 nin0)
  have F429 := (F398.keep K408 nin0)
  have F430 := (F399.keep K408 nin0)
  have F431 := (F400.keep K408 nin0)
  have F432 := (F401.keep K408 nin0)
  have F433 := (F402.keep K408 nin0)
  have Z434 : n0 ≤ h411.size := (Nat.le_trans Z403 K408.1)
  have K435 := (K404.trans K408 all0)
  have ge_r405 : n0 ≤ r405 := Nat.le_trans Z403 F407
  have lt_a0__r405 : a0_ < r405 := Nat.lt_of_lt_of_le F382.lt F407
  have ne_a0__r405 : a0_ ≠ r405 := Nat.ne_of_lt lt_a0__r405
  have lt_a23_r405 : a23 < r405 := Nat.lt_of_lt_of_le F396.lt F407
  have ne_a23_r405 : a23 ≠ r405 := Nat.ne_of_lt lt_a23_r405
  have lt_a69_r405 : a69 < r405 := Nat.lt_of_lt_of_le F397.lt F407
  have ne_a69_r405 : a69 ≠ r405 := Nat.ne_of_lt lt_a69_r405
  have lt_a117_r405 : a117 < r405 := Nat.lt_of_lt_of_le F398.lt F407
  have ne_a117_r405 : a117 ≠ r405 := Nat.ne_of_lt lt_a117_r405
  have lt_a190_r405 : a190 < r405 := Nat.lt_of_lt_of_le F399.lt F407
  have ne_a190_r405 : a190 ≠ r405 := Nat.ne_of_lt lt_a190_r405
  have lt_a242_r405 : a242 < r405 := Nat.lt_of_lt_of_le F400.lt F407
  have ne_a242_r405 : a242 ≠ r405 := Nat.ne_of_lt lt_a242_r405
  have lt_a296_r405 : a296 < r405 := Nat.lt_of_lt_of_le F401.lt F407
  have ne_a296_r405 : a296 ≠ r405 := Nat.ne_of_lt lt_a296_r405
  have lt_a352_r405 : a352 < r405 := Nat.lt_of_lt_of_le F402.lt F407
  have ne_a352_r405 : a352 ≠ r405 := Nat.ne_of_lt lt_a352_r405
  have fr_r405 : h0.size ≤ r405 := Nat.le_trans K404.1 F407
  refine own_putf X410 (hw _ (List.mem_of_getElem? (i := 43) rfl)) F422 F413 (Or.inl (hw _ (List.mem_of_getElem? (i := 44) rfl))) (hw _ (List.mem_of_getElem? (i := 1) rfl)) (ty := (.array .long)) (by decide) rfl rfl ge_a0_ d1_71 rfl (fun T436 h438 X437 W439 => ?_)
  have F440 := (F413.wr W439)
  have F441 := (F414.other W439 (Or.inr (slot_ne (Or.inl (hw _ (List.mem_of_getElem? (i := 19) rfl))) (Or.inl (hw _ (List.mem_of_getElem? (i := 44) rfl))) (by decide) (t := (.array .int)) (t' := (.array .long)) (by decide) (by decide))))
  have F442 := (F415.other W439 (Or.inr (slot_ne (Or.inl (hw _ (List.mem_of_getElem? (i := 21) rfl))) (Or.inl (hw _ (List.mem_of_getElem? (i := 44) rfl))) (by decide) (t := (.array .int)) (t' := (.array .long)) (by decide) (by decide))))
  have F443 := (F416.other W439 (Or.inr (slot_ne (Or.inl (hw _ (List.mem_of_getElem? (i := 23) rfl))) (Or.inl (hw _ (List.mem_of_getElem? (i := 44) rfl))) (by decide) (t := (.array .int)) (t' := (.array .long)) (by decide) (by decide))))
  have F444 := (F417.other W439 (Or.inr (slot_ne (Or.inl (hw _ (List.mem_of_getElem? (i := 25) rfl))) (Or.inl (hw _ (List.mem_of_getElem? (i := 44) rfl))) (by decide) (t := .int) (t' := (.array .long)) (by decide) (by decide))))
  have F445 := (F418.other W439 (Or.inr (slot_ne (Or.inl (hw _ (List.mem_of_getElem? (i := 28) rfl))) (Or.inl (hw _ (List.mem_of_getElem? (i := 44) rfl))) (by decide) (t := (.array .long)) (t' := (.array .long)) (by decide) (by decide))))
  have F446 := (F419.other W439 (Or.inr (slot_ne (Or.inl (hw _ (List.mem_of_getElem? (i := 30) rfl))) (Or.inl (hw _ (List.mem_of_getElem? (i := 44) rfl))) (by decide) (t := (.array .long)) (t' := (.array .long)) (by decide) (by decide))))
  have F447 := (F420.other W439 (Or.inr (slot_ne (Or.inl (hw _ (List.mem_of_getElem? (i := 32) rfl))) (Or.inl (hw _ (List.mem_of_getElem? (i := 44) rfl))) (by decide) (t := (.array .long)) (t' := (.array .long)) (by decide) (by decide))))
  have F448 := (F421.other W439 (Or.inr (slot_ne (Or.inl (hw _ (List.mem_of_getElem? (i := 34) rfl))) (Or.inl (hw _ (List.mem_of_getElem? (i := 44) rfl))) (by decide) (t := (.array .int)) (t' := (.array .long)) (by decide) (by decide))))
  have F449 := (F422.same W439)
  have F450 := (F423.other W439 (Or.inr (slot_ne (Or.inl (hw _ (List.mem_of_getElem? (i := 46) rfl))) (Or.inl (hw _ (List.mem_of_getElem? (i := 44) rfl))) (by decide) (t := (.array .int)) (t' := (.array .long)) (by decide) (by decide))))
  have F451 := (F424.other W439 (Or.inr (slot_ne (Or.inl (hw _ (List.mem_of_getElem? (i := 50) rfl))) (Or.inl (hw _ (List.mem_of_getElem? (i := 44) rfl))) (by decide) (t := (.array (.object "java/math/BigInteger"))) (t' := (.array .long)) (by decide) (by decide))))
  have F452 := (F425.other W439 (Or.inr (slot_ne (Or.inr (hw _ (List.mem_of_getElem? (i := 52) rfl))) (Or.inl (hw _ (List.mem_of_getElem? (i := 44) rfl))) (by decide) (t := .int) (t' := (.array .long)) (by decide) (by decide))))
  have F453 := (F426.other W439 (Or.inr (slot_ne (Or.inr (hw _ (List.mem_of_getElem? (i := 54) rfl))) (Or.inl (hw _ (List.mem_of_getElem? (i := 44) rfl))) (by decide) (t := (.object "java/lang/String")) (t' := (.array .long)) (by decide) (by decide))))
  have F454 := (F427.other W439 (Ne.symm ne_a0__a23))
  have F455 := (F428.other W439 (Ne.symm ne_a0__a69))
  have F456 := (F429.other W439 (Ne.symm ne_a0__a117))
  have F457 := (F430.other W439 (Ne.symm ne_a0__a190))
  have F458 := (F431.other W439 (Ne.symm ne_a0__a242))
  have F459 := (F432.other W439 (Ne.symm ne_a0__a296))
  have F460 := (F433.other W439 (Ne.symm ne_a0__a352))
  have F461 := (F406.other W439 (Ne.symm ne_a0__r405))
  have Z462 : n0 ≤ h438.size := (Nat.le_trans Z434 (Nat.le_of_eq W439.size.symm))
  have K463 := (K435.wr W439 (Or.inl (List.mem_of_getElem? (i := 0) rfl)))
  refine own_aloadN X437 d1_74 rfl rfl rfl ?_
  refine own_bipush X437 (32 : Int32) d1_75 rfl (by decide) ?_
  refine own_newarray X437 (hw _ (List.mem_of_getElem? (i := 17) rfl)) (n := (32 : Int32)) 32 (by decide) (by decide) (by decide) d1_77 rfl (cells' := 9) (slots' := 512) rfl rfl (by decide) (by decide) (fun T464 h466 cA471 a469 g470 X465 E467 A468 => ?_)
  have ge_a469 : n0 ≤ a469 := Nat.le_trans Z462 (Nat.le_of_eq g470.symm)
  have lt_a0__a469 : a0_ < a469 := g470 ▸ F440.lt
  have ne_a0__a469 : a0_ ≠ a469 := Nat.ne_of_lt lt_a0__a469
  have lt_a23_a469 : a23 < a469 := g470 ▸ F454.lt
  have ne_a23_a469 : a23 ≠ a469 := Nat.ne_of_lt lt_a23_a469
  have lt_a69_a469 : a69 < a469 := g470 ▸ F455.lt
  have ne_a69_a469 : a69 ≠ a469 := Nat.ne_of_lt lt_a69_a469
  have lt_a117_a469 : a117 < a469 := g470 ▸ F456.lt
  have ne_a117_a469 : a117 ≠ a469 := Nat.ne_of_lt lt_a117_a469
  have lt_a190_a469 : a190 < a469 := g470 ▸ F457.lt
  have ne_a190_a469 : a190 ≠ a469 := Nat.ne_of_lt lt_a190_a469
  have lt_a242_a469 : a242 < a469 := g470 ▸ F458.lt
  have ne_a242_a469 : a242 ≠ a469 := Nat.ne_of_lt lt_a242_a469
  have lt_a296_a469 : a296 < a469 := g470 ▸ F459.lt
  have ne_a296_a469 : a296 ≠ a469 := Nat.ne_of_lt lt_a296_a469
  have lt_a352_a469 : a352 < a469 := g470 ▸ F460.lt
  have ne_a352_a469 : a352 ≠ a469 := Nat.ne_of_lt lt_a352_a469
  have lt_r405_a469 : r405 < a469 := g470 ▸ F461.lt
  have ne_r405_a469 : r405 ≠ a469 := Nat.ne_of_lt lt_r405_a469
  have fr_a469 : h0.size ≤ a469 := Nat.le_trans K463.1 (Nat.le_of_eq g470.symm)
  have F472 := (F440.ext E467)
  have F473 := (F441.ext E467)
  have F474 := (F442.ext E467)
  have F475 := (F443.ext E467)
  have F476 := (F444.ext E467)
  have F477 := (F445.ext E467)
  have F478 := (F446.ext E467)
  have F479 := (F447.ext E467)
  have F480 := (F448.ext E467)
  have F481 := (F449.ext E467)
  have F482 := (F450.ext E467)
  have F483 := (F451.ext E467)
  have F484 := (F452.ext E467)
  have F485 := (F453.ext E467)
  have F486 := (F454.ext E467)
  have F487 := (F455.ext E467)
  have F488 := (F456.ext E467)
  have F489 := (F457.ext E467)
  have F490 := (F458.ext E467)
  have F491 := (F459.ext E467)
  have F492 := (F460.ext E467)
  have F493 := (F461.ext E467)
  have Z494 : n0 ≤ h466.size := (Nat.le_trans Z462 E467.1)
  have K495 := (K463.ext E467)
  have F496 := own_AI_new (n := 32) A468 (by decide)
  refine own_putf X465 (hw _ (List.mem_of_getElem? (i := 45) rfl)) F482 F472 (Or.inl (hw _ (List.mem_of_getElem? (i := 46) rfl))) (hw _ (List.mem_of_getElem? (i := 1) rfl)) (ty := (.array .int)) (by decide) rfl rfl ge_a0_ d1_79 rfl (fun T497 h499 X498 W500 => ?_)
  have F501 := (F472.wr W500)
  have F502 := (F473.other W500 (Or.inr (slot_ne (Or.inl (hw _ (List.mem_of_getElem? (i := 19) rfl))) (Or.inl (hw _ (List.mem_of_getElem? (i := 46) rfl))) (by decide) (t := (.array .int)) (t' := (.array .int)) (by decide) (by decide))))
  have F503 := (F474.other W500 (Or.inr (slot_ne (Or.inl (hw _ (List.mem_of_getElem? (i := 21) rfl))) (Or.inl (hw _ (List.mem_of_getElem? (i := 46) rfl))) (by decide) (t := (.array .int)) (t' := (.array .int)) (by decide) (by decide))))
  have F504 := (F475.other W500 (Or.inr (slot_ne (Or.inl (hw _ (List.mem_of_getElem? (i := 23) rfl))) (Or.inl (hw _ (List.mem_of_getElem? (i := 46) rfl))) (by decide) (t := (.array .int)) (t' := (.array .int)) (by decide) (by decide))))
  have F505 := (F476.other W500 (Or.inr (slot_ne (Or.inl (hw _ (List.mem_of_getElem? (i := 25) rfl))) (Or.inl (hw _ (List.mem_of_getElem? (i := 46) rfl))) (by decide) (t := .int) (t' := (.array .int)) (by decide) (by decide))))
  have F506 := (F477.other W500 (Or.inr (slot_ne (Or.inl (hw _ (List.mem_of_getElem? (i := 28) rfl))) (Or.inl (hw _ (List.mem_of_getElem? (i := 46) rfl))) (by decide) (t := (.array .long)) (t' := (.array .int)) (by decide) (by decide))))
  have F507 := (F478.other W500 (Or.inr (slot_ne (Or.inl (hw _ (List.mem_of_getElem? (i := 30) rfl))) (Or.inl (hw _ (List.mem_of_getElem? (i := 46) rfl))) (by decide) (t := (.array .long)) (t' := (.array .int)) (by decide) (by decide))))
  have F508 := (F479.other W500 (Or.inr (slot_ne (Or.inl (hw _ (List.mem_of_getElem? (i := 32) rfl))) (Or.inl (hw _ (List.mem_of_getElem? (i := 46) rfl))) (by decide) (t := (.array .long)) (t' := (.array .int)) (by decide) (by decide))))
  have F509 := (F480.other W500 (Or.inr (slot_ne (Or.inl (hw _ (List.mem_of_getElem? (i := 34) rfl))) (Or.inl (hw _ (List.mem_of_getElem? (i := 46) rfl))) (by decide) (t := (.array .int)) (t' := (.array .int)) (by decide) (by decide))))
  have F510 := (F481.other W500 (Or.inr (slot_ne (Or.inl (hw _ (List.mem_of_getElem? (i := 44) rfl))) (Or.inl (hw _ (List.mem_of_getElem? (i := 46) rfl))) (by decide) (t := (.array .long)) (t' := (.array .int)) (by decide) (by decide))))
  have F511 := (F482.same W500)
  have F512 := (F483.other W500 (Or.inr (slot_ne (Or.inl (hw _ (List.mem_of_getElem? (i := 50) rfl))) (Or.inl (hw _ (List.mem_of_getElem? (i := 46) rfl))) (by decide) (t := (.array (.object "java/math/BigInteger"))) (t' := (.array .int)) (by decide) (by decide))))
  have F513 := (F484.other W500 (Or.inr (slot_ne (Or.inr (hw _ (List.mem_of_getElem? (i := 52) rfl))) (Or.inl (hw _ (List.mem_of_getElem? (i := 46) rfl))) (by decide) (t := .int) (t' := (.array .int)) (by decide) (by decide))))
  have F514 := (F485.other W500 (Or.inr (slot_ne (Or.inr (hw _ (List.mem_of_getElem? (i := 54) rfl))) (Or.inl (hw _ (List.mem_of_getElem? (i := 46) rfl))) (by decide) (t := (.object "java/lang/String")) (t' := (.array .int)) (by decide) (by decide))))
  have F515 := (F486.other W500 (Ne.symm ne_a0__a23))
  have F516 := (F487.other W500 (Ne.symm ne_a0__a69))
  have F517 := (F488.other W500 (Ne.symm ne_a0__a117))
  have F518 := (F489.other W500 (Ne.symm ne_a0__a190))
  have F519 := (F490.other W500 (Ne.symm ne_a0__a242))
  have F520 := (F491.other W500 (Ne.symm ne_a0__a296))
  have F521 := (F492.other W500 (Ne.symm ne_a0__a352))
  have F522 := (F493.other W500 (Ne.symm ne_a0__r405))
  have F523 := (F496.other W500 (Ne.symm ne_a0__a469))
  have Z524 : n0 ≤ h499.size := (Nat.le_trans Z494 (Nat.le_of_eq W500.size.symm))
  have K525 := (K495.wr W500 (Or.inl (List.mem_of_getElem? (i := 0) rfl)))
  refine own_aloadN X498 d1_82 rfl rfl rfl ?_
  refine own_bipush X498 (64 : Int32) d1_83 rfl (by decide) ?_
  refine own_anewarray X498 (hw _ (List.mem_of_getElem? (i := 47) rfl)) (hw _ (List.mem_of_getElem? (i := 48) rfl)) (n := (64 : Int32)) 64 (by decide) (by decide) (by decide) d1_85 rfl (cells' := 10) (slots' := 576) rfl rfl (by decide) (by decide) (fun T526 h528 cA533 a531 g532 X527 E529 A530 => ?_)
  have ge_a531 : n0 ≤ a531 := Nat.le_trans Z524 (Nat.le_of_eq g532.symm)
  have lt_a0__a531 : a0_ < a531 := g532 ▸ F501.lt
  have ne_a0__a531 : a0_ ≠ a531 := Nat.ne_of_lt lt_a0__a531
  have lt_a23_a531 : a23 < a531 := g532 ▸ F515.lt
  have ne_a23_a531 : a23 ≠ a531 := Nat.ne_of_lt lt_a23_a531
  have lt_a69_a531 : a69 < a531 := g532 ▸ F516.lt
  have ne_a69_a531 : a69 ≠ a531 := Nat.ne_of_lt lt_a69_a531
  have lt_a117_a531 : a117 < a531 := g532 ▸ F517.lt
  have ne_a117_a531 : a117 ≠ a531 := Nat.ne_of_lt lt_a117_a531
  have lt_a190_a531 : a190 < a531 := g532 ▸ F518.lt
  have ne_a190_a531 : a190 ≠ a531 := Nat.ne_of_lt lt_a190_a531
  have lt_a242_a531 : a242 < a531 := g532 ▸ F519.lt
  have ne_a242_a531 : a242 ≠ a531 := Nat.ne_of_lt lt_a242_a531
  have lt_a296_a531 : a296 < a531 := g532 ▸ F520.lt
  have ne_a296_a531 : a296 ≠ a531 := Nat.ne_of_lt lt_a296_a531
  have lt_a352_a531 : a352 < a531 := g532 ▸ F521.lt
  have ne_a352_a531 : a352 ≠ a531 := Nat.ne_of_lt lt_a352_a531
  have lt_r405_a531 : r405 < a531 := g532 ▸ F522.lt
  have ne_r405_a531 : r405 ≠ a531 := Nat.ne_of_lt lt_r405_a531
  have lt_a469_a531 : a469 < a531 := g532 ▸ F523.lt
  have ne_a469_a531 : a469 ≠ a531 := Nat.ne_of_lt lt_a469_a531
  have fr_a531 : h0.size ≤ a531 := Nat.le_trans K525.1 (Nat.le_of_eq g532.symm)
  have F534 := (F501.ext E529)
  have F535 := (F502.ext E529)
  have F536 := (F503.ext E529)
  have F537 := (F504.ext E529)
  have F538 := (F505.ext E529)
  have F539 := (F506.ext E529)
  have F540 := (F507.ext E529)
  have F541 := (F508.ext E529)
  have F542 := (F509.ext E529)
  have F543 := (F510.ext E529)
  have F544 := (F511.ext E529)
  have F545 := (F512.ext E529)
  have F546 := (F513.ext E529)
  have F547 := (F514.ext E529)
  have F548 := (F515.ext E529)
  have F549 := (F516.ext E529)
  have F550 := (F517.ext E529)
  have F551 := (F518.ext E529)
  have F552 := (F519.ext E529)
  have F553 := (F520.ext E529)
  have F554 := (F521.ext E529)
  have F555 := (F522.ext E529)
  have F556 := (F523.ext E529)
  have Z557 : n0 ≤ h528.size := (Nat.le_trans Z524 E529.1)
  have K558 := (K525.ext E529)
  refine own_putf X527 (hw _ (List.mem_of_getElem? (i := 49) rfl)) F545 F534 (Or.inl (hw _ (List.mem_of_getElem? (i := 50) rfl))) (hw _ (List.mem_of_getElem? (i := 1) rfl)) (ty := (.array (.object "java/math/BigInteger"))) (by decide) rfl rfl ge_a0_ d1_88 rfl (fun T559 h561 X560 W562 => ?_)
  have F563 := (F534.wr W562)
  have F564 := (F535.other W562 (Or.inr (slot_ne (Or.inl (hw _ (List.mem_of_getElem? (i := 19) rfl))) (Or.inl (hw _ (List.mem_of_getElem? (i := 50) rfl))) (by decide) (t := (.array .int)) (t' := (.array (.object "java/math/BigInteger"))) (by decide) (by decide))))
  have F565 := (F536.other W562 (Or.inr (slot_ne (Or.inl (hw _ (List.mem_of_getElem? (i := 21) rfl))) (Or.inl (hw _ (List.mem_of_getElem? (i := 50) rfl))) (by decide) (t := (.array .int)) (t' := (.array (.object "java/math/BigInteger"))) (by decide) (by decide))))
  have F566 := (F537.other W562 (Or.inr (slot_ne (Or.inl (hw _ (List.mem_of_getElem? (i := 23) rfl))) (Or.inl (hw _ (List.mem_of_getElem? (i := 50) rfl))) (by decide) (t := (.array .int)) (t' := (.array (.object "java/math/BigInteger"))) (by decide) (by decide))))
  have F567 := (F538.other W562 (Or.inr (slot_ne (Or.inl (hw _ (List.mem_of_getElem? (i := 25) rfl))) (Or.inl (hw _ (List.mem_of_getElem? (i := 50) rfl))) (by decide) (t := .int) (t' := (.array (.object "java/math/BigInteger"))) (by decide) (by decide))))
  have F568 := (F539.other W562 (Or.inr (slot_ne (Or.inl (hw _ (List.mem_of_getElem? (i := 28) rfl))) (Or.inl (hw _ (List.mem_of_getElem? (i := 50) rfl))) (by decide) (t := (.array .long)) (t' := (.array (.object "java/math/BigInteger"))) (by decide) (by decide))))
  have F569 := (F540.other W562 (Or.inr (slot_ne (Or.inl (hw _ (List.mem_of_getElem? (i := 30) rfl))) (Or.inl (hw _ (List.mem_of_getElem? (i := 50) rfl))) (by decide) (t := (.array .long)) (t' := (.array (.object "java/math/BigInteger"))) (by decide) (by decide))))
  have F570 := (F541.other W562 (Or.inr (slot_ne (Or.inl (hw _ (List.mem_of_getElem? (i := 32) rfl))) (Or.inl (hw _ (List.mem_of_getElem? (i := 50) rfl))) (by decide) (t := (.array .long)) (t' := (.array (.object "java/math/BigInteger"))) (by decide) (by decide))))
  have F571 := (F542.other W562 (Or.inr (slot_ne (Or.inl (hw _ (List.mem_of_getElem? (i := 34) rfl))) (Or.inl (hw _ (List.mem_of_getElem? (i := 50) rfl))) (by decide) (t := (.array .int)) (t' := (.array (.object "java/math/BigInteger"))) (by decide) (by decide))))
  have F572 := (F543.other W562 (Or.inr (slot_ne (Or.inl (hw _ (List.mem_of_getElem? (i := 44) rfl))) (Or.inl (hw _ (List.mem_of_getElem? (i := 50) rfl))) (by decide) (t := (.array .long)) (t' := (.array (.object "java/math/BigInteger"))) (by decide) (by decide))))
  have F573 := (F544.other W562 (Or.inr (slot_ne (Or.inl (hw _ (List.mem_of_getElem? (i := 46) rfl))) (Or.inl (hw _ (List.mem_of_getElem? (i := 50) rfl))) (by decide) (t := (.array .int)) (t' := (.array (.object "java/math/BigInteger"))) (by decide) (by decide))))
  have F574 := (F545.same W562)
  have F575 := (F546.other W562 (Or.inr (slot_ne (Or.inr (hw _ (List.mem_of_getElem? (i := 52) rfl))) (Or.inl (hw _ (List.mem_of_getElem? (i := 50) rfl))) (by decide) (t := .int) (t' := (.array (.object "java/math/BigInteger"))) (by decide) (by decide))))
  have F576 := (F547.other W562 (Or.inr (slot_ne (Or.inr (hw _ (List.mem_of_getElem? (i := 54) rfl))) (Or.inl (hw _ (List.mem_of_getElem? (i := 50) rfl))) (by decide) (t := (.object "java/lang/String")) (t' := (.array (.object "java/math/BigInteger"))) (by decide) (by decide))))
  have F577 := (F548.other W562 (Ne.symm ne_a0__a23))
  have F578 := (F549.other W562 (Ne.symm ne_a0__a69))
  have F579 := (F550.other W562 (Ne.symm ne_a0__a117))
  have F580 := (F551.other W562 (Ne.symm ne_a0__a190))
  have F581 := (F552.other W562 (Ne.symm ne_a0__a242))
  have F582 := (F553.other W562 (Ne.symm ne_a0__a296))
  have F583 := (F554.other W562 (Ne.symm ne_a0__a352))
  have F584 := (F555.other W562 (Ne.symm ne_a0__r405))
  have F585 := (F556.other W562 (Ne.symm ne_a0__a469))
  have Z586 : n0 ≤ h561.size := (Nat.le_trans Z557 (Nat.le_of_eq W562.size.symm))
  have K587 := (K558.wr W562 (Or.inl (List.mem_of_getElem? (i := 0) rfl)))
  refine own_aloadN X560 d1_91 rfl rfl rfl ?_
  refine own_iloadN X560 d1_92 rfl rfl ?_
  refine own_putf X560 (hw _ (List.mem_of_getElem? (i := 51) rfl)) F575 F563 (Or.inr ⟨(hw _ (List.mem_of_getElem? (i := 52) rfl)), rfl, rfl⟩) (hw _ (List.mem_of_getElem? (i := 1) rfl)) (ty := .int) (by decide) rfl rfl ge_a0_ d1_93 rfl (fun T588 h590 X589 W591 => ?_)
  have F592 := (F563.wr W591)
  have F593 := (F564.other W591 (Or.inr (slot_ne (Or.inl (hw _ (List.mem_of_getElem? (i := 19) rfl))) (Or.inr (hw _ (List.mem_of_getElem? (i := 52) rfl))) (by decide) (t := (.array .int)) (t' := .int) (by decide) (by decide))))
  have F594 := (F565.other W591 (Or.inr (slot_ne (Or.inl (hw _ (List.mem_of_getElem? (i := 21) rfl))) (Or.inr (hw _ (List.mem_of_getElem? (i := 52) rfl))) (by decide) (t := (.array .int)) (t' := .int) (by decide) (by decide))))
  have F595 := (F566.other W591 (Or.inr (slot_ne (Or.inl (hw _ (List.mem_of_getElem? (i := 23) rfl))) (Or.inr (hw _ (List.mem_of_getElem? (i := 52) rfl))) (by decide) (t := (.array .int)) (t' := .int) (by decide) (by decide))))
  have F596 := (F567.other W591 (Or.inr (slot_ne (Or.inl (hw _ (List.mem_of_getElem? (i := 25) rfl))) (Or.inr (hw _ (List.mem_of_getElem? (i := 52) rfl))) (by decide) (t := .int) (t' := .int) (by decide) (by decide))))
  have F597 := (F568.other W591 (Or.inr (slot_ne (Or.inl (hw _ (List.mem_of_getElem? (i := 28) rfl))) (Or.inr (hw _ (List.mem_of_getElem? (i := 52) rfl))) (by decide) (t := (.array .long)) (t' := .int) (by decide) (by decide))))
  have F598 := (F569.other W591 (Or.inr (slot_ne (Or.inl (hw _ (List.mem_of_getElem? (i := 30) rfl))) (Or.inr (hw _ (List.mem_of_getElem? (i := 52) rfl))) (by decide) (t := (.array .long)) (t' := .int) (by decide) (by decide))))
  have F599 := (F570.other W591 (Or.inr (slot_ne (Or.inl (hw _ (List.mem_of_getElem? (i := 32) rfl))) (Or.inr (hw _ (List.mem_of_getElem? (i := 52) rfl))) (by decide) (t := (.array .long)) (t' := .int) (by decide) (by decide))))
  have F600 := (F571.other W591 (Or.inr (slot_ne (Or.inl (hw _ (List.mem_of_getElem? (i := 34) rfl))) (Or.inr (hw _ (List.mem_of_getElem? (i := 52) rfl))) (by decide) (t := (.array .int)) (t' := .int) (by decide) (by decide))))
  have F601 := (F572.other W591 (Or.inr (slot_ne (Or.inl (hw _ (List.mem_of_getElem? (i := 44) rfl))) (Or.inr (hw _ (List.mem_of_getElem? (i := 52) rfl))) (by decide) (t := (.array .long)) (t' := .int) (by decide) (by decide))))
  have F602 := (F573.other W591 (Or.inr (slot_ne (Or.inl (hw _ (List.mem_of_getElem? (i := 46) rfl))) (Or.inr (hw _ (List.mem_of_getElem? (i := 52) rfl))) (by decide) (t := (.array .int)) (t' := .int) (by decide) (by decide))))
  have F603 := (F574.other W591 (Or.inr (slot_ne (Or.inl (hw _ (List.mem_of_getElem? (i := 50) rfl))) (Or.inr (hw _ (List.mem_of_getElem? (i := 52) rfl))) (by decide) (t := (.array (.object "java/math/BigInteger"))) (t' := .int) (by decide) (by decide))))
  have F604 := (F575.same W591)
  have F605 := (F576.other W591 (Or.inr (slot_ne (Or.inr (hw _ (List.mem_of_getElem? (i := 54) rfl))) (Or.inr (hw _ (List.mem_of_getElem? (i := 52) rfl))) (by decide) (t := (.object "java/lang/String")) (t' := .int) (by decide) (by decide))))
  have F606 := (F577.other W591 (Ne.symm ne_a0__a23))
  have F607 := (F578.other W591 (Ne.symm ne_a0__a69))
  have F608 := (F579.other W591 (Ne.symm ne_a0__a117))
  have F609 := (F580.other W591 (Ne.symm ne_a0__a190))
  have F610 := (F581.other W591 (Ne.symm ne_a0__a242))
  have F611 := (F582.other W591 (Ne.symm ne_a0__a296))
  have F612 := (F583.other W591 (Ne.symm ne_a0__a352))
  have F613 := (F584.other W591 (Ne.symm ne_a0__r405))
  have F614 := (F585.other W591 (Ne.symm ne_a0__a469))
  have Z615 : n0 ≤ h590.size := (Nat.le_trans Z586 (Nat.le_of_eq W591.size.symm))
  have K616 := (K587.wr W591 (Or.inl (List.mem_of_getElem? (i := 0) rfl)))
  refine own_aloadN X589 d1_96 rfl rfl rfl ?_
  refine own_aloadN X589 d1_97 rfl rfl rfl ?_
  refine own_putf X589 (hw _ (List.mem_of_getElem? (i := 53) rfl)) F605 F592 (Or.inr ⟨(hw _ (List.mem_of_getElem? (i := 54) rfl)), rfl, rfl⟩) (hw _ (List.mem_of_getElem? (i := 1) rfl)) (ty := (.object "java/lang/String")) (by decide) rfl rfl ge_a0_ d1_98 rfl (fun T617 h619 X618 W620 => ?_)
  have F621 := (F592.wr W620)
  have F622 := (F593.other W620 (Or.inr (slot_ne (Or.inl (hw _ (List.mem_of_getElem? (i := 19) rfl))) (Or.inr (hw _ (List.mem_of_getElem? (i := 54) rfl))) (by decide) (t := (.array .int)) (t' := (.object "java/lang/String")) (by decide) (by decide))))
  have F623 := (F594.other W620 (Or.inr (slot_ne (Or.inl (hw _ (List.mem_of_getElem? (i := 21) rfl))) (Or.inr (hw _ (List.mem_of_getElem? (i := 54) rfl))) (by decide) (t := (.array .int)) (t' := (.object "java/lang/String")) (by decide) (by decide))))
  have F624 := (F595.other W620 (Or.inr (slot_ne (Or.inl (hw _ (List.mem_of_getElem? (i := 23) rfl))) (Or.inr (hw _ (List.mem_of_getElem? (i := 54) rfl))) (by decide) (t := (.array .int)) (t' := (.object "java/lang/String")) (by decide) (by decide))))
  have F625 := (F596.other W620 (Or.inr (slot_ne (Or.inl (hw _ (List.mem_of_getElem? (i := 25) rfl))) (Or.inr (hw _ (List.mem_of_getElem? (i := 54) rfl))) (by decide) (t := .int) (t' := (.object "java/lang/String")) (by decide) (by decide))))
  have F626 := (F597.other W620 (Or.inr (slot_ne (Or.inl (hw _ (List.mem_of_getElem? (i := 28) rfl))) (Or.inr (hw _ (List.mem_of_getElem? (i := 54) rfl))) (by decide) (t := (.array .long)) (t' := (.object "java/lang/String")) (by decide) (by decide))))
  have F627 := (F598.other W620 (Or.inr (slot_ne (Or.inl (hw _ (List.mem_of_getElem? (i := 30) rfl))) (Or.inr (hw _ (List.mem_of_getElem? (i := 54) rfl))) (by decide) (t := (.array .long)) (t' := (.object "java/lang/String")) (by decide) (by decide))))
  have F628 := (F599.other W620 (Or.inr (slot_ne (Or.inl (hw _ (List.mem_of_getElem? (i := 32) rfl))) (Or.inr (hw _ (List.mem_of_getElem? (i := 54) rfl))) (by decide) (t := (.array .long)) (t' := (.object "java/lang/String")) (by decide) (by decide))))
  have F629 := (F600.other W620 (Or.inr (slot_ne (Or.inl (hw _ (List.mem_of_getElem? (i := 34) rfl))) (Or.inr (hw _ (List.mem_of_getElem? (i := 54) rfl))) (by decide) (t := (.array .int)) (t' := (.object "java/lang/String")) (by decide) (by decide))))
  have F630 := (F601.other W620 (Or.inr (slot_ne (Or.inl (hw _ (List.mem_of_getElem? (i := 44) rfl))) (Or.inr (hw _ (List.mem_of_getElem? (i := 54) rfl))) (by decide) (t := (.array .long)) (t' := (.object "java/lang/String")) (by decide) (by decide))))
  have F631 := (F602.other W620 (Or.inr (slot_ne (Or.inl (hw _ (List.mem_of_getElem? (i := 46) rfl))) (Or.inr (hw _ (List.mem_of_getElem? (i := 54) rfl))) (by decide) (t := (.array .int)) (t' := (.object "java/lang/String")) (by decide) (by decide))))
  have F632 := (F603.other W620 (Or.inr (slot_ne (Or.inl (hw _ (List.mem_of_getElem? (i := 50) rfl))) (Or.inr (hw _ (List.mem_of_getElem? (i := 54) rfl))) (by decide) (t := (.array (.object "java/math/BigInteger"))) (t' := (.object "java/lang/String")) (by decide) (by decide))))
  have F633 := (F604.other W620 (Or.inr (slot_ne (Or.inr (hw _ (List.mem_of_getElem? (i := 52) rfl))) (Or.inr (hw _ (List.mem_of_getElem? (i := 54) rfl))) (by decide) (t := .int) (t' := (.object "java/lang/String")) (by decide) (by decide))))
  have F634 := (F605.same W620)
  have F635 := (F606.other W620 (Ne.symm ne_a0__a23))
  have F636 := (F607.other W620 (Ne.symm ne_a0__a69))
  have F637 := (F608.other W620 (Ne.symm ne_a0__a117))
  have F638 := (F609.other W620 (Ne.symm ne_a0__a190))
  have F639 := (F610.other W620 (Ne.symm ne_a0__a242))
  have F640 := (F611.other W620 (Ne.symm ne_a0__a296))
  have F641 := (F612.other W620 (Ne.symm ne_a0__a352))
  have F642 := (F613.other W620 (Ne.symm ne_a0__r405))
  have F643 := (F614.other W620 (Ne.symm ne_a0__a469))
  have Z644 : n0 ≤ h619.size := (Nat.le_trans Z615 (Nat.le_of_eq W620.size.symm))
  have K645 := (K616.wr W620 (Or.inl (List.mem_of_getElem? (i := 0) rfl)))
  refine own_aloadN X618 d1_101 rfl rfl rfl ?_
  refine own_getf X618 (hw _ (List.mem_of_getElem? (i := 18) rfl)) F622 d1_102 rfl (fun T646 X647 => ?_)
  refine own_iconst X647 (0 : Int32) d1_105 rfl (by decide) ?_
  refine own_iconst X647 ((-1) : Int32) d1_106 rfl (by decide) ?_
  refine own_iastoreF X647 (j := 0) F635 (by decide) (by decide) ge_a23 d1_107 rfl (fun T648 h650 X649 W651 => ?_)
  have F653 := (F621.wr W651)
  have F654 := (F622.other W651 (Or.inl ne_a0__a23))
  have F655 := (F623.other W651 (Or.inl ne_a0__a23))
  have F656 := (F624.other W651 (Or.inl ne_a0__a23))
  have F657 := (F625.other W651 (Or.inl ne_a0__a23))
  have F658 := (F626.other W651 (Or.inl ne_a0__a23))
  have F659 := (F627.other W651 (Or.inl ne_a0__a23))
  have F660 := (F628.other W651 (Or.inl ne_a0__a23))
  have F661 := (F629.other W651 (Or.inl ne_a0__a23))
  have F662 := (F630.other W651 (Or.inl ne_a0__a23))
  have F663 := (F631.other W651 (Or.inl ne_a0__a23))
  have F664 := (F632.other W651 (Or.inl ne_a0__a23))
  have F665 := (F633.other W651 (Or.inl ne_a0__a23))
  have F666 := (F634.other W651 (Or.inl ne_a0__a23))
  have F667 := (F635.set W651)
  have F668 := (F636.other W651 (Ne.symm ne_a23_a69))
  have F669 := (F637.other W651 (Ne.symm ne_a23_a117))
  have F670 := (F638.other W651 (Ne.symm ne_a23_a190))
  have F671 := (F639.other W651 (Ne.symm ne_a23_a242))
  have F672 := (F640.other W651 (Ne.symm ne_a23_a296))
  have F673 := (F641.other W651 (Ne.symm ne_a23_a352))
  have F674 := (F642.other W651 (Ne.symm ne_a23_r405))
  have F675 := (F643.other W651 (Ne.symm ne_a23_a469))
  have Z676 : n0 ≤ h650.size := (Nat.le_trans Z644 (Nat.le_of_eq W651.size.symm))
  have K677 := (K645.wr W651 (Or.inr fr_a23))
  refine own_aloadN X649 d1_108 rfl rfl rfl ?_
  refine own_getf X649 (hw _ (List.mem_of_getElem? (i := 29) rfl)) F659 d1_109 rfl (fun T678 X679 => ?_)
  refine own_iconst X679 (0 : Int32) d1_112 rfl (by decide) ?_
  refine own_ldc2J X679 (v := ((-1) : Int64)) d1_113 rfl (hw _ (List.mem_of_getElem? (i := 38) rfl)) ?_
  refine own_lastoreF X679 (j := 0) F671 (by decide) (by decide) ge_a242 d1_116 rfl (fun T680 h682 X681 W683 => ?_)
  have F685 := (F653.wr W683)
  have F686 := (F654.other W683 (Or.inl ne_a0__a242))
  have F687 := (F655.other W683 (Or.inl ne_a0__a242))
  have F688 := (F656.other W683 (Or.inl ne_a0__a242))
  have F689 := (F657.other W683 (Or.inl ne_a0__a242))
  have F690 := (F658.other W683 (Or.inl ne_a0__a242))
  have F691 := (F659.other W683 (Or.inl ne_a0__a242))
  have F692 := (F660.other W683 (Or.inl ne_a0__a242))
  have F693 := (F661.other W683 (Or.inl ne_a0__a242))
  have F694 := (F662.other W683 (Or.inl ne_a0__a242))
  have F695 := (F663.other W683 (Or.inl ne_a0__a242))
  have F696 := (F664.other W683 (Or.inl ne_a0__a242))
  have F697 := (F665.other W683 (Or.inl ne_a0__a242))
  have F698 := (F666.other W683 (Or.inl ne_a0__a242))
  have F699 := (F667.other W683 ne_a23_a242)
  have F700 := (F668.other W683 ne_a69_a242)
  have F701 := (F669.other W683 ne_a117_a242)
  have F702 := (F670.other W683 ne_a190_a242)
  have F703 := (F671.set W683)
  have F704 := (F672.other W683 (Ne.symm ne_a242_a296))
  have F705 := (F673.other W683 (Ne.symm ne_a242_a352))
  have F706 := (F674.other W683 (Ne.symm ne_a242_r405))
  have F707 := (F675.other W683 (Ne.symm ne_a242_a469))
  have Z708 : n0 ≤ h682.size := (Nat.le_trans Z676 (Nat.le_of_eq W683.size.symm))
  have K709 := (K677.wr W683 (Or.inr fr_a242))
  refine own_aloadN X681 d1_117 rfl rfl rfl ?_
  refine own_getf X681 (hw _ (List.mem_of_getElem? (i := 31) rfl)) F692 d1_118 rfl (fun T710 X711 => ?_)
  refine own_iconst X711 (0 : Int32) d1_121 rfl (by decide) ?_
  refine own_ldc2J X711 (v := ((-1) : Int64)) d1_122 rfl (hw _ (List.mem_of_getElem? (i := 38) rfl)) ?_
  refine own_lastoreF X711 (j := 0) F704 (by decide) (by decide) ge_a296 d1_125 rfl (fun T712 h714 X713 W715 => ?_)
  have F717 := (F685.wr W715)
  have F718 := (F686.other W715 (Or.inl ne_a0__a296))
  have F719 := (F687.other W715 (Or.inl ne_a0__a296))
  have F720 := (F688.other W715 (Or.inl ne_a0__a296))
  have F721 := (F689.other W715 (Or.inl ne_a0__a296))
  have F722 := (F690.other W715 (Or.inl ne_a0__a296))
  have F723 := (F691.other W715 (Or.inl ne_a0__a296))
  have F724 := (F692.other W715 (Or.inl ne_a0__a296))
  have F725 := (F693.other W715 (Or.inl ne_a0__a296))
  have F726 := (F694.other W715 (Or.inl ne_a0__a296))
  have F727 := (F695.other W715 (Or.inl ne_a0__a296))
  have F728 := (F696.other W715 (Or.inl ne_a0__a296))
  have F729 := (F697.other W715 (Or.inl ne_a0__a296))
  have F730 := (F698.other W715 (Or.inl ne_a0__a296))
  have F731 := (F699.other W715 ne_a23_a296)
  have F732 := (F700.other W715 ne_a69_a296)
  have F733 := (F701.other W715 ne_a117_a296)
  have F734 := (F702.other W715 ne_a190_a296)
  have F735 := (F703.other W715 ne_a242_a296)
  have F736 := (F704.set W715)
  have F737 := (F705.other W715 (Ne.symm ne_a296_a352))
  have F738 := (F706.other W715 (Ne.symm ne_a296_r405))
  have F739 := (F707.other W715 (Ne.symm ne_a296_a469))
  have Z740 : n0 ≤ h714.size := (Nat.le_trans Z708 (Nat.le_of_eq W715.size.symm))
  have K741 := (K709.wr W715 (Or.inr fr_a296))
  refine own_aloadN X713 d1_126 rfl rfl rfl ?_
  refine own_getf X713 (hw _ (List.mem_of_getElem? (i := 18) rfl)) F718 d1_127 rfl (fun T742 X743 => ?_)
  refine own_iconst X743 (1 : Int32) d1_130 rfl (by decide) ?_
  refine own_iconst X743 ((-1) : Int32) d1_131 rfl (by decide) ?_
  refine own_iastoreF X743 (j := 1) F731 (by decide) (by decide) ge_a23 d1_132 rfl (fun T744 h746 X745 W747 => ?_)
  have F749 := (F717.wr W747)
  have F750 := (F718.other W747 (Or.inl ne_a0__a23))
  have F751 := (F719.other W747 (Or.inl ne_a0__a23))
  have F752 := (F720.other W747 (Or.inl ne_a0__a23))
  have F753 := (F721.other W747 (Or.inl ne_a0__a23))
  have F754 := (F722.other W747 (Or.inl ne_a0__a23))
  have F755 := (F723.other W747 (Or.inl ne_a0__a23))
  have F756 := (F724.other W747 (Or.inl ne_a0__a23))
  have F757 := (F725.other W747 (Or.inl ne_a0__a23))
  have F758 := (F726.other W747 (Or.inl ne_a0__a23))
  have F759 := (F727.other W747 (Or.inl ne_a0__a23))
  have F760 := (F728.other W747 (Or.inl ne_a0__a23))
  have F761 := (F729.other W747 (Or.inl ne_a0__a23))
  have F762 := (F730.other W747 (Or.inl ne_a0__a23))
  have F763 := (F731.set W747)
  have F764 := (F732.other W747 (Ne.symm ne_a23_a69))
  have F765 := (F733.other W747 (Ne.symm ne_a23_a117))
  have F766 := (F734.other W747 (Ne.symm ne_a23_a190))
  have F767 := (F735.other W747 (Ne.symm ne_a23_a242))
  have F768 := (F736.other W747 (Ne.symm ne_a23_a296))
  have F769 := (F737.other W747 (Ne.symm ne_a23_a352))
  have F770 := (F738.other W747 (Ne.symm ne_a23_r405))
  have F771 := (F739.other W747 (Ne.symm ne_a23_a469))
  have Z772 : n0 ≤ h746.size := (Nat.le_trans Z740 (Nat.le_of_eq W747.size.symm))
  have K773 := (K741.wr W747 (Or.inr fr_a23))
  have hm : ∀ k, k + 1 < 10 → ([a0_, a23, a69, a117, a190, a242, a296, a352, r405, a469] : List Nat).getD k 0 < ([a0_, a23, a69, a117, a190, a242, a296, a352, r405, a469] : List Nat).getD (k + 1) 0 := fun k hk => by
    match k, hk with
    | 0, _ => exact lt_a0__a23
    | 1, _ => exact lt_a23_a69
    | 2, _ => exact lt_a69_a117
    | 3, _ => exact lt_a117_a190
    | 4, _ => exact lt_a190_a242
    | 5, _ => exact lt_a242_a296
    | 6, _ => exact lt_a296_a352
    | 7, _ => exact lt_a352_r405
    | 8, _ => exact lt_r405_a469
    | k + 9, hk => exact absurd hk (by omega)
  refine own_retV X745 rfl d1_133 ⟨fun k => ([a0_, a23, a69, a117, a190, a242, a296, a352, r405, a469] : List Nat).getD k 0, rfl, rfl, ?_, fr_a23⟩ (by decide) (by decide)
  exact ⟨own_mono _ 10 hm, ge_a0_, F749, F750, F751, F752, F754, F755, F756, F757, F758, F759, F753, F763, F764, F765, F769, F770, F771, ⟨_, F766⟩, ⟨_, F767⟩, ⟨_, F768⟩⟩

theorem own_Rep.eq {e : own_T} {k D D' : Nat} {f g : Int64 → Bool} (h : own_Rep e k f D) (q : ∀ x, g x = f x) (r : D ≤ D') : own_Rep e k g D' := ⟨h.1, fun x => by rw [q x]; exact h.2.1 x, Nat.le_trans h.2.2 r⟩
def own_bi (b : Bool) : Int32 := if b = true then (1 : Int32) else (0 : Int32)
theorem own_bi0 (b : Bool) : own_bi b = 0 ↔ b = false := by cases b <;> decide
theorem own_va {z : Int32} {P : Prop} [Decidable P] {b : Bool} (h : z = if P then (0 : Int32) else (1 : Int32)) (q : b = decide (¬ P)) : z = own_bi b := by
  by_cases c : P
  · rw [if_pos c] at h; subst q; simp [c, h, own_bi]
  · rw [if_neg c] at h; subst q; simp [c, h, own_bi]
theorem own_vn {z y n : Int32} {b c : Bool} (hy : y = own_bi b) (hc : c = if n = (0 : Int32) then b else own_op 2 b false) (h : z = if n = (0 : Int32) then y else (if y = (0 : Int32) then (1 : Int32) else (0 : Int32))) : z = own_bi c := by
  subst hy
  by_cases q : n = 0
  · rw [if_pos q] at h hc; rw [h, hc]
  · rw [if_neg q] at h hc; rw [h, hc]; cases b <;> rfl
theorem own_vo {z x y n : Int32} {a b c : Bool} (hx : x = own_bi a) (hy : y = own_bi b) (hc : c = if n = (0 : Int32) then own_op 0 a b else own_op 1 a b) (h : z = if n = (0 : Int32) then (if x = (0 : Int32) then (0 : Int32) else (if y = (0 : Int32) then (0 : Int32) else (1 : Int32))) else (if x = (0 : Int32) then (if y = (0 : Int32) then (0 : Int32) else (1 : Int32)) else (1 : Int32))) : z = own_bi c := by
  subst hx hy
  by_cases q : n = 0
  · rw [if_pos q] at h hc; rw [h, hc]; cases a <;> cases b <;> rfl
  · rw [if_neg q] at h hc; rw [h, hc]; cases a <;> cases b <;> rfl
theorem own_sh64 : ∀ n : Fin 64, (n.val.toInt32.toInt64.toUInt64 &&& Int64.toUInt64 63).toNat % 64 = n.val := by decide +kernel
theorem own_one64 : ∀ n : Fin 64, ((1 : Int64) <<< (n.val.toInt32.toInt64 &&& 63)).toBitVec.toNat = 2 ^ n.val := by decide +kernel
abbrev own_n (x : Int64) : Nat := x.toBitVec.toNat
theorem own_bN (x : Int64) {n : Nat} (hn : n < 64) : own_b x n.toInt32 = true ↔ own_n x / 2 ^ n % 2 = 1 := by
  have h1 : (XT.ushrL x n.toInt32 &&& (1 : Int64)).toBitVec.toNat = own_n x / 2 ^ n % 2 := by
    rw [Int64.toBitVec_and, BitVec.toNat_and]
    have h2 : (XT.ushrL x n.toInt32).toBitVec.toNat = own_n x / 2 ^ n := by
      show (x.toUInt64 >>> (n.toInt32.toInt64.toUInt64 &&& Int64.toUInt64 63)).toNat = _
      rw [UInt64.toNat_shiftRight, own_sh64 ⟨n, hn⟩, Nat.shiftRight_eq_div_pow]
      rfl
    rw [h2]
    exact Nat.and_two_pow_sub_one_eq_mod _ 1
  have h0 : ((XT.ushrL x n.toInt32 &&& (1 : Int64)) = (0 : Int64)) ↔ own_n x / 2 ^ n % 2 = 0 := by
    rw [← h1]
    constructor
    · intro h; rw [h]; rfl
    · intro h; exact Int64.toBitVec_inj.mp (BitVec.eq_of_toNat_eq h)
  unfold own_b
  rw [decide_eq_true_iff, h0]
  omega
theorem own_orN {y : Int64} {n : Nat} (hn : n < 64) (hd : 2 ^ (n + 1) ∣ own_n y) : own_n (y ||| ((1 : Int64) <<< (n.toInt32.toInt64 &&& 63))) = own_n y + 2 ^ n := by
  obtain ⟨m, hm⟩ := hd
  show (y ||| ((1 : Int64) <<< (n.toInt32.toInt64 &&& 63))).toBitVec.toNat = _
  rw [Int64.toBitVec_or, BitVec.toNat_or, own_one64 ⟨n, hn⟩]
  show own_n y ||| 2 ^ n = _
  rw [hm]
  exact (Nat.two_pow_add_eq_or_of_lt (Nat.pow_lt_pow_right (by decide) (Nat.lt_succ_self n)) m).symm
theorem own_xm (a : Int64) : (a ^^^ ((-9223372036854775808) : Int64)).toInt = (own_n a : Int) - 9223372036854775808 := by
  have e : (a ^^^ ((-9223372036854775808) : Int64)).toBitVec.toNat = own_n a ^^^ 2 ^ 63 := by
    rw [Int64.toBitVec_xor, BitVec.toNat_xor]
    rfl
  have h1 : (own_n a ^^^ 2 ^ 63) % 2 ^ 63 = own_n a % 2 ^ 63 := by
    rw [Nat.xor_mod_two_pow, Nat.mod_self, Nat.xor_zero]
  have h2 : (own_n a ^^^ 2 ^ 63) / 2 ^ 63 = own_n a / 2 ^ 63 ^^^ 1 := by
    rw [Nat.xor_div_two_pow, Nat.div_self (by decide)]
  have hl : own_n a < 2 ^ 64 := a.toBitVec.isLt
  have h3 : own_n a / 2 ^ 63 = 0 ∨ own_n a / 2 ^ 63 = 1 := by omega
  show (a ^^^ ((-9223372036854775808) : Int64)).toBitVec.toInt = _
  rw [BitVec.toInt_eq_toNat_cond, e]
  rcases h3 with h3 | h3
  · rw [h3] at h2
    have : (0 ^^^ 1 : Nat) = 1 := rfl
    rw [this] at h2
    split <;> omega
  · rw [h3] at h2
    have : (1 ^^^ 1 : Nat) = 0 := rfl
    rw [this] at h2
    split <;> omega
theorem own_ucmp {a b : Int64} (h : own_n a ≤ own_n b) : ¬ (b ^^^ ((-9223372036854775808) : Int64)) < (a ^^^ ((-9223372036854775808) : Int64)) := by
  rw [Int64.lt_iff_toInt_lt, own_xm, own_xm]
  omega
def own_u (d : own_T) (k : Nat) : Nat := ((o_te d k).toInt + 1).toNat
theorem own_te_n {d : own_T} {k : Nat} (h : own_Nd d k) : ∃ n : Nat, n < 64 ∧ o_te d k = n.toInt32 ∧ own_u d k = n + 1 ∧ own_u d (o_lo d k) ≤ n ∧ own_u d (o_hi d k) ≤ n := by
  obtain ⟨n1, n2, -, -, -, n6, n7, -, -⟩ := h
  unfold own_u
  rw [Int32.lt_iff_toInt_lt] at n1 n2 n6 n7
  have z0 : (0 : Int32).toInt = 0 := rfl
  have z1 : (64 : Int32).toInt = 64 := rfl
  rw [z0] at n1
  rw [z1] at n2
  refine ⟨(o_te d k).toInt.toNat, by omega, ?_, by omega, by omega, by omega⟩
  rw [← Int32.toInt_inj, own_i32 (by omega)]
  omega
theorem own_dd {z y n u : Nat} (hu : u ≤ n) (h : z / 2 ^ u = y / 2 ^ u) : z / 2 ^ n = y / 2 ^ n := by
  obtain ⟨c, rfl⟩ : ∃ c, n = u + c := ⟨n - u, by omega⟩
  rw [Nat.pow_add, ← Nat.div_div_eq_div_mul, ← Nat.div_div_eq_div_mul, h]
theorem own_d2 (z n : Nat) : z / 2 ^ (n + 1) = z / 2 ^ n / 2 := by rw [Nat.pow_succ, Nat.div_div_eq_div_mul]
def own_sm (d : own_T) (i k : Nat) (y : Int64) : Prop := k < o_N d ∧ k ≠ 0 ∧ 2 ^ own_u d k ∣ own_n y ∧ (∀ z, own_n z / 2 ^ own_u d k = own_n y / 2 ^ own_u d k → o_S d i z = o_S d k z) ∧ ∀ x, o_S d i x = true → own_n y ≤ own_n x
theorem own_sm0 {d : own_T} {i : Nat} (hi : i < o_N d) (h0 : i ≠ 0) : own_sm d i i (0 : Int64) := ⟨hi, h0, ⟨0, rfl⟩, fun _ _ => rfl, fun x _ => (Nat.zero_le (own_n x) : 0 ≤ own_n x)⟩
theorem own_smL {d : own_T} (I : own_Inv d) {i k : Nat} {y : Int64} (h : own_sm d i k y) (hk : k ≠ 1) (hl : o_lo d k ≠ 0) : own_sm d i (o_lo d k) y := by
  obtain ⟨h1, h2, h3, h4, h5⟩ := h
  have nd := I.2.2.2.2.1 k (by omega) h1
  obtain ⟨n, n1, n2, n3, n4, n5⟩ := own_te_n nd
  obtain ⟨-, -, m3, m4, -, -, -, m8, -⟩ := nd
  rw [n3] at h3 h4
  refine ⟨by omega, hl, Nat.dvd_trans (Nat.pow_dvd_pow 2 (by omega)) h3, fun z hz => ?_, h5⟩
  have e := own_dd n4 hz
  rw [h4 z (by rw [own_d2, own_d2, e]), m8 z, n2]
  obtain ⟨m, hm⟩ := h3
  have e2 : own_n y / 2 ^ n = 2 * m := by rw [hm, Nat.pow_succ, Nat.mul_assoc, Nat.mul_div_cancel_left _ (Nat.two_pow_pos n)]
  rw [if_neg (fun q => by rw [own_bN z n1] at q; omega)]
theorem own_smH {d : own_T} (I : own_Inv d) {i k : Nat} {y : Int64} (h : own_sm d i k y) (hk : k ≠ 1) (hl : o_lo d k = 0) : own_sm d i (o_hi d k) (y ||| ((1 : Int64) <<< ((o_te d k).toInt64 &&& 63))) := by
  obtain ⟨h1, h2, h3, h4, h5⟩ := h
  have nd := I.2.2.2.2.1 k (by omega) h1
  obtain ⟨n, n1, n2, n3, n4, n5⟩ := own_te_n nd
  obtain ⟨-, -, m3, m4, m5, -, -, m8, -⟩ := nd
  rw [n3] at h3 h4
  have E := own_orN n1 h3
  rw [← n2] at E
  unfold own_sm
  rw [E]
  obtain ⟨m, hm⟩ := h3
  have p2 : 2 ^ (n + 1) = 2 * 2 ^ n := by rw [Nat.pow_succ, Nat.mul_comm]
  have pp : 0 < 2 ^ n := Nat.two_pow_pos n
  have e2 : own_n y / 2 ^ n = 2 * m := by rw [hm, Nat.pow_succ, Nat.mul_assoc, Nat.mul_div_cancel_left _ pp]
  have e3 : (own_n y + 2 ^ n) / 2 ^ n = 2 * m + 1 := by rw [Nat.add_div_right _ pp, e2]
  have e4 : own_n y / 2 ^ (n + 1) = m := by rw [own_d2, e2]; omega
  refine ⟨by omega, by omega, ?_, fun z hz => ?_, fun x hx => ?_⟩
  · refine Nat.dvd_trans (Nat.pow_dvd_pow 2 n5) ⟨2 * m + 1, ?_⟩
    rw [hm, p2, Nat.mul_add, Nat.mul_one, Nat.mul_comm 2 (2 ^ n), Nat.mul_assoc]
  · have e := own_dd n5 hz
    rw [e3] at e
    rw [h4 z (by rw [e4, own_d2, e]; omega), m8 z, n2]
    rw [if_pos (by rw [own_bN z n1]; omega)]
  · have q := h5 x hx
    by_cases c : own_n x / 2 ^ (n + 1) = m
    · have s := h4 x (by rw [c, e4])
      have b : own_b x (o_te d k) = true := by
        refine Classical.byContradiction fun b => ?_
        rw [hx, m8 x, if_neg b, hl, I.2.2.1.1 x] at s
        cases s
      rw [n2, own_bN x n1] at b
      rw [own_d2] at c
      have c2 : own_n x / 2 ^ n = 2 * m + 1 := by omega
      have := Nat.div_add_mod (own_n x) (2 ^ n)
      rw [c2, Nat.mul_add, Nat.mul_one] at this
      rw [hm, p2, Nat.mul_comm 2 (2 ^ n), Nat.mul_assoc]
      omega
    · have c1 : m ≤ own_n x / 2 ^ (n + 1) := by rw [← e4]; exact Nat.div_le_div_right q
      have c2 : m + 1 ≤ own_n x / 2 ^ (n + 1) := by omega
      have c3 := Nat.mul_le_mul_left (2 ^ (n + 1)) c2
      have c4 := Nat.mul_div_le (own_n x) (2 ^ (n + 1))
      rw [Nat.mul_add, Nat.mul_one] at c3
      omega
theorem own_smE {d : own_T} (I : own_Inv d) {i : Nat} {y : Int64} (h : own_sm d i 1 y) : o_S d i y = true ∧ ∀ x, o_S d i x = true → own_n y ≤ own_n x := ⟨by rw [h.2.2.2.1 y rfl]; exact I.2.2.1.2 y, h.2.2.2.2⟩
theorem d22_0 : decode prog_13_method_8_code 0 = .ok (.lconst 0, 1) := by decide +kernel
theorem d22_1 : decode prog_13_method_8_code 1 = .ok (.lstore_n 2, 1) := by decide +kernel
theorem d22_2 : decode prog_13_method_8_code 2 = .ok (.iload_n 1, 1) := by decide +kernel
theorem d22_3 : decode prog_13_method_8_code 3 = .ok (.istore 4, 2) := by decide +kernel
theorem d22_5 : decode prog_13_method_8_code 5 = .ok (.iload 4, 2) := by decide +kernel
theorem d22_7 : decode prog_13_method_8_code 7 = .ok (.iconst 1, 1) := by decide +kernel
theorem d22_8 : decode prog_13_method_8_code 8 = .ok (.if_icmp .eq 49, 3) := by decide +kernel
theorem d22_11 : decode prog_13_method_8_code 11 = .ok (.aload_n 0, 1) := by decide +kernel
theorem d22_12 : decode prog_13_method_8_code 12 = .ok (.getfield 13, 3) := by decide +kernel
theorem d22_15 : decode prog_13_method_8_code 15 = .ok (.iload 4, 2) := by decide +kernel
theorem d22_17 : decode prog_13_method_8_code 17 = .ok (.iaload, 1) := by decide +kernel
theorem d22_18 : decode prog_13_method_8_code 18 = .ok (.ifCond .eq 15, 3) := by decide +kernel
theorem d22_21 : decode prog_13_method_8_code 21 = .ok (.aload_n 0, 1) := by decide +kernel
theorem d22_22 : decode prog_13_method_8_code 22 = .ok (.getfield 13, 3) := by decide +kernel
theorem d22_25 : decode prog_13_method_8_code 25 = .ok (.iload 4, 2) := by decide +kernel
theorem d22_27 : decode prog_13_method_8_code 27 = .ok (.iaload, 1) := by decide +kernel
theorem d22_28 : decode prog_13_method_8_code 28 = .ok (.istore 4, 2) := by decide +kernel
theorem d22_30 : decode prog_13_method_8_code 30 = .ok (.goto (-25), 3) := by decide +kernel
theorem d22_33 : decode prog_13_method_8_code 33 = .ok (.lload_n 2, 1) := by decide +kernel
theorem d22_34 : decode prog_13_method_8_code 34 = .ok (.lconst 1, 1) := by decide +kernel
theorem d22_35 : decode prog_13_method_8_code 35 = .ok (.aload_n 0, 1) := by decide +kernel
theorem d22_36 : decode prog_13_method_8_code 36 = .ok (.getfield 9, 3) := by decide +kernel
theorem d22_39 : decode prog_13_method_8_code 39 = .ok (.iload 4, 2) := by decide +kernel
theorem d22_41 : decode prog_13_method_8_code 41 = .ok (.iaload, 1) := by decide +kernel
theorem d22_42 : decode prog_13_method_8_code 42 = .ok (.lshl, 1) := by decide +kernel
theorem d22_43 : decode prog_13_method_8_code 43 = .ok (.lor, 1) := by decide +kernel
theorem d22_44 : decode prog_13_method_8_code 44 = .ok (.lstore_n 2, 1) := by decide +kernel
theorem d22_45 : decode prog_13_method_8_code 45 = .ok (.aload_n 0, 1) := by decide +kernel
theorem d22_46 : decode prog_13_method_8_code 46 = .ok (.getfield 16, 3) := by decide +kernel
theorem d22_49 : decode prog_13_method_8_code 49 = .ok (.iload 4, 2) := by decide +kernel
theorem d22_51 : decode prog_13_method_8_code 51 = .ok (.iaload, 1) := by decide +kernel
theorem d22_52 : decode prog_13_method_8_code 52 = .ok (.istore 4, 2) := by decide +kernel
theorem d22_54 : decode prog_13_method_8_code 54 = .ok (.goto (-49), 3) := by decide +kernel
theorem d22_57 : decode prog_13_method_8_code 57 = .ok (.lload_n 2, 1) := by decide +kernel
theorem d22_58 : decode prog_13_method_8_code 58 = .ok (.lreturn, 1) := by decide +kernel
theorem own_pnsm : plainFor (⟨"com/example/libgfg/libgfg/automaton/LetterSets", "smallest", "(I)J"⟩ : MethodName) = true := by first | exact plainFor_of_name (by first | (simp [plainName, overriddenIn, x]; done) | decide +kernel) | decide +kernel
theorem own_efsm (A : Nat → Addr) (i : Nat) (m : MethodId) : entryFrame m #[(.ref (A 0)), (.int i.toInt32)] 5 = mkF m 0 #[.val (.ref (A 0)), .val (.int i.toInt32), .unset, .unset, .unset] [] := by first | (simp [entryFrame, mkF, argsToLocals, Value.category]; done) | rfl
def own_qsm (A : Nat → Addr) (i : Nat) (d : own_T) (Z : State) (n0 : Nat) (h0 : Heap) (v : Option Value) (h : Heap) : Prop := ∃ y : Int64, v = some (.long y) ∧ h0 = h ∧ o_S d i y = true ∧ ∀ x, o_S d i x = true → own_n y ≤ own_n x
set_option maxRecDepth 65536 in
set_option maxHeartbeats 40000000 in
theorem own_msm (l : Launch) (Z : State) (a0 : Array Value) (hw : ∀ d ∈ tables_1, d.before a0 Z = true) (A : Nat → Addr) (n0 : Nat) (i : Nat) (d : own_T) (h0 : Heap) (F : own_LS Z h0 A n0 d) (I : own_Inv d) (hi : i < o_N d) (i0 : i ≠ 0) (hN : o_N d ≤ 32) :
    own_Met l Z (⟨"com/example/libgfg/libgfg/automaton/LetterSets", "smallest", "(I)J"⟩ : MethodName) prog_13_method_8_code 5 (some .long) [] ({ frames := 0, cells := 0, slots := 0, locals := 0 } : Room) #[(.ref (A 0)), (.int i.toInt32)] h0 n0 (own_qsm A i d Z n0 h0) := by
  refine own_enter (own := "com/example/libgfg/libgfg/automaton/LetterSets") (nm := "smallest") rfl rfl own_pnsm (own_efsm A i) ?_
  intro p e s m below meth c T0 X0
  refine own_lconst X0 (0 : Int64) d22_0 rfl (by decide) ?_
  refine own_lstoreN X0 (L' := #[.val (.ref (A 0)), .val (.int i.toInt32), .val (.long (0 : Int64)), .second, .unset]) d22_1 rfl rfl ?_
  refine own_iloadN X0 d22_2 rfl rfl ?_
  refine own_istore X0 (L' := #[.val (.ref (A 0)), .val (.int i.toInt32), .val (.long (0 : Int64)), .second, .val (.int i.toInt32)]) d22_3 rfl rfl ?_
  have loop : ∀ (b k : Nat) (y : Int64) (T9 : State), k < b → own_sm d i k y → own_Cx Z p l e ({ frames := 0, cells := 0, slots := 0, locals := 0 } : Room) s m #[(.ref (A 0)), (.int i.toInt32)] below meth c n0 "com/example/libgfg/libgfg/automaton/LetterSets" prog_13_method_8_code 5 "smallest" (some .long) T9 h0 0 0 → own_Fin p e below (own_End s n0 (own_qsm A i d Z n0 h0) ({ frames := 0, cells := 0, slots := 0, locals := 0 } : Room).cells ({ frames := 0, cells := 0, slots := 0, locals := 0 } : Room).slots) (T9.setTop (mkF m 5 #[.val (.ref (A 0)), .val (.int i.toInt32), .val (.long y), .second, .val (.int k.toInt32)] [])) := by
    intro b
    induction b with
    | zero => intro k y T9 q; exact absurd q (Nat.not_lt_zero _)
    | succ b ih =>
      intro k y T9 hb hs X9
      have hk := hs.1
      refine own_iload X9 d22_5 rfl rfl ?_
      refine own_iconst X9 (1 : Int32) d22_7 rfl (by decide) ?_
      refine own_icmp_eq X9 d22_8 (by decide) (pcT := 57) (by decide) rfl (fun hc1 => ?_) (fun hc1 => ?_)
      · skip
        refine own_lloadN X9 d22_57 rfl rfl ?_
        have ek : k = 1 := (own_z (by omega) 1 (by omega)).mp hc1
        subst ek
        exact own_retJ X9 rfl d22_58 ⟨_, rfl, rfl, own_smE I hs⟩ (by decide) (by decide)
      · skip
        refine own_aloadN X9 d22_11 rfl rfl rfl ?_
        refine own_getf X9 (hw _ (List.mem_of_getElem? (i := 20) rfl)) (own_LS_f_low F) d22_12 rfl (fun T2 X3 => ?_)
        refine own_iload X3 d22_15 rfl rfl ?_
        refine own_ialoadF X3 (j := k) (own_LS_a2 F) (by decide) (by omega) d22_17 rfl ?_
        show own_Fin p e below (own_End s n0 (own_qsm A i d Z n0 h0) ({ frames := 0, cells := 0, slots := 0, locals := 0 } : Room).cells ({ frames := 0, cells := 0, slots := 0, locals := 0 } : Room).slots) (T2.setTop (mkF m 18 #[.val (.ref (A 0)), .val (.int i.toInt32), .val (.long y), .second, .val (.int k.toInt32)] [(.int (o_lo d k).toInt32)]))
        refine own_if_eq X3 d22_18 (by decide) (pcT := 33) (by decide) rfl (fun hc4 => ?_) (fun hc4 => ?_)
        · skip
          refine own_lloadN X3 d22_33 rfl rfl ?_
          refine own_lconst X3 (1 : Int64) d22_34 rfl (by decide) ?_
          refine own_aloadN X3 d22_35 rfl rfl rfl ?_
          refine own_getf X3 (hw _ (List.mem_of_getElem? (i := 18) rfl)) (own_LS_f_tested F) d22_36 rfl (fun T5 X6 => ?_)
          refine own_iload X6 d22_39 rfl rfl ?_
          refine own_ialoadF X6 (j := k) (own_LS_a1 F) (by decide) (by omega) d22_41 rfl ?_
          show own_Fin p e below (own_End s n0 (own_qsm A i d Z n0 h0) ({ frames := 0, cells := 0, slots := 0, locals := 0 } : Room).cells ({ frames := 0, cells := 0, slots := 0, locals := 0 } : Room).slots) (T5.setTop (mkF m 42 #[.val (.ref (A 0)), .val (.int i.toInt32), .val (.long y), .second, .val (.int k.toInt32)] [(.int (o_te d k)), (.long (1 : Int64)), (.long y)]))
          refine own_lshl X6 d22_42 rfl ?_
          refine own_lor X6 d22_43 rfl ?_
          refine own_lstoreN X6 (L' := #[.val (.ref (A 0)), .val (.int i.toInt32), .val (.long (y ||| ((1 : Int64) <<< ((o_te d k).toInt64 &&& 63)))), .second, .val (.int k.toInt32)]) d22_44 rfl rfl ?_
          refine own_aloadN X6 d22_45 rfl rfl rfl ?_
          refine own_getf X6 (hw _ (List.mem_of_getElem? (i := 22) rfl)) (own_LS_f_high F) d22_46 rfl (fun T7 X8 => ?_)
          refine own_iload X8 d22_49 rfl rfl ?_
          refine own_ialoadF X8 (j := k) (own_LS_a3 F) (by decide) (by omega) d22_51 rfl ?_
          show own_Fin p e below (own_End s n0 (own_qsm A i d Z n0 h0) ({ frames := 0, cells := 0, slots := 0, locals := 0 } : Room).cells ({ frames := 0, cells := 0, slots := 0, locals := 0 } : Room).slots) (T7.setTop (mkF m 52 #[.val (.ref (A 0)), .val (.int i.toInt32), .val (.long (y ||| ((1 : Int64) <<< ((o_te d k).toInt64 &&& 63)))), .second, .val (.int k.toInt32)] [(.int (o_hi d k).toInt32)]))
          refine own_istore X8 (L' := #[.val (.ref (A 0)), .val (.int i.toInt32), .val (.long (y ||| ((1 : Int64) <<< ((o_te d k).toInt64 &&& 63)))), .second, .val (.int (o_hi d k).toInt32)]) d22_52 rfl rfl ?_
          refine own_goto X8 d22_54 (by decide) (pc' := 5) (by decide) ?_
          have k1 : k ≠ 1 := fun z => hc1 (by rw [z]; rfl)
          have k0 := hs.2.1
          obtain ⟨-, -, n3, n4, -, -, -, -, -⟩ := I.2.2.2.2.1 k (by omega) hk
          have hl : o_lo d k = 0 := (own_z (by omega) 0 (by omega)).mp hc4
          exact ih (o_hi d k) _ _ (by omega) (own_smH I hs k1 hl) X8
        · skip
          refine own_aloadN X3 d22_21 rfl rfl rfl ?_
          refine own_getf X3 (hw _ (List.mem_of_getElem? (i := 20) rfl)) (own_LS_f_low F) d22_22 rfl (fun T9 X10 => ?_)
          refine own_iload X10 d22_25 rfl rfl ?_
          refine own_ialoadF X10 (j := k) (own_LS_a2 F) (by decide) (by omega) d22_27 rfl ?_
          show own_Fin p e below (own_End s n0 (own_qsm A i d Z n0 h0) ({ frames := 0, cells := 0, slots := 0, locals := 0 } : Room).cells ({ frames := 0, cells := 0, slots := 0, locals := 0 } : Room).slots) (T9.setTop (mkF m 28 #[.val (.ref (A 0)), .val (.int i.toInt32), .val (.long y), .second, .val (.int k.toInt32)] [(.int (o_lo d k).toInt32)]))
          refine own_istore X10 (L' := #[.val (.ref (A 0)), .val (.int i.toInt32), .val (.long y), .second, .val (.int (o_lo d k).toInt32)]) d22_28 rfl rfl ?_
          refine own_goto X10 d22_30 (by decide) (pc' := 5) (by decide) ?_
          have k1 : k ≠ 1 := fun z => hc1 (by rw [z]; rfl)
          have k0 := hs.2.1
          obtain ⟨-, -, n3, n4, -, -, -, -, -⟩ := I.2.2.2.2.1 k (by omega) hk
          have hl : o_lo d k ≠ 0 := fun z => hc4 (by rw [z]; rfl)
          exact ih (o_lo d k) _ _ (by omega) (own_smL I hs k1 hl) X10
  exact loop (i + 1) i _ _ (Nat.lt_succ_self _) (own_sm0 hi i0) X0
theorem own_pnlaw : plainFor x = true := by first | exact plainFor_of_name (by first | (simp [plainName, overriddenIn, x]; done) | decide +kernel) | decide +kernel
theorem own_eflaw (p1 : Int32) (p2 : Int32) (p3 : Int64) (m : MethodId) : entryFrame m #[(.int p1), (.int p2), (.long p3)] maxLocals = mkF m 0 #[.val (.int p1), .val (.int p2), .val (.long p3), .second, .unset, .unset, .unset, .unset, .unset, .unset, .unset, .unset, .unset, .unset, .unset] [] := by
  first | (simp [entryFrame, mkF, argsToLocals, Value.category, maxLocals]; done) | rfl
set_option maxRecDepth 65536 in
set_option maxHeartbeats 40000000 in
theorem own_law (l : Launch) (Z : State) (a0 : Array Value) (hw : ∀ d ∈ tables_1, d.before a0 Z = true) (ws : List Jvm.Cond) (p1 : Int32) (p2 : Int32) (p3 : Int64) (h0 : Heap) (n0 : Nat) (Z0 : n0 ≤ h0.size) :
    MetFree l x (head1 (Jvm.Cond.code x code maxLocals ret :: ws) room_1) (fun a U => a = #[(.int p1), (.int p2), (.long p3)] ∧ Z.Warmed39 U.vm ∧ U.heap = h0) (fun _ _ _ _ _ => True) (fun _ U o U' => own_EndW U n0 (fun v => v = some (.int 1)) room_1.cells room_1.slots o U') := by
  refine own_enterW (own := "com/example/libgfg/libgfg/automaton/LetterSetsSmallestPinLaw") (nm := "law") rfl rfl own_pnlaw (own_eflaw p1 p2 p3) ?_
  intro p e s m below meth c T0 X0
  refine own_iloadN X0 at_0 rfl rfl ?_
  refine own_bipush X0 (63 : Int32) at_1 rfl (by decide) ?_
  refine own_iand X0 at_3 rfl ?_
  refine own_istore X0 (L' := #[.val (.int p1), .val (.int p2), .val (.long p3), .second, .val (.int (p1 &&& (63 : Int32))), .unset, .unset, .unset, .unset, .unset, .unset, .unset, .unset, .unset, .unset]) at_4 rfl rfl ?_
  refine own_iloadN X0 at_6 rfl rfl ?_
  refine own_bipush X0 (6 : Int32) at_7 rfl (by decide) ?_
  refine own_iushr X0 at_9 rfl ?_
  refine own_bipush X0 (63 : Int32) at_10 rfl (by decide) ?_
  refine own_iand X0 at_12 rfl ?_
  refine own_istore X0 (L' := #[.val (.int p1), .val (.int p2), .val (.long p3), .second, .val (.int (p1 &&& (63 : Int32))), .val (.int ((XT.ushr p1 (6 : Int32)) &&& (63 : Int32))), .unset, .unset, .unset, .unset, .unset, .unset, .unset, .unset, .unset]) at_13 rfl rfl ?_
  refine own_iloadN X0 at_15 rfl rfl ?_
  refine own_bipush X0 (12 : Int32) at_16 rfl (by decide) ?_
  refine own_iushr X0 at_18 rfl ?_
  refine own_bipush X0 (63 : Int32) at_19 rfl (by decide) ?_
  refine own_iand X0 at_21 rfl ?_
  refine own_istore X0 (L' := #[.val (.int p1), .val (.int p2), .val (.long p3), .second, .val (.int (p1 &&& (63 : Int32))), .val (.int ((XT.ushr p1 (6 : Int32)) &&& (63 : Int32))), .val (.int ((XT.ushr p1 (12 : Int32)) &&& (63 : Int32))), .unset, .unset, .unset, .unset, .unset, .unset, .unset, .unset]) at_22 rfl rfl ?_
  obtain ⟨kp1, hkp1, ekp1⟩ : ∃ n : Nat, n < 64 ∧ (p1 &&& (63 : Int32)) = n.toInt32 := ⟨_, Nat.mod_lt _ (by decide), own_mask p1 6 (63 : Int32) (by decide) (by decide)⟩
  rw [ekp1]
  obtain ⟨kp2, hkp2, ekp2⟩ : ∃ n : Nat, n < 64 ∧ ((XT.ushr p1 (6 : Int32)) &&& (63 : Int32)) = n.toInt32 := ⟨_, Nat.mod_lt _ (by decide), own_mask (XT.ushr p1 (6 : Int32)) 6 (63 : Int32) (by decide) (by decide)⟩
  rw [ekp2]
  obtain ⟨kp3, hkp3, ekp3⟩ : ∃ n : Nat, n < 64 ∧ ((XT.ushr p1 (12 : Int32)) &&& (63 : Int32)) = n.toInt32 := ⟨_, Nat.mod_lt _ (by decide), own_mask (XT.ushr p1 (12 : Int32)) 6 (63 : Int32) (by decide) (by decide)⟩
  rw [ekp3]
  show own_Fin p e below (own_EndW s n0 (fun v => v = some (.int 1)) room_1.cells room_1.slots) (T0.setTop (mkF m 24 #[.val (.int p1), .val (.int p2), .val (.long p3), .second, .val (.int kp1.toInt32), .val (.int kp2.toInt32), .val (.int kp3.toInt32), .unset, .unset, .unset, .unset, .unset, .unset, .unset, .unset] []))
  refine own_new X0 (hw _ (List.mem_of_getElem? (i := 0) rfl)) (hw _ (List.mem_of_getElem? (i := 1) rfl)) (hw _ (List.mem_of_getElem? (i := 2) rfl)) at_24 rfl (cells' := 1) (slots' := 13) rfl rfl (by decide) (by decide) (fun T4 h6 a10 g11 X5 E7 A8 D9 => ?_)
  have ge_a10 : n0 ≤ a10 := Nat.le_trans Z0 (Nat.le_of_eq g11.symm)
  have F12 := D9 (Or.inl (hw _ (List.mem_of_getElem? (i := 19) rfl))) (ty := (.array .int)) (by decide)
  replace F12 : Fld Z h6 a10 "com/example/libgfg/libgfg/automaton/LetterSets" "tested" "[I" (.null) := F12
  have F13 := D9 (Or.inl (hw _ (List.mem_of_getElem? (i := 21) rfl))) (ty := (.array .int)) (by decide)
  replace F13 : Fld Z h6 a10 "com/example/libgfg/libgfg/automaton/LetterSets" "low" "[I" (.null) := F13
  have F14 := D9 (Or.inl (hw _ (List.mem_of_getElem? (i := 23) rfl))) (ty := (.array .int)) (by decide)
  replace F14 : Fld Z h6 a10 "com/example/libgfg/libgfg/automaton/LetterSets" "high" "[I" (.null) := F14
  have F15 := D9 (Or.inl (hw _ (List.mem_of_getElem? (i := 25) rfl))) (ty := .int) (by decide)
  replace F15 : Fld Z h6 a10 "com/example/libgfg/libgfg/automaton/LetterSets" "nodes" "I" (.int (0 : Int32)) := F15
  have F16 := D9 (Or.inl (hw _ (List.mem_of_getElem? (i := 28) rfl))) (ty := (.array .long)) (by decide)
  replace F16 : Fld Z h6 a10 "com/example/libgfg/libgfg/automaton/LetterSets" "support" "[J" (.null) := F16
  have F17 := D9 (Or.inl (hw _ (List.mem_of_getElem? (i := 30) rfl))) (ty := (.array .long)) (by decide)
  replace F17 : Fld Z h6 a10 "com/example/libgfg/libgfg/automaton/LetterSets" "allTrue" "[J" (.null) := F17
  have F18 := D9 (Or.inl (hw _ (List.mem_of_getElem? (i := 32) rfl))) (ty := (.array .long)) (by decide)
  replace F18 : Fld Z h6 a10 "com/example/libgfg/libgfg/automaton/LetterSets" "allFalse" "[J" (.null) := F18
  have F19 := D9 (Or.inl (hw _ (List.mem_of_getElem? (i := 34) rfl))) (ty := (.array .int)) (by decide)
  replace F19 : Fld Z h6 a10 "com/example/libgfg/libgfg/automaton/LetterSets" "table" "[I" (.null) := F19
  have F20 := D9 (Or.inl (hw _ (List.mem_of_getElem? (i := 44) rfl))) (ty := (.array .long)) (by decide)
  replace F20 : Fld Z h6 a10 "com/example/libgfg/libgfg/automaton/LetterSets" "cachedKeys" "[J" (.null) := F20
  have F21 := D9 (Or.inl (hw _ (List.mem_of_getElem? (i := 46) rfl))) (ty := (.array .int)) (by decide)
  replace F21 : Fld Z h6 a10 "com/example/libgfg/libgfg/automaton/LetterSets" "cachedResults" "[I" (.null) := F21
  have F22 := D9 (Or.inl (hw _ (List.mem_of_getElem? (i := 50) rfl))) (ty := (.array (.object "java/math/BigInteger"))) (by decide)
  replace F22 : Fld Z h6 a10 "com/example/libgfg/libgfg/automaton/LetterSets" "counts" "[Ljava/math/BigInteger;" (.null) := F22
  have F23 := D9 (Or.inr (hw _ (List.mem_of_getElem? (i := 52) rfl))) (ty := .int) (by decide)
  replace F23 : Fld Z h6 a10 "com/example/libgfg/libgfg/automaton/LetterSets" "propositions" "I" (.int (0 : Int32)) := F23
  have F24 := D9 (Or.inr (hw _ (List.mem_of_getElem? (i := 54) rfl))) (ty := (.object "java/lang/String")) (by decide)
  replace F24 : Fld Z h6 a10 "com/example/libgfg/libgfg/automaton/LetterSets" "subject" "Ljava/lang/String;" (.null) := F24
  have Z25 : n0 ≤ h6.size := (Nat.le_trans Z0 E7.1)
  refine own_dup X5 at_27 rfl rfl ?_
  refine own_bipush X5 (64 : Int32) at_28 rfl (by decide) ?_
  have wS : ∀ a ∈ Bundle.stringAtoms, a.before a0 Z = true := fun a ha => by
    simp only [Bundle.stringAtoms, List.mem_cons, List.not_mem_nil, or_false] at ha
    rcases ha with rfl | rfl | rfl | rfl | rfl | rfl | rfl
    · exact (hw _ (List.mem_of_getElem? (i := 4) rfl))
    · exact (hw _ (List.mem_of_getElem? (i := 5) rfl))
    · exact (hw _ (List.mem_of_getElem? (i := 6) rfl))
    · exact (hw _ (List.mem_of_getElem? (i := 7) rfl))
    · exact (hw _ (List.mem_of_getElem? (i := 8) rfl))
    · exact (hw _ (List.mem_of_getElem? (i := 9) rfl))
    · exact (hw _ (List.mem_of_getElem? (i := 10) rfl))
  refine own_ldcS X5 (hw _ (List.mem_of_getElem? (i := 3) rfl)) wS at_30 rfl (k := 12) (by decide) (by decide) (cells' := 3) (slots' := 29) rfl rfl (by decide) (by decide) (fun vm1 T26 h28 a29 k1 X27 E31 SN KN => ?_)
  have F32 := (A8.ext E31)
  have F33 := (F12.ext E31)
  have F34 := (F13.ext E31)
  have F35 := (F14.ext E31)
  have F36 := (F15.ext E31)
  have F37 := (F16.ext E31)
  have F38 := (F17.ext E31)
  have F39 := (F18.ext E31)
  have F40 := (F19.ext E31)
  have F41 := (F20.ext E31)
  have F42 := (F21.ext E31)
  have F43 := (F22.ext E31)
  have F44 := (F23.ext E31)
  have F45 := (F24.ext E31)
  have Z46 : n0 ≤ h28.size := (Nat.le_trans Z25 E31.1)
  refine own_callI X27 rfl (hw _ (List.mem_of_getElem? (i := 11) rfl)) (hw _ (List.mem_of_getElem? (i := 12) rfl)) (hw _ (List.mem_of_getElem? (i := 2) rfl)) (hw _ (List.mem_of_getElem? (i := 13) rfl)) (by decide) (a := a10) (argsL := [(.int (64 : Int32)), (.ref a29)]) (rest := [(.ref a10)]) (own_min l Z a0 hw [] a10 (64 : Int32) a29 n0 _ _ Z46 F32 F33 F34 F35 F36 F37 F38 F39 F40 F41 F42 F43 F44 F45 ge_a10) (pd_1) rfl at_32 rfl rfl rfl (W := 1) rfl (by decide) (by decide) (cells' := 13) (slots' := 605) rfl rfl (by decide) (by decide) (fun v T47 h49 X48 q50 => ?_)
  obtain ⟨A, rfl, hA0, P0, FR⟩ := q50
  subst hA0
  show own_Fin p e below (own_EndW s n0 (fun v => v = some (.int 1)) room_1.cells room_1.slots) (T47.setTop (mkF m 35 #[.val (.int p1), .val (.int p2), .val (.long p3), .second, .val (.int kp1.toInt32), .val (.int kp2.toInt32), .val (.int kp3.toInt32), .unset, .unset, .unset, .unset, .unset, .unset, .unset, .unset] [(.ref (A 0))]))
  have HK : k1 ≤ A 1 := Nat.le_trans KN FR
  have NN : o_N own_d0 ≤ 2 := Nat.le_refl _
  have I0 := own_d0_inv
  have HM9 : A 1 < A 9 := own_LS_mono P0 1 9 (by decide) (by decide)
  refine own_astore X48 (L' := #[.val (.int p1), .val (.int p2), .val (.long p3), .second, .val (.int kp1.toInt32), .val (.int kp2.toInt32), .val (.int kp3.toInt32), .val (.ref (A 0)), .unset, .unset, .unset, .unset, .unset, .unset, .unset]) at_35 rfl rfl rfl ?_
  refine own_aload X48 at_37 rfl rfl rfl ?_
  refine own_iload X48 at_39 rfl rfl ?_
  refine own_callV X48 (hw _ (List.mem_of_getElem? (i := 55) rfl)) (hw _ (List.mem_of_getElem? (i := 56) rfl)) (hw _ (List.mem_of_getElem? (i := 58) rfl)) (hw _ (List.mem_of_getElem? (i := 57) rfl)) (hw _ (List.mem_of_getElem? (i := 2) rfl)) (hw _ (List.mem_of_getElem? (i := 59) rfl)) (by decide) (argsL := [(.int kp1.toInt32)]) (rest := []) (own_mpp l Z a0 hw A n0 kp1 own_d0 _ P0 I0 hkp1 (by omega)) (own_LS_exa P0) (pd_5) rfl at_41 rfl rfl rfl (W := 0) rfl (by first | decide | (dsimp only; omega) | omega) (by first | decide | (dsimp only; omega) | omega) (cells' := 13) (slots' := 605) rfl rfl (by first | decide | (dsimp only; omega) | omega) (by first | decide | (dsimp only; omega) | omega) (fun v T63 h65 X64 q66 => ?_)
  obtain ⟨e51, r52, rfl, P53, I54, L55, N56, g57, S58, D59⟩ := q66
  show own_Fin p e below (own_EndW s n0 (fun v => v = some (.int 1)) room_1.cells room_1.slots) (T63.setTop (mkF m 44 #[.val (.int p1), .val (.int p2), .val (.long p3), .second, .val (.int kp1.toInt32), .val (.int kp2.toInt32), .val (.int kp3.toInt32), .val (.ref (A 0)), .unset, .unset, .unset, .unset, .unset, .unset, .unset] [(.int r52.toInt32)]))
  have N67 : o_N e51 ≤ 3 := by omega
  obtain ⟨f60, hf61, R62⟩ : ∃ f, (∀ x, f x = own_b x kp1.toInt32) ∧ own_Rep e51 r52 f 1 := ⟨_, fun _ => rfl, g57, S58, D59⟩
  refine own_istore X64 (L' := #[.val (.int p1), .val (.int p2), .val (.long p3), .second, .val (.int kp1.toInt32), .val (.int kp2.toInt32), .val (.int kp3.toInt32), .val (.ref (A 0)), .val (.int r52.toInt32), .unset, .unset, .unset, .unset, .unset, .unset]) at_44 rfl rfl ?_
  refine own_aload X64 at_46 rfl rfl rfl ?_
  refine own_iload X64 at_48 rfl rfl ?_
  refine own_callV X64 (hw _ (List.mem_of_getElem? (i := 55) rfl)) (hw _ (List.mem_of_getElem? (i := 56) rfl)) (hw _ (List.mem_of_getElem? (i := 58) rfl)) (hw _ (List.mem_of_getElem? (i := 57) rfl)) (hw _ (List.mem_of_getElem? (i := 2) rfl)) (hw _ (List.mem_of_getElem? (i := 59) rfl)) (by decide) (argsL := [(.int kp2.toInt32)]) (rest := []) (own_mpp l Z a0 hw A n0 kp2 e51 _ P53 I54 hkp2 (by omega)) (own_LS_exa P53) (pd_5) rfl at_50 rfl rfl rfl (W := 0) rfl (by first | decide | (dsimp only; omega) | omega) (by first | decide | (dsimp only; omega) | omega) (cells' := 13) (slots' := 605) rfl rfl (by first | decide | (dsimp only; omega) | omega) (by first | decide | (dsimp only; omega) | omega) (fun v T80 h82 X81 q83 => ?_)
  obtain ⟨e68, r69, rfl, P70, I71, L72, N73, g74, S75, D76⟩ := q83
  show own_Fin p e below (own_EndW s n0 (fun v => v = some (.int 1)) room_1.cells room_1.slots) (T80.setTop (mkF m 53 #[.val (.int p1), .val (.int p2), .val (.long p3), .second, .val (.int kp1.toInt32), .val (.int kp2.toInt32), .val (.int kp3.toInt32), .val (.ref (A 0)), .val (.int r52.toInt32), .unset, .unset, .unset, .unset, .unset, .unset] [(.int r69.toInt32)]))
  have N84 : o_N e68 ≤ 4 := by omega
  have R85 := (R62.le L72)
  obtain ⟨f77, hf78, R79⟩ : ∃ f, (∀ x, f x = own_b x kp2.toInt32) ∧ own_Rep e68 r69 f 1 := ⟨_, fun _ => rfl, g74, S75, D76⟩
  refine own_istore X81 (L' := #[.val (.int p1), .val (.int p2), .val (.long p3), .second, .val (.int kp1.toInt32), .val (.int kp2.toInt32), .val (.int kp3.toInt32), .val (.ref (A 0)), .val (.int r52.toInt32), .val (.int r69.toInt32), .unset, .unset, .unset, .unset, .unset]) at_53 rfl rfl ?_
  refine own_aload X81 at_55 rfl rfl rfl ?_
  refine own_iload X81 at_57 rfl rfl ?_
  refine own_callV X81 (hw _ (List.mem_of_getElem? (i := 55) rfl)) (hw _ (List.mem_of_getElem? (i := 56) rfl)) (hw _ (List.mem_of_getElem? (i := 58) rfl)) (hw _ (List.mem_of_getElem? (i := 57) rfl)) (hw _ (List.mem_of_getElem? (i := 2) rfl)) (hw _ (List.mem_of_getElem? (i := 59) rfl)) (by decide) (argsL := [(.int kp3.toInt32)]) (rest := []) (own_mpp l Z a0 hw A n0 kp3 e68 _ P70 I71 hkp3 (by omega)) (own_LS_exa P70) (pd_5) rfl at_59 rfl rfl rfl (W := 0) rfl (by first | decide | (dsimp only; omega) | omega) (by first | decide | (dsimp only; omega) | omega) (cells' := 13) (slots' := 605) rfl rfl (by first | decide | (dsimp only; omega) | omega) (by first | decide | (dsimp only; omega) | omega) (fun v T98 h100 X99 q101 => ?_)
  obtain ⟨e86, r87, rfl, P88, I89, L90, N91, g92, S93, D94⟩ := q101
  show own_Fin p e below (own_EndW s n0 (fun v => v = some (.int 1)) room_1.cells room_1.slots) (T98.setTop (mkF m 62 #[.val (.int p1), .val (.int p2), .val (.long p3), .second, .val (.int kp1.toInt32), .val (.int kp2.toInt32), .val (.int kp3.toInt32), .val (.ref (A 0)), .val (.int r52.toInt32), .val (.int r69.toInt32), .unset, .unset, .unset, .unset, .unset] [(.int r87.toInt32)]))
  have N102 : o_N e86 ≤ 5 := by omega
  have R103 := (R85.le L90)
  have R104 := (R79.le L90)
  obtain ⟨f95, hf96, R97⟩ : ∃ f, (∀ x, f x = own_b x kp3.toInt32) ∧ own_Rep e86 r87 f 1 := ⟨_, fun _ => rfl, g92, S93, D94⟩
  refine own_istore X99 (L' := #[.val (.int p1), .val (.int p2), .val (.long p3), .second, .val (.int kp1.toInt32), .val (.int kp2.toInt32), .val (.int kp3.toInt32), .val (.ref (A 0)), .val (.int r52.toInt32), .val (.int r69.toInt32), .val (.int r87.toInt32), .unset, .unset, .unset, .unset]) at_62 rfl rfl ?_
  refine own_iloadN X99 at_64 rfl rfl ?_
  refine own_iconst X99 (1 : Int32) at_65 rfl (by decide) ?_
  refine own_iand X99 at_66 rfl ?_
  suffices H134 : ∀ (T123 : State) (h125 : Heap) (e126 : own_T) (r127 : Nat) (f128 : Int64 → Bool), own_Cx Z p l e room_1 (s.setVm vm1) m #[(.int p1), (.int p2), (.long p3)] below meth c n0 "com/example/libgfg/libgfg/automaton/LetterSetsSmallestPinLaw" code maxLocals "law" ret T123 h125 13 605 → own_LS Z h125 A n0 e126 → own_Inv e126 → o_N e126 ≤ 6 → own_Rep e126 r52 f60 1 → own_Rep e126 r69 f77 1 → own_Rep e126 r87 f95 1 → (∀ x, f128 x = if (p2 &&& (1 : Int32)) = (0 : Int32) then f77 x else own_op 2 (f77 x) ((fun _ => false) x)) → own_Rep e126 r127 f128 1 → own_Fin p e below (own_EndW s n0 (fun v => v = some (.int 1)) room_1.cells room_1.slots) (T123.setTop (mkF m 79 #[.val (.int p1), .val (.int p2), .val (.long p3), .second, .val (.int kp1.toInt32), .val (.int kp2.toInt32), .val (.int kp3.toInt32), .val (.ref (A 0)), .val (.int r52.toInt32), .val (.int r127.toInt32), .val (.int r87.toInt32), .unset, .unset, .unset, .unset] [])) by
    refine own_if_eq X99 at_67 (by decide) (pcT := 79) (by decide) rfl (fun hc135 => ?_) (fun hc135 => ?_)
    · skip
      exact H134 _ _ _ _ (fun x => if (p2 &&& (1 : Int32)) = (0 : Int32) then f77 x else own_op 2 (f77 x) ((fun _ => false) x)) X99 P88 I89 (by omega) R103 R104 R97 (fun _ => rfl) (R104.eq (fun x => if_pos hc135) (by decide))
    · skip
      refine own_aload X99 at_70 rfl rfl rfl ?_
      refine own_iload X99 at_72 rfl rfl ?_
      refine own_callV X99 (hw _ (List.mem_of_getElem? (i := 85) rfl)) (hw _ (List.mem_of_getElem? (i := 86) rfl)) (hw _ (List.mem_of_getElem? (i := 88) rfl)) (hw _ (List.mem_of_getElem? (i := 87) rfl)) (hw _ (List.mem_of_getElem? (i := 2) rfl)) (hw _ (List.mem_of_getElem? (i := 89) rfl)) (by decide) (argsL := [(.int r69.toInt32)]) (rest := []) (own_mnt l Z a0 hw A n0 1 r69 e86 _ P88 I89 R104.1 R104.2.2 (by have : own_cnt 1 = 1 := rfl; omega)) (own_LS_exa P88) (pd_12) rfl at_74 rfl rfl rfl (W := 0) rfl (by first | decide | (dsimp only; omega) | omega) (by first | decide | (dsimp only; omega) | omega) (cells' := 13) (slots' := 605) rfl rfl (by first | decide | (dsimp only; omega) | omega) (by first | decide | (dsimp only; omega) | omega) (fun v T143 h145 X144 q146 => ?_)
      obtain ⟨e136, r137, rfl, P138, I139, L140, N141, S142⟩ := q146
      show own_Fin p e below (own_EndW s n0 (fun v => v = some (.int 1)) room_1.cells room_1.slots) (T143.setTop (mkF m 77 #[.val (.int p1), .val (.int p2), .val (.long p3), .second, .val (.int kp1.toInt32), .val (.int kp2.toInt32), .val (.int kp3.toInt32), .val (.ref (A 0)), .val (.int r52.toInt32), .val (.int r69.toInt32), .val (.int r87.toInt32), .unset, .unset, .unset, .unset] [(.int r137)]))
      have N147 : o_N e136 ≤ 6 := by have : own_cnt _ = 1 := (rfl : own_cnt 1 = 1); omega
      obtain ⟨r148, ek149, R150⟩ := own_rep_sp R104 (own_rep0 I89) L140 S142
      subst ek149
      have R151 := (R103.le L140)
      have R152 := (R104.le L140)
      have R153 := (R97.le L140)
      show own_Fin p e below (own_EndW s n0 (fun v => v = some (.int 1)) room_1.cells room_1.slots) (T143.setTop (mkF m 77 #[.val (.int p1), .val (.int p2), .val (.long p3), .second, .val (.int kp1.toInt32), .val (.int kp2.toInt32), .val (.int kp3.toInt32), .val (.ref (A 0)), .val (.int r52.toInt32), .val (.int r69.toInt32), .val (.int r87.toInt32), .unset, .unset, .unset, .unset] [(.int r148.toInt32)]))
      refine own_istore X144 (L' := #[.val (.int p1), .val (.int p2), .val (.long p3), .second, .val (.int kp1.toInt32), .val (.int kp2.toInt32), .val (.int kp3.toInt32), .val (.ref (A 0)), .val (.int r52.toInt32), .val (.int r148.toInt32), .val (.int r87.toInt32), .unset, .unset, .unset, .unset]) at_77 rfl rfl ?_
      exact H134 _ _ _ _ (fun x => if (p2 &&& (1 : Int32)) = (0 : Int32) then f77 x else own_op 2 (f77 x) ((fun _ => false) x)) X144 P138 I139 (by omega) R151 R152 R153 (fun _ => rfl) (R150.eq (fun x => if_neg hc135) (by decide))
  intro T123 h125 e126 r127 f128 X124 P129 I130 N131 R154 R155 R156 hf132 R133
  refine own_iloadN X124 at_79 rfl rfl ?_
  refine own_iconst X124 (2 : Int32) at_80 rfl (by decide) ?_
  refine own_iand X124 at_81 rfl ?_
  suffices H206 : ∀ (T195 : State) (h197 : Heap) (e198 : own_T) (r199 : Nat) (f200 : Int64 → Bool), own_Cx Z p l e room_1 (s.setVm vm1) m #[(.int p1), (.int p2), (.long p3)] below meth c n0 "com/example/libgfg/libgfg/automaton/LetterSetsSmallestPinLaw" code maxLocals "law" ret T195 h197 13 605 → own_LS Z h197 A n0 e198 → own_Inv e198 → o_N e198 ≤ 7 → own_Rep e198 r52 f60 1 → own_Rep e198 r69 f77 1 → own_Rep e198 r87 f95 1 → own_Rep e198 r127 f128 1 → (∀ x, f200 x = if (p2 &&& (2 : Int32)) = (0 : Int32) then own_op 0 (f60 x) (f128 x) else own_op 1 (f60 x) (f128 x)) → own_Rep e198 r199 f200 2 → own_Fin p e below (own_EndW s n0 (fun v => v = some (.int 1)) room_1.cells room_1.slots) (T195.setTop (mkF m 106 #[.val (.int p1), .val (.int p2), .val (.long p3), .second, .val (.int kp1.toInt32), .val (.int kp2.toInt32), .val (.int kp3.toInt32), .val (.ref (A 0)), .val (.int r52.toInt32), .val (.int r127.toInt32), .val (.int r87.toInt32), .unset, .unset, .unset, .unset] [(.int r199.toInt32)])) by
    refine own_if_eq X124 at_82 (by decide) (pcT := 97) (by decide) rfl (fun hc207 => ?_) (fun hc207 => ?_)
    · skip
      refine own_aload X124 at_97 rfl rfl rfl ?_
      refine own_iload X124 at_99 rfl rfl ?_
      refine own_iload X124 at_101 rfl rfl ?_
      refine own_callV X124 (hw _ (List.mem_of_getElem? (i := 123) rfl)) (hw _ (List.mem_of_getElem? (i := 124) rfl)) (hw _ (List.mem_of_getElem? (i := 126) rfl)) (hw _ (List.mem_of_getElem? (i := 125) rfl)) (hw _ (List.mem_of_getElem? (i := 2) rfl)) (hw _ (List.mem_of_getElem? (i := 127) rfl)) (by decide) (argsL := [(.int r52.toInt32), (.int r127.toInt32)]) (rest := []) (own_mand l Z a0 hw A n0 1 r52 r127 e126 _ P129 I130 R154.1 R133.1 (by have := R154.2.2; have := R133.2.2; omega) (by have : own_cnt 1 = 1 := rfl; omega)) (own_LS_exa P129) (pd_21) rfl at_103 rfl rfl rfl (W := 0) rfl (by first | decide | (dsimp only; omega) | omega) (by first | decide | (dsimp only; omega) | omega) (cells' := 13) (slots' := 605) rfl rfl (by first | decide | (dsimp only; omega) | omega) (by first | decide | (dsimp only; omega) | omega) (fun v T215 h217 X216 q218 => ?_)
      obtain ⟨e208, r209, rfl, P210, I211, L212, N213, S214⟩ := q218
      show own_Fin p e below (own_EndW s n0 (fun v => v = some (.int 1)) room_1.cells room_1.slots) (T215.setTop (mkF m 106 #[.val (.int p1), .val (.int p2), .val (.long p3), .second, .val (.int kp1.toInt32), .val (.int kp2.toInt32), .val (.int kp3.toInt32), .val (.ref (A 0)), .val (.int r52.toInt32), .val (.int r127.toInt32), .val (.int r87.toInt32), .unset, .unset, .unset, .unset] [(.int r209)]))
      have N219 : o_N e208 ≤ 7 := by have : own_cnt _ = 1 := (rfl : own_cnt 1 = 1); omega
      obtain ⟨r220, ek221, R222⟩ := own_rep_sp R154 R133 L212 S214
      subst ek221
      have R223 := (R154.le L212)
      have R224 := (R155.le L212)
      have R225 := (R156.le L212)
      have R226 := (R133.le L212)
      show own_Fin p e below (own_EndW s n0 (fun v => v = some (.int 1)) room_1.cells room_1.slots) (T215.setTop (mkF m 106 #[.val (.int p1), .val (.int p2), .val (.long p3), .second, .val (.int kp1.toInt32), .val (.int kp2.toInt32), .val (.int kp3.toInt32), .val (.ref (A 0)), .val (.int r52.toInt32), .val (.int r127.toInt32), .val (.int r87.toInt32), .unset, .unset, .unset, .unset] [(.int r220.toInt32)]))
      exact H206 _ _ _ _ (fun x => if (p2 &&& (2 : Int32)) = (0 : Int32) then own_op 0 (f60 x) (f128 x) else own_op 1 (f60 x) (f128 x)) X216 P210 I211 (by omega) R223 R224 R225 R226 (fun _ => rfl) (R222.eq (fun x => if_pos hc207) (by decide))
    · skip
      refine own_aload X124 at_85 rfl rfl rfl ?_
      refine own_iload X124 at_87 rfl rfl ?_
      refine own_iload X124 at_89 rfl rfl ?_
      refine own_callV X124 (hw _ (List.mem_of_getElem? (i := 103) rfl)) (hw _ (List.mem_of_getElem? (i := 104) rfl)) (hw _ (List.mem_of_getElem? (i := 106) rfl)) (hw _ (List.mem_of_getElem? (i := 105) rfl)) (hw _ (List.mem_of_getElem? (i := 2) rfl)) (hw _ (List.mem_of_getElem? (i := 107) rfl)) (by decide) (argsL := [(.int r52.toInt32), (.int r127.toInt32)]) (rest := []) (own_mor l Z a0 hw A n0 1 r52 r127 e126 _ P129 I130 R154.1 R133.1 (by have := R154.2.2; have := R133.2.2; omega) (by have : own_cnt 1 = 1 := rfl; omega)) (own_LS_exa P129) (pd_16) rfl at_91 rfl rfl rfl (W := 0) rfl (by first | decide | (dsimp only; omega) | omega) (by first | decide | (dsimp only; omega) | omega) (cells' := 13) (slots' := 605) rfl rfl (by first | decide | (dsimp only; omega) | omega) (by first | decide | (dsimp only; omega) | omega) (fun v T234 h236 X235 q237 => ?_)
      obtain ⟨e227, r228, rfl, P229, I230, L231, N232, S233⟩ := q237
      show own_Fin p e below (own_EndW s n0 (fun v => v = some (.int 1)) room_1.cells room_1.slots) (T234.setTop (mkF m 94 #[.val (.int p1), .val (.int p2), .val (.long p3), .second, .val (.int kp1.toInt32), .val (.int kp2.toInt32), .val (.int kp3.toInt32), .val (.ref (A 0)), .val (.int r52.toInt32), .val (.int r127.toInt32), .val (.int r87.toInt32), .unset, .unset, .unset, .unset] [(.int r228)]))
      have N238 : o_N e227 ≤ 7 := by have : own_cnt _ = 1 := (rfl : own_cnt 1 = 1); omega
      obtain ⟨r239, ek240, R241⟩ := own_rep_sp R154 R133 L231 S233
      subst ek240
      have R242 := (R154.le L231)
      have R243 := (R155.le L231)
      have R244 := (R156.le L231)
      have R245 := (R133.le L231)
      show own_Fin p e below (own_EndW s n0 (fun v => v = some (.int 1)) room_1.cells room_1.slots) (T234.setTop (mkF m 94 #[.val (.int p1), .val (.int p2), .val (.long p3), .second, .val (.int kp1.toInt32), .val (.int kp2.toInt32), .val (.int kp3.toInt32), .val (.ref (A 0)), .val (.int r52.toInt32), .val (.int r127.toInt32), .val (.int r87.toInt32), .unset, .unset, .unset, .unset] [(.int r239.toInt32)]))
      refine own_goto X235 at_94 (by decide) (pc' := 106) (by decide) ?_
      exact H206 _ _ _ _ (fun x => if (p2 &&& (2 : Int32)) = (0 : Int32) then own_op 0 (f60 x) (f128 x) else own_op 1 (f60 x) (f128 x)) X235 P229 I230 (by omega) R242 R243 R244 R245 (fun _ => rfl) (R241.eq (fun x => if_neg hc207) (by decide))
  intro T195 h197 e198 r199 f200 X196 P201 I202 N203 R246 R247 R248 R249 hf204 R205
  refine own_istore X196 (L' := #[.val (.int p1), .val (.int p2), .val (.long p3), .second, .val (.int kp1.toInt32), .val (.int kp2.toInt32), .val (.int kp3.toInt32), .val (.ref (A 0)), .val (.int r52.toInt32), .val (.int r127.toInt32), .val (.int r87.toInt32), .val (.int r199.toInt32), .unset, .unset, .unset]) at_106 rfl rfl ?_
  refine own_iloadN X196 at_108 rfl rfl ?_
  refine own_iconst X196 (4 : Int32) at_109 rfl (by decide) ?_
  refine own_iand X196 at_110 rfl ?_
  suffices H301 : ∀ (T290 : State) (h292 : Heap) (e293 : own_T) (r294 : Nat) (f295 : Int64 → Bool), own_Cx Z p l e room_1 (s.setVm vm1) m #[(.int p1), (.int p2), (.long p3)] below meth c n0 "com/example/libgfg/libgfg/automaton/LetterSetsSmallestPinLaw" code maxLocals "law" ret T290 h292 13 605 → own_LS Z h292 A n0 e293 → own_Inv e293 → o_N e293 ≤ 10 → own_Rep e293 r52 f60 1 → own_Rep e293 r69 f77 1 → own_Rep e293 r87 f95 1 → own_Rep e293 r127 f128 1 → own_Rep e293 r199 f200 2 → (∀ x, f295 x = if (p2 &&& (4 : Int32)) = (0 : Int32) then own_op 0 (f200 x) (f95 x) else own_op 1 (f200 x) (f95 x)) → own_Rep e293 r294 f295 3 → own_Fin p e below (own_EndW s n0 (fun v => v = some (.int 1)) room_1.cells room_1.slots) (T290.setTop (mkF m 135 #[.val (.int p1), .val (.int p2), .val (.long p3), .second, .val (.int kp1.toInt32), .val (.int kp2.toInt32), .val (.int kp3.toInt32), .val (.ref (A 0)), .val (.int r52.toInt32), .val (.int r127.toInt32), .val (.int r87.toInt32), .val (.int r199.toInt32), .unset, .unset, .unset] [(.int r294.toInt32)])) by
    refine own_if_eq X196 at_111 (by decide) (pcT := 126) (by decide) rfl (fun hc302 => ?_) (fun hc302 => ?_)
    · skip
      refine own_aload X196 at_126 rfl rfl rfl ?_
      refine own_iload X196 at_128 rfl rfl ?_
      refine own_iload X196 at_130 rfl rfl ?_
      refine own_callV X196 (hw _ (List.mem_of_getElem? (i := 123) rfl)) (hw _ (List.mem_of_getElem? (i := 124) rfl)) (hw _ (List.mem_of_getElem? (i := 126) rfl)) (hw _ (List.mem_of_getElem? (i := 125) rfl)) (hw _ (List.mem_of_getElem? (i := 2) rfl)) (hw _ (List.mem_of_getElem? (i := 127) rfl)) (by decide) (argsL := [(.int r199.toInt32), (.int r87.toInt32)]) (rest := []) (own_mand l Z a0 hw A n0 2 r199 r87 e198 _ P201 I202 R205.1 R248.1 (by have := R205.2.2; have := R248.2.2; omega) (by have : own_cnt 2 = 3 := rfl; omega)) (own_LS_exa P201) (pd_21) rfl at_132 rfl rfl rfl (W := 0) rfl (by first | decide | (dsimp only; omega) | omega) (by first | decide | (dsimp only; omega) | omega) (cells' := 13) (slots' := 605) rfl rfl (by first | decide | (dsimp only; omega) | omega) (by first | decide | (dsimp only; omega) | omega) (fun v T310 h312 X311 q313 => ?_)
      obtain ⟨e303, r304, rfl, P305, I306, L307, N308, S309⟩ := q313
      show own_Fin p e below (own_EndW s n0 (fun v => v = some (.int 1)) room_1.cells room_1.slots) (T310.setTop (mkF m 135 #[.val (.int p1), .val (.int p2), .val (.long p3), .second, .val (.int kp1.toInt32), .val (.int kp2.toInt32), .val (.int kp3.toInt32), .val (.ref (A 0)), .val (.int r52.toInt32), .val (.int r127.toInt32), .val (.int r87.toInt32), .val (.int r199.toInt32), .unset, .unset, .unset] [(.int r304)]))
      have N314 : o_N e303 ≤ 10 := by have : own_cnt _ = 3 := (rfl : own_cnt 2 = 3); omega
      obtain ⟨r315, ek316, R317⟩ := own_rep_sp R205 R248 L307 S309
      subst ek316
      have R318 := (R246.le L307)
      have R319 := (R247.le L307)
      have R320 := (R248.le L307)
      have R321 := (R249.le L307)
      have R322 := (R205.le L307)
      show own_Fin p e below (own_EndW s n0 (fun v => v = some (.int 1)) room_1.cells room_1.slots) (T310.setTop (mkF m 135 #[.val (.int p1), .val (.int p2), .val (.long p3), .second, .val (.int kp1.toInt32), .val (.int kp2.toInt32), .val (.int kp3.toInt32), .val (.ref (A 0)), .val (.int r52.toInt32), .val (.int r127.toInt32), .val (.int r87.toInt32), .val (.int r199.toInt32), .unset, .unset, .unset] [(.int r315.toInt32)]))
      exact H301 _ _ _ _ (fun x => if (p2 &&& (4 : Int32)) = (0 : Int32) then own_op 0 (f200 x) (f95 x) else own_op 1 (f200 x) (f95 x)) X311 P305 I306 (by omega) R318 R319 R320 R321 R322 (fun _ => rfl) (R317.eq (fun x => if_pos hc302) (by decide))
    · skip
      refine own_aload X196 at_114 rfl rfl rfl ?_
      refine own_iload X196 at_116 rfl rfl ?_
      refine own_iload X196 at_118 rfl rfl ?_
      refine own_callV X196 (hw _ (List.mem_of_getElem? (i := 103) rfl)) (hw _ (List.mem_of_getElem? (i := 104) rfl)) (hw _ (List.mem_of_getElem? (i := 106) rfl)) (hw _ (List.mem_of_getElem? (i := 105) rfl)) (hw _ (List.mem_of_getElem? (i := 2) rfl)) (hw _ (List.mem_of_getElem? (i := 107) rfl)) (by decide) (argsL := [(.int r199.toInt32), (.int r87.toInt32)]) (rest := []) (own_mor l Z a0 hw A n0 2 r199 r87 e198 _ P201 I202 R205.1 R248.1 (by have := R205.2.2; have := R248.2.2; omega) (by have : own_cnt 2 = 3 := rfl; omega)) (own_LS_exa P201) (pd_16) rfl at_120 rfl rfl rfl (W := 0) rfl (by first | decide | (dsimp only; omega) | omega) (by first | decide | (dsimp only; omega) | omega) (cells' := 13) (slots' := 605) rfl rfl (by first | decide | (dsimp only; omega) | omega) (by first | decide | (dsimp only; omega) | omega) (fun v T330 h332 X331 q333 => ?_)
      obtain ⟨e323, r324, rfl, P325, I326, L327, N328, S329⟩ := q333
      show own_Fin p e below (own_EndW s n0 (fun v => v = some (.int 1)) room_1.cells room_1.slots) (T330.setTop (mkF m 123 #[.val (.int p1), .val (.int p2), .val (.long p3), .second, .val (.int kp1.toInt32), .val (.int kp2.toInt32), .val (.int kp3.toInt32), .val (.ref (A 0)), .val (.int r52.toInt32), .val (.int r127.toInt32), .val (.int r87.toInt32), .val (.int r199.toInt32), .unset, .unset, .unset] [(.int r324)]))
      have N334 : o_N e323 ≤ 10 := by have : own_cnt _ = 3 := (rfl : own_cnt 2 = 3); omega
      obtain ⟨r335, ek336, R337⟩ := own_rep_sp R205 R248 L327 S329
      subst ek336
      have R338 := (R246.le L327)
      have R339 := (R247.le L327)
      have R340 := (R248.le L327)
      have R341 := (R249.le L327)
      have R342 := (R205.le L327)
      show own_Fin p e below (own_EndW s n0 (fun v => v = some (.int 1)) room_1.cells room_1.slots) (T330.setTop (mkF m 123 #[.val (.int p1), .val (.int p2), .val (.long p3), .second, .val (.int kp1.toInt32), .val (.int kp2.toInt32), .val (.int kp3.toInt32), .val (.ref (A 0)), .val (.int r52.toInt32), .val (.int r127.toInt32), .val (.int r87.toInt32), .val (.int r199.toInt32), .unset, .unset, .unset] [(.int r335.toInt32)]))
      refine own_goto X331 at_123 (by decide) (pc' := 135) (by decide) ?_
      exact H301 _ _ _ _ (fun x => if (p2 &&& (4 : Int32)) = (0 : Int32) then own_op 0 (f200 x) (f95 x) else own_op 1 (f200 x) (f95 x)) X331 P325 I326 (by omega) R338 R339 R340 R341 R342 (fun _ => rfl) (R337.eq (fun x => if_neg hc302) (by decide))
  intro T290 h292 e293 r294 f295 X291 P296 I297 N298 R343 R344 R345 R346 R347 hf299 R300
  refine own_istore X291 (L' := #[.val (.int p1), .val (.int p2), .val (.long p3), .second, .val (.int kp1.toInt32), .val (.int kp2.toInt32), .val (.int kp3.toInt32), .val (.ref (A 0)), .val (.int r52.toInt32), .val (.int r127.toInt32), .val (.int r87.toInt32), .val (.int r199.toInt32), .val (.int r294.toInt32), .unset, .unset]) at_135 rfl rfl ?_
  refine own_iloadN X291 at_137 rfl rfl ?_
  refine own_bipush X291 (8 : Int32) at_138 rfl (by decide) ?_
  refine own_iand X291 at_140 rfl ?_
  suffices H380 : ∀ (T369 : State) (h371 : Heap) (e372 : own_T) (r373 : Nat) (f374 : Int64 → Bool), own_Cx Z p l e room_1 (s.setVm vm1) m #[(.int p1), (.int p2), (.long p3)] below meth c n0 "com/example/libgfg/libgfg/automaton/LetterSetsSmallestPinLaw" code maxLocals "law" ret T369 h371 13 605 → own_LS Z h371 A n0 e372 → own_Inv e372 → o_N e372 ≤ 17 → own_Rep e372 r52 f60 1 → own_Rep e372 r69 f77 1 → own_Rep e372 r87 f95 1 → own_Rep e372 r127 f128 1 → own_Rep e372 r199 f200 2 → own_Rep e372 r294 f295 3 → (∀ x, f374 x = if (p2 &&& (8 : Int32)) = (0 : Int32) then f295 x else own_op 2 (f295 x) ((fun _ => false) x)) → own_Rep e372 r373 f374 3 → own_Fin p e below (own_EndW s n0 (fun v => v = some (.int 1)) room_1.cells room_1.slots) (T369.setTop (mkF m 153 #[.val (.int p1), .val (.int p2), .val (.long p3), .second, .val (.int kp1.toInt32), .val (.int kp2.toInt32), .val (.int kp3.toInt32), .val (.ref (A 0)), .val (.int r52.toInt32), .val (.int r127.toInt32), .val (.int r87.toInt32), .val (.int r199.toInt32), .val (.int r373.toInt32), .unset, .unset] [])) by
    refine own_if_eq X291 at_141 (by decide) (pcT := 153) (by decide) rfl (fun hc381 => ?_) (fun hc381 => ?_)
    · skip
      exact H380 _ _ _ _ (fun x => if (p2 &&& (8 : Int32)) = (0 : Int32) then f295 x else own_op 2 (f295 x) ((fun _ => false) x)) X291 P296 I297 (by omega) R343 R344 R345 R346 R347 R300 (fun _ => rfl) (R300.eq (fun x => if_pos hc381) (by decide))
    · skip
      refine own_aload X291 at_144 rfl rfl rfl ?_
      refine own_iload X291 at_146 rfl rfl ?_
      refine own_callV X291 (hw _ (List.mem_of_getElem? (i := 85) rfl)) (hw _ (List.mem_of_getElem? (i := 86) rfl)) (hw _ (List.mem_of_getElem? (i := 88) rfl)) (hw _ (List.mem_of_getElem? (i := 87) rfl)) (hw _ (List.mem_of_getElem? (i := 2) rfl)) (hw _ (List.mem_of_getElem? (i := 89) rfl)) (by decide) (argsL := [(.int r294.toInt32)]) (rest := []) (own_mnt l Z a0 hw A n0 3 r294 e293 _ P296 I297 R300.1 R300.2.2 (by have : own_cnt 3 = 7 := rfl; omega)) (own_LS_exa P296) (pd_12) rfl at_148 rfl rfl rfl (W := 0) rfl (by first | decide | (dsimp only; omega) | omega) (by first | decide | (dsimp only; omega) | omega) (cells' := 13) (slots' := 605) rfl rfl (by first | decide | (dsimp only; omega) | omega) (by first | decide | (dsimp only; omega) | omega) (fun v T389 h391 X390 q392 => ?_)
      obtain ⟨e382, r383, rfl, P384, I385, L386, N387, S388⟩ := q392
      show own_Fin p e below (own_EndW s n0 (fun v => v = some (.int 1)) room_1.cells room_1.slots) (T389.setTop (mkF m 151 #[.val (.int p1), .val (.int p2), .val (.long p3), .second, .val (.int kp1.toInt32), .val (.int kp2.toInt32), .val (.int kp3.toInt32), .val (.ref (A 0)), .val (.int r52.toInt32), .val (.int r127.toInt32), .val (.int r87.toInt32), .val (.int r199.toInt32), .val (.int r294.toInt32), .unset, .unset] [(.int r383)]))
      have N393 : o_N e382 ≤ 17 := by have : own_cnt _ = 7 := (rfl : own_cnt 3 = 7); omega
      obtain ⟨r394, ek395, R396⟩ := own_rep_sp R300 (own_rep0 I297) L386 S388
      subst ek395
      have R397 := (R343.le L386)
      have R398 := (R344.le L386)
      have R399 := (R345.le L386)
      have R400 := (R346.le L386)
      have R401 := (R347.le L386)
      have R402 := (R300.le L386)
      show own_Fin p e below (own_EndW s n0 (fun v => v = some (.int 1)) room_1.cells room_1.slots) (T389.setTop (mkF m 151 #[.val (.int p1), .val (.int p2), .val (.long p3), .second, .val (.int kp1.toInt32), .val (.int kp2.toInt32), .val (.int kp3.toInt32), .val (.ref (A 0)), .val (.int r52.toInt32), .val (.int r127.toInt32), .val (.int r87.toInt32), .val (.int r199.toInt32), .val (.int r294.toInt32), .unset, .unset] [(.int r394.toInt32)]))
      refine own_istore X390 (L' := #[.val (.int p1), .val (.int p2), .val (.long p3), .second, .val (.int kp1.toInt32), .val (.int kp2.toInt32), .val (.int kp3.toInt32), .val (.ref (A 0)), .val (.int r52.toInt32), .val (.int r127.toInt32), .val (.int r87.toInt32), .val (.int r199.toInt32), .val (.int r394.toInt32), .unset, .unset]) at_151 rfl rfl ?_
      exact H380 _ _ _ _ (fun x => if (p2 &&& (8 : Int32)) = (0 : Int32) then f295 x else own_op 2 (f295 x) ((fun _ => false) x)) X390 P384 I385 (by omega) R397 R398 R399 R400 R401 R402 (fun _ => rfl) (R396.eq (fun x => if_neg hc381) (by decide))
  intro T369 h371 e372 r373 f374 X370 P375 I376 N377 R403 R404 R405 R406 R407 R408 hf378 R379
  refine own_iload X370 at_153 rfl rfl ?_
  refine own_if_ne X370 at_155 (by decide) (pcT := 160) (by decide) rfl (fun hc409 => ?_) (fun hc409 => ?_)
  · skip
    refine own_aload X370 at_160 rfl rfl rfl ?_
    refine own_iload X370 at_162 rfl rfl ?_
    have i0 : r373 ≠ 0 := fun z => hc409 (by rw [z]; rfl)
    refine own_callV X370 (hw _ (List.mem_of_getElem? (i := 128) rfl)) (hw _ (List.mem_of_getElem? (i := 129) rfl)) (hw _ (List.mem_of_getElem? (i := 131) rfl)) (hw _ (List.mem_of_getElem? (i := 130) rfl)) (hw _ (List.mem_of_getElem? (i := 2) rfl)) (hw _ (List.mem_of_getElem? (i := 132) rfl)) (by decide) (argsL := [(.int r373.toInt32)]) (rest := []) (own_msm l Z a0 hw A n0 r373 e372 _ P375 I376 R379.1 i0 (by omega)) (own_LS_exa P375) (pd_22) rfl at_164 rfl rfl rfl (W := 0) rfl (by first | decide | (dsimp only; omega) | omega) (by first | decide | (dsimp only; omega) | omega) (cells' := 13) (slots' := 605) rfl rfl (by first | decide | (dsimp only; omega) | omega) (by first | decide | (dsimp only; omega) | omega) (fun v T410 h412 X411 q413 => ?_)
    obtain ⟨least, rfl, rfl, HS, HL⟩ := q413
    show own_Fin p e below (own_EndW s n0 (fun v => v = some (.int 1)) room_1.cells room_1.slots) (T410.setTop (mkF m 167 #[.val (.int p1), .val (.int p2), .val (.long p3), .second, .val (.int kp1.toInt32), .val (.int kp2.toInt32), .val (.int kp3.toInt32), .val (.ref (A 0)), .val (.int r52.toInt32), .val (.int r127.toInt32), .val (.int r87.toInt32), .val (.int r199.toInt32), .val (.int r373.toInt32), .unset, .unset] [(.long least)]))
    refine own_lstore X411 (L' := #[.val (.int p1), .val (.int p2), .val (.long p3), .second, .val (.int kp1.toInt32), .val (.int kp2.toInt32), .val (.int kp3.toInt32), .val (.ref (A 0)), .val (.int r52.toInt32), .val (.int r127.toInt32), .val (.int r87.toInt32), .val (.int r199.toInt32), .val (.int r373.toInt32), .val (.long least), .second]) at_167 rfl rfl ?_
    refine own_aload X411 at_169 rfl rfl rfl ?_
    refine own_iload X411 at_171 rfl rfl ?_
    refine own_lload X411 at_173 rfl rfl ?_
    refine own_callV X411 (hw _ (List.mem_of_getElem? (i := 133) rfl)) (hw _ (List.mem_of_getElem? (i := 134) rfl)) (hw _ (List.mem_of_getElem? (i := 136) rfl)) (hw _ (List.mem_of_getElem? (i := 135) rfl)) (hw _ (List.mem_of_getElem? (i := 2) rfl)) (hw _ (List.mem_of_getElem? (i := 137) rfl)) (by decide) (argsL := [(.int r373.toInt32), (.long least)]) (rest := []) (own_mho l Z a0 hw A n0 r373 least e372 _ P375 I376 R379.1 (by omega)) (own_LS_exa P375) (pd_23) rfl at_175 rfl rfl rfl (W := 0) rfl (by first | decide | (dsimp only; omega) | omega) (by first | decide | (dsimp only; omega) | omega) (cells' := 13) (slots' := 605) rfl rfl (by first | decide | (dsimp only; omega) | omega) (by first | decide | (dsimp only; omega) | omega) (fun v T414 h416 X415 q417 => ?_)
    obtain ⟨rfl, rfl⟩ := q417
    show own_Fin p e below (own_EndW s n0 (fun v => v = some (.int 1)) room_1.cells room_1.slots) (T414.setTop (mkF m 178 #[.val (.int p1), .val (.int p2), .val (.long p3), .second, .val (.int kp1.toInt32), .val (.int kp2.toInt32), .val (.int kp3.toInt32), .val (.ref (A 0)), .val (.int r52.toInt32), .val (.int r127.toInt32), .val (.int r87.toInt32), .val (.int r199.toInt32), .val (.int r373.toInt32), .val (.long least), .second] [(.int (if o_S e372 r373 least = true then (1 : Int32) else (0 : Int32)))]))
    rw [R379.2.1 least]
    show own_Fin p e below (own_EndW s n0 (fun v => v = some (.int 1)) room_1.cells room_1.slots) (T414.setTop (mkF m 178 #[.val (.int p1), .val (.int p2), .val (.long p3), .second, .val (.int kp1.toInt32), .val (.int kp2.toInt32), .val (.int kp3.toInt32), .val (.ref (A 0)), .val (.int r52.toInt32), .val (.int r127.toInt32), .val (.int r87.toInt32), .val (.int r199.toInt32), .val (.int r373.toInt32), .val (.long least), .second] [(.int (own_bi (f374 least)))]))
    have FL : f374 least = true := (R379.2.1 least).symm.trans HS
    refine own_if_ne X415 at_178 (by decide) (pcT := 183) (by decide) rfl (fun hc => ?_) (fun hc => absurd ((own_bi0 _).mp hc) (by rw [FL]; decide))
    refine own_aload X415 at_183 rfl rfl rfl ?_
    refine own_iload X415 at_185 rfl rfl ?_
    refine own_lloadN X415 at_187 rfl rfl ?_
    refine own_callV X415 (hw _ (List.mem_of_getElem? (i := 133) rfl)) (hw _ (List.mem_of_getElem? (i := 134) rfl)) (hw _ (List.mem_of_getElem? (i := 136) rfl)) (hw _ (List.mem_of_getElem? (i := 135) rfl)) (hw _ (List.mem_of_getElem? (i := 2) rfl)) (hw _ (List.mem_of_getElem? (i := 137) rfl)) (by decide) (argsL := [(.int r373.toInt32), (.long p3)]) (rest := []) (own_mho l Z a0 hw A n0 r373 p3 e372 _ P375 I376 R379.1 (by omega)) (own_LS_exa P375) (pd_23) rfl at_188 rfl rfl rfl (W := 0) rfl (by first | decide | (dsimp only; omega) | omega) (by first | decide | (dsimp only; omega) | omega) (cells' := 13) (slots' := 605) rfl rfl (by first | decide | (dsimp only; omega) | omega) (by first | decide | (dsimp only; omega) | omega) (fun v T418 h420 X419 q421 => ?_)
    obtain ⟨rfl, rfl⟩ := q421
    show own_Fin p e below (own_EndW s n0 (fun v => v = some (.int 1)) room_1.cells room_1.slots) (T418.setTop (mkF m 191 #[.val (.int p1), .val (.int p2), .val (.long p3), .second, .val (.int kp1.toInt32), .val (.int kp2.toInt32), .val (.int kp3.toInt32), .val (.ref (A 0)), .val (.int r52.toInt32), .val (.int r127.toInt32), .val (.int r87.toInt32), .val (.int r199.toInt32), .val (.int r373.toInt32), .val (.long least), .second] [(.int (if o_S e372 r373 p3 = true then (1 : Int32) else (0 : Int32)))]))
    rw [R379.2.1 p3]
    show own_Fin p e below (own_EndW s n0 (fun v => v = some (.int 1)) room_1.cells room_1.slots) (T418.setTop (mkF m 191 #[.val (.int p1), .val (.int p2), .val (.long p3), .second, .val (.int kp1.toInt32), .val (.int kp2.toInt32), .val (.int kp3.toInt32), .val (.ref (A 0)), .val (.int r52.toInt32), .val (.int r127.toInt32), .val (.int r87.toInt32), .val (.int r199.toInt32), .val (.int r373.toInt32), .val (.long least), .second] [(.int (own_bi (f374 p3)))]))
    refine own_if_eq X419 at_191 (by decide) (pcT := 209) (by decide) rfl (fun hc422 => ?_) (fun hc422 => ?_)
    · skip
      refine own_iconst X419 (1 : Int32) at_209 rfl (by decide) ?_
      refine own_goto X419 at_210 (by decide) (pc' := 214) (by decide) ?_
      exact own_retZW X419 SN (Nat.le_of_lt (Nat.lt_of_le_of_lt HK (Nat.lt_trans HM9 (own_LS_a9 P375).lt))) rfl at_214 rfl rfl (by decide) (by decide)
    · skip
      refine own_lload X419 at_194 rfl rfl ?_
      refine own_ldc2J X419 (v := ((-9223372036854775808) : Int64)) at_196 rfl (hw _ (List.mem_of_getElem? (i := 138) rfl)) ?_
      refine own_lxor X419 at_199 rfl ?_
      refine own_lloadN X419 at_200 rfl rfl ?_
      refine own_ldc2J X419 (v := ((-9223372036854775808) : Int64)) at_201 rfl (hw _ (List.mem_of_getElem? (i := 138) rfl)) ?_
      refine own_lxor X419 at_204 rfl ?_
      have FX : f374 p3 = true := (Bool.not_eq_false _).mp (fun q => hc422 ((own_bi0 _).mpr q))
      refine own_lcmp_gt X419 at_205 rfl at_206 (by decide) (pcT := 213) (by decide) rfl (fun hc => absurd hc (own_ucmp (HL p3 ((R379.2.1 p3).trans FX)))) (fun hc => ?_)
      refine own_iconst X419 (1 : Int32) at_209 rfl (by decide) ?_
      refine own_goto X419 at_210 (by decide) (pc' := 214) (by decide) ?_
      exact own_retZW X419 SN (Nat.le_of_lt (Nat.lt_of_le_of_lt HK (Nat.lt_trans HM9 (own_LS_a9 P375).lt))) rfl at_214 rfl rfl (by decide) (by decide)
  · skip
    refine own_iconst X370 (1 : Int32) at_158 rfl (by decide) ?_
    exact own_retZW X370 SN (Nat.le_of_lt (Nat.lt_of_le_of_lt HK (Nat.lt_trans HM9 (own_LS_a9 P375).lt))) rfl at_159 rfl rfl (by decide) (by decide)
set_option maxRecDepth 65536 in
set_option maxHeartbeats 40000000 in
theorem comes_1 {Post : Tables → Env → Array Value → State → Outcome → State → Prop} (hpost : ∀ tb e args s v u, (limb_1_1.after args s (.returned v) u = true ∧ limb_1_2.after args s (.returned v) u = true ∧ True) → ReturnedEndW s (.returned v) u (Jvm.fieldLocs frame_1_writes args s ++ Jvm.arrayLocs frame_1_arrays args s ++ Jvm.staticLocs frame_1_statics s) 32 2304 → Post tb e args s (.returned v) u) :
    ArmFor flags0 classFile x code maxLocals ret World_1 tables_1 room_1 Calls_1 rest_1 Pre_1 Post := by
  intro l hfl _ _ p e ha hc hk s m args below hf hA hF happ hP
  obtain ⟨hcalls, hrest, hpre⟩ := hP
  obtain ⟨-, -, -, hnamed, -, -, -, hat⟩ := (Spec.applies_iff hf).mp happ
  obtain ⟨hg, hn⟩ := and_e (Cond.before_iff.mp (show (Jvm.Cond.and given_1 narrow_1).before args s = true from hpre))
  obtain ⟨h1, g0⟩ := and_e hg
  obtain ⟨g0, g1⟩ := and_e g0
  obtain ⟨g1, g2⟩ := and_e g1
  obtain ⟨w0, w1, w2, rfl⟩ : ∃ w0 w1 w2 : Value, args = #[w0, w1, w2] := by
    have hs : args.size = 3 := by simpa [Cond.value, given_1] using h1
    obtain ⟨L⟩ := args
    match L, hs with
    | [w0, w1, w2], _ => exact ⟨w0, w1, w2, rfl⟩
  have hw := fun d (hd : d ∈ tables_1) => atoms_spec (ws := Jvm.Cond.code x code maxLocals ret :: tables_1) hat d (List.mem_cons_of_mem _ hd)
  obtain ⟨i0, e0⟩ := is_v g0
  obtain rfl : w0 = (.int i0) := Option.some.inj e0
  obtain ⟨i1, e1⟩ := is_v g1
  obtain rfl : w1 = (.int i1) := Option.some.inj e1
  obtain ⟨i2, e2⟩ := isL_v g2
  obtain rfl : w2 = (.long i2) := Option.some.inj e2
  obtain ⟨n, o, h1, h2, h3, _, L, rfl, ⟨rfl, N⟩, hq⟩ := own_law l s _ hw tables_1 i0 i1 i2 s.heap s.heap.size (Nat.le_refl _) p e ha hc hk s m _ below hf ((Spec.applies_iff_loose hf).mp happ).1 ⟨rfl, State.Warmed39.refl s, rfl⟩ trivial
  refine ⟨n, _, h1, h2, h3, hpost _ _ _ _ _ _ ⟨Cond.after_iff.mpr rfl, Cond.after_iff.mpr (eq_i res_at (Term.int_eval (1)) rfl), trivial⟩ ⟨hq.1, hq.2.1, hq.2.2.1, (hq.2.2.2.sift fun y hy => Or.inr (N y hy)).mono (by decide) (by decide)⟩⟩
theorem main_1_1 : Claimed_1_1 := comes_1 fun _ _ _ _ _ _ h hF => ⟨h.1, hF⟩
theorem main_1_2 : Claimed_1_2 := comes_1 fun _ _ _ _ _ _ h hF => ⟨h.2.1, hF⟩
end Jvm.Pilot.@@N@@
namespace Jvm.Pilot.@@N@@
open Jvm Jvm.ClassFile Sem Op Lib Jvm.Free Jvm.Stand Jvm.Pilot.@@N@@.Jvm.D
/-! MADE BY PROGRAM (witnessworld.py) out of the Statement's table words and the real class files: 21 classes; the members and pool entries that the words name. The judged class is class 1, her method 1. -/
namespace start1
open Jvm.ClassFile
def u (s : String) : CpInfo := .utf8 (stringToUtf16 s)
/-- a pool by its gaps: so many unusable entries, then the entry; so many at the end -/
def gap : Nat → List CpInfo → List CpInfo
  | 0, r => r
  | n + 1, r => .unusable :: gap n r
def poolList (es : List (Nat × CpInfo)) (last : Nat) : List CpInfo := es.foldr (fun e r => gap e.1 (e.2 :: r)) (gap last [])
def pool (es : List (Nat × CpInfo)) (last : Nat) : Array CpInfo := ⟨poolList es last⟩
def fileOf (pool : Array CpInfo) (this : Nat) (attrs : Array Attribute := #[]) (ms : Array MethodInfo := #[]) (fl : Nat := 33) (sup : Nat := 0) (ifs : Array Nat := #[]) (fds : Array FieldInfo := #[]) : ClassFile where
  minorVersion := 0
  majorVersion := 65
  constantPool := pool
  accessFlags := fl
  thisClass := this
  superClass := sup
  interfaces := ifs
  fields := fds
  methods := ms
  attributes := attrs
def plain (name : String) (sup : Option ClassId) : Class where
  name := name
  kind := .ordinary
  loader := none
  accessFlags := 33
  super := sup
  interfaces := #[]
  cf := none
  fields := #[]
  methods := #[]
  instanceTypes := #[]
  staticTypes := #[]
  resolved := #[]
  callSites := []
  init := .initialized
  statics := none
  mirror := none

def pool0 : Array CpInfo := pool [(5, u "<init>"), (0, u "()V"), (1, .class_ 10), (1, u "java/lang/Object")] 113

def k0c0 : Code := { maxStack := 0, maxLocals := 1, code := object_method_1_code, exceptionTable := #[], attributes := #[] }
def k0m0 : Method := { name := "<init>", desc := "()V", sig := { parameters := [], returnType := none }, accessFlags := 1, code := some k0c0 }
/-- java/lang/Object -/
def k0 : Class := { plain "java/lang/Object" none with
  accessFlags := 33
  interfaces := #[]
  cf := some (fileOf pool0 8 #[] #[{ accessFlags := 1, nameIndex := 5, descriptorIndex := 6, attributes := #[] }] 33 0 #[] #[])
  fields := #[]
  methods := #[k0m0]
  instanceTypes := #[]
  staticTypes := #[]
  resolved := Array.replicate 124 none
  statics := none }

def pool1 : Array CpInfo := pool [(2, .class_ 4), (1, u "java/lang/Object"), (0, u "<init>"), (0, u "()V"), (0, .class_ 8), (0, u "com/example/libgfg/libgfg/automaton/LetterSets"), (0, .string 10), (0, u "law"), (0, .methodref 7 12), (0, .nameAndType 5 13), (0, u "(ILjava/lang/String;)V"), (0, .methodref 7 15), (0, .nameAndType 16 17), (0, u "proposition"), (0, u "(I)I"), (0, .methodref 7 19), (0, .nameAndType 20 17), (0, u "not"), (0, .methodref 7 22), (0, .nameAndType 23 24), (0, u "or"), (0, u "(II)I"), (0, .methodref 7 26), (0, .nameAndType 27 24), (0, u "and"), (0, .methodref 7 29), (0, .nameAndType 30 31), (0, u "smallest"), (0, u "(I)J"), (0, .methodref 7 33), (0, .nameAndType 34 35), (0, u "holds"), (0, u "(IJ)Z"), (0, .long 9223372036854775808), (1, .class_ 39), (0, u "com/example/libgfg/libgfg/automaton/LetterSetsSmallestPinLaw"), (2, u "(IIJ)Z")] 3

def k1m0 : Method := { name := "<init>", desc := "()V", sig := { parameters := [], returnType := none }, accessFlags := 1, code := none }
def k1c1 : Code := { maxStack := 6, maxLocals := 15, code := code, exceptionTable := #[], attributes := #[] }
def k1m1 : Method := { name := "law", desc := "(IIJ)Z", sig := { parameters := [.int, .int, .long], returnType := some .boolean }, accessFlags := 9, code := some k1c1 }
/-- com/example/libgfg/libgfg/automaton/LetterSetsSmallestPinLaw -/
def k1 : Class := { plain "com/example/libgfg/libgfg/automaton/LetterSetsSmallestPinLaw" (some 0) with
  accessFlags := 49
  interfaces := #[]
  cf := some (fileOf pool1 38 #[] #[{ accessFlags := 1, nameIndex := 5, descriptorIndex := 6, attributes := #[] }, { accessFlags := 9, nameIndex := 10, descriptorIndex := 42, attributes := #[] }] 49 2 #[] #[])
  fields := #[]
  methods := #[k1m0, k1m1]
  instanceTypes := #[]
  staticTypes := #[]
  resolved := Array.replicate 46 none
  statics := none }

def pool2 : Array CpInfo := pool [(1, .methodref 2 3), (0, .class_ 4), (0, .nameAndType 5 6), (0, u "java/lang/Object"), (0, u "<init>"), (0, u "()V"), (0, .class_ 8), (0, u "com/example/libgfg/libgfg/automaton/LetterSets"), (0, .fieldref 7 10), (0, .nameAndType 11 12), (0, u "tested"), (0, u "[I"), (0, .fieldref 7 14), (0, .nameAndType 15 12), (0, u "low"), (0, .fieldref 7 17), (0, .nameAndType 18 12), (0, u "high"), (0, .fieldref 7 20), (0, .nameAndType 21 22), (0, u "nodes"), (0, u "I"), (0, .fieldref 7 24), (0, .nameAndType 25 26), (0, u "support"), (0, u "[J"), (0, .fieldref 7 28), (0, .nameAndType 29 26), (0, u "allTrue"), (0, .fieldref 7 31), (0, .nameAndType 32 26), (0, u "allFalse"), (0, .fieldref 7 34), (0, .nameAndType 35 12), (0, u "table"), (0, .methodref 7 37), (0, .nameAndType 38 39), (0, u "emptyCache"), (0, u "(I)[J"), (0, .fieldref 7 41), (0, .nameAndType 42 26), (0, u "cachedKeys"), (0, .fieldref 7 44), (0, .nameAndType 45 12), (0, u "cachedResults"), (0, .class_ 47), (0, u "java/math/BigInteger"), (0, .fieldref 7 49), (0, .nameAndType 50 51), (0, u "counts"), (0, u "[Ljava/math/BigInteger;"), (0, .fieldref 7 53), (0, .nameAndType 54 22), (0, u "propositions"), (0, .fieldref 7 56), (0, .nameAndType 57 58), (0, u "subject"), (0, u "Ljava/lang/String;"), (0, .long 18446744073709551615), (1, .methodref 7 62), (0, .nameAndType 63 64), (0, u "node"), (0, u "(III)I"), (0, .methodref 7 66), (0, .nameAndType 67 64), (0, u "combine"), (0, .methodref 7 69), (0, .nameAndType 70 71), (0, u "pack"), (0, u "(III)J"), (0, .methodref 7 73), (0, .nameAndType 74 75), (0, u "cached"), (0, u "(J)I"), (0, .methodref 7 77), (0, .nameAndType 78 79), (0, u "not"), (0, u "(I)I"), (0, .methodref 7 81), (0, .nameAndType 82 83), (0, u "remember"), (0, u "(JI)V"), (10, u "(I)J"), (24, u "and"), (0, u "(II)I"), (5, u "smallest"), (10, u "add"), (1, .methodref 140 141), (0, .class_ 142), (0, .nameAndType 143 120), (0, u "java/lang/Math"), (0, u "min"), (0, .methodref 140 145), (0, .nameAndType 146 120), (0, u "max"), (0, .methodref 7 148), (0, .nameAndType 149 150), (0, u "branch"), (0, u "(IIZ)I"), (10, .methodref 7 162), (0, .nameAndType 163 64), (0, u "tableSlot"), (0, .methodref 7 165), (0, .nameAndType 166 167), (0, u "holds"), (0, u "(IIII)Z"), (0, .methodref 7 169), (0, .nameAndType 137 170), (0, u "(IIII)I"), (0, .integer 4194304), (10, .class_ 184), (1, u "java/util/Arrays"), (12, .methodref 7 198), (0, .nameAndType 199 75), (0, u "cacheSlot"), (0, .methodref 7 201), (0, .nameAndType 202 203), (0, u "mix"), (0, u "(J)J"), (0, .long 13787848793156543929), (1, .long 10723151780598845931), (1, .methodref 182 209), (0, .nameAndType 210 211), (0, u "fill"), (0, u "([JJ)V"), (0, u "EMPTY"), (2, u "ALL"), (1, u "MAX_NODES"), (0, u "AND"), (0, u "OR"), (0, u "NOT"), (1, u "FIRST_CAPACITY"), (1, u "(ILjava/lang/String;)V"), (2, u "proposition"), (0, u "or"), (2, u "(IJ)Z")] 23

def k2c0 : Code := { maxStack := 4, maxLocals := 3, code := prog_13_method_1_code, exceptionTable := #[], attributes := #[] }
def k2m0 : Method := { name := "<init>", desc := "(ILjava/lang/String;)V", sig := { parameters := [.int, (.object "java/lang/String")], returnType := none }, accessFlags := 0, code := some k2c0 }
def k2c1 : Code := { maxStack := 4, maxLocals := 2, code := prog_13_method_2_code, exceptionTable := #[], attributes := #[] }
def k2m1 : Method := { name := "proposition", desc := "(I)I", sig := { parameters := [.int], returnType := some .int }, accessFlags := 0, code := some k2c1 }
def k2c2 : Code := { maxStack := 4, maxLocals := 3, code := prog_13_method_3_code, exceptionTable := #[], attributes := #[] }
def k2m2 : Method := { name := "and", desc := "(II)I", sig := { parameters := [.int, .int], returnType := some .int }, accessFlags := 0, code := some k2c2 }
def k2c3 : Code := { maxStack := 4, maxLocals := 3, code := prog_13_method_4_code, exceptionTable := #[], attributes := #[] }
def k2m3 : Method := { name := "or", desc := "(II)I", sig := { parameters := [.int, .int], returnType := some .int }, accessFlags := 0, code := some k2c3 }
def k2c4 : Code := { maxStack := 6, maxLocals := 5, code := prog_13_method_5_code, exceptionTable := #[], attributes := #[] }
def k2m4 : Method := { name := "not", desc := "(I)I", sig := { parameters := [.int], returnType := some .int }, accessFlags := 0, code := some k2c4 }
def k2c5 : Code := { maxStack := 4, maxLocals := 5, code := prog_13_method_7_code, exceptionTable := #[], attributes := #[] }
def k2m5 : Method := { name := "holds", desc := "(IJ)Z", sig := { parameters := [.int, .long], returnType := some .boolean }, accessFlags := 0, code := some k2c5 }
def k2c6 : Code := { maxStack := 6, maxLocals := 5, code := prog_13_method_8_code, exceptionTable := #[], attributes := #[] }
def k2m6 : Method := { name := "smallest", desc := "(I)J", sig := { parameters := [.int], returnType := some .long }, accessFlags := 0, code := some k2c6 }
def k2c7 : Code := { maxStack := 7, maxLocals := 14, code := prog_13_method_11_code, exceptionTable := #[], attributes := #[] }
def k2m7 : Method := { name := "combine", desc := "(III)I", sig := { parameters := [.int, .int, .int], returnType := some .int }, accessFlags := 2, code := some k2c7 }
def k2c8 : Code := { maxStack := 2, maxLocals := 5, code := prog_13_method_12_code, exceptionTable := #[], attributes := #[] }
def k2m8 : Method := { name := "branch", desc := "(IIZ)I", sig := { parameters := [.int, .int, .boolean], returnType := some .int }, accessFlags := 2, code := some k2c8 }
def k2c9 : Code := { maxStack := 5, maxLocals := 6, code := prog_13_method_14_code, exceptionTable := #[], attributes := #[] }
def k2m9 : Method := { name := "node", desc := "(III)I", sig := { parameters := [.int, .int, .int], returnType := some .int }, accessFlags := 2, code := some k2c9 }
def k2c10 : Code := { maxStack := 2, maxLocals := 5, code := prog_13_method_15_code, exceptionTable := #[], attributes := #[] }
def k2m10 : Method := { name := "holds", desc := "(IIII)Z", sig := { parameters := [.int, .int, .int, .int], returnType := some .boolean }, accessFlags := 2, code := some k2c10 }
def k2c11 : Code := { maxStack := 6, maxLocals := 8, code := prog_13_method_16_code, exceptionTable := #[], attributes := #[] }
def k2m11 : Method := { name := "add", desc := "(IIII)I", sig := { parameters := [.int, .int, .int, .int], returnType := some .int }, accessFlags := 2, code := some k2c11 }
def k2c12 : Code := { maxStack := 4, maxLocals := 4, code := prog_13_method_18_code, exceptionTable := #[], attributes := #[] }
def k2m12 : Method := { name := "cached", desc := "(J)I", sig := { parameters := [.long], returnType := some .int }, accessFlags := 2, code := some k2c12 }
def k2c13 : Code := { maxStack := 4, maxLocals := 5, code := prog_13_method_19_code, exceptionTable := #[], attributes := #[] }
def k2m13 : Method := { name := "remember", desc := "(JI)V", sig := { parameters := [.long, .int], returnType := none }, accessFlags := 2, code := some k2c13 }
def k2c14 : Code := { maxStack := 3, maxLocals := 3, code := prog_13_method_20_code, exceptionTable := #[], attributes := #[] }
def k2m14 : Method := { name := "cacheSlot", desc := "(J)I", sig := { parameters := [.long], returnType := some .int }, accessFlags := 2, code := some k2c14 }
def k2c15 : Code := { maxStack := 3, maxLocals := 4, code := prog_13_method_21_code, exceptionTable := #[], attributes := #[] }
def k2m15 : Method := { name := "tableSlot", desc := "(III)I", sig := { parameters := [.int, .int, .int], returnType := some .int }, accessFlags := 2, code := some k2c15 }
def k2c16 : Code := { maxStack := 5, maxLocals := 3, code := prog_13_method_22_code, exceptionTable := #[], attributes := #[] }
def k2m16 : Method := { name := "pack", desc := "(III)J", sig := { parameters := [.int, .int, .int], returnType := some .long }, accessFlags := 10, code := some k2c16 }
def k2c17 : Code := { maxStack := 5, maxLocals := 4, code := prog_13_method_23_code, exceptionTable := #[], attributes := #[] }
def k2m17 : Method := { name := "mix", desc := "(J)J", sig := { parameters := [.long], returnType := some .long }, accessFlags := 10, code := some k2c17 }
def k2c18 : Code := { maxStack := 3, maxLocals := 2, code := prog_13_method_24_code, exceptionTable := #[], attributes := #[] }
def k2m18 : Method := { name := "emptyCache", desc := "(I)[J", sig := { parameters := [.int], returnType := some (.array .long) }, accessFlags := 10, code := some k2c18 }
/-- com/example/libgfg/libgfg/automaton/LetterSets -/
def k2 : Class := { plain "com/example/libgfg/libgfg/automaton/LetterSets" (some 0) with
  accessFlags := 32
  interfaces := #[]
  cf := some (fileOf pool2 7 #[] #[{ accessFlags := 0, nameIndex := 5, descriptorIndex := 224, attributes := #[] }, { accessFlags := 0, nameIndex := 227, descriptorIndex := 79, attributes := #[] }, { accessFlags := 0, nameIndex := 119, descriptorIndex := 120, attributes := #[] }, { accessFlags := 0, nameIndex := 228, descriptorIndex := 120, attributes := #[] }, { accessFlags := 0, nameIndex := 78, descriptorIndex := 79, attributes := #[] }, { accessFlags := 0, nameIndex := 166, descriptorIndex := 231, attributes := #[] }, { accessFlags := 0, nameIndex := 126, descriptorIndex := 94, attributes := #[] }, { accessFlags := 2, nameIndex := 67, descriptorIndex := 64, attributes := #[] }, { accessFlags := 2, nameIndex := 149, descriptorIndex := 150, attributes := #[] }, { accessFlags := 2, nameIndex := 63, descriptorIndex := 64, attributes := #[] }, { accessFlags := 2, nameIndex := 166, descriptorIndex := 167, attributes := #[] }, { accessFlags := 2, nameIndex := 137, descriptorIndex := 170, attributes := #[] }, { accessFlags := 2, nameIndex := 74, descriptorIndex := 75, attributes := #[] }, { accessFlags := 2, nameIndex := 82, descriptorIndex := 83, attributes := #[] }, { accessFlags := 2, nameIndex := 199, descriptorIndex := 75, attributes := #[] }, { accessFlags := 2, nameIndex := 163, descriptorIndex := 64, attributes := #[] }, { accessFlags := 10, nameIndex := 70, descriptorIndex := 71, attributes := #[] }, { accessFlags := 10, nameIndex := 202, descriptorIndex := 203, attributes := #[] }, { accessFlags := 10, nameIndex := 38, descriptorIndex := 39, attributes := #[] }] 32 2 #[] #[{ accessFlags := 24, nameIndex := 212, descriptorIndex := 22, attributes := #[] }, { accessFlags := 24, nameIndex := 215, descriptorIndex := 22, attributes := #[] }, { accessFlags := 24, nameIndex := 217, descriptorIndex := 22, attributes := #[] }, { accessFlags := 26, nameIndex := 218, descriptorIndex := 22, attributes := #[] }, { accessFlags := 26, nameIndex := 219, descriptorIndex := 22, attributes := #[] }, { accessFlags := 26, nameIndex := 220, descriptorIndex := 22, attributes := #[] }, { accessFlags := 26, nameIndex := 222, descriptorIndex := 22, attributes := #[] }, { accessFlags := 18, nameIndex := 54, descriptorIndex := 22, attributes := #[] }, { accessFlags := 18, nameIndex := 57, descriptorIndex := 58, attributes := #[] }, { accessFlags := 2, nameIndex := 11, descriptorIndex := 12, attributes := #[] }, { accessFlags := 2, nameIndex := 15, descriptorIndex := 12, attributes := #[] }, { accessFlags := 2, nameIndex := 18, descriptorIndex := 12, attributes := #[] }, { accessFlags := 2, nameIndex := 21, descriptorIndex := 22, attributes := #[] }, { accessFlags := 2, nameIndex := 25, descriptorIndex := 26, attributes := #[] }, { accessFlags := 2, nameIndex := 29, descriptorIndex := 26, attributes := #[] }, { accessFlags := 2, nameIndex := 32, descriptorIndex := 26, attributes := #[] }, { accessFlags := 2, nameIndex := 35, descriptorIndex := 12, attributes := #[] }, { accessFlags := 2, nameIndex := 42, descriptorIndex := 26, attributes := #[] }, { accessFlags := 2, nameIndex := 45, descriptorIndex := 12, attributes := #[] }, { accessFlags := 2, nameIndex := 50, descriptorIndex := 51, attributes := #[] }])
  fields := #[{ name := "EMPTY", type := .int, accessFlags := 24, slot := 0, constantValue := 0 }, { name := "ALL", type := .int, accessFlags := 24, slot := 1, constantValue := 0 }, { name := "MAX_NODES", type := .int, accessFlags := 24, slot := 2, constantValue := 0 }, { name := "AND", type := .int, accessFlags := 26, slot := 3, constantValue := 0 }, { name := "OR", type := .int, accessFlags := 26, slot := 4, constantValue := 0 }, { name := "NOT", type := .int, accessFlags := 26, slot := 5, constantValue := 0 }, { name := "FIRST_CAPACITY", type := .int, accessFlags := 26, slot := 6, constantValue := 0 }, { name := "propositions", type := .int, accessFlags := 18, slot := 0, constantValue := 0 }, { name := "subject", type := (.object "java/lang/String"), accessFlags := 18, slot := 1, constantValue := 0 }, { name := "tested", type := (.array .int), accessFlags := 2, slot := 2, constantValue := 0 }, { name := "low", type := (.array .int), accessFlags := 2, slot := 3, constantValue := 0 }, { name := "high", type := (.array .int), accessFlags := 2, slot := 4, constantValue := 0 }, { name := "nodes", type := .int, accessFlags := 2, slot := 5, constantValue := 0 }, { name := "support", type := (.array .long), accessFlags := 2, slot := 6, constantValue := 0 }, { name := "allTrue", type := (.array .long), accessFlags := 2, slot := 7, constantValue := 0 }, { name := "allFalse", type := (.array .long), accessFlags := 2, slot := 8, constantValue := 0 }, { name := "table", type := (.array .int), accessFlags := 2, slot := 9, constantValue := 0 }, { name := "cachedKeys", type := (.array .long), accessFlags := 2, slot := 10, constantValue := 0 }, { name := "cachedResults", type := (.array .int), accessFlags := 2, slot := 11, constantValue := 0 }, { name := "counts", type := (.array (.object "java/math/BigInteger")), accessFlags := 2, slot := 12, constantValue := 0 }]
  methods := #[k2m0, k2m1, k2m2, k2m3, k2m4, k2m5, k2m6, k2m7, k2m8, k2m9, k2m10, k2m11, k2m12, k2m13, k2m14, k2m15, k2m16, k2m17, k2m18]
  instanceTypes := #[.int, (.object "java/lang/String"), (.array .int), (.array .int), (.array .int), .int, (.array .long), (.array .long), (.array .long), (.array .int), (.array .long), (.array .int), (.array (.object "java/math/BigInteger"))]
  staticTypes := #[.int, .int, .int, .int, .int, .int, .int]
  resolved := Array.replicate 255 none
  statics := none }

def pool3 : Array CpInfo := pool [(1, .class_ 2), (0, u "java/io/Serializable"), (0, .class_ 4), (0, u "java/lang/Object")] 2

/-- java/io/Serializable -/
def k3 : Class := { plain "java/io/Serializable" (some 0) with
  accessFlags := 1537
  interfaces := #[]
  cf := some (fileOf pool3 1 #[] #[] 1537 3 #[] #[])
  fields := #[]
  methods := #[]
  instanceTypes := #[]
  staticTypes := #[]
  resolved := Array.replicate 7 none
  statics := none }

def pool4 : Array CpInfo := pool [(1, .class_ 2), (0, u "java/lang/Comparable"), (0, .class_ 4), (0, u "java/lang/Object")] 7

/-- java/lang/Comparable -/
def k4 : Class := { plain "java/lang/Comparable" (some 0) with
  accessFlags := 1537
  interfaces := #[]
  cf := some (fileOf pool4 1 #[] #[] 1537 3 #[] #[])
  fields := #[]
  methods := #[]
  instanceTypes := #[]
  staticTypes := #[]
  resolved := Array.replicate 12 none
  statics := none }

def pool5 : Array CpInfo := pool [(2, .class_ 4), (1, u "java/lang/CharSequence"), (42, .class_ 48), (0, u "java/lang/CharSequence$1CodePointIterator"), (10, .class_ 60), (0, u "java/lang/CharSequence$1CharIterator"), (5, .class_ 67), (0, u "java/lang/Object")] 63

/-- java/lang/CharSequence -/
def k5 : Class := { plain "java/lang/CharSequence" (some 0) with
  accessFlags := 1537
  interfaces := #[]
  cf := some (fileOf pool5 2 #[.nestMembers #[47, 59]] #[] 1537 66 #[] #[])
  fields := #[]
  methods := #[]
  instanceTypes := #[]
  staticTypes := #[]
  resolved := Array.replicate 131 none
  statics := none }

def pool6 : Array CpInfo := pool [(1, .class_ 2), (0, u "java/lang/constant/Constable"), (0, .class_ 4), (0, u "java/lang/Object")] 6

/-- java/lang/constant/Constable -/
def k6 : Class := { plain "java/lang/constant/Constable" (some 0) with
  accessFlags := 1537
  interfaces := #[]
  cf := some (fileOf pool6 1 #[] #[] 1537 3 #[] #[])
  fields := #[]
  methods := #[]
  instanceTypes := #[]
  staticTypes := #[]
  resolved := Array.replicate 11 none
  statics := none }

def pool7 : Array CpInfo := pool [(1, .class_ 2), (0, u "java/lang/constant/ConstantDesc"), (0, .class_ 4), (0, u "java/lang/Object")] 32

/-- java/lang/constant/ConstantDesc -/
def k7 : Class := { plain "java/lang/constant/ConstantDesc" (some 0) with
  accessFlags := 1537
  interfaces := #[]
  cf := some (fileOf pool7 1 #[] #[] 1537 3 #[] #[])
  fields := #[]
  methods := #[]
  instanceTypes := #[]
  staticTypes := #[]
  resolved := Array.replicate 37 none
  statics := none }

def pool8 : Array CpInfo := pool [(2, .class_ 4), (1, u "java/lang/Object"), (0, u "<init>"), (0, u "()V"), (3, .class_ 12), (1, u "java/lang/String"), (0, u "value"), (0, u "[B"), (2, u "coder"), (0, u "B"), (2, u "hash"), (0, u "I"), (2, u "hashIsZero"), (0, u "Z"), (13, u "COMPACT_STRINGS"), (534, .class_ 576), (0, u "java/lang/CharSequence"), (22, u "CASE_INSENSITIVE_ORDER"), (0, u "Ljava/util/Comparator;"), (500, u "serialPersistentFields"), (0, u "[Ljava/io/ObjectStreamField;"), (0, .class_ 1104), (0, u "java/lang/String$CaseInsensitiveComparator"), (1, .class_ 1107), (0, u "java/io/Serializable"), (0, .class_ 1109), (0, u "java/lang/Comparable"), (0, .class_ 1111), (0, u "java/lang/constant/Constable"), (0, .class_ 1113), (0, u "java/lang/constant/ConstantDesc"), (2, u "serialVersionUID"), (0, u "J"), (3, u "REPL"), (0, u "C"), (2, u "LATIN1"), (1, u "UTF16")] 323

def k8m0 : Method := { name := "<init>", desc := "()V", sig := { parameters := [], returnType := none }, accessFlags := 1, code := none }
/-- java/lang/String -/
def k8 : Class := { plain "java/lang/String" (some 0) with
  accessFlags := 49
  interfaces := #[3, 4, 5, 6, 7]
  cf := some (fileOf pool8 10 #[.nestMembers #[1103]] #[{ accessFlags := 1, nameIndex := 5, descriptorIndex := 6, attributes := #[] }] 49 2 #[1106, 1108, 575, 1110, 1112] #[{ accessFlags := 18, nameIndex := 13, descriptorIndex := 14, attributes := #[] }, { accessFlags := 18, nameIndex := 17, descriptorIndex := 18, attributes := #[] }, { accessFlags := 2, nameIndex := 21, descriptorIndex := 22, attributes := #[] }, { accessFlags := 2, nameIndex := 25, descriptorIndex := 26, attributes := #[] }, { accessFlags := 26, nameIndex := 1116, descriptorIndex := 1117, attributes := #[] }, { accessFlags := 24, nameIndex := 40, descriptorIndex := 26, attributes := #[] }, { accessFlags := 26, nameIndex := 1101, descriptorIndex := 1102, attributes := #[] }, { accessFlags := 26, nameIndex := 1121, descriptorIndex := 1122, attributes := #[] }, { accessFlags := 25, nameIndex := 599, descriptorIndex := 600, attributes := #[] }, { accessFlags := 24, nameIndex := 1125, descriptorIndex := 18, attributes := #[] }, { accessFlags := 24, nameIndex := 1127, descriptorIndex := 18, attributes := #[] }])
  fields := #[{ name := "value", type := (.array .byte), accessFlags := 18, slot := 0, constantValue := 0 }, { name := "coder", type := .byte, accessFlags := 18, slot := 1, constantValue := 0 }, { name := "hash", type := .int, accessFlags := 2, slot := 2, constantValue := 0 }, { name := "hashIsZero", type := .boolean, accessFlags := 2, slot := 3, constantValue := 0 }, { name := "serialVersionUID", type := .long, accessFlags := 26, slot := 0, constantValue := 0 }, { name := "COMPACT_STRINGS", type := .boolean, accessFlags := 24, slot := 1, constantValue := 0 }, { name := "serialPersistentFields", type := (.array (.object "java/io/ObjectStreamField")), accessFlags := 26, slot := 2, constantValue := 0 }, { name := "REPL", type := .char, accessFlags := 26, slot := 3, constantValue := 0 }, { name := "CASE_INSENSITIVE_ORDER", type := (.object "java/util/Comparator"), accessFlags := 25, slot := 4, constantValue := 0 }, { name := "LATIN1", type := .byte, accessFlags := 24, slot := 5, constantValue := 0 }, { name := "UTF16", type := .byte, accessFlags := 24, slot := 6, constantValue := 0 }]
  methods := #[k8m0]
  instanceTypes := #[(.array .byte), .byte, .int, .boolean]
  staticTypes := #[.long, .boolean, (.array (.object "java/io/ObjectStreamField")), .char, (.object "java/util/Comparator"), .byte, .byte]
  resolved := Array.replicate 1451 none
  statics := none }

def pool9 : Array CpInfo := pool [(2, .class_ 4), (1, u "java/lang/Object"), (0, u "<init>"), (0, u "()V"), (7, .class_ 16), (1, u "java/util/Arrays"), (57, .class_ 76), (1, u "java/util/Arrays$NaturalOrder"), (36, .class_ 115), (1, u "java/util/Arrays$LegacyMergeSort"), (1, u "Z"), (257, .class_ 376), (0, u "java/util/Arrays$ArrayList"), (68, u "$assertionsDisabled"), (269, u "MIN_ARRAY_SORT_GRAN"), (0, u "I"), (2, u "INSERTIONSORT_THRESHOLD"), (120, u "fill"), (0, u "([JJ)V"), (133, .class_ 976), (0, u "java/util/Arrays$ArrayItr")] 52

def k9m0 : Method := { name := "<init>", desc := "()V", sig := { parameters := [], returnType := none }, accessFlags := 2, code := none }
def k9c1 : Code := { maxStack := 4, maxLocals := 5, code := jdk_65_method_101_code, exceptionTable := #[], attributes := #[] }
def k9m1 : Method := { name := "fill", desc := "([JJ)V", sig := { parameters := [(.array .long), .long], returnType := none }, accessFlags := 9, code := some k9c1 }
/-- java/util/Arrays -/
def k9 : Class := { plain "java/util/Arrays" (some 0) with
  accessFlags := 49
  interfaces := #[]
  cf := some (fileOf pool9 14 #[.nestMembers #[975, 375, 113, 74]] #[{ accessFlags := 2, nameIndex := 5, descriptorIndex := 6, attributes := #[] }, { accessFlags := 9, nameIndex := 840, descriptorIndex := 841, attributes := #[] }] 49 2 #[] #[{ accessFlags := 26, nameIndex := 715, descriptorIndex := 716, attributes := #[] }, { accessFlags := 26, nameIndex := 719, descriptorIndex := 716, attributes := #[] }, { accessFlags := 4120, nameIndex := 445, descriptorIndex := 117, attributes := #[] }])
  fields := #[{ name := "MIN_ARRAY_SORT_GRAN", type := .int, accessFlags := 26, slot := 0, constantValue := 0 }, { name := "INSERTIONSORT_THRESHOLD", type := .int, accessFlags := 26, slot := 1, constantValue := 0 }, { name := "$assertionsDisabled", type := .boolean, accessFlags := 4120, slot := 2, constantValue := 0 }]
  methods := #[k9m0, k9m1]
  instanceTypes := #[]
  staticTypes := #[.int, .int, .boolean]
  resolved := Array.replicate 1029 none
  statics := none }

def pool10 : Array CpInfo := pool [(2, .class_ 4), (1, u "java/lang/Object"), (0, u "<init>"), (0, u "()V"), (1, .class_ 10), (1, u "java/lang/Number"), (2, .class_ 14), (0, u "java/io/Serializable"), (0, u "serialVersionUID"), (0, u "J")] 20

def k10m0 : Method := { name := "<init>", desc := "()V", sig := { parameters := [], returnType := none }, accessFlags := 1, code := none }
/-- java/lang/Number -/
def k10 : Class := { plain "java/lang/Number" (some 0) with
  accessFlags := 1057
  interfaces := #[3]
  cf := some (fileOf pool10 8 #[] #[{ accessFlags := 1, nameIndex := 5, descriptorIndex := 6, attributes := #[] }] 1057 2 #[13] #[{ accessFlags := 26, nameIndex := 15, descriptorIndex := 16, attributes := #[] }])
  fields := #[{ name := "serialVersionUID", type := .long, accessFlags := 26, slot := 0, constantValue := 0 }]
  methods := #[k10m0]
  instanceTypes := #[]
  staticTypes := #[.long]
  resolved := Array.replicate 37 none
  statics := none }

def pool11 : Array CpInfo := pool [(4, .class_ 6), (1, u "java/lang/Number"), (16, .class_ 25), (1, u "java/math/BigInteger"), (0, u "ZERO"), (0, u "Ljava/math/BigInteger;"), (2, u "mag"), (0, u "[I"), (2, u "signum"), (0, u "I"), (59, u "bitsPerDigit"), (0, u "[J"), (9, u "digitsPerInt"), (12, u "intRadix"), (60, u "SMALL_PRIME_PRODUCT"), (79, u "ONE"), (6, u "TWO"), (43, u "$assertionsDisabled"), (0, u "Z"), (36, u "posConst"), (0, u "[Ljava/math/BigInteger;"), (4, u "negConst"), (116, .class_ 474), (1, u "java/math/BigInteger$RecursiveOp"), (106, u "NEGATIVE_ONE"), (91, u "bnExpModThreshTable"), (72, u "lowestSetBitPlusTwo"), (2, u "bitLengthPlusOne"), (2, u "bitCountPlusOne"), (6, u "LOG_TWO"), (0, u "D"), (2, u "logCache"), (0, u "[D"), (13, u "NUM_ZEROS"), (2, u "ZEROS"), (0, u "Ljava/lang/String;"), (9, u "longRadix"), (5, u "digitsPerLong"), (22, u "powerCache"), (0, u "[[Ljava/math/BigInteger;"), (45, u "firstNonzeroIntNumPlusTwo"), (38, .class_ 909), (1, u "java/math/BigInteger$UnsafeHolder"), (141, u "TEN"), (106, u "serialPersistentFields"), (0, u "[Ljava/io/ObjectStreamField;"), (0, .class_ 1161), (0, u "java/lang/Comparable"), (0, u "LONG_MASK"), (0, u "J"), (1, u "MAX_MAG_LENGTH"), (0, u "PRIME_SEARCH_BIT_LENGTH_LIMIT"), (1, u "KARATSUBA_THRESHOLD"), (1, u "TOOM_COOK_THRESHOLD"), (1, u "KARATSUBA_SQUARE_THRESHOLD"), (1, u "TOOM_COOK_SQUARE_THRESHOLD"), (1, u "BURNIKEL_ZIEGLER_THRESHOLD"), (0, u "BURNIKEL_ZIEGLER_OFFSET"), (1, u "SCHOENHAGE_BASE_CONVERSION_THRESHOLD"), (1, u "MULTIPLY_SQUARE_THRESHOLD"), (0, u "MONTGOMERY_INTRINSIC_THRESHOLD"), (1, u "SMALL_PRIME_THRESHOLD"), (1, u "DEFAULT_PRIME_CERTAINTY"), (1, u "MAX_CONSTANT"), (3, u "serialVersionUID"), (338, .class_ 1532), (0, u "java/math/BigInteger$RecursiveOp$RecursiveSquare"), (0, .class_ 1534), (0, u "java/math/BigInteger$RecursiveOp$RecursiveMultiply")] 7

/-- java/math/BigInteger -/
def k11 : Class := { plain "java/math/BigInteger" (some 10) with
  accessFlags := 33
  interfaces := #[4]
  cf := some (fileOf pool11 23 #[.nestMembers #[907, 472, 1531, 1533]] #[] 33 4 #[1160] #[{ accessFlags := 16, nameIndex := 34, descriptorIndex := 35, attributes := #[] }, { accessFlags := 16, nameIndex := 30, descriptorIndex := 31, attributes := #[] }, { accessFlags := 2, nameIndex := 752, descriptorIndex := 35, attributes := #[] }, { accessFlags := 2, nameIndex := 749, descriptorIndex := 35, attributes := #[] }, { accessFlags := 2, nameIndex := 746, descriptorIndex := 35, attributes := #[] }, { accessFlags := 2, nameIndex := 868, descriptorIndex := 35, attributes := #[] }, { accessFlags := 24, nameIndex := 1162, descriptorIndex := 1163, attributes := #[] }, { accessFlags := 26, nameIndex := 1165, descriptorIndex := 35, attributes := #[] }, { accessFlags := 26, nameIndex := 1166, descriptorIndex := 35, attributes := #[] }, { accessFlags := 26, nameIndex := 1168, descriptorIndex := 35, attributes := #[] }, { accessFlags := 26, nameIndex := 1170, descriptorIndex := 35, attributes := #[] }, { accessFlags := 26, nameIndex := 1172, descriptorIndex := 35, attributes := #[] }, { accessFlags := 26, nameIndex := 1174, descriptorIndex := 35, attributes := #[] }, { accessFlags := 24, nameIndex := 1176, descriptorIndex := 35, attributes := #[] }, { accessFlags := 24, nameIndex := 1177, descriptorIndex := 35, attributes := #[] }, { accessFlags := 26, nameIndex := 1179, descriptorIndex := 35, attributes := #[] }, { accessFlags := 26, nameIndex := 1181, descriptorIndex := 35, attributes := #[] }, { accessFlags := 26, nameIndex := 1182, descriptorIndex := 35, attributes := #[] }, { accessFlags := 10, nameIndex := 95, descriptorIndex := 96, attributes := #[] }, { accessFlags := 26, nameIndex := 1184, descriptorIndex := 35, attributes := #[] }, { accessFlags := 26, nameIndex := 1186, descriptorIndex := 35, attributes := #[] }, { accessFlags := 26, nameIndex := 180, descriptorIndex := 27, attributes := #[] }, { accessFlags := 26, nameIndex := 1188, descriptorIndex := 35, attributes := #[] }, { accessFlags := 26, nameIndex := 349, descriptorIndex := 350, attributes := #[] }, { accessFlags := 26, nameIndex := 355, descriptorIndex := 350, attributes := #[] }, { accessFlags := 74, nameIndex := 821, descriptorIndex := 822, attributes := #[] }, { accessFlags := 26, nameIndex := 763, descriptorIndex := 764, attributes := #[] }, { accessFlags := 26, nameIndex := 759, descriptorIndex := 760, attributes := #[] }, { accessFlags := 25, nameIndex := 26, descriptorIndex := 27, attributes := #[] }, { accessFlags := 25, nameIndex := 260, descriptorIndex := 27, attributes := #[] }, { accessFlags := 25, nameIndex := 267, descriptorIndex := 27, attributes := #[] }, { accessFlags := 26, nameIndex := 581, descriptorIndex := 27, attributes := #[] }, { accessFlags := 25, nameIndex := 1051, descriptorIndex := 27, attributes := #[] }, { accessFlags := 8, nameIndex := 673, descriptorIndex := 31, attributes := #[] }, { accessFlags := 10, nameIndex := 778, descriptorIndex := 35, attributes := #[] }, { accessFlags := 26, nameIndex := 781, descriptorIndex := 782, attributes := #[] }, { accessFlags := 10, nameIndex := 798, descriptorIndex := 31, attributes := #[] }, { accessFlags := 10, nameIndex := 792, descriptorIndex := 350, attributes := #[] }, { accessFlags := 10, nameIndex := 106, descriptorIndex := 31, attributes := #[] }, { accessFlags := 10, nameIndex := 119, descriptorIndex := 31, attributes := #[] }, { accessFlags := 26, nameIndex := 1192, descriptorIndex := 1163, attributes := #[] }, { accessFlags := 26, nameIndex := 1158, descriptorIndex := 1159, attributes := #[] }, { accessFlags := 4120, nameIndex := 311, descriptorIndex := 312, attributes := #[] }])
  fields := #[{ name := "signum", type := .int, accessFlags := 16, slot := 0, constantValue := 0 }, { name := "mag", type := (.array .int), accessFlags := 16, slot := 1, constantValue := 0 }, { name := "bitCountPlusOne", type := .int, accessFlags := 2, slot := 2, constantValue := 0 }, { name := "bitLengthPlusOne", type := .int, accessFlags := 2, slot := 3, constantValue := 0 }, { name := "lowestSetBitPlusTwo", type := .int, accessFlags := 2, slot := 4, constantValue := 0 }, { name := "firstNonzeroIntNumPlusTwo", type := .int, accessFlags := 2, slot := 5, constantValue := 0 }, { name := "LONG_MASK", type := .long, accessFlags := 24, slot := 0, constantValue := 0 }, { name := "MAX_MAG_LENGTH", type := .int, accessFlags := 26, slot := 1, constantValue := 0 }, { name := "PRIME_SEARCH_BIT_LENGTH_LIMIT", type := .int, accessFlags := 26, slot := 2, constantValue := 0 }, { name := "KARATSUBA_THRESHOLD", type := .int, accessFlags := 26, slot := 3, constantValue := 0 }, { name := "TOOM_COOK_THRESHOLD", type := .int, accessFlags := 26, slot := 4, constantValue := 0 }, { name := "KARATSUBA_SQUARE_THRESHOLD", type := .int, accessFlags := 26, slot := 5, constantValue := 0 }, { name := "TOOM_COOK_SQUARE_THRESHOLD", type := .int, accessFlags := 26, slot := 6, constantValue := 0 }, { name := "BURNIKEL_ZIEGLER_THRESHOLD", type := .int, accessFlags := 24, slot := 7, constantValue := 0 }, { name := "BURNIKEL_ZIEGLER_OFFSET", type := .int, accessFlags := 24, slot := 8, constantValue := 0 }, { name := "SCHOENHAGE_BASE_CONVERSION_THRESHOLD", type := .int, accessFlags := 26, slot := 9, constantValue := 0 }, { name := "MULTIPLY_SQUARE_THRESHOLD", type := .int, accessFlags := 26, slot := 10, constantValue := 0 }, { name := "MONTGOMERY_INTRINSIC_THRESHOLD", type := .int, accessFlags := 26, slot := 11, constantValue := 0 }, { name := "bitsPerDigit", type := (.array .long), accessFlags := 10, slot := 12, constantValue := 0 }, { name := "SMALL_PRIME_THRESHOLD", type := .int, accessFlags := 26, slot := 13, constantValue := 0 }, { name := "DEFAULT_PRIME_CERTAINTY", type := .int, accessFlags := 26, slot := 14, constantValue := 0 }, { name := "SMALL_PRIME_PRODUCT", type := (.object "java/math/BigInteger"), accessFlags := 26, slot := 15, constantValue := 0 }, { name := "MAX_CONSTANT", type := .int, accessFlags := 26, slot := 16, constantValue := 0 }, { name := "posConst", type := (.array (.object "java/math/BigInteger")), accessFlags := 26, slot := 17, constantValue := 0 }, { name := "negConst", type := (.array (.object "java/math/BigInteger")), accessFlags := 26, slot := 18, constantValue := 0 }, { name := "powerCache", type := (.array (.array (.object "java/math/BigInteger"))), accessFlags := 74, slot := 19, constantValue := 0 }, { name := "logCache", type := (.array .double), accessFlags := 26, slot := 20, constantValue := 0 }, { name := "LOG_TWO", type := .double, accessFlags := 26, slot := 21, constantValue := 0 }, { name := "ZERO", type := (.object "java/math/BigInteger"), accessFlags := 25, slot := 22, constantValue := 0 }, { name := "ONE", type := (.object "java/math/BigInteger"), accessFlags := 25, slot := 23, constantValue := 0 }, { name := "TWO", type := (.object "java/math/BigInteger"), accessFlags := 25, slot := 24, constantValue := 0 }, { name := "NEGATIVE_ONE", type := (.object "java/math/BigInteger"), accessFlags := 26, slot := 25, constantValue := 0 }, { name := "TEN", type := (.object "java/math/BigInteger"), accessFlags := 25, slot := 26, constantValue := 0 }, { name := "bnExpModThreshTable", type := (.array .int), accessFlags := 8, slot := 27, constantValue := 0 }, { name := "NUM_ZEROS", type := .int, accessFlags := 10, slot := 28, constantValue := 0 }, { name := "ZEROS", type := (.object "java/lang/String"), accessFlags := 26, slot := 29, constantValue := 0 }, { name := "digitsPerLong", type := (.array .int), accessFlags := 10, slot := 30, constantValue := 0 }, { name := "longRadix", type := (.array (.object "java/math/BigInteger")), accessFlags := 10, slot := 31, constantValue := 0 }, { name := "digitsPerInt", type := (.array .int), accessFlags := 10, slot := 32, constantValue := 0 }, { name := "intRadix", type := (.array .int), accessFlags := 10, slot := 33, constantValue := 0 }, { name := "serialVersionUID", type := .long, accessFlags := 26, slot := 34, constantValue := 0 }, { name := "serialPersistentFields", type := (.array (.object "java/io/ObjectStreamField")), accessFlags := 26, slot := 35, constantValue := 0 }, { name := "$assertionsDisabled", type := .boolean, accessFlags := 4120, slot := 36, constantValue := 0 }]
  methods := #[]
  instanceTypes := #[.int, (.array .int), .int, .int, .int, .int]
  staticTypes := #[.long, .int, .int, .int, .int, .int, .int, .int, .int, .int, .int, .int, (.array .long), .int, .int, (.object "java/math/BigInteger"), .int, (.array (.object "java/math/BigInteger")), (.array (.object "java/math/BigInteger")), (.array (.array (.object "java/math/BigInteger"))), (.array .double), .double, (.object "java/math/BigInteger"), (.object "java/math/BigInteger"), (.object "java/math/BigInteger"), (.object "java/math/BigInteger"), (.object "java/math/BigInteger"), (.array .int), .int, (.object "java/lang/String"), (.array .int), (.array (.object "java/math/BigInteger")), (.array .int), (.array .int), .long, (.array (.object "java/io/ObjectStreamField")), .boolean]
  resolved := Array.replicate 1542 none
  statics := none }

def pool12 : Array CpInfo := pool [(1, .class_ 2), (0, u "java/lang/Math"), (1, .class_ 6), (1, u "java/lang/Object"), (0, u "<init>"), (0, u "()V"), (89, .class_ 100), (1, u "java/lang/Math$RandomNumberGeneratorHolder"), (71, u "negativeZeroFloatBits"), (0, u "J"), (2, u "negativeZeroDoubleBits"), (21, u "max"), (2, u "min"), (43, u "$assertionsDisabled"), (0, u "Z"), (88, u "(II)I"), (2, u "twoToTheDoubleScaleDown"), (0, u "D"), (4, u "twoToTheDoubleScaleUp"), (9, u "E"), (3, u "PI"), (2, u "TAU"), (2, u "DEGREES_TO_RADIANS"), (0, u "RADIANS_TO_DEGREES")] 94

def k12m0 : Method := { name := "<init>", desc := "()V", sig := { parameters := [], returnType := none }, accessFlags := 2, code := none }
def k12c1 : Code := { maxStack := 2, maxLocals := 2, code := jdk_29_method_65_code, exceptionTable := #[], attributes := #[] }
def k12m1 : Method := { name := "max", desc := "(II)I", sig := { parameters := [.int, .int], returnType := some .int }, accessFlags := 9, code := some k12c1 }
def k12c2 : Code := { maxStack := 2, maxLocals := 2, code := jdk_29_method_69_code, exceptionTable := #[], attributes := #[] }
def k12m2 : Method := { name := "min", desc := "(II)I", sig := { parameters := [.int, .int], returnType := some .int }, accessFlags := 9, code := some k12c2 }
/-- java/lang/Math -/
def k12 : Class := { plain "java/lang/Math" (some 0) with
  accessFlags := 49
  interfaces := #[]
  cf := some (fileOf pool12 1 #[.nestMembers #[98]] #[{ accessFlags := 2, nameIndex := 7, descriptorIndex := 8, attributes := #[] }, { accessFlags := 9, nameIndex := 198, descriptorIndex := 335, attributes := #[] }, { accessFlags := 9, nameIndex := 201, descriptorIndex := 335, attributes := #[] }] 49 4 #[] #[{ accessFlags := 25, nameIndex := 354, descriptorIndex := 339, attributes := #[] }, { accessFlags := 25, nameIndex := 358, descriptorIndex := 339, attributes := #[] }, { accessFlags := 25, nameIndex := 361, descriptorIndex := 339, attributes := #[] }, { accessFlags := 26, nameIndex := 364, descriptorIndex := 339, attributes := #[] }, { accessFlags := 26, nameIndex := 365, descriptorIndex := 339, attributes := #[] }, { accessFlags := 26, nameIndex := 172, descriptorIndex := 173, attributes := #[] }, { accessFlags := 26, nameIndex := 176, descriptorIndex := 173, attributes := #[] }, { accessFlags := 8, nameIndex := 344, descriptorIndex := 339, attributes := #[] }, { accessFlags := 8, nameIndex := 338, descriptorIndex := 339, attributes := #[] }, { accessFlags := 4120, nameIndex := 245, descriptorIndex := 246, attributes := #[] }])
  fields := #[{ name := "E", type := .double, accessFlags := 25, slot := 0, constantValue := 0 }, { name := "PI", type := .double, accessFlags := 25, slot := 1, constantValue := 0 }, { name := "TAU", type := .double, accessFlags := 25, slot := 2, constantValue := 0 }, { name := "DEGREES_TO_RADIANS", type := .double, accessFlags := 26, slot := 3, constantValue := 0 }, { name := "RADIANS_TO_DEGREES", type := .double, accessFlags := 26, slot := 4, constantValue := 0 }, { name := "negativeZeroFloatBits", type := .long, accessFlags := 26, slot := 5, constantValue := 0 }, { name := "negativeZeroDoubleBits", type := .long, accessFlags := 26, slot := 6, constantValue := 0 }, { name := "twoToTheDoubleScaleUp", type := .double, accessFlags := 8, slot := 7, constantValue := 0 }, { name := "twoToTheDoubleScaleDown", type := .double, accessFlags := 8, slot := 8, constantValue := 0 }, { name := "$assertionsDisabled", type := .boolean, accessFlags := 4120, slot := 9, constantValue := 0 }]
  methods := #[k12m0, k12m1, k12m2]
  instanceTypes := #[]
  staticTypes := #[.double, .double, .double, .double, .double, .long, .long, .double, .double, .boolean]
  resolved := Array.replicate 460 none
  statics := none }

def pool13 : Array CpInfo := pool [(1, u "java/lang/Cloneable"), (0, .class_ 1), (0, u "java/lang/Object"), (0, .class_ 3)] 3

/-- java/lang/Cloneable -/
def k13 : Class := { plain "java/lang/Cloneable" (some 0) with
  accessFlags := 1537
  interfaces := #[]
  cf := some (fileOf pool13 2 #[] #[] 1537 4 #[] #[])
  fields := #[]
  methods := #[]
  instanceTypes := #[]
  staticTypes := #[]
  resolved := Array.replicate 8 none
  statics := none }

/-- the primitive byte -/
def k14 : Class := { plain "byte" none with kind := .primitive 'B', accessFlags := 0x411 }
/-- [B -/
def k15 : Class := { plain "[B" (some 0) with kind := .array 14 .byte, interfaces := #[13, 3], accessFlags := 1041 }

/-- the primitive int -/
def k16 : Class := { plain "int" none with kind := .primitive 'I', accessFlags := 0x411 }
/-- [I -/
def k17 : Class := { plain "[I" (some 0) with kind := .array 16 .int, interfaces := #[13, 3], accessFlags := 1041 }

/-- the primitive long -/
def k18 : Class := { plain "long" none with kind := .primitive 'J', accessFlags := 0x411 }
/-- [J -/
def k19 : Class := { plain "[J" (some 0) with kind := .array 18 .long, interfaces := #[13, 3], accessFlags := 1041 }

/-- [Ljava/math/BigInteger; -/
def k20 : Class := { plain "[Ljava/math/BigInteger;" (some 0) with kind := .array 11 (.object "java/math/BigInteger"), interfaces := #[13, 3], accessFlags := 1041 }

def heap : Heap := #[]
def classes : Array Class := #[k0, k1, k2, k3, k4, k5, k6, k7, k8, k9, k10, k11, k12, k13, k14, k15, k16, k17, k18, k19, k20]
def interned : List (Array UInt16 × Addr) := []
def slotsUsed : Nat := 0
def theMethod : MethodId := ⟨1, 1⟩
def args0 : Array Value := #[.int 5, .int 6, .long 9]
def aboutOver (below : List Frame) : State where
  vm := { classes := classes, interned := interned.toArray }
  heap := heap
  slotsUsed := slotsUsed
  threads := #[{ frames := .invoking theMethod args0 :: below }]
def below0 : List Frame := [.native { method := ⟨0, 0⟩, args := #[] }]
def about1 : State := aboutOver below0
def p0 : Program := .bare "" "" ""
def e0 : Env := launch0.env 0 0 0
theorem w_frames : about1.frames = Frame.invoking theMethod args0 :: below0 := rfl
set_option maxRecDepth 65536 in
theorem w_args : argsFit about1.vm theMethod args0 = true := by decide +kernel
set_option maxRecDepth 65536 in
theorem w_heap : heapFits about1 = true := by decide +kernel
set_option maxRecDepth 65536 in
theorem w_runnable : about1.curStatus? = some .runnable := by decide +kernel
set_option maxRecDepth 65536 in
theorem w_alone : about1.alone = true := by decide +kernel
set_option maxRecDepth 65536 in
theorem w_named : about1.methodNamed? x = some theMethod := by decide +kernel
set_option maxRecDepth 65536 in
theorem w_hears : about1.hears theMethod below0 = true := by decide +kernel
set_option maxRecDepth 65536 in
theorem w_ripe : about1.ripe theMethod args0 below0 = true := by decide +kernel
theorem w_running : about1.status = .running := rfl
set_option maxRecDepth 65536 in
theorem w_room : about1.hasRoom e0.platform room_1 = true :=
  launch0.hasRoom_least _ room_1 (by decide +kernel) (by decide +kernel) (by decide +kernel) (by decide +kernel) (by decide +kernel) (by decide +kernel)
theorem allAtoms_all (ts : List Jvm.Cond) (a : Array Jvm.Value) (st : Jvm.State) : (allAtoms ts).before a st = ts.all (fun c => c.before a st) := by
  induction ts with
  | nil => rfl
  | cons c t ih =>
    show (Jvm.Cond.and c (allAtoms t)).before a st = _
    rw [Jvm.Cond.before_and, ih, List.all_cons]
def words1 : List Jvm.Cond := Jvm.Cond.code x code maxLocals ret :: tables_1
/-- a 'code' word, met by the world's own term for the bytes: nothing is compared byte by byte -/
theorem code_word {y : MethodName} {bytes : ByteArray} {mx : Nat} {rt : Option FieldType} {a : Array Value} {s : State} {m : MethodId} {meth : Method} {c : Code} (h1 : s.methodNamed? y = some m) (h2 : s.vm.method? m = some meth) (h3 : meth.code = some c) (h4 : c.code = bytes)
    (h5 : (c.maxLocals == mx && c.exceptionTable.isEmpty && decide (c.maxStack ≤ mostOperands) && decide (meth.sig.returnType = rt) && !meth.locks && decide (parseMethodDescriptor y.desc = some meth.sig)) = true) : (Jvm.Cond.code y bytes mx rt).before a s = true := by
  simp only [Bool.and_eq_true, beq_iff_eq, Bool.not_eq_true', decide_eq_true_eq] at h5
  obtain ⟨⟨⟨⟨⟨g1, g2⟩, g3⟩, g4⟩, g5⟩, g6⟩ := h5
  simp [Cond.before, Cond.holds, Cond.value, h1, h2, h3, h4, g1, g2, g3, g4, g5, g6]
def isCode : Jvm.Cond → Bool
  | .code _ _ _ _ => true
  | _ => false
theorem all_split {L : List Jvm.Cond} {P : Jvm.Cond → Bool} (h1 : L.all (fun c => isCode c || P c) = true) (h2 : ∀ c ∈ L.filter isCode, P c = true) : L.all P = true := by
  refine List.all_eq_true.mpr fun c hc => ?_
  have h := List.all_eq_true.mp h1 c hc
  rcases Bool.eq_false_or_eq_true (isCode c) with hi | hi
  · exact h2 c (List.mem_filter.mpr ⟨hc, hi⟩)
  · simpa [hi] using h
set_option maxRecDepth 65536 in
theorem w_c0 : (Jvm.Cond.code x code maxLocals ret).before args0 about1 = true := code_word (m := ⟨1, 1⟩) (meth := k1m1) (c := k1c1) (by decide +kernel) rfl rfl rfl (by decide +kernel)
set_option maxRecDepth 65536 in
theorem w_c1 : (Jvm.Cond.code ({ cls := "com/example/libgfg/libgfg/automaton/LetterSets", name := "<init>", desc := "(ILjava/lang/String;)V" } : Jvm.MethodName) prog_13_method_1_code (3 : Nat) (Option.none : Option Jvm.ClassFile.FieldType)).before args0 about1 = true := code_word (m := ⟨2, 0⟩) (meth := k2m0) (c := k2c0) (by decide +kernel) rfl rfl rfl (by decide +kernel)
set_option maxRecDepth 65536 in
theorem w_c2 : (Jvm.Cond.code ({ cls := "java/lang/Object", name := "<init>", desc := "()V" } : Jvm.MethodName) object_method_1_code (1 : Nat) (Option.none : Option Jvm.ClassFile.FieldType)).before args0 about1 = true := code_word (m := ⟨0, 0⟩) (meth := k0m0) (c := k0c0) (by decide +kernel) rfl rfl rfl (by decide +kernel)
set_option maxRecDepth 65536 in
theorem w_c3 : (Jvm.Cond.code ({ cls := "com/example/libgfg/libgfg/automaton/LetterSets", name := "emptyCache", desc := "(I)[J" } : Jvm.MethodName) prog_13_method_24_code (2 : Nat) (Option.some (Jvm.ClassFile.FieldType.array Jvm.ClassFile.FieldType.long))).before args0 about1 = true := code_word (m := ⟨2, 18⟩) (meth := k2m18) (c := k2c18) (by decide +kernel) rfl rfl rfl (by decide +kernel)
set_option maxRecDepth 65536 in
theorem w_c4 : (Jvm.Cond.code ({ cls := "java/util/Arrays", name := "fill", desc := "([JJ)V" } : Jvm.MethodName) jdk_65_method_101_code (5 : Nat) (Option.none : Option Jvm.ClassFile.FieldType)).before args0 about1 = true := code_word (m := ⟨9, 1⟩) (meth := k9m1) (c := k9c1) (by decide +kernel) rfl rfl rfl (by decide +kernel)
set_option maxRecDepth 65536 in
theorem w_c5 : (Jvm.Cond.code ({ cls := "com/example/libgfg/libgfg/automaton/LetterSets", name := "proposition", desc := "(I)I" } : Jvm.MethodName) prog_13_method_2_code (2 : Nat) (Option.some Jvm.ClassFile.FieldType.int)).before args0 about1 = true := code_word (m := ⟨2, 1⟩) (meth := k2m1) (c := k2c1) (by decide +kernel) rfl rfl rfl (by decide +kernel)
set_option maxRecDepth 65536 in
theorem w_c6 : (Jvm.Cond.code ({ cls := "com/example/libgfg/libgfg/automaton/LetterSets", name := "node", desc := "(III)I" } : Jvm.MethodName) prog_13_method_14_code (6 : Nat) (Option.some Jvm.ClassFile.FieldType.int)).before args0 about1 = true := code_word (m := ⟨2, 9⟩) (meth := k2m9) (c := k2c9) (by decide +kernel) rfl rfl rfl (by decide +kernel)
set_option maxRecDepth 65536 in
theorem w_c7 : (Jvm.Cond.code ({ cls := "com/example/libgfg/libgfg/automaton/LetterSets", name := "tableSlot", desc := "(III)I" } : Jvm.MethodName) prog_13_method_21_code (4 : Nat) (Option.some Jvm.ClassFile.FieldType.int)).before args0 about1 = true := code_word (m := ⟨2, 15⟩) (meth := k2m15) (c := k2c15) (by decide +kernel) rfl rfl rfl (by decide +kernel)
set_option maxRecDepth 65536 in
theorem w_c8 : (Jvm.Cond.code ({ cls := "com/example/libgfg/libgfg/automaton/LetterSets", name := "pack", desc := "(III)J" } : Jvm.MethodName) prog_13_method_22_code (3 : Nat) (Option.some Jvm.ClassFile.FieldType.long)).before args0 about1 = true := code_word (m := ⟨2, 16⟩) (meth := k2m16) (c := k2c16) (by decide +kernel) rfl rfl rfl (by decide +kernel)
set_option maxRecDepth 65536 in
theorem w_c9 : (Jvm.Cond.code ({ cls := "com/example/libgfg/libgfg/automaton/LetterSets", name := "mix", desc := "(J)J" } : Jvm.MethodName) prog_13_method_23_code (4 : Nat) (Option.some Jvm.ClassFile.FieldType.long)).before args0 about1 = true := code_word (m := ⟨2, 17⟩) (meth := k2m17) (c := k2c17) (by decide +kernel) rfl rfl rfl (by decide +kernel)
set_option maxRecDepth 65536 in
theorem w_c10 : (Jvm.Cond.code ({ cls := "com/example/libgfg/libgfg/automaton/LetterSets", name := "add", desc := "(IIII)I" } : Jvm.MethodName) prog_13_method_16_code (8 : Nat) (Option.some Jvm.ClassFile.FieldType.int)).before args0 about1 = true := code_word (m := ⟨2, 11⟩) (meth := k2m11) (c := k2c11) (by decide +kernel) rfl rfl rfl (by decide +kernel)
set_option maxRecDepth 65536 in
theorem w_c11 : (Jvm.Cond.code ({ cls := "com/example/libgfg/libgfg/automaton/LetterSets", name := "holds", desc := "(IIII)Z" } : Jvm.MethodName) prog_13_method_15_code (5 : Nat) (Option.some Jvm.ClassFile.FieldType.boolean)).before args0 about1 = true := code_word (m := ⟨2, 10⟩) (meth := k2m10) (c := k2c10) (by decide +kernel) rfl rfl rfl (by decide +kernel)
set_option maxRecDepth 65536 in
theorem w_c12 : (Jvm.Cond.code ({ cls := "com/example/libgfg/libgfg/automaton/LetterSets", name := "not", desc := "(I)I" } : Jvm.MethodName) prog_13_method_5_code (5 : Nat) (Option.some Jvm.ClassFile.FieldType.int)).before args0 about1 = true := code_word (m := ⟨2, 4⟩) (meth := k2m4) (c := k2c4) (by decide +kernel) rfl rfl rfl (by decide +kernel)
set_option maxRecDepth 65536 in
theorem w_c13 : (Jvm.Cond.code ({ cls := "com/example/libgfg/libgfg/automaton/LetterSets", name := "cached", desc := "(J)I" } : Jvm.MethodName) prog_13_method_18_code (4 : Nat) (Option.some Jvm.ClassFile.FieldType.int)).before args0 about1 = true := code_word (m := ⟨2, 12⟩) (meth := k2m12) (c := k2c12) (by decide +kernel) rfl rfl rfl (by decide +kernel)
set_option maxRecDepth 65536 in
theorem w_c14 : (Jvm.Cond.code ({ cls := "com/example/libgfg/libgfg/automaton/LetterSets", name := "cacheSlot", desc := "(J)I" } : Jvm.MethodName) prog_13_method_20_code (3 : Nat) (Option.some Jvm.ClassFile.FieldType.int)).before args0 about1 = true := code_word (m := ⟨2, 14⟩) (meth := k2m14) (c := k2c14) (by decide +kernel) rfl rfl rfl (by decide +kernel)
set_option maxRecDepth 65536 in
theorem w_c15 : (Jvm.Cond.code ({ cls := "com/example/libgfg/libgfg/automaton/LetterSets", name := "remember", desc := "(JI)V" } : Jvm.MethodName) prog_13_method_19_code (5 : Nat) (Option.none : Option Jvm.ClassFile.FieldType)).before args0 about1 = true := code_word (m := ⟨2, 13⟩) (meth := k2m13) (c := k2c13) (by decide +kernel) rfl rfl rfl (by decide +kernel)
set_option maxRecDepth 65536 in
theorem w_c16 : (Jvm.Cond.code ({ cls := "com/example/libgfg/libgfg/automaton/LetterSets", name := "or", desc := "(II)I" } : Jvm.MethodName) prog_13_method_4_code (3 : Nat) (Option.some Jvm.ClassFile.FieldType.int)).before args0 about1 = true := code_word (m := ⟨2, 3⟩) (meth := k2m3) (c := k2c3) (by decide +kernel) rfl rfl rfl (by decide +kernel)
set_option maxRecDepth 65536 in
theorem w_c17 : (Jvm.Cond.code ({ cls := "com/example/libgfg/libgfg/automaton/LetterSets", name := "combine", desc := "(III)I" } : Jvm.MethodName) prog_13_method_11_code (14 : Nat) (Option.some Jvm.ClassFile.FieldType.int)).before args0 about1 = true := code_word (m := ⟨2, 7⟩) (meth := k2m7) (c := k2c7) (by decide +kernel) rfl rfl rfl (by decide +kernel)
set_option maxRecDepth 65536 in
theorem w_c18 : (Jvm.Cond.code ({ cls := "java/lang/Math", name := "min", desc := "(II)I" } : Jvm.MethodName) jdk_29_method_69_code (2 : Nat) (Option.some Jvm.ClassFile.FieldType.int)).before args0 about1 = true := code_word (m := ⟨12, 2⟩) (meth := k12m2) (c := k12c2) (by decide +kernel) rfl rfl rfl (by decide +kernel)
set_option maxRecDepth 65536 in
theorem w_c19 : (Jvm.Cond.code ({ cls := "java/lang/Math", name := "max", desc := "(II)I" } : Jvm.MethodName) jdk_29_method_65_code (2 : Nat) (Option.some Jvm.ClassFile.FieldType.int)).before args0 about1 = true := code_word (m := ⟨12, 1⟩) (meth := k12m1) (c := k12c1) (by decide +kernel) rfl rfl rfl (by decide +kernel)
set_option maxRecDepth 65536 in
theorem w_c20 : (Jvm.Cond.code ({ cls := "com/example/libgfg/libgfg/automaton/LetterSets", name := "branch", desc := "(IIZ)I" } : Jvm.MethodName) prog_13_method_12_code (5 : Nat) (Option.some Jvm.ClassFile.FieldType.int)).before args0 about1 = true := code_word (m := ⟨2, 8⟩) (meth := k2m8) (c := k2c8) (by decide +kernel) rfl rfl rfl (by decide +kernel)
set_option maxRecDepth 65536 in
theorem w_c21 : (Jvm.Cond.code ({ cls := "com/example/libgfg/libgfg/automaton/LetterSets", name := "and", desc := "(II)I" } : Jvm.MethodName) prog_13_method_3_code (3 : Nat) (Option.some Jvm.ClassFile.FieldType.int)).before args0 about1 = true := code_word (m := ⟨2, 2⟩) (meth := k2m2) (c := k2c2) (by decide +kernel) rfl rfl rfl (by decide +kernel)
set_option maxRecDepth 65536 in
theorem w_c22 : (Jvm.Cond.code ({ cls := "com/example/libgfg/libgfg/automaton/LetterSets", name := "smallest", desc := "(I)J" } : Jvm.MethodName) prog_13_method_8_code (5 : Nat) (Option.some Jvm.ClassFile.FieldType.long)).before args0 about1 = true := code_word (m := ⟨2, 6⟩) (meth := k2m6) (c := k2c6) (by decide +kernel) rfl rfl rfl (by decide +kernel)
set_option maxRecDepth 65536 in
theorem w_c23 : (Jvm.Cond.code ({ cls := "com/example/libgfg/libgfg/automaton/LetterSets", name := "holds", desc := "(IJ)Z" } : Jvm.MethodName) prog_13_method_7_code (5 : Nat) (Option.some Jvm.ClassFile.FieldType.boolean)).before args0 about1 = true := code_word (m := ⟨2, 5⟩) (meth := k2m5) (c := k2c5) (by decide +kernel) rfl rfl rfl (by decide +kernel)
def codes1 : List Jvm.Cond := [Jvm.Cond.code x code maxLocals ret, Jvm.Cond.code ({ cls := "com/example/libgfg/libgfg/automaton/LetterSets", name := "<init>", desc := "(ILjava/lang/String;)V" } : Jvm.MethodName) prog_13_method_1_code (3 : Nat) (Option.none : Option Jvm.ClassFile.FieldType), Jvm.Cond.code ({ cls := "java/lang/Object", name := "<init>", desc := "()V" } : Jvm.MethodName) object_method_1_code (1 : Nat) (Option.none : Option Jvm.ClassFile.FieldType), Jvm.Cond.code ({ cls := "com/example/libgfg/libgfg/automaton/LetterSets", name := "emptyCache", desc := "(I)[J" } : Jvm.MethodName) prog_13_method_24_code (2 : Nat) (Option.some (Jvm.ClassFile.FieldType.array Jvm.ClassFile.FieldType.long)), Jvm.Cond.code ({ cls := "java/util/Arrays", name := "fill", desc := "([JJ)V" } : Jvm.MethodName) jdk_65_method_101_code (5 : Nat) (Option.none : Option Jvm.ClassFile.FieldType), Jvm.Cond.code ({ cls := "com/example/libgfg/libgfg/automaton/LetterSets", name := "proposition", desc := "(I)I" } : Jvm.MethodName) prog_13_method_2_code (2 : Nat) (Option.some Jvm.ClassFile.FieldType.int), Jvm.Cond.code ({ cls := "com/example/libgfg/libgfg/automaton/LetterSets", name := "node", desc := "(III)I" } : Jvm.MethodName) prog_13_method_14_code (6 : Nat) (Option.some Jvm.ClassFile.FieldType.int), Jvm.Cond.code ({ cls := "com/example/libgfg/libgfg/automaton/LetterSets", name := "tableSlot", desc := "(III)I" } : Jvm.MethodName) prog_13_method_21_code (4 : Nat) (Option.some Jvm.ClassFile.FieldType.int), Jvm.Cond.code ({ cls := "com/example/libgfg/libgfg/automaton/LetterSets", name := "pack", desc := "(III)J" } : Jvm.MethodName) prog_13_method_22_code (3 : Nat) (Option.some Jvm.ClassFile.FieldType.long), Jvm.Cond.code ({ cls := "com/example/libgfg/libgfg/automaton/LetterSets", name := "mix", desc := "(J)J" } : Jvm.MethodName) prog_13_method_23_code (4 : Nat) (Option.some Jvm.ClassFile.FieldType.long), Jvm.Cond.code ({ cls := "com/example/libgfg/libgfg/automaton/LetterSets", name := "add", desc := "(IIII)I" } : Jvm.MethodName) prog_13_method_16_code (8 : Nat) (Option.some Jvm.ClassFile.FieldType.int), Jvm.Cond.code ({ cls := "com/example/libgfg/libgfg/automaton/LetterSets", name := "holds", desc := "(IIII)Z" } : Jvm.MethodName) prog_13_method_15_code (5 : Nat) (Option.some Jvm.ClassFile.FieldType.boolean), Jvm.Cond.code ({ cls := "com/example/libgfg/libgfg/automaton/LetterSets", name := "not", desc := "(I)I" } : Jvm.MethodName) prog_13_method_5_code (5 : Nat) (Option.some Jvm.ClassFile.FieldType.int), Jvm.Cond.code ({ cls := "com/example/libgfg/libgfg/automaton/LetterSets", name := "cached", desc := "(J)I" } : Jvm.MethodName) prog_13_method_18_code (4 : Nat) (Option.some Jvm.ClassFile.FieldType.int), Jvm.Cond.code ({ cls := "com/example/libgfg/libgfg/automaton/LetterSets", name := "cacheSlot", desc := "(J)I" } : Jvm.MethodName) prog_13_method_20_code (3 : Nat) (Option.some Jvm.ClassFile.FieldType.int), Jvm.Cond.code ({ cls := "com/example/libgfg/libgfg/automaton/LetterSets", name := "remember", desc := "(JI)V" } : Jvm.MethodName) prog_13_method_19_code (5 : Nat) (Option.none : Option Jvm.ClassFile.FieldType), Jvm.Cond.code ({ cls := "com/example/libgfg/libgfg/automaton/LetterSets", name := "or", desc := "(II)I" } : Jvm.MethodName) prog_13_method_4_code (3 : Nat) (Option.some Jvm.ClassFile.FieldType.int), Jvm.Cond.code ({ cls := "com/example/libgfg/libgfg/automaton/LetterSets", name := "combine", desc := "(III)I" } : Jvm.MethodName) prog_13_method_11_code (14 : Nat) (Option.some Jvm.ClassFile.FieldType.int), Jvm.Cond.code ({ cls := "java/lang/Math", name := "min", desc := "(II)I" } : Jvm.MethodName) jdk_29_method_69_code (2 : Nat) (Option.some Jvm.ClassFile.FieldType.int), Jvm.Cond.code ({ cls := "java/lang/Math", name := "max", desc := "(II)I" } : Jvm.MethodName) jdk_29_method_65_code (2 : Nat) (Option.some Jvm.ClassFile.FieldType.int), Jvm.Cond.code ({ cls := "com/example/libgfg/libgfg/automaton/LetterSets", name := "branch", desc := "(IIZ)I" } : Jvm.MethodName) prog_13_method_12_code (5 : Nat) (Option.some Jvm.ClassFile.FieldType.int), Jvm.Cond.code ({ cls := "com/example/libgfg/libgfg/automaton/LetterSets", name := "and", desc := "(II)I" } : Jvm.MethodName) prog_13_method_3_code (3 : Nat) (Option.some Jvm.ClassFile.FieldType.int), Jvm.Cond.code ({ cls := "com/example/libgfg/libgfg/automaton/LetterSets", name := "smallest", desc := "(I)J" } : Jvm.MethodName) prog_13_method_8_code (5 : Nat) (Option.some Jvm.ClassFile.FieldType.long), Jvm.Cond.code ({ cls := "com/example/libgfg/libgfg/automaton/LetterSets", name := "holds", desc := "(IJ)Z" } : Jvm.MethodName) prog_13_method_7_code (5 : Nat) (Option.some Jvm.ClassFile.FieldType.boolean)]
set_option maxRecDepth 65536 in
theorem codes_eq : words1.filter isCode = codes1 := rfl
theorem w_codes : ∀ c ∈ words1.filter isCode, c.before args0 about1 = true := by
  rw [codes_eq]
  intro c hc
  simp only [codes1, List.mem_cons, List.not_mem_nil, or_false] at hc
  rcases hc with rfl | rfl | rfl | rfl | rfl | rfl | rfl | rfl | rfl | rfl | rfl | rfl | rfl | rfl | rfl | rfl | rfl | rfl | rfl | rfl | rfl | rfl | rfl | rfl
  · exact w_c0
  · exact w_c1
  · exact w_c2
  · exact w_c3
  · exact w_c4
  · exact w_c5
  · exact w_c6
  · exact w_c7
  · exact w_c8
  · exact w_c9
  · exact w_c10
  · exact w_c11
  · exact w_c12
  · exact w_c13
  · exact w_c14
  · exact w_c15
  · exact w_c16
  · exact w_c17
  · exact w_c18
  · exact w_c19
  · exact w_c20
  · exact w_c21
  · exact w_c22
  · exact w_c23
set_option maxRecDepth 65536 in
theorem w_t1 : (words1.take 24).all (fun c => isCode c || c.before args0 about1) = true := by decide +kernel
set_option maxRecDepth 65536 in
theorem w_t2 : ((words1.drop 24).take 24).all (fun c => isCode c || c.before args0 about1) = true := by decide +kernel
set_option maxRecDepth 65536 in
theorem w_t3 : (((words1.drop 24).drop 24).take 24).all (fun c => isCode c || c.before args0 about1) = true := by decide +kernel
set_option maxRecDepth 65536 in
theorem w_t4 : ((((words1.drop 24).drop 24).drop 24).take 24).all (fun c => isCode c || c.before args0 about1) = true := by decide +kernel
set_option maxRecDepth 65536 in
theorem w_t5 : (((((words1.drop 24).drop 24).drop 24).drop 24).take 24).all (fun c => isCode c || c.before args0 about1) = true := by decide +kernel
set_option maxRecDepth 65536 in
theorem w_t6 : (((((words1.drop 24).drop 24).drop 24).drop 24).drop 24).all (fun c => isCode c || c.before args0 about1) = true := by decide +kernel
theorem w_tables : (allAtoms (Jvm.Cond.code x code maxLocals ret :: tables_1)).before args0 about1 = true := by
  rw [allAtoms_all]
  show words1.all (fun c => c.before args0 about1) = true
  refine all_split ?_ w_codes
  rw [← List.take_append_drop 24 words1, List.all_append, w_t1, ← List.take_append_drop 24 (words1.drop 24), List.all_append, w_t2, ← List.take_append_drop 24 ((words1.drop 24).drop 24), List.all_append, w_t3, ← List.take_append_drop 24 (((words1.drop 24).drop 24).drop 24), List.all_append, w_t4, ← List.take_append_drop 24 ((((words1.drop 24).drop 24).drop 24).drop 24), List.all_append, w_t5, w_t6]
  rfl
set_option maxRecDepth 65536 in
theorem w_case : (Jvm.Cond.and given_1 narrow_1).before args0 about1 = true := by decide +kernel
theorem w_applies : (headSpec (Jvm.Cond.code x code maxLocals ret :: tables_1) room_1).applies x e0.platform about1 = true :=
  (Spec.applies_iff w_frames).mpr ⟨w_running, w_runnable, w_alone, w_named, w_hears, w_ripe, w_room, w_tables⟩
theorem atStart : AtStart classFile x code maxLocals ret World_1 tables_1 room_1 Calls_1 rest_1 Pre_1 launch0 p0 e0 about1 theMethod args0 below0 :=
  ⟨lists_1, trivial, launch0.admits_env _ _ _, launch0.least_env, fairChoices_fair.cas, fairChoices_fair.clock, w_frames, w_args, w_heap, w_applies, trivial, trivial, w_case⟩
end start1
theorem witness_1 : WitnessClaimed_1 := ⟨start1.p0, start1.e0, start1.about1, start1.theMethod, start1.args0, start1.below0, start1.atStart⟩
end Jvm.Pilot.@@N@@
