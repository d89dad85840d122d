import JvmDerived
import JvmDerived.Pilot.@@N@@Statement
import JvmDerived.Pilot.@@N@@Code
set_option linter.unusedVariables false
set_option linter.unusedSimpArgs false
namespace Jvm.OwnK
open Sem ClassFile Op Lib Jvm.Stand Jvm.Free Jvm.LawKit Jvm.RoadKit
def Ctx : Type := Program × Launch × Env × State × MethodId × Array Value × List Frame × Method × Code
def Ctx.p (K : Ctx) : Program := K.1
def Ctx.l (K : Ctx) : Launch := K.2.1
def Ctx.e (K : Ctx) : Env := K.2.2.1
def Ctx.s (K : Ctx) : State := K.2.2.2.1
def Ctx.m (K : Ctx) : MethodId := K.2.2.2.2.1
def Ctx.args (K : Ctx) : Array Value := K.2.2.2.2.2.1
def Ctx.below (K : Ctx) : List Frame := K.2.2.2.2.2.2.1
def Ctx.meth (K : Ctx) : Method := K.2.2.2.2.2.2.2.1
def Ctx.c (K : Ctx) : Code := K.2.2.2.2.2.2.2.2
/-- from here the run ends by a return that answers Q -/
def Go (K : Ctx) (R : Room) (n0 : Nat) (Q : Option Value → Heap → Prop) (T : State) (pc : Nat) (L : Array Slot) (st : List Value) : Prop :=
  ∃ (s₂ : State) (o : Outcome), Steps K.p.tables K.e K.below (T.setTop (mkF K.m pc L st)) s₂ ∧ s₂.status = .running ∧ Ended s₂ K.below o ∧
    ∃ (v : Option Value) (Lc : List Loc), o = .returned v ∧ (Q v s₂.heap ∧ Fr n0 Lc) ∧ FrameEnd K.s o s₂ Lc R.cells R.slots
/-- where the run stands -/
def St (K : Ctx) (Z : State) (R : Room) (y : MethodName) (bytes : ByteArray) (maxL : Nat) (ret : Option FieldType) (n0 : Nat) (T : State) (h : Heap) (cells slots : Nat) : Prop :=
  (∃ locs, Stand K.p K.l K.e R K.s K.m K.args K.below K.meth K.c T locs cells slots ∧ Fr n0 locs) ∧ T.heap = h ∧ n0 ≤ K.s.heap.size ∧ K.p.tables.exec = Jvm.exec ∧ Z.Warmed39 K.s.vm ∧ K.c.code = bytes ∧ K.c.maxLocals = maxL ∧
    K.meth.sig.returnType = ret ∧ K.meth.locks = false ∧ K.s.vm.findClass y.cls = some K.m.cls ∧ K.meth.name = y.name
/-- what a body does, called with the arguments as' at the heap h -/
def Ctr (Z : State) (n0 : Nat) (y : MethodName) (bytes : ByteArray) (maxL : Nat) (ret : Option FieldType) (R : Room) (as' : List Value) (h : Heap) (Q : Option Value → Heap → Prop) : Prop :=
  ∀ (l : Launch) (ws : List Jvm.Cond), MetFree l y (head1 (Jvm.Cond.code y bytes maxL ret :: ws) R) (fun a U => a = as'.toArray ∧ Z.Warmed39 U.vm ∧ U.heap = h) (fun _ _ _ _ _ => True)
    (fun _ U o U' => ∃ v L, o = .returned v ∧ (Q v U'.heap ∧ Fr n0 L) ∧ FrameEnd U o U' L R.cells R.slots)
section Kit
variable {K : Ctx} {Z : State} {R : Room} {y : MethodName} {bytes : ByteArray} {maxL : Nat} {ret : Option FieldType} {n0 : Nat} {T : State} {h : Heap} {cl sl : Nat} {Q : Option Value → Heap → Prop} {pc pc' : Nat} {L L' : Array Slot} {st : List Value} {a0 : Array Value}
theorem Go.step {T' : State} {st' : List Value} (hs : ∀ target, Steps K.p.tables K.e K.below (T'.setTop (mkF K.m pc' L' st')) target → Steps K.p.tables K.e K.below (T.setTop (mkF K.m pc L st)) target) (k : Go K R n0 Q T' pc' L' st') : Go K R n0 Q T pc L st := by
  obtain ⟨s₂, o, h1, r⟩ := k
  exact ⟨s₂, o, hs _ h1, r⟩
theorem St.size (S : St K Z R y bytes maxL ret n0 T h cl sl) : n0 ≤ h.size := by
  obtain ⟨⟨locs, X, hF⟩, e0, hn, -⟩ := S
  have q : K.s.heap.size ≤ T.heap.size := X.same.2.1
  rw [← e0]; exact Nat.le_trans hn q
theorem St.more (S : St K Z R y bytes maxL ret n0 T h cl sl) {cl' sl' : Nat} (h1 : cl ≤ cl') (h2 : sl ≤ sl') : St K Z R y bytes maxL ret n0 T h cl' sl' := by
  obtain ⟨⟨locs, X, hF⟩, r⟩ := S
  exact ⟨⟨locs, X.more h1 h2, hF⟩, r⟩
theorem Ctr.of {as' : List Value} (hpl : plainFor y = true) (hn : n0 ≤ h.size) (hef : ∀ m, entryFrame m as'.toArray maxL = mkF m 0 L []) (body : ∀ (K : Ctx) (T : State), St K Z R y bytes maxL ret n0 T h 0 0 → Go K R n0 Q T 0 L []) : Ctr Z n0 y bytes maxL ret R as' h Q := by
  intro l ws
  refine MetFree.of_bodySF hpl hisR ?_
  intro p e s m args below meth c s₁ Bd hml0 hP hK
  obtain ⟨rfl, hZ, hh⟩ := hP
  have e0 : s₁.heap = h := by rw [← hh, Bd.state]; rfl
  have X0 : Stand p l e R s m as'.toArray below meth c s₁ [] 0 0 := Stand.of_body Bd
  obtain ⟨s₂, o, h1, h2, h3, h4⟩ := body (p, l, e, s, m, as'.toArray, below, meth, c) s₁ ⟨⟨[], X0, Fr.nil _⟩, e0, by rw [← hh] at hn; exact hn, Bd.exec, hZ, Bd.bytes, hml0, Bd.returns, BodyLoose.notSynchronized Bd, findClass_of_methodNamed Bd.named, (name_of_methodNamed Bd.named Bd.method).1⟩
  exact ⟨s₂, o, castTop (hef m) h1, h2, h3, h4⟩
theorem Ctr.imp {as' : List Value} {Q' : Option Value → Heap → Prop} (C : Ctr Z n0 y bytes maxL ret R as' h Q) (hq : ∀ v h', Q v h' → Q' v h') : Ctr Z n0 y bytes maxL ret R as' h Q' := by
  intro l ws p e ha hc hk s m args below hf happ hP hK
  obtain ⟨n, o, h1, h2, h3, v, L, e1, ⟨e2, e3⟩, e4⟩ := C l ws p e ha hc hk s m args below hf happ hP hK
  exact ⟨n, o, h1, h2, h3, v, L, e1, ⟨hq _ _ e2, e3⟩, e4⟩

theorem px_iload (S : St K Z R y bytes maxL ret n0 T h cl sl) {k : Nat} {v : Int32} (hd : decode bytes pc = .ok (.iload k, 2)) (hp : pc + 2 = pc') (hl : L[k]? = some (.val (.int v))) (k : Go K R n0 Q T pc' L (.int v :: st)) : Go K R n0 Q T pc L st := by
  subst hp
  obtain ⟨⟨locs, X, hF⟩, e0, hn0, hx, hZ, hby, hml, hret, hlk, hown, hnm⟩ := S
  exact Go.step (fun _ t => XS.iload X.here hx rfl (hb hby hd) hl t) k
theorem px_iloadN (S : St K Z R y bytes maxL ret n0 T h cl sl) {k : Fin 4} {v : Int32} (hd : decode bytes pc = .ok (.iload_n k, 1)) (hp : pc + 1 = pc') (hl : L[k.val]? = some (.val (.int v))) (k : Go K R n0 Q T pc' L (.int v :: st)) : Go K R n0 Q T pc L st := by
  subst hp
  obtain ⟨⟨locs, X, hF⟩, e0, hn0, hx, hZ, hby, hml, hret, hlk, hown, hnm⟩ := S
  exact Go.step (fun _ t => XS.iloadN X.here hx rfl (hb hby hd) hl t) k
theorem px_lload (S : St K Z R y bytes maxL ret n0 T h cl sl) {k : Nat} {v : Int64} (hd : decode bytes pc = .ok (.lload k, 2)) (hp : pc + 2 = pc') (hl : L[k]? = some (.val (.long v))) (k : Go K R n0 Q T pc' L (.long v :: st)) : Go K R n0 Q T pc L st := by
  subst hp
  obtain ⟨⟨locs, X, hF⟩, e0, hn0, hx, hZ, hby, hml, hret, hlk, hown, hnm⟩ := S
  exact Go.step (fun _ t => XS.lload X.here hx rfl (hb hby hd) hl t) k
theorem px_lloadN (S : St K Z R y bytes maxL ret n0 T h cl sl) {k : Fin 4} {v : Int64} (hd : decode bytes pc = .ok (.lload_n k, 1)) (hp : pc + 1 = pc') (hl : L[k.val]? = some (.val (.long v))) (k : Go K R n0 Q T pc' L (.long v :: st)) : Go K R n0 Q T pc L st := by
  subst hp
  obtain ⟨⟨locs, X, hF⟩, e0, hn0, hx, hZ, hby, hml, hret, hlk, hown, hnm⟩ := S
  exact Go.step (fun _ t => XS.lloadN X.here hx rfl (hb hby hd) hl t) k
theorem px_aload (S : St K Z R y bytes maxL ret n0 T h cl sl) {k : Nat} {v : Value} (hd : decode bytes pc = .ok (.aload k, 2)) (hp : pc + 2 = pc') (hl : L[k]? = some (.val v)) (hv : v.isRef = true) (k : Go K R n0 Q T pc' L (v :: st)) : Go K R n0 Q T pc L st := by
  subst hp
  obtain ⟨⟨locs, X, hF⟩, e0, hn0, hx, hZ, hby, hml, hret, hlk, hown, hnm⟩ := S
  exact Go.step (fun _ t => XS.aload X.here hx rfl (hb hby hd) hl hv t) k
theorem px_aloadN (S : St K Z R y bytes maxL ret n0 T h cl sl) {k : Fin 4} {v : Value} (hd : decode bytes pc = .ok (.aload_n k, 1)) (hp : pc + 1 = pc') (hl : L[k.val]? = some (.val v)) (hv : v.isRef = true) (k : Go K R n0 Q T pc' L (v :: st)) : Go K R n0 Q T pc L st := by
  subst hp
  obtain ⟨⟨locs, X, hF⟩, e0, hn0, hx, hZ, hby, hml, hret, hlk, hown, hnm⟩ := S
  exact Go.step (fun _ t => XS.aloadN X.here hx rfl (hb hby hd) hl hv t) k
theorem px_istore (S : St K Z R y bytes maxL ret n0 T h cl sl) {k : Nat} {v : Int32} (hd : decode bytes pc = .ok (.istore k, 2)) (hp : pc + 2 = pc') (hl : storeLocals L k (.int v) = some L') (k : Go K R n0 Q T pc' L' st) : Go K R n0 Q T pc L (.int v :: st) := by
  subst hp
  obtain ⟨⟨locs, X, hF⟩, e0, hn0, hx, hZ, hby, hml, hret, hlk, hown, hnm⟩ := S
  exact Go.step (fun _ t => XS.istore X.here hx rfl (hb hby hd) rfl hl t) k
theorem px_istoreN (S : St K Z R y bytes maxL ret n0 T h cl sl) {k : Fin 4} {v : Int32} (hd : decode bytes pc = .ok (.istore_n k, 1)) (hp : pc + 1 = pc') (hl : storeLocals L k.val (.int v) = some L') (k : Go K R n0 Q T pc' L' st) : Go K R n0 Q T pc L (.int v :: st) := by
  subst hp
  obtain ⟨⟨locs, X, hF⟩, e0, hn0, hx, hZ, hby, hml, hret, hlk, hown, hnm⟩ := S
  exact Go.step (fun _ t => XS.istoreN X.here hx rfl (hb hby hd) rfl hl t) k
theorem px_lstore (S : St K Z R y bytes maxL ret n0 T h cl sl) {k : Nat} {v : Int64} (hd : decode bytes pc = .ok (.lstore k, 2)) (hp : pc + 2 = pc') (hl : storeLocals L k (.long v) = some L') (k : Go K R n0 Q T pc' L' st) : Go K R n0 Q T pc L (.long v :: st) := by
  subst hp
  obtain ⟨⟨locs, X, hF⟩, e0, hn0, hx, hZ, hby, hml, hret, hlk, hown, hnm⟩ := S
  exact Go.step (fun _ t => XS.lstore X.here hx rfl (hb hby hd) rfl hl t) k
theorem px_lstoreN (S : St K Z R y bytes maxL ret n0 T h cl sl) {k : Fin 4} {v : Int64} (hd : decode bytes pc = .ok (.lstore_n k, 1)) (hp : pc + 1 = pc') (hl : storeLocals L k.val (.long v) = some L') (k : Go K R n0 Q T pc' L' st) : Go K R n0 Q T pc L (.long v :: st) := by
  subst hp
  obtain ⟨⟨locs, X, hF⟩, e0, hn0, hx, hZ, hby, hml, hret, hlk, hown, hnm⟩ := S
  exact Go.step (fun _ t => XS.lstoreN X.here hx rfl (hb hby hd) rfl hl t) k
theorem px_astore (S : St K Z R y bytes maxL ret n0 T h cl sl) {k : Nat} {v : Value} (hd : decode bytes pc = .ok (.astore k, 2)) (hp : pc + 2 = pc') (hv : v.isRef = true) (hl : storeLocals L k v = some L') (k : Go K R n0 Q T pc' L' st) : Go K R n0 Q T pc L (v :: st) := by
  subst hp
  obtain ⟨⟨locs, X, hF⟩, e0, hn0, hx, hZ, hby, hml, hret, hlk, hown, hnm⟩ := S
  exact Go.step (fun _ t => XS.astore X.here hx rfl (hb hby hd) rfl hv hl t) k
theorem px_astoreN (S : St K Z R y bytes maxL ret n0 T h cl sl) {k : Fin 4} {v : Value} (hd : decode bytes pc = .ok (.astore_n k, 1)) (hp : pc + 1 = pc') (hv : v.isRef = true) (hl : storeLocals L k.val v = some L') (k : Go K R n0 Q T pc' L' st) : Go K R n0 Q T pc L (v :: st) := by
  subst hp
  obtain ⟨⟨locs, X, hF⟩, e0, hn0, hx, hZ, hby, hml, hret, hlk, hown, hnm⟩ := S
  exact Go.step (fun _ t => XS.astoreN X.here hx rfl (hb hby hd) rfl hv hl t) k
theorem px_iconst (S : St K Z R y bytes maxL ret n0 T h cl sl) {i : Int} {v : Int32} (hd : decode bytes pc = .ok (.iconst i, 1)) (hp : pc + 1 = pc') (hv : Int32.ofInt i = v) (k : Go K R n0 Q T pc' L (.int v :: st)) : Go K R n0 Q T pc L st := by
  subst hp
  obtain ⟨⟨locs, X, hF⟩, e0, hn0, hx, hZ, hby, hml, hret, hlk, hown, hnm⟩ := S
  exact Go.step (fun _ t => XS.iconst X.here hx rfl (hb hby hd) (by rw [hv]; exact t)) k
theorem px_bipush (S : St K Z R y bytes maxL ret n0 T h cl sl) {i : Int} {v : Int32} (hd : decode bytes pc = .ok (.bipush i, 2)) (hp : pc + 2 = pc') (hv : (Int8.ofInt i).toInt32 = v) (k : Go K R n0 Q T pc' L (.int v :: st)) : Go K R n0 Q T pc L st := by
  subst hp
  obtain ⟨⟨locs, X, hF⟩, e0, hn0, hx, hZ, hby, hml, hret, hlk, hown, hnm⟩ := S
  exact Go.step (fun _ t => XS.bipush X.here hx rfl (hb hby hd) (by rw [hv]; exact t)) k
theorem px_sipush (S : St K Z R y bytes maxL ret n0 T h cl sl) {i : Int} {v : Int32} (hd : decode bytes pc = .ok (.sipush i, 3)) (hp : pc + 3 = pc') (hv : (Int16.ofInt i).toInt32 = v) (k : Go K R n0 Q T pc' L (.int v :: st)) : Go K R n0 Q T pc L st := by
  subst hp
  obtain ⟨⟨locs, X, hF⟩, e0, hn0, hx, hZ, hby, hml, hret, hlk, hown, hnm⟩ := S
  exact Go.step (fun _ t => XS.sipush X.here hx rfl (hb hby hd) (by rw [hv]; exact t)) k
theorem px_lconst (S : St K Z R y bytes maxL ret n0 T h cl sl) {i : Fin 2} {v : Int64} (hd : decode bytes pc = .ok (.lconst i, 1)) (hp : pc + 1 = pc') (hv : Int64.ofNat i = v) (k : Go K R n0 Q T pc' L (.long v :: st)) : Go K R n0 Q T pc L st := by
  subst hp
  obtain ⟨⟨locs, X, hF⟩, e0, hn0, hx, hZ, hby, hml, hret, hlk, hown, hnm⟩ := S
  exact Go.step (fun _ t => XS.lconst X.here hx rfl (hb hby hd) (by rw [hv]; exact t)) k
theorem px_aconstNull (S : St K Z R y bytes maxL ret n0 T h cl sl) (hd : decode bytes pc = .ok (.aconst_null, 1)) (hp : pc + 1 = pc') (k : Go K R n0 Q T pc' L (.null :: st)) : Go K R n0 Q T pc L st := by
  subst hp
  obtain ⟨⟨locs, X, hF⟩, e0, hn0, hx, hZ, hby, hml, hret, hlk, hown, hnm⟩ := S
  exact Go.step (fun _ t => XS.aconstNull X.here hx rfl (hb hby hd) t) k
theorem px_iadd (S : St K Z R y bytes maxL ret n0 T h cl sl) {u v : Int32} (hd : decode bytes pc = .ok (.iadd, 1)) (hp : pc + 1 = pc') (k : Go K R n0 Q T pc' L (.int (u + v) :: st)) : Go K R n0 Q T pc L (.int v :: .int u :: st) := by
  subst hp
  obtain ⟨⟨locs, X, hF⟩, e0, hn0, hx, hZ, hby, hml, hret, hlk, hown, hnm⟩ := S
  exact Go.step (fun _ t => XS.iadd X.here hx rfl (hb hby hd) rfl t) k
theorem px_ladd (S : St K Z R y bytes maxL ret n0 T h cl sl) {u v : Int64} (hd : decode bytes pc = .ok (.ladd, 1)) (hp : pc + 1 = pc') (k : Go K R n0 Q T pc' L (.long (u + v) :: st)) : Go K R n0 Q T pc L (.long v :: .long u :: st) := by
  subst hp
  obtain ⟨⟨locs, X, hF⟩, e0, hn0, hx, hZ, hby, hml, hret, hlk, hown, hnm⟩ := S
  exact Go.step (fun _ t => XS.ladd X.here hx rfl (hb hby hd) rfl t) k
theorem px_isub (S : St K Z R y bytes maxL ret n0 T h cl sl) {u v : Int32} (hd : decode bytes pc = .ok (.isub, 1)) (hp : pc + 1 = pc') (k : Go K R n0 Q T pc' L (.int (u - v) :: st)) : Go K R n0 Q T pc L (.int v :: .int u :: st) := by
  subst hp
  obtain ⟨⟨locs, X, hF⟩, e0, hn0, hx, hZ, hby, hml, hret, hlk, hown, hnm⟩ := S
  exact Go.step (fun _ t => XS.isub X.here hx rfl (hb hby hd) rfl t) k
theorem px_lsub (S : St K Z R y bytes maxL ret n0 T h cl sl) {u v : Int64} (hd : decode bytes pc = .ok (.lsub, 1)) (hp : pc + 1 = pc') (k : Go K R n0 Q T pc' L (.long (u - v) :: st)) : Go K R n0 Q T pc L (.long v :: .long u :: st) := by
  subst hp
  obtain ⟨⟨locs, X, hF⟩, e0, hn0, hx, hZ, hby, hml, hret, hlk, hown, hnm⟩ := S
  exact Go.step (fun _ t => XS.lsub X.here hx rfl (hb hby hd) rfl t) k
theorem px_imul (S : St K Z R y bytes maxL ret n0 T h cl sl) {u v : Int32} (hd : decode bytes pc = .ok (.imul, 1)) (hp : pc + 1 = pc') (k : Go K R n0 Q T pc' L (.int (u * v) :: st)) : Go K R n0 Q T pc L (.int v :: .int u :: st) := by
  subst hp
  obtain ⟨⟨locs, X, hF⟩, e0, hn0, hx, hZ, hby, hml, hret, hlk, hown, hnm⟩ := S
  exact Go.step (fun _ t => XS.imul X.here hx rfl (hb hby hd) rfl t) k
theorem px_lmul (S : St K Z R y bytes maxL ret n0 T h cl sl) {u v : Int64} (hd : decode bytes pc = .ok (.lmul, 1)) (hp : pc + 1 = pc') (k : Go K R n0 Q T pc' L (.long (u * v) :: st)) : Go K R n0 Q T pc L (.long v :: .long u :: st) := by
  subst hp
  obtain ⟨⟨locs, X, hF⟩, e0, hn0, hx, hZ, hby, hml, hret, hlk, hown, hnm⟩ := S
  exact Go.step (fun _ t => XS.lmul X.here hx rfl (hb hby hd) rfl t) k
theorem px_iand (S : St K Z R y bytes maxL ret n0 T h cl sl) {u v : Int32} (hd : decode bytes pc = .ok (.iand, 1)) (hp : pc + 1 = pc') (k : Go K R n0 Q T pc' L (.int (u &&& v) :: st)) : Go K R n0 Q T pc L (.int v :: .int u :: st) := by
  subst hp
  obtain ⟨⟨locs, X, hF⟩, e0, hn0, hx, hZ, hby, hml, hret, hlk, hown, hnm⟩ := S
  exact Go.step (fun _ t => XS.iand X.here hx rfl (hb hby hd) rfl t) k
theorem px_land (S : St K Z R y bytes maxL ret n0 T h cl sl) {u v : Int64} (hd : decode bytes pc = .ok (.land, 1)) (hp : pc + 1 = pc') (k : Go K R n0 Q T pc' L (.long (u &&& v) :: st)) : Go K R n0 Q T pc L (.long v :: .long u :: st) := by
  subst hp
  obtain ⟨⟨locs, X, hF⟩, e0, hn0, hx, hZ, hby, hml, hret, hlk, hown, hnm⟩ := S
  exact Go.step (fun _ t => XS.land X.here hx rfl (hb hby hd) rfl t) k
theorem px_ior (S : St K Z R y bytes maxL ret n0 T h cl sl) {u v : Int32} (hd : decode bytes pc = .ok (.ior, 1)) (hp : pc + 1 = pc') (k : Go K R n0 Q T pc' L (.int (u ||| v) :: st)) : Go K R n0 Q T pc L (.int v :: .int u :: st) := by
  subst hp
  obtain ⟨⟨locs, X, hF⟩, e0, hn0, hx, hZ, hby, hml, hret, hlk, hown, hnm⟩ := S
  exact Go.step (fun _ t => XS.ior X.here hx rfl (hb hby hd) rfl t) k
theorem px_lor (S : St K Z R y bytes maxL ret n0 T h cl sl) {u v : Int64} (hd : decode bytes pc = .ok (.lor, 1)) (hp : pc + 1 = pc') (k : Go K R n0 Q T pc' L (.long (u ||| v) :: st)) : Go K R n0 Q T pc L (.long v :: .long u :: st) := by
  subst hp
  obtain ⟨⟨locs, X, hF⟩, e0, hn0, hx, hZ, hby, hml, hret, hlk, hown, hnm⟩ := S
  exact Go.step (fun _ t => XS.lor X.here hx rfl (hb hby hd) rfl t) k
theorem px_ixor (S : St K Z R y bytes maxL ret n0 T h cl sl) {u v : Int32} (hd : decode bytes pc = .ok (.ixor, 1)) (hp : pc + 1 = pc') (k : Go K R n0 Q T pc' L (.int (u ^^^ v) :: st)) : Go K R n0 Q T pc L (.int v :: .int u :: st) := by
  subst hp
  obtain ⟨⟨locs, X, hF⟩, e0, hn0, hx, hZ, hby, hml, hret, hlk, hown, hnm⟩ := S
  exact Go.step (fun _ t => XS.ixor X.here hx rfl (hb hby hd) rfl t) k
theorem px_lxor (S : St K Z R y bytes maxL ret n0 T h cl sl) {u v : Int64} (hd : decode bytes pc = .ok (.lxor, 1)) (hp : pc + 1 = pc') (k : Go K R n0 Q T pc' L (.long (u ^^^ v) :: st)) : Go K R n0 Q T pc L (.long v :: .long u :: st) := by
  subst hp
  obtain ⟨⟨locs, X, hF⟩, e0, hn0, hx, hZ, hby, hml, hret, hlk, hown, hnm⟩ := S
  exact Go.step (fun _ t => XS.lxor X.here hx rfl (hb hby hd) rfl t) k
def ushr (u v : Int32) : Int32 := (u.toUInt32 >>> (v &&& 31).toUInt32).toInt32
def ushrL (u : Int64) (v : Int32) : Int64 := (u.toUInt64 >>> (v &&& 0x3f).toInt64.toUInt64).toInt64
def i2c (v : Int32) : Int32 := v.toUInt32.toUInt16.toUInt32.toInt32
def i2b (v : Int32) : Int32 := v.toInt8.toInt32
def i2s (v : Int32) : Int32 := v.toInt16.toInt32
theorem px_ishl (S : St K Z R y bytes maxL ret n0 T h cl sl) {u v : Int32} (hd : decode bytes pc = .ok (.ishl, 1)) (hp : pc + 1 = pc') (k : Go K R n0 Q T pc' L (.int (u <<< (v &&& 31)) :: st)) : Go K R n0 Q T pc L (.int v :: .int u :: st) := by
  subst hp
  obtain ⟨⟨locs, X, hF⟩, e0, hn0, hx, hZ, hby, hml, hret, hlk, hown, hnm⟩ := S
  exact Go.step (fun _ t => XS.ishl X.here hx rfl (hb hby hd) rfl t) k
theorem px_ishr (S : St K Z R y bytes maxL ret n0 T h cl sl) {u v : Int32} (hd : decode bytes pc = .ok (.ishr, 1)) (hp : pc + 1 = pc') (k : Go K R n0 Q T pc' L (.int (u >>> (v &&& 31)) :: st)) : Go K R n0 Q T pc L (.int v :: .int u :: st) := by
  subst hp
  obtain ⟨⟨locs, X, hF⟩, e0, hn0, hx, hZ, hby, hml, hret, hlk, hown, hnm⟩ := S
  exact Go.step (fun _ t => XS.ishr X.here hx rfl (hb hby hd) rfl t) k
theorem px_iushr (S : St K Z R y bytes maxL ret n0 T h cl sl) {u v : Int32} (hd : decode bytes pc = .ok (.iushr, 1)) (hp : pc + 1 = pc') (k : Go K R n0 Q T pc' L (.int (ushr u v) :: st)) : Go K R n0 Q T pc L (.int v :: .int u :: st) := by
  subst hp
  obtain ⟨⟨locs, X, hF⟩, e0, hn0, hx, hZ, hby, hml, hret, hlk, hown, hnm⟩ := S
  exact Go.step (fun _ t => XS.iushr X.here hx rfl (hb hby hd) rfl t) k
theorem px_lshl (S : St K Z R y bytes maxL ret n0 T h cl sl) {u : Int64} {v : Int32} (hd : decode bytes pc = .ok (.lshl, 1)) (hp : pc + 1 = pc') (k : Go K R n0 Q T pc' L (.long (u <<< (v &&& 0x3f).toInt64) :: st)) : Go K R n0 Q T pc L (.int v :: .long u :: st) := by
  subst hp
  obtain ⟨⟨locs, X, hF⟩, e0, hn0, hx, hZ, hby, hml, hret, hlk, hown, hnm⟩ := S
  exact Go.step (fun _ t => XS.lshl X.here hx rfl (hb hby hd) rfl t) k
theorem px_lshr (S : St K Z R y bytes maxL ret n0 T h cl sl) {u : Int64} {v : Int32} (hd : decode bytes pc = .ok (.lshr, 1)) (hp : pc + 1 = pc') (k : Go K R n0 Q T pc' L (.long (u >>> (v &&& 0x3f).toInt64) :: st)) : Go K R n0 Q T pc L (.int v :: .long u :: st) := by
  subst hp
  obtain ⟨⟨locs, X, hF⟩, e0, hn0, hx, hZ, hby, hml, hret, hlk, hown, hnm⟩ := S
  exact Go.step (fun _ t => XS.lshr X.here hx rfl (hb hby hd) rfl t) k
theorem px_lushr (S : St K Z R y bytes maxL ret n0 T h cl sl) {u : Int64} {v : Int32} (hd : decode bytes pc = .ok (.lushr, 1)) (hp : pc + 1 = pc') (k : Go K R n0 Q T pc' L (.long (ushrL u v) :: st)) : Go K R n0 Q T pc L (.int v :: .long u :: st) := by
  subst hp
  obtain ⟨⟨locs, X, hF⟩, e0, hn0, hx, hZ, hby, hml, hret, hlk, hown, hnm⟩ := S
  exact Go.step (fun _ t => XS.lushr X.here hx rfl (hb hby hd) rfl t) k
theorem px_idiv (S : St K Z R y bytes maxL ret n0 T h cl sl) {u v : Int32} (hd : decode bytes pc = .ok (.idiv, 1)) (hp : pc + 1 = pc') (hz : v ≠ 0) (k : Go K R n0 Q T pc' L (.int (u / v) :: st)) : Go K R n0 Q T pc L (.int v :: .int u :: st) := by
  subst hp
  obtain ⟨⟨locs, X, hF⟩, e0, hn0, hx, hZ, hby, hml, hret, hlk, hown, hnm⟩ := S
  exact Go.step (fun _ t => XS.idiv X.here hx rfl (hb hby hd) rfl hz t) k
theorem px_irem (S : St K Z R y bytes maxL ret n0 T h cl sl) {u v : Int32} (hd : decode bytes pc = .ok (.irem, 1)) (hp : pc + 1 = pc') (hz : v ≠ 0) (k : Go K R n0 Q T pc' L (.int (u % v) :: st)) : Go K R n0 Q T pc L (.int v :: .int u :: st) := by
  subst hp
  obtain ⟨⟨locs, X, hF⟩, e0, hn0, hx, hZ, hby, hml, hret, hlk, hown, hnm⟩ := S
  exact Go.step (fun _ t => iremM X hx rfl (hb hby hd) rfl hz t) k
theorem px_ldiv (S : St K Z R y bytes maxL ret n0 T h cl sl) {u v : Int64} (hd : decode bytes pc = .ok (.ldiv, 1)) (hp : pc + 1 = pc') (hz : v ≠ 0) (k : Go K R n0 Q T pc' L (.long (u / v) :: st)) : Go K R n0 Q T pc L (.long v :: .long u :: st) := by
  subst hp
  obtain ⟨⟨locs, X, hF⟩, e0, hn0, hx, hZ, hby, hml, hret, hlk, hown, hnm⟩ := S
  exact Go.step (fun _ t => XS.ldiv X.here hx rfl (hb hby hd) rfl hz t) k
theorem px_ineg (S : St K Z R y bytes maxL ret n0 T h cl sl) {u : Int32} (hd : decode bytes pc = .ok (.ineg, 1)) (hp : pc + 1 = pc') (k : Go K R n0 Q T pc' L (.int (-u) :: st)) : Go K R n0 Q T pc L (.int u :: st) := by
  subst hp
  obtain ⟨⟨locs, X, hF⟩, e0, hn0, hx, hZ, hby, hml, hret, hlk, hown, hnm⟩ := S
  exact Go.step (fun _ t => XS.ineg X.here hx rfl (hb hby hd) rfl t) k
theorem px_lneg (S : St K Z R y bytes maxL ret n0 T h cl sl) {u : Int64} (hd : decode bytes pc = .ok (.lneg, 1)) (hp : pc + 1 = pc') (k : Go K R n0 Q T pc' L (.long (-u) :: st)) : Go K R n0 Q T pc L (.long u :: st) := by
  subst hp
  obtain ⟨⟨locs, X, hF⟩, e0, hn0, hx, hZ, hby, hml, hret, hlk, hown, hnm⟩ := S
  exact Go.step (fun _ t => XS.lneg X.here hx rfl (hb hby hd) rfl t) k
theorem px_i2l (S : St K Z R y bytes maxL ret n0 T h cl sl) {u : Int32} (hd : decode bytes pc = .ok (.i2l, 1)) (hp : pc + 1 = pc') (k : Go K R n0 Q T pc' L (.long u.toInt64 :: st)) : Go K R n0 Q T pc L (.int u :: st) := by
  subst hp
  obtain ⟨⟨locs, X, hF⟩, e0, hn0, hx, hZ, hby, hml, hret, hlk, hown, hnm⟩ := S
  exact Go.step (fun _ t => XS.i2l X.here hx rfl (hb hby hd) rfl t) k
theorem px_l2i (S : St K Z R y bytes maxL ret n0 T h cl sl) {u : Int64} (hd : decode bytes pc = .ok (.l2i, 1)) (hp : pc + 1 = pc') (k : Go K R n0 Q T pc' L (.int u.toInt32 :: st)) : Go K R n0 Q T pc L (.long u :: st) := by
  subst hp
  obtain ⟨⟨locs, X, hF⟩, e0, hn0, hx, hZ, hby, hml, hret, hlk, hown, hnm⟩ := S
  exact Go.step (fun _ t => XS.l2i X.here hx rfl (hb hby hd) rfl t) k
theorem px_i2b (S : St K Z R y bytes maxL ret n0 T h cl sl) {u : Int32} (hd : decode bytes pc = .ok (.i2b, 1)) (hp : pc + 1 = pc') (k : Go K R n0 Q T pc' L (.int (i2b u) :: st)) : Go K R n0 Q T pc L (.int u :: st) := by
  subst hp
  obtain ⟨⟨locs, X, hF⟩, e0, hn0, hx, hZ, hby, hml, hret, hlk, hown, hnm⟩ := S
  exact Go.step (fun _ t => XS.i2b X.here hx rfl (hb hby hd) rfl t) k
theorem px_i2c (S : St K Z R y bytes maxL ret n0 T h cl sl) {u : Int32} (hd : decode bytes pc = .ok (.i2c, 1)) (hp : pc + 1 = pc') (k : Go K R n0 Q T pc' L (.int (i2c u) :: st)) : Go K R n0 Q T pc L (.int u :: st) := by
  subst hp
  obtain ⟨⟨locs, X, hF⟩, e0, hn0, hx, hZ, hby, hml, hret, hlk, hown, hnm⟩ := S
  exact Go.step (fun _ t => XS.i2c X.here hx rfl (hb hby hd) rfl t) k
theorem px_i2s (S : St K Z R y bytes maxL ret n0 T h cl sl) {u : Int32} (hd : decode bytes pc = .ok (.i2s, 1)) (hp : pc + 1 = pc') (k : Go K R n0 Q T pc' L (.int (i2s u) :: st)) : Go K R n0 Q T pc L (.int u :: st) := by
  subst hp
  obtain ⟨⟨locs, X, hF⟩, e0, hn0, hx, hZ, hby, hml, hret, hlk, hown, hnm⟩ := S
  exact Go.step (fun _ t => XS.i2s X.here hx rfl (hb hby hd) rfl t) k
theorem px_lcmp (S : St K Z R y bytes maxL ret n0 T h cl sl) {u v : Int64} (hd : decode bytes pc = .ok (.lcmp, 1)) (hp : pc + 1 = pc') (k : Go K R n0 Q T pc' L (.int (lcmpW u v) :: st)) : Go K R n0 Q T pc L (.long v :: .long u :: st) := by
  subst hp
  obtain ⟨⟨locs, X, hF⟩, e0, hn0, hx, hZ, hby, hml, hret, hlk, hown, hnm⟩ := S
  exact Go.step (fun _ t => XS.lcmp X.here hx rfl (hb hby hd) rfl t) k
theorem px_pop (S : St K Z R y bytes maxL ret n0 T h cl sl) {u : Value} (hd : decode bytes pc = .ok (.pop, 1)) (hp : pc + 1 = pc') (hc : u.category = 1) (k : Go K R n0 Q T pc' L st) : Go K R n0 Q T pc L (u :: st) := by
  subst hp
  obtain ⟨⟨locs, X, hF⟩, e0, hn0, hx, hZ, hby, hml, hret, hlk, hown, hnm⟩ := S
  exact Go.step (fun _ t => XS.pop X.here hx rfl (hb hby hd) rfl hc t) k
theorem px_dup (S : St K Z R y bytes maxL ret n0 T h cl sl) {u : Value} (hd : decode bytes pc = .ok (.dup, 1)) (hp : pc + 1 = pc') (hc : u.category = 1) (k : Go K R n0 Q T pc' L (u :: u :: st)) : Go K R n0 Q T pc L (u :: st) := by
  subst hp
  obtain ⟨⟨locs, X, hF⟩, e0, hn0, hx, hZ, hby, hml, hret, hlk, hown, hnm⟩ := S
  exact Go.step (fun _ t => XS.dup X.here hx rfl (hb hby hd) rfl hc t) k
theorem px_dupX1 (S : St K Z R y bytes maxL ret n0 T h cl sl) {u v : Value} (hd : decode bytes pc = .ok (.dup_x1, 1)) (hp : pc + 1 = pc') (hc : u.category = 1) (hc2 : v.category = 1) (k : Go K R n0 Q T pc' L (u :: v :: u :: st)) : Go K R n0 Q T pc L (u :: v :: st) := by
  subst hp
  obtain ⟨⟨locs, X, hF⟩, e0, hn0, hx, hZ, hby, hml, hret, hlk, hown, hnm⟩ := S
  exact Go.step (fun _ t => XS.dupX1 X.here hx rfl (hb hby hd) rfl hc hc2 t) k
theorem px_dup2 (S : St K Z R y bytes maxL ret n0 T h cl sl) {u v : Value} (hd : decode bytes pc = .ok (.dup2, 1)) (hp : pc + 1 = pc') (hc : u.category = 1) (hc2 : v.category = 1) (k : Go K R n0 Q T pc' L (u :: v :: u :: v :: st)) : Go K R n0 Q T pc L (u :: v :: st) := by
  subst hp
  obtain ⟨⟨locs, X, hF⟩, e0, hn0, hx, hZ, hby, hml, hret, hlk, hown, hnm⟩ := S
  exact Go.step (fun _ t => Jvm.Free.XT.dup2 X.here hx rfl (hb hby hd) rfl hc hc2 t) k
theorem px_iinc (S : St K Z R y bytes maxL ret n0 T h cl sl) {k : Nat} {cst : Int} {u v r : Int32} (hd : decode bytes pc = .ok (.iinc k cst, 3)) (hp : pc + 3 = pc') (hl : L[k]? = some (.val (.int u))) (hv : Int32.ofInt cst = v) (hr : u + v = r) (hl' : storeLocals L k (.int r) = some L') (k' : Go K R n0 Q T pc' L' st) : Go K R n0 Q T pc L st := by
  subst hp
  subst hv
  subst hr
  obtain ⟨⟨locs, X, hF⟩, e0, hn0, hx, hZ, hby, hml, hret, hlk, hown, hnm⟩ := S
  exact Go.step (fun _ t => XS.iinc X.here hx rfl (hb hby hd) hl hl' t) k'
theorem px_goto (S : St K Z R y bytes maxL ret n0 T h cl sl) {o : Int} (hd : decode bytes pc = .ok (.goto o, 3)) (ho : 0 ≤ (pc : Int) + o) (hp : ((pc : Int) + o).toNat = pc') (k : Go K R n0 Q T pc' L st) : Go K R n0 Q T pc L st := by
  obtain ⟨⟨locs, X, hF⟩, e0, hn0, hx, hZ, hby, hml, hret, hlk, hown, hnm⟩ := S
  exact Go.step (fun _ t => XS.goto X.here hx rfl rfl (hb hby hd) ho hp t) k
def yesC : ClassFile.Cond → Int → Int → Prop
  | .eq, x, y => x = y
  | .ne, x, y => ¬ x = y
  | .lt, x, y => x < y
  | .ge, x, y => y ≤ x
  | .gt, x, y => y < x
  | .le, x, y => x ≤ y
def noC : ClassFile.Cond → Int → Int → Prop
  | .eq, x, y => ¬ x = y
  | .ne, x, y => x = y
  | .lt, x, y => y ≤ x
  | .ge, x, y => x < y
  | .gt, x, y => x ≤ y
  | .le, x, y => y < x
theorem yesC_of {cd : ClassFile.Cond} {x y : Int32} (h : if_icmp.holds cd x y = true) : yesC cd x.toInt y.toInt := by
  cases cd <;> simp [if_icmp.holds, yesC, Int32.lt_iff_toInt_lt, Int32.le_iff_toInt_le, ← Int32.toInt_inj] at h ⊢ <;> omega
theorem noC_of {cd : ClassFile.Cond} {x y : Int32} (h : if_icmp.holds cd x y = false) : noC cd x.toInt y.toInt := by
  cases cd <;> simp [if_icmp.holds, noC, Int32.lt_iff_toInt_lt, Int32.le_iff_toInt_le, ← Int32.toInt_inj] at h ⊢ <;> omega
theorem px_icmp (S : St K Z R y bytes maxL ret n0 T h cl sl) {cd : ClassFile.Cond} {o : Int} {u v : Int32} {pcn : Nat} (hd : decode bytes pc = .ok (.if_icmp cd o, 3)) (ho : 0 ≤ (pc : Int) + o) (hp : ((pc : Int) + o).toNat = pc') (hn : pc + 3 = pcn)
    (ky : yesC cd u.toInt v.toInt → Go K R n0 Q T pc' L st) (kn : noC cd u.toInt v.toInt → Go K R n0 Q T pcn L st) : Go K R n0 Q T pc L (.int v :: .int u :: st) := by
  subst hn
  obtain ⟨⟨locs, X, hF⟩, e0, hn0, hx, hZ, hby, hml, hret, hlk, hown, hnm⟩ := S
  cases hc : if_icmp.holds cd u v
  · exact Go.step (fun _ t => XS.icmpNo X.here hx rfl (hb hby hd) rfl hc t) (kn (noC_of hc))
  · exact Go.step (fun _ t => XS.icmpYes X.here hx rfl rfl (hb hby hd) rfl hc ho hp t) (ky (yesC_of hc))
theorem px_if0 (S : St K Z R y bytes maxL ret n0 T h cl sl) {cd : ClassFile.Cond} {o : Int} {u : Int32} {pcn : Nat} (hd : decode bytes pc = .ok (.ifCond cd o, 3)) (ho : 0 ≤ (pc : Int) + o) (hp : ((pc : Int) + o).toNat = pc') (hn : pc + 3 = pcn)
    (ky : yesC cd u.toInt 0 → Go K R n0 Q T pc' L st) (kn : noC cd u.toInt 0 → Go K R n0 Q T pcn L st) : Go K R n0 Q T pc L (.int u :: st) := by
  subst hn
  obtain ⟨⟨locs, X, hF⟩, e0, hn0, hx, hZ, hby, hml, hret, hlk, hown, hnm⟩ := S
  cases hc : ifCond.holds cd u
  · exact Go.step (fun _ t => XS.ifNo X.here hx rfl (hb hby hd) rfl hc t) (kn (noC_of (y := 0) ((if0 cd u).symm.trans hc)))
  · exact Go.step (fun _ t => XS.ifYes X.here hx rfl rfl (hb hby hd) rfl hc ho hp t) (ky (yesC_of (y := 0) ((if0 cd u).symm.trans hc)))
theorem yesL {cd : ClassFile.Cond} {x y : Int64} (h : yesC cd (lcmpW x y).toInt 0) : yesC cd x.toInt y.toInt := by
  have q := c_lcmp x y
  cases cd <;> simp only [yesC] at h ⊢ <;> omega
theorem noL {cd : ClassFile.Cond} {x y : Int64} (h : noC cd (lcmpW x y).toInt 0) : noC cd x.toInt y.toInt := by
  have q := c_lcmp x y
  cases cd <;> simp only [noC] at h ⊢ <;> omega
theorem px_lif (S : St K Z R y bytes maxL ret n0 T h cl sl) {cd : ClassFile.Cond} {o : Int} {u v : Int64} {pc1 pcn : Nat} (hd1 : decode bytes pc = .ok (.lcmp, 1)) (hp1 : pc + 1 = pc1) (hd : decode bytes pc1 = .ok (.ifCond cd o, 3)) (ho : 0 ≤ (pc1 : Int) + o) (hp : ((pc1 : Int) + o).toNat = pc') (hn : pc1 + 3 = pcn)
    (ky : yesC cd u.toInt v.toInt → Go K R n0 Q T pc' L st) (kn : noC cd u.toInt v.toInt → Go K R n0 Q T pcn L st) : Go K R n0 Q T pc L (.long v :: .long u :: st) :=
  px_lcmp S hd1 hp1 (px_if0 S hd ho hp hn (fun q => ky (yesL q)) (fun q => kn (noL q)))
theorem px_ifnull (S : St K Z R y bytes maxL ret n0 T h cl sl) {o : Int} {a : Addr} (hd : decode bytes pc = .ok (.ifnull o, 3)) (hp : pc + 3 = pc') (k : Go K R n0 Q T pc' L st) : Go K R n0 Q T pc L (.ref a :: st) := by
  subst hp
  obtain ⟨⟨locs, X, hF⟩, e0, hn0, hx, hZ, hby, hml, hret, hlk, hown, hnm⟩ := S
  exact Go.step (fun _ t => XS.ifnullNo X.here hx rfl (hb hby hd) rfl t) k
theorem px_ifnullY (S : St K Z R y bytes maxL ret n0 T h cl sl) {o : Int} (hd : decode bytes pc = .ok (.ifnull o, 3)) (ho : 0 ≤ (pc : Int) + o) (hp : ((pc : Int) + o).toNat = pc') (k : Go K R n0 Q T pc' L st) : Go K R n0 Q T pc L (.null :: st) := by
  obtain ⟨⟨locs, X, hF⟩, e0, hn0, hx, hZ, hby, hml, hret, hlk, hown, hnm⟩ := S
  exact Go.step (fun _ t => XS.ifnullYes X.here hx rfl rfl (hb hby hd) rfl ho hp t) k
theorem px_ifnonnull (S : St K Z R y bytes maxL ret n0 T h cl sl) {o : Int} {a : Addr} (hd : decode bytes pc = .ok (.ifnonnull o, 3)) (ho : 0 ≤ (pc : Int) + o) (hp : ((pc : Int) + o).toNat = pc') (k : Go K R n0 Q T pc' L st) : Go K R n0 Q T pc L (.ref a :: st) := by
  obtain ⟨⟨locs, X, hF⟩, e0, hn0, hx, hZ, hby, hml, hret, hlk, hown, hnm⟩ := S
  exact Go.step (fun _ t => XS.ifnonnullYes X.here hx rfl rfl (hb hby hd) rfl ho hp t) k
theorem px_ifnonnullN (S : St K Z R y bytes maxL ret n0 T h cl sl) {o : Int} (hd : decode bytes pc = .ok (.ifnonnull o, 3)) (hp : pc + 3 = pc') (k : Go K R n0 Q T pc' L st) : Go K R n0 Q T pc L (.null :: st) := by
  subst hp
  obtain ⟨⟨locs, X, hF⟩, e0, hn0, hx, hZ, hby, hml, hret, hlk, hown, hnm⟩ := S
  exact Go.step (fun _ t => XS.ifnonnullNo X.here hx rfl (hb hby hd) rfl t) k
theorem px_ldcI (S : St K Z R y bytes maxL ret n0 T h cl sl) {idx : Nat} {v : Int32} (w : (Jvm.Cond.constant y.cls idx v).before a0 Z = true) (hd : decode bytes pc = .ok (.ldc idx, 2)) (hp : pc + 2 = pc') (k : Go K R n0 Q T pc' L (.int v :: st)) : Go K R n0 Q T pc L st := by
  subst hp
  obtain ⟨⟨locs, X, hF⟩, e0, hn0, hx, hZ, hby, hml, hret, hlk, hown, hnm⟩ := S
  exact Go.step (fun _ t => X.ldcInt hx hown (mvT hZ w) (g := mkF K.m pc L st) rfl (hb hby hd) _ t) k
theorem px_ldcwI (S : St K Z R y bytes maxL ret n0 T h cl sl) {idx : Nat} {v : Int32} (w : (Jvm.Cond.constant y.cls idx v).before a0 Z = true) (hd : decode bytes pc = .ok (.ldc_w idx, 3)) (hp : pc + 3 = pc') (k : Go K R n0 Q T pc' L (.int v :: st)) : Go K R n0 Q T pc L st := by
  subst hp
  obtain ⟨⟨locs, X, hF⟩, e0, hn0, hx, hZ, hby, hml, hret, hlk, hown, hnm⟩ := S
  exact Go.step (fun _ t => X.ldcwInt hx hown (mvT hZ w) (g := mkF K.m pc L st) rfl (hb hby hd) _ t) k
theorem px_ldc2 (S : St K Z R y bytes maxL ret n0 T h cl sl) {idx : Nat} {v : Int64} (w : (Jvm.Cond.constantLong y.cls idx v).before a0 Z = true) (hd : decode bytes pc = .ok (.ldc2_w idx, 3)) (hp : pc + 3 = pc') (k : Go K R n0 Q T pc' L (.long v :: st)) : Go K R n0 Q T pc L st := by
  subst hp
  obtain ⟨⟨locs, X, hF⟩, e0, hn0, hx, hZ, hby, hml, hret, hlk, hown, hnm⟩ := S
  exact Go.step (fun _ t => X.ldc2Long hx hown (mvT hZ w) (g := mkF K.m pc L st) rfl (hb hby hd) _ t) k
theorem px_ret {v : Option Value} (S : St K Z R y bytes maxL ret n0 T h cl sl) (hv : ret = none → v = none) (hc : cl ≤ R.cells) (hs : sl ≤ R.slots)
    (hd : ∀ (locs : List Loc) (fs : List Frame), Stand K.p K.l K.e R K.s K.m K.args K.below K.meth K.c T locs cl sl → K.p.tables.exec = Jvm.exec → K.c.code = bytes → K.meth.sig.returnType = ret → (∀ (f : JFrame) (acts : List Action), f.method = K.m → f.locked = none → f.entered = [] → (doReturn K.e (T.setTop f) acts v).1 = T.setFrames fs) → Steps K.p.tables K.e K.below (T.setTop (mkF K.m pc L st)) (T.setFrames fs))
    (hq : Q v h) : Go K R n0 Q T pc L st := by
  obtain ⟨⟨locs, X, hF⟩, e0, hn0, hx, hZ, hby, hml, hret, hlk, hown, hnm⟩ := S
  obtain ⟨fs, hr, hrun, hended, hW, hsame⟩ := X.leave (v := v) (fun q => hv (hret ▸ q)) hlk
  refine ⟨_, _, hd locs fs X hx hby hret hr, hrun, hended, _, _, rfl, ⟨?_, hF⟩, ⟨_, rfl⟩, hW, hsame.mono hc hs⟩
  show Q v T.heap
  rw [e0]; exact hq
theorem px_return (S : St K Z R y bytes maxL ret n0 T h cl sl) (hd : decode bytes pc = .ok (.return_, 1)) (hrt : ret = none) (hc : cl ≤ R.cells) (hs : sl ≤ R.slots) (hq : Q none h) : Go K R n0 Q T pc L [] :=
  px_ret S (fun _ => rfl) hc hs (fun _ _ X hx hby hret hr => X.returnOut hx (hret.trans hrt) (hb hby hd) hr) hq
theorem px_retN {t : FieldType} {z z' : Int32} (S : St K Z R y bytes maxL ret n0 T h cl sl) (hd : decode bytes pc = .ok (.ireturn, 1)) (hrt : ret = some t) (ht : t = .boolean ∨ t = .byte ∨ t = .char ∨ t = .short) (hz : nar t z = z') (hc : cl ≤ R.cells) (hs : sl ≤ R.slots) (hq : Q (some (.int z')) h) : Go K R n0 Q T pc L (.int z :: st) := by
  subst hz
  exact px_ret S (fun q => by rw [hrt] at q; cases q) hc hs (fun _ _ X hx hby hret hr => retN X hx (hret.trans hrt) ht (hb hby hd) hr) hq
theorem px_retI {z : Int32} (S : St K Z R y bytes maxL ret n0 T h cl sl) (hd : decode bytes pc = .ok (.ireturn, 1)) (hrt : ret = some .int) (hc : cl ≤ R.cells) (hs : sl ≤ R.slots) (hq : Q (some (.int z)) h) : Go K R n0 Q T pc L (.int z :: st) :=
  px_ret S (fun q => by rw [hrt] at q; cases q) hc hs (fun _ _ X hx hby hret hr => retOut X hx (hret.trans hrt) rfl (Or.inl ⟨rfl, Or.inl rfl, z, rfl⟩) (hb hby hd) hr) hq
theorem px_retJ {z : Int64} (S : St K Z R y bytes maxL ret n0 T h cl sl) (hd : decode bytes pc = .ok (.lreturn, 1)) (hrt : ret = some .long) (hc : cl ≤ R.cells) (hs : sl ≤ R.slots) (hq : Q (some (.long z)) h) : Go K R n0 Q T pc L (.long z :: st) :=
  px_ret S (fun q => by rw [hrt] at q; cases q) hc hs (fun _ _ X hx hby hret hr => retOut X hx (hret.trans hrt) rfl (Or.inr (Or.inl ⟨rfl, rfl, z, rfl⟩)) (hb hby hd) hr) hq
theorem narrow_ref {t : FieldType} {v : Value} (ht : t.isReference = true) : narrow t v = v := by cases t <;> simp [FieldType.isReference] at ht <;> cases v <;> rfl
theorem px_retA {t : FieldType} {v : Value} (S : St K Z R y bytes maxL ret n0 T h cl sl) (hd : decode bytes pc = .ok (.areturn, 1)) (hrt : ret = some t) (ht : t.isReference = true) (hv : v.isRef = true) (hc : cl ≤ R.cells) (hs : sl ≤ R.slots) (hq : Q (some v) h) : Go K R n0 Q T pc L (v :: st) :=
  px_ret S (fun q => by rw [hrt] at q; cases q) hc hs (fun _ _ X hx hby hret hr => retOut X hx (hret.trans hrt) (narrow_ref ht) (Or.inr (Or.inr (Or.inr (Or.inr ⟨rfl, ht, hv⟩)))) (hb hby hd) hr) hq
/-- an array of ints (or of bytes, chars, shorts, booleans) of n places that hold f 0 .. -/
def AI (Z : State) (h : Heap) (a : Addr) (ty : FieldType) (n : Nat) (f : Nat → Int32) : Prop := ∃ c : Cell, Arr Z h a c ty ∧ c.slots.size = n ∧ n < 2147483648 ∧ ∀ i, i < n → c.slots[i]? = some (.int (f i)) ∧ fits ty (.int (f i)) = true
def AJ (Z : State) (h : Heap) (a : Addr) (n : Nat) (f : Nat → Int64) : Prop := ∃ c : Cell, Arr Z h a c .long ∧ c.slots.size = n ∧ n < 2147483648 ∧ ∀ i, i < n → c.slots[i]? = some (.long (f i))
def updF {α : Type} (f : Nat → α) (i : Nat) (v : α) : Nat → α := fun j => if j = i then v else f j
theorem updF_same {α : Type} (f : Nat → α) (i : Nat) (v : α) : updF f i v i = v := by simp [updF]
theorem updF_ne {α : Type} (f : Nat → α) {i j : Nat} (v : α) (q : ¬ j = i) : updF f i v j = f j := by simp [updF, q]
variable {h' : Heap} {a b : Addr} {ty : FieldType} {n : Nat} {f : Nat → Int32} {fj : Nat → Int64}
theorem AI.lt (A : AI Z h a ty n f) : a < h.size := by obtain ⟨c, A, -⟩ := A; exact A.lt
theorem AJ.lt (A : AJ Z h a n fj) : a < h.size := by obtain ⟨c, A, -⟩ := A; exact A.lt
theorem AI.len (A : AI Z h a ty n f) : n < 2147483648 := by obtain ⟨c, -, -, q, -⟩ := A; exact q
theorem AJ.len (A : AJ Z h a n fj) : n < 2147483648 := by obtain ⟨c, -, -, q, -⟩ := A; exact q
theorem AI.ext (A : AI Z h a ty n f) (E : Ext h h') : AI Z h' a ty n f := by obtain ⟨c, A, r⟩ := A; exact ⟨c, A.ext E, r⟩
theorem AJ.ext (A : AJ Z h a n fj) (E : Ext h h') : AJ Z h' a n fj := by obtain ⟨c, A, r⟩ := A; exact ⟨c, A.ext E, r⟩
theorem AI.other {s0 : Nat} {v : Value} (A : AI Z h a ty n f) (W : Wr h h' b s0 v) (q : a ≠ b) : AI Z h' a ty n f := by obtain ⟨c, A, r⟩ := A; exact ⟨c, A.other W q, r⟩
theorem AJ.other {s0 : Nat} {v : Value} (A : AJ Z h a n fj) (W : Wr h h' b s0 v) (q : a ≠ b) : AJ Z h' a n fj := by obtain ⟨c, A, r⟩ := A; exact ⟨c, A.other W q, r⟩
theorem AI.keep {ws : List Addr} (A : AI Z h a ty n f) (W : Keep h h' ws) (q : a ∉ ws) : AI Z h' a ty n f := by obtain ⟨c, A, r⟩ := A; exact ⟨c, ⟨W.2.1 a c A.1 q, A.2⟩, r⟩
theorem AJ.keep {ws : List Addr} (A : AJ Z h a n fj) (W : Keep h h' ws) (q : a ∉ ws) : AJ Z h' a n fj := by obtain ⟨c, A, r⟩ := A; exact ⟨c, ⟨W.2.1 a c A.1 q, A.2⟩, r⟩
theorem AI.congr {g : Nat → Int32} (A : AI Z h a ty n f) (q : ∀ i, i < n → f i = g i) : AI Z h a ty n g := by obtain ⟨c, A, r1, r2, r3⟩ := A; exact ⟨c, A, r1, r2, fun i hi => by rw [← q i hi]; exact r3 i hi⟩
theorem AJ.congr {g : Nat → Int64} (A : AJ Z h a n fj) (q : ∀ i, i < n → fj i = g i) : AJ Z h a n g := by obtain ⟨c, A, r1, r2, r3⟩ := A; exact ⟨c, A, r1, r2, fun i hi => by rw [r3 i hi, q i hi]⟩
theorem clampI {j : Int32} {i : Nat} (hj : j.toInt = (i : Int)) : j.toNatClampNeg = i := by
  have q : j.toNatClampNeg = j.toInt.toNat := rfl
  rw [q, hj]; rfl
theorem inbI {c : Cell} {j : Int32} {i : Nat} (hj : j.toInt = (i : Int)) (hi : i < c.slots.size) : ¬ (j < 0 ∨ c.slots.size ≤ j.toNatClampNeg) := by
  rw [clampI hj]
  intro q
  rcases q with q | q
  · have q2 := Int32.lt_iff_toInt_lt.mp q
    have z : (0 : Int32).toInt = 0 := rfl
    omega
  · omega
theorem AI.same {c : Cell} {i : Nat} {v : Int32} (A : Arr Z h a c ty) (h1 : c.slots.size = n) (h2 : n < 2147483648) (h3 : ∀ i, i < n → c.slots[i]? = some (.int (f i)) ∧ fits ty (.int (f i)) = true) (W : Wr h h' a i (.int v)) (hi : i < n) (hft : fits ty (.int v) = true) : AI Z h' a ty n (updF f i v) := by
  refine ⟨_, A.same W, by simp [Cell.setSlot, h1], h2, fun j hj => ?_⟩
  by_cases q : j = i
  · subst q
    rw [updF_same]
    exact ⟨by simp [Cell.setSlot, h1, hj], hft⟩
  · rw [updF_ne _ _ q]
    have q' : ¬ i = j := fun e => q e.symm
    exact ⟨by simp [Cell.setSlot, Array.getElem?_setIfInBounds, q', (h3 j hj).1], (h3 j hj).2⟩
theorem AJ.same {c : Cell} {i : Nat} {v : Int64} (A : Arr Z h a c .long) (h1 : c.slots.size = n) (h2 : n < 2147483648) (h3 : ∀ i, i < n → c.slots[i]? = some (.long (fj i))) (W : Wr h h' a i (.long v)) (hi : i < n) : AJ Z h' a n (updF fj i v) := by
  refine ⟨_, A.same W, by simp [Cell.setSlot, h1], h2, fun j hj => ?_⟩
  by_cases q : j = i
  · subst q
    rw [updF_same]
    simp [Cell.setSlot, h1, hj]
  · rw [updF_ne _ _ q]
    have q' : ¬ i = j := fun e => q e.symm
    simp [Cell.setSlot, Array.getElem?_setIfInBounds, q', h3 j hj]
theorem px_iaload (S : St K Z R y bytes maxL ret n0 T h cl sl) (A : AI Z h a .int n f) {j v : Int32} {i : Nat} (hj : j.toInt = (i : Int)) (hi : i < n) (hv : f i = v) (hd : decode bytes pc = .ok (.iaload, 1)) (hp : pc + 1 = pc') (k : Go K R n0 Q T pc' L (.int v :: st)) : Go K R n0 Q T pc L (.int j :: .ref a :: st) := by
  subst hp
  subst hv
  obtain ⟨⟨locs, X, hF⟩, e0, hn0, hx, hZ, hby, hml, hret, hlk, hown, hnm⟩ := S
  obtain ⟨c, A, h1, h2, h3⟩ := A
  exact Go.step (fun _ t => X.iaload hx (j := j) (v := .int (f i)) (by rw [e0]; exact A.1) (State.isArrayOf_alike hZ.alike A.2.1) A.2.2 (inbI hj (h1 ▸ hi)) (by rw [clampI hj]; exact (h3 i hi).1) (g := mkF K.m pc L (.int j :: .ref a :: st)) rfl rfl (hb hby hd) _ t) k
theorem px_caload (S : St K Z R y bytes maxL ret n0 T h cl sl) (A : AI Z h a .char n f) {j v : Int32} {i : Nat} (hj : j.toInt = (i : Int)) (hi : i < n) (hv : f i = v) (hd : decode bytes pc = .ok (.caload, 1)) (hp : pc + 1 = pc') (k : Go K R n0 Q T pc' L (.int v :: st)) : Go K R n0 Q T pc L (.int j :: .ref a :: st) := by
  subst hp
  subst hv
  obtain ⟨⟨locs, X, hF⟩, e0, hn0, hx, hZ, hby, hml, hret, hlk, hown, hnm⟩ := S
  obtain ⟨c, A, h1, h2, h3⟩ := A
  exact Go.step (fun _ t => X.caload hx (j := j) (v := .int (f i)) (by rw [e0]; exact A.1) (State.isArrayOf_alike hZ.alike A.2.1) A.2.2 (inbI hj (h1 ▸ hi)) (by rw [clampI hj]; exact (h3 i hi).1) (g := mkF K.m pc L (.int j :: .ref a :: st)) rfl rfl (hb hby hd) _ t) k
theorem px_saload (S : St K Z R y bytes maxL ret n0 T h cl sl) (A : AI Z h a .short n f) {j v : Int32} {i : Nat} (hj : j.toInt = (i : Int)) (hi : i < n) (hv : f i = v) (hd : decode bytes pc = .ok (.saload, 1)) (hp : pc + 1 = pc') (k : Go K R n0 Q T pc' L (.int v :: st)) : Go K R n0 Q T pc L (.int j :: .ref a :: st) := by
  subst hp
  subst hv
  obtain ⟨⟨locs, X, hF⟩, e0, hn0, hx, hZ, hby, hml, hret, hlk, hown, hnm⟩ := S
  obtain ⟨c, A, h1, h2, h3⟩ := A
  exact Go.step (fun _ t => X.saload hx (j := j) (v := .int (f i)) (by rw [e0]; exact A.1) (State.isArrayOf_alike hZ.alike A.2.1) A.2.2 (inbI hj (h1 ▸ hi)) (by rw [clampI hj]; exact (h3 i hi).1) (g := mkF K.m pc L (.int j :: .ref a :: st)) rfl rfl (hb hby hd) _ t) k
theorem px_baload (S : St K Z R y bytes maxL ret n0 T h cl sl) (A : AI Z h a .byte n f) {j v : Int32} {i : Nat} (hj : j.toInt = (i : Int)) (hi : i < n) (hv : f i = v) (hd : decode bytes pc = .ok (.baload, 1)) (hp : pc + 1 = pc') (k : Go K R n0 Q T pc' L (.int v :: st)) : Go K R n0 Q T pc L (.int j :: .ref a :: st) := by
  subst hp
  subst hv
  obtain ⟨⟨locs, X, hF⟩, e0, hn0, hx, hZ, hby, hml, hret, hlk, hown, hnm⟩ := S
  obtain ⟨c, A, h1, h2, h3⟩ := A
  exact Go.step (fun _ t => X.baloadBytes hx (j := j) (v := .int (f i)) (by rw [e0]; exact A.1) (State.isArrayOf_alike hZ.alike A.2.1) A.2.2 (inbI hj (h1 ▸ hi)) (by rw [clampI hj]; exact (h3 i hi).1) (g := mkF K.m pc L (.int j :: .ref a :: st)) rfl rfl (hb hby hd) _ t) k
theorem px_laload (S : St K Z R y bytes maxL ret n0 T h cl sl) (A : AJ Z h a n fj) {j : Int32} {v : Int64} {i : Nat} (hj : j.toInt = (i : Int)) (hi : i < n) (hv : fj i = v) (hd : decode bytes pc = .ok (.laload, 1)) (hp : pc + 1 = pc') (k : Go K R n0 Q T pc' L (.long v :: st)) : Go K R n0 Q T pc L (.int j :: .ref a :: st) := by
  subst hp
  subst hv
  obtain ⟨⟨locs, X, hF⟩, e0, hn0, hx, hZ, hby, hml, hret, hlk, hown, hnm⟩ := S
  obtain ⟨c, A, h1, h2, h3⟩ := A
  exact Go.step (fun _ t => X.laload hx (j := j) (v := .long (fj i)) (by rw [e0]; exact A.1) (State.isArrayOf_alike hZ.alike A.2.1) A.2.2 (inbI hj (h1 ▸ hi)) (by rw [clampI hj]; exact h3 i hi) (g := mkF K.m pc L (.int j :: .ref a :: st)) rfl rfl (hb hby hd) _ t) k
theorem len32 {c : Cell} (h1 : c.slots.size = n) (h2 : n < 2147483648) {v : Int32} (hv : v.toInt = (n : Int)) : c.slots.size.toInt32 = v := by
  rw [h1]
  apply Int32.toInt_inj.mp
  rw [hv]
  have := Int32.toInt_ofNat_of_lt (n := n) h2
  exact this
theorem px_alenI (S : St K Z R y bytes maxL ret n0 T h cl sl) (A : AI Z h a ty n f) {v : Int32} (hv : v.toInt = (n : Int)) (hd : decode bytes pc = .ok (.arraylength, 1)) (hp : pc + 1 = pc') (k : Go K R n0 Q T pc' L (.int v :: st)) : Go K R n0 Q T pc L (.ref a :: st) := by
  subst hp
  obtain ⟨⟨locs, X, hF⟩, e0, hn0, hx, hZ, hby, hml, hret, hlk, hown, hnm⟩ := S
  obtain ⟨c, A, h1, h2, h3⟩ := A
  refine Go.step (fun _ t => X.arraylength hx (by rw [e0]; exact A.1) (State.isArrayOf_alike hZ.alike A.2.1) (g := mkF K.m pc L (.ref a :: st)) rfl rfl (hb hby hd) _ t) ?_
  rw [len32 h1 h2 hv]
  exact k
theorem px_alenJ (S : St K Z R y bytes maxL ret n0 T h cl sl) (A : AJ Z h a n fj) {v : Int32} (hv : v.toInt = (n : Int)) (hd : decode bytes pc = .ok (.arraylength, 1)) (hp : pc + 1 = pc') (k : Go K R n0 Q T pc' L (.int v :: st)) : Go K R n0 Q T pc L (.ref a :: st) := by
  subst hp
  obtain ⟨⟨locs, X, hF⟩, e0, hn0, hx, hZ, hby, hml, hret, hlk, hown, hnm⟩ := S
  obtain ⟨c, A, h1, h2, h3⟩ := A
  refine Go.step (fun _ t => X.arraylength hx (by rw [e0]; exact A.1) (State.isArrayOf_alike hZ.alike A.2.1) (g := mkF K.m pc L (.ref a :: st)) rfl rfl (hb hby hd) _ t) ?_
  rw [len32 h1 h2 hv]
  exact k
theorem px_iastore (S : St K Z R y bytes maxL ret n0 T h cl sl) (A : AI Z h a .int n f) (ha : n0 ≤ a) {j u v : Int32} {i : Nat} (hj : j.toInt = (i : Int)) (hi : i < n) (hv : u = v) (hd : decode bytes pc = .ok (.iastore, 1)) (hp : pc + 1 = pc')
    (k : ∀ (T' : State) (h' : Heap), St K Z R y bytes maxL ret n0 T' h' cl sl → Wr h h' a i (.int v) → AI Z h' a .int n (updF f i v) → Go K R n0 Q T' pc' L st) : Go K R n0 Q T pc L (.int u :: .int j :: .ref a :: st) := by
  subst hp
  subst hv
  obtain ⟨⟨locs, X, hF⟩, e0, hn0, hx, hZ, hby, hml, hret, hlk, hown, hnm⟩ := S
  obtain ⟨c, A, h1, h2, h3⟩ := A
  obtain ⟨T', h', X', e', W, stp⟩ := stI X hx hZ e0 A (j := j) (inbI hj (h1 ▸ hi)) (g := mkF K.m pc L (.int u :: .int j :: .ref a :: st)) rfl rfl (hb hby hd)
  have hF' := Fr.snoc X' hF ha
  rw [clampI hj] at W
  exact Go.step stp (k T' h' ⟨⟨_, X', hF'⟩, e', hn0, hx, hZ, hby, hml, hret, hlk, hown, hnm⟩ W (AI.same A h1 h2 h3 W hi rfl))
theorem px_castore (S : St K Z R y bytes maxL ret n0 T h cl sl) (A : AI Z h a .char n f) (ha : n0 ≤ a) {j u v : Int32} {i : Nat} (hj : j.toInt = (i : Int)) (hi : i < n) (hv : (nar .char u) = v) (hd : decode bytes pc = .ok (.castore, 1)) (hp : pc + 1 = pc')
    (k : ∀ (T' : State) (h' : Heap), St K Z R y bytes maxL ret n0 T' h' cl sl → Wr h h' a i (.int v) → AI Z h' a .char n (updF f i v) → Go K R n0 Q T' pc' L st) : Go K R n0 Q T pc L (.int u :: .int j :: .ref a :: st) := by
  subst hp
  subst hv
  obtain ⟨⟨locs, X, hF⟩, e0, hn0, hx, hZ, hby, hml, hret, hlk, hown, hnm⟩ := S
  obtain ⟨c, A, h1, h2, h3⟩ := A
  obtain ⟨T', h', X', e', W, stp⟩ := stC X hx hZ e0 A (j := j) (inbI hj (h1 ▸ hi)) (g := mkF K.m pc L (.int u :: .int j :: .ref a :: st)) rfl rfl (hb hby hd)
  have hF' := Fr.snoc X' hF ha
  rw [clampI hj] at W
  exact Go.step stp (k T' h' ⟨⟨_, X', hF'⟩, e', hn0, hx, hZ, hby, hml, hret, hlk, hown, hnm⟩ W (AI.same A h1 h2 h3 W hi (fits_nar_char _)))
theorem px_sastore (S : St K Z R y bytes maxL ret n0 T h cl sl) (A : AI Z h a .short n f) (ha : n0 ≤ a) {j u v : Int32} {i : Nat} (hj : j.toInt = (i : Int)) (hi : i < n) (hv : (nar .short u) = v) (hd : decode bytes pc = .ok (.sastore, 1)) (hp : pc + 1 = pc')
    (k : ∀ (T' : State) (h' : Heap), St K Z R y bytes maxL ret n0 T' h' cl sl → Wr h h' a i (.int v) → AI Z h' a .short n (updF f i v) → Go K R n0 Q T' pc' L st) : Go K R n0 Q T pc L (.int u :: .int j :: .ref a :: st) := by
  subst hp
  subst hv
  obtain ⟨⟨locs, X, hF⟩, e0, hn0, hx, hZ, hby, hml, hret, hlk, hown, hnm⟩ := S
  obtain ⟨c, A, h1, h2, h3⟩ := A
  obtain ⟨T', h', X', e', W, stp⟩ := stS X hx hZ e0 A (j := j) (inbI hj (h1 ▸ hi)) (g := mkF K.m pc L (.int u :: .int j :: .ref a :: st)) rfl rfl (hb hby hd)
  have hF' := Fr.snoc X' hF ha
  rw [clampI hj] at W
  exact Go.step stp (k T' h' ⟨⟨_, X', hF'⟩, e', hn0, hx, hZ, hby, hml, hret, hlk, hown, hnm⟩ W (AI.same A h1 h2 h3 W hi (fits_nar_short _)))
theorem px_bastore (S : St K Z R y bytes maxL ret n0 T h cl sl) (A : AI Z h a .byte n f) (ha : n0 ≤ a) {j u v : Int32} {i : Nat} (hj : j.toInt = (i : Int)) (hi : i < n) (hv : (nar .byte u) = v) (hd : decode bytes pc = .ok (.bastore, 1)) (hp : pc + 1 = pc')
    (k : ∀ (T' : State) (h' : Heap), St K Z R y bytes maxL ret n0 T' h' cl sl → Wr h h' a i (.int v) → AI Z h' a .byte n (updF f i v) → Go K R n0 Q T' pc' L st) : Go K R n0 Q T pc L (.int u :: .int j :: .ref a :: st) := by
  subst hp
  subst hv
  obtain ⟨⟨locs, X, hF⟩, e0, hn0, hx, hZ, hby, hml, hret, hlk, hown, hnm⟩ := S
  obtain ⟨c, A, h1, h2, h3⟩ := A
  obtain ⟨T', h', X', e', W, stp⟩ := stB X hx hZ e0 A (j := j) (inbI hj (h1 ▸ hi)) (g := mkF K.m pc L (.int u :: .int j :: .ref a :: st)) rfl rfl (hb hby hd)
  have hF' := Fr.snoc X' hF ha
  rw [clampI hj] at W
  exact Go.step stp (k T' h' ⟨⟨_, X', hF'⟩, e', hn0, hx, hZ, hby, hml, hret, hlk, hown, hnm⟩ W (AI.same A h1 h2 h3 W hi (fits_nar_byte _)))
theorem px_lastore (S : St K Z R y bytes maxL ret n0 T h cl sl) (A : AJ Z h a n fj) (ha : n0 ≤ a) {j : Int32} {u : Int64} {i : Nat} (hj : j.toInt = (i : Int)) (hi : i < n) (hd : decode bytes pc = .ok (.lastore, 1)) (hp : pc + 1 = pc')
    (k : ∀ (T' : State) (h' : Heap), St K Z R y bytes maxL ret n0 T' h' cl sl → Wr h h' a i (.long u) → AJ Z h' a n (updF fj i u) → Go K R n0 Q T' pc' L st) : Go K R n0 Q T pc L (.long u :: .int j :: .ref a :: st) := by
  subst hp
  obtain ⟨⟨locs, X, hF⟩, e0, hn0, hx, hZ, hby, hml, hret, hlk, hown, hnm⟩ := S
  obtain ⟨c, A, h1, h2, h3⟩ := A
  obtain ⟨T', h', X', e', W, stp⟩ := stJ X hx hZ e0 A (j := j) (inbI hj (h1 ▸ hi)) (g := mkF K.m pc L (.long u :: .int j :: .ref a :: st)) rfl rfl (hb hby hd)
  have hF' := Fr.snoc X' hF ha
  rw [clampI hj] at W
  exact Go.step stp (k T' h' ⟨⟨_, X', hF'⟩, e', hn0, hx, hZ, hby, hml, hret, hlk, hown, hnm⟩ W (AJ.same A h1 h2 h3 W hi))
theorem nneg {u : Int32} (hu : u.toInt = (n : Int)) : ¬ u < 0 := fun q => by
  have q2 := Int32.lt_iff_toInt_lt.mp q
  have z : (0 : Int32).toInt = 0 := rfl
  omega
theorem small {u : Int32} (hu : u.toInt = (n : Int)) : n < 2147483648 := by
  have := (rng32 u).2
  omega
theorem px_newarr {aty : ArrayType} (S : St K Z R y bytes maxL ret n0 T h cl sl) (w : (Jvm.Cond.arrayClass (newarray.typeOf aty)).before a0 Z = true) (hdv : defaultValue (newarray.typeOf aty) = .int 0) {u : Int32} {cap : Nat} (hu : u.toInt = (n : Int)) (hcap : n ≤ cap) (hb8 : cap * 8 ≤ 536870912) (hc : cl + 1 ≤ R.cells) (hs : sl + cap ≤ R.slots)
    (hd : decode bytes pc = .ok (.newarray aty, 2)) (hp : pc + 2 = pc')
    (k : ∀ (T' : State) (h' : Heap) (a : Addr), a = h.size → n0 ≤ a → St K Z R y bytes maxL ret n0 T' h' (cl + 1) (sl + cap) → Ext h h' → AI Z h' a (newarray.typeOf aty) n (fun _ => 0) → Go K R n0 Q T' pc' L (.ref a :: st)) : Go K R n0 Q T pc L (.int u :: st) := by
  subst hp
  have hsz := S.size
  obtain ⟨⟨locs, X, hF⟩, e0, hn0, hx, hZ, hby, hml, hret, hlk, hown, hnm⟩ := S
  obtain ⟨T', h', cA, X', e', E, A, stp⟩ := newP X hx hZ w e0 (g := mkF K.m pc L (.int u :: st)) rfl (hb hby hd) rfl (nneg hu) (cap := cap) (by rw [clampI hu]; exact hcap) hb8 hc hs
  refine Go.step stp (k T' h' h.size rfl hsz ⟨⟨_, X', hF⟩, e', hn0, hx, hZ, hby, hml, hret, hlk, hown, hnm⟩ E ⟨_, A, by rw [sz_new, clampI hu], small hu, fun i hi => ⟨?_, ?_⟩⟩)
  · simp [newA, clampI hu, hi, hdv]
  · rw [← hdv]; cases aty <;> first | rfl | (simp [newarray.typeOf, defaultValue] at hdv)
theorem px_newarrJ (S : St K Z R y bytes maxL ret n0 T h cl sl) (w : (Jvm.Cond.arrayClass FieldType.long).before a0 Z = true) {u : Int32} {cap : Nat} (hu : u.toInt = (n : Int)) (hcap : n ≤ cap) (hb8 : cap * 8 ≤ 536870912) (hc : cl + 1 ≤ R.cells) (hs : sl + cap ≤ R.slots)
    (hd : decode bytes pc = .ok (.newarray .long, 2)) (hp : pc + 2 = pc')
    (k : ∀ (T' : State) (h' : Heap) (a : Addr), a = h.size → n0 ≤ a → St K Z R y bytes maxL ret n0 T' h' (cl + 1) (sl + cap) → Ext h h' → AJ Z h' a n (fun _ => 0) → Go K R n0 Q T' pc' L (.ref a :: st)) : Go K R n0 Q T pc L (.int u :: st) := by
  subst hp
  have hsz := S.size
  obtain ⟨⟨locs, X, hF⟩, e0, hn0, hx, hZ, hby, hml, hret, hlk, hown, hnm⟩ := S
  obtain ⟨T', h', cA, X', e', E, A, stp⟩ := newP X hx hZ (aty := .long) w e0 (g := mkF K.m pc L (.int u :: st)) rfl (hb hby hd) rfl (nneg hu) (cap := cap) (by rw [clampI hu]; exact hcap) hb8 hc hs
  refine Go.step stp (k T' h' h.size rfl hsz ⟨⟨_, X', hF⟩, e', hn0, hx, hZ, hby, hml, hret, hlk, hown, hnm⟩ E ⟨_, A, by rw [sz_new, clampI hu], small hu, fun i hi => ?_⟩)
  simp [newA, clampI hu, hi, defaultValue, newarray.typeOf]
theorem px_new {C : String} {idx k0 : Nat} (S : St K Z R y bytes maxL ret n0 T h cl sl) (w : (Jvm.Cond.classLink y.cls idx C).before a0 Z = true) (wi : (Jvm.Cond.instantiable C k0).before a0 Z = true) (wz : (Jvm.Cond.initialized C).before a0 Z = true) (hc : cl + 1 ≤ R.cells) (hs : sl + k0 ≤ R.slots) (hd : decode bytes pc = .ok (.new idx, 3)) (hp : pc + 3 = pc')
    (k : ∀ (T' : State) (h' : Heap) (a : Addr), a = h.size → n0 ≤ a → St K Z R y bytes maxL ret n0 T' h' (cl + 1) (sl + k0) → Ext h h' → Exa Z h' a C → (∀ {O nm d : String} {ty : FieldType}, Laid Z a0 C O nm d → parseFieldDescriptor d = some ty → Fld Z h' a O nm d (defaultValue ty)) → Go K R n0 Q T' pc' L (.ref a :: st)) : Go K R n0 Q T pc L st := by
  subst hp
  have hsz := S.size
  obtain ⟨⟨locs, X, hF⟩, e0, hn0, hx, hZ, hby, hml, hret, hlk, hown, hnm⟩ := S
  obtain ⟨T', h', X', e', E, A, D, -, stp⟩ := newO X hx hZ hown w wi wz e0 (g := mkF K.m pc L st) rfl (hb hby hd) hc hs
  exact Go.step stp (k T' h' h.size rfl hsz ⟨⟨_, X', hF⟩, e', hn0, hx, hZ, hby, hml, hret, hlk, hown, hnm⟩ E A (fun {O nm d ty} => D))
theorem px_getfield {C nm d : String} {idx : Nat} {v : Value} (S : St K Z R y bytes maxL ret n0 T h cl sl) (w : (Jvm.Cond.fieldLink y.cls idx C nm d).before a0 Z = true) (F : Fld Z h a C nm d v) (hd : decode bytes pc = .ok (.getfield idx, 3)) (hp : pc + 3 = pc')
    (k : ∀ (T' : State), St K Z R y bytes maxL ret n0 T' h cl sl → Go K R n0 Q T' pc' L (v :: st)) : Go K R n0 Q T pc L (.ref a :: st) := by
  subst hp
  obtain ⟨⟨locs, X, hF⟩, e0, hn0, hx, hZ, hby, hml, hret, hlk, hown, hnm⟩ := S
  obtain ⟨T', X', e', stp⟩ := getF X hx hZ hown (host := "") (Or.inl w) Via.refl e0 F (g := mkF K.m pc L (.ref a :: st)) rfl rfl (hb hby hd)
  exact Go.step stp (k T' ⟨⟨_, X', hF⟩, e', hn0, hx, hZ, hby, hml, hret, hlk, hown, hnm⟩)
theorem px_putfield {C nm d : String} {idx kk : Nat} {v v' old : Value} {ty : FieldType} (S : St K Z R y bytes maxL ret n0 T h cl sl) (w : (Jvm.Cond.fieldLink y.cls idx C nm d).before a0 Z = true) (F : Fld Z h a C nm d old) (E : Exa Z h a C) (ha : n0 ≤ a)
    (hl : (Jvm.Cond.lays C C nm d).before a0 Z = true ∨ ((Jvm.Cond.laysFinal C C nm d).before a0 Z = true ∧ y.cls = C ∧ y.name = "<init>")) (wi : (Jvm.Cond.instantiable C kk).before a0 Z = true) (hty : parseFieldDescriptor d = some ty) (hv : narrow ty v = v') (hf : fits ty v' = true) (hd : decode bytes pc = .ok (.putfield idx, 3)) (hp : pc + 3 = pc')
    (k : ∀ (T' : State) (h' : Heap), St K Z R y bytes maxL ret n0 T' h' cl sl → Wr h h' a (Jvm.RoadKit.slotOf Z C nm d) v' → Fld Z h' a C nm d v' → Exa Z h' a C → Go K R n0 Q T' pc' L st) : Go K R n0 Q T pc L (v :: .ref a :: st) := by
  subst hp
  obtain ⟨⟨locs, X, hF⟩, e0, hn0, hx, hZ, hby, hml, hret, hlk, hown, hnm⟩ := S
  obtain ⟨T', h', X', e', W, stp⟩ := putFN X hx hZ hown w Via.refl e0 F E (hl.imp id fun q => ⟨q.1, q.2.1, hnm.trans q.2.2⟩) wi hty hv hf (g := mkF K.m pc L (v :: .ref a :: st)) rfl rfl (hb hby hd)
  have hF' := Fr.snoc X' hF ha
  exact Go.step stp (k T' h' ⟨⟨_, X', hF'⟩, e', hn0, hx, hZ, hby, hml, hret, hlk, hown, hnm⟩ W (F.same W) (E.wr W))
theorem px_initO {idx W : Nat} (S : St K Z R y bytes maxL ret n0 T h cl sl) (w1 : (Jvm.Cond.methodLink y.cls idx Lib.objectInit).before a0 Z = true) (w2 : (Jvm.Cond.instanceMethod Lib.objectInit).before a0 Z = true) (w3 : (Jvm.Cond.code Lib.objectInit ⟨#[0xb1]⟩ 1 none).before a0 Z = true) (hL : L.size = maxL) (hfr : 1 ≤ R.frames) (hW : (st.map fun v => v.category).sum = W) (hlo : W + 12 ≤ R.locals) (hd : decode bytes pc = .ok (.invokespecial idx, 3)) (hp : pc + 3 = pc')
    (k : ∀ (T' : State), St K Z R y bytes maxL ret n0 T' h cl sl → Go K R n0 Q T' pc' L st) : Go K R n0 Q T pc L (.ref a :: st) := by
  subst hp
  obtain ⟨⟨locs, X, hF⟩, e0, hn0, hx, hZ, hby, hml, hret, hlk, hown, hnm⟩ := S
  obtain ⟨T', X', e', stp⟩ := initO X hx hZ hown w1 w2 w3 e0 (g := mkF K.m pc L (.ref a :: st)) rfl (hL.trans hml.symm) rfl (hb hby hd) hfr (W := W) (by show 2 * 0 + _ ≤ _; rw [hW]; omega) hlo
  exact Go.step stp (k T' ⟨⟨_, X', hF⟩, e', hn0, hx, hZ, hby, hml, hret, hlk, hown, hnm⟩)
theorem px_callS {y' : MethodName} {b' : ByteArray} {mx' : Nat} {rt' : Option FieldType} {rm : Room} {as' : List Value} {Q' : Option Value → Heap → Prop} {W idx : Nat} {ps : List FieldType} {rr : Option FieldType} (S : St K Z R y bytes maxL ret n0 T h cl sl) (C : Ctr Z n0 y' b' mx' rt' rm as' h Q') (w1 : (Jvm.Cond.methodLink y.cls idx y').before a0 Z = true) (w2 : (Jvm.Cond.static y').before a0 Z = true) (w3 : (Jvm.Cond.initialized y'.cls).before a0 Z = true) (w4 : (Jvm.Cond.code y' b' mx' rt').before a0 Z = true) (hy : y'.cls ≠ "java/lang/invoke/MethodHandle" ∧ y'.cls ≠ "java/lang/invoke/VarHandle")
    (hps : parseMethodDescriptor y'.desc = some ⟨ps, rr⟩) (hlen : as'.length = ps.length) (hL : L.size = maxL) (hfr : rm.frames + 1 ≤ R.frames) (hW : (st.map fun v => v.category).sum = W) (hlo : W + (mx' + 11) + rm.locals ≤ R.locals) (hc : cl + rm.cells ≤ R.cells) (hs : sl + rm.slots ≤ R.slots) (hd : decode bytes pc = .ok (.invokestatic idx, 3)) (hp : pc + 3 = pc') {stk : List Value} (hst : stk = as'.reverse ++ st)
    (k : ∀ (T' : State) (h' : Heap) (v : Option Value), St K Z R y bytes maxL ret n0 T' h' (cl + rm.cells) (sl + rm.slots) → Q' v h' → Go K R n0 Q T' pc' L (v.toList ++ st)) : Go K R n0 Q T pc L stk := by
  subst hp
  subst hst
  obtain ⟨⟨locs, X, hF⟩, e0, hn0, hx, hZ, hby, hml, hret, hlk, hown, hnm⟩ := S
  obtain ⟨v, _, ⟨T1, L1, c1, n1⟩, -, X1, ⟨Lc, hq, hl1, hc1, hs1⟩, stp⟩ := Jvm.LawKit.callS X hx (y := y') hown (mvT hZ w1) (mvT hZ w2) (mvT hZ w3) (mvT hZ w4) hy (backOf (Q := fun v h' L => Q' v h' ∧ Fr n0 L) (W := W) (C K.l []) hZ w4 w3 hfr hlo) (g := mkF K.m pc L (as'.reverse ++ st)) rfl (hL.trans hml.symm) (argsL := as') (rest := st) (lenOf hps hlen) rfl (by show 2 * 0 + _ ≤ _; rw [hW]; omega) (hb hby hd) (fun _ _ => ⟨rfl, e0, hc, hs⟩)
  dsimp only [Pt.U, Pt.locs, Pt.cells, Pt.slots] at X1 hl1 hc1 hs1 stp hq
  subst hl1 hc1 hs1
  obtain ⟨hq, hFc⟩ := hq
  exact Go.step stp (k T1 T1.heap v ⟨⟨_, X1, Fr.app hF hFc⟩, rfl, hn0, hx, hZ, hby, hml, hret, hlk, hown, hnm⟩ hq)
theorem Go.trans {T' : State} {st' : List Value} (hs : Steps K.p.tables K.e K.below (T.setTop (mkF K.m pc L st)) (T'.setTop (mkF K.m pc' L' st'))) (k : Go K R n0 Q T' pc' L' st') : Go K R n0 Q T pc L st := by
  obtain ⟨s₂, o, h1, r⟩ := k
  exact ⟨s₂, o, hs.trans h1, r⟩
theorem px_callC {y' : MethodName} {b' : ByteArray} {mx' : Nat} {rm : Room} {as' : List Value} {Q' : Option Value → Heap → Prop} {W idx : Nat} {ps : List FieldType} {rr : Option FieldType} (S : St K Z R y bytes maxL ret n0 T h cl sl) (C : Ctr Z n0 y' b' mx' none rm (.ref a :: as') h Q') (hin : y'.name = "<init>") (w1 : (Jvm.Cond.methodLink y.cls idx y').before a0 Z = true) (w2 : (Jvm.Cond.instanceMethod y').before a0 Z = true) (w3 : (Jvm.Cond.initialized y'.cls).before a0 Z = true) (w4 : (Jvm.Cond.code y' b' mx' none).before a0 Z = true) (hy : y'.cls ≠ "java/lang/invoke/MethodHandle" ∧ y'.cls ≠ "java/lang/invoke/VarHandle")
    (hps : parseMethodDescriptor y'.desc = some ⟨ps, rr⟩) (hlen : as'.length = ps.length) (hL : L.size = maxL) (hfr : rm.frames + 1 ≤ R.frames) (hW : (st.map fun v => v.category).sum = W) (hlo : W + (mx' + 11) + rm.locals ≤ R.locals) (hc : cl + rm.cells ≤ R.cells) (hs : sl + rm.slots ≤ R.slots) (hd : decode bytes pc = .ok (.invokespecial idx, 3)) (hp : pc + 3 = pc') {stk : List Value} (hst : stk = as'.reverse ++ .ref a :: st)
    (k : ∀ (T' : State) (h' : Heap) (v : Option Value), St K Z R y bytes maxL ret n0 T' h' (cl + rm.cells) (sl + rm.slots) → Q' v h' → Go K R n0 Q T' pc' L (v.toList ++ st)) : Go K R n0 Q T pc L stk := by
  subst hp
  subst hst
  obtain ⟨⟨locs, X, hF⟩, e0, hn0, hx, hZ, hby, hml, hret, hlk, hown, hnm⟩ := S
  obtain ⟨v, _, ⟨T1, L1, c1, n1⟩, -, X1, ⟨Lc, hq, hl1, hc1, hs1⟩, stp⟩ := X.specialBack hx (y := y') hin hown (mvT hZ w1) (mvT hZ w2) (mvT hZ w4) hy (backOf (Q := fun v h' L => Q' v h' ∧ Fr n0 L) (W := W) (C K.l []) hZ w4 w3 hfr hlo) (g := mkF K.m pc L (as'.reverse ++ .ref a :: st)) rfl (hL.trans hml.symm) (Steps.refl _) (a := a) (argsL := as') (rest := st) (lenOf hps hlen) rfl (by show 2 * 0 + _ ≤ _; rw [hW]; omega) (hb hby hd) (fun _ _ => ⟨rfl, e0, hc, hs⟩)
  dsimp only [Pt.U, Pt.locs, Pt.cells, Pt.slots] at X1 hl1 hc1 hs1 stp hq
  subst hl1 hc1 hs1
  obtain ⟨hq, hFc⟩ := hq
  exact Go.trans stp (k T1 T1.heap v ⟨⟨_, X1, Fr.app hF hFc⟩, rfl, hn0, hx, hZ, hby, hml, hret, hlk, hown, hnm⟩ hq)
theorem px_callV {y' : MethodName} {b' : ByteArray} {mx' : Nat} {rt' : Option FieldType} {rm : Room} {as' : List Value} {Q' : Option Value → Heap → Prop} {W idx : Nat} {ps : List FieldType} {rr : Option FieldType} {Cn : String} (S : St K Z R y bytes maxL ret n0 T h cl sl) (C : Ctr Z n0 y' b' mx' rt' rm (.ref a :: as') h Q') (E : Exa Z h a Cn) (w1 : (Jvm.Cond.methodLink y.cls idx y').before a0 Z = true) (w2 : (Jvm.Cond.declares y').before a0 Z = true) (w5 : (Jvm.Cond.selects Cn y' y').before a0 Z = true) (w6 : (Jvm.Cond.instanceMethod y').before a0 Z = true) (w3 : (Jvm.Cond.initialized y'.cls).before a0 Z = true) (w4 : (Jvm.Cond.code y' b' mx' rt').before a0 Z = true) (hnf : NotFace K.s y') (hy : y'.cls ≠ "java/lang/invoke/MethodHandle" ∧ y'.cls ≠ "java/lang/invoke/VarHandle")
    (hps : parseMethodDescriptor y'.desc = some ⟨ps, rr⟩) (hlen : as'.length = ps.length) (hL : L.size = maxL) (hfr : rm.frames + 1 ≤ R.frames) (hW : (st.map fun v => v.category).sum = W) (hlo : W + (mx' + 11) + rm.locals ≤ R.locals) (hc : cl + rm.cells ≤ R.cells) (hs : sl + rm.slots ≤ R.slots) (hd : decode bytes pc = .ok (.invokevirtual idx, 3)) (hp : pc + 3 = pc') {stk : List Value} (hst : stk = as'.reverse ++ .ref a :: st)
    (k : ∀ (T' : State) (h' : Heap) (v : Option Value), St K Z R y bytes maxL ret n0 T' h' (cl + rm.cells) (sl + rm.slots) → Q' v h' → Go K R n0 Q T' pc' L (v.toList ++ st)) : Go K R n0 Q T pc L stk := by
  subst hp
  subst hst
  obtain ⟨⟨locs, X, hF⟩, e0, hn0, hx, hZ, hby, hml, hret, hlk, hown, hnm⟩ := S
  obtain ⟨cq, kq, qa, qb, qc⟩ := isOf hZ e0 E
  obtain ⟨v, _, ⟨T1, L1, c1, n1⟩, -, X1, ⟨Lc, hq, hl1, hc1, hs1⟩, stp⟩ := X.virtualBack hx (y := y') (z := y') hown (mvT hZ w1) (mvT hZ w2) hnf (mvT hZ w5) (mvT hZ w6) hy (backOf (Q := fun v h' L => Q' v h' ∧ Fr n0 L) (W := W) (C K.l []) hZ w4 w3 hfr hlo) qa qc (g := mkF K.m pc L (as'.reverse ++ .ref a :: st)) rfl (hL.trans hml.symm) (Steps.refl _) (argsL := as') (rest := st) (lenOf hps hlen) rfl (by show 2 * 0 + _ ≤ _; rw [hW]; omega) (hb hby hd) (fun _ _ => ⟨rfl, e0, hc, hs⟩)
  dsimp only [Pt.U, Pt.locs, Pt.cells, Pt.slots] at X1 hl1 hc1 hs1 stp hq
  subst hl1 hc1 hs1
  obtain ⟨hq, hFc⟩ := hq
  exact Go.trans stp (k T1 T1.heap v ⟨⟨_, X1, Fr.app hF hFc⟩, rfl, hn0, hx, hZ, hby, hml, hret, hlk, hown, hnm⟩ hq)
theorem px_callI {y' : MethodName} {b' : ByteArray} {mx' : Nat} {rt' : Option FieldType} {rm : Room} {as' : List Value} {Q' : Option Value → Heap → Prop} {W idx : Nat} {ps : List FieldType} {rr : Option FieldType} {Cn : String} {xi : MethodName} {count : Nat} (S : St K Z R y bytes maxL ret n0 T h cl sl) (C : Ctr Z n0 y' b' mx' rt' rm (.ref a :: as') h Q') (E : Exa Z h a Cn) (w1 : (Jvm.Cond.methodLink y.cls idx xi).before a0 Z = true) (w2 : (Jvm.Cond.declares xi).before a0 Z = true) (w7 : (Jvm.Cond.interfaceMethod xi.cls xi.cls xi.name xi.desc).before a0 Z = true) (hface : ((Jvm.Cond.interfaceMethod xi.cls xi.cls xi.name xi.desc).onTables && (Jvm.Cond.interfaceMethod xi.cls xi.cls xi.name xi.desc).keepsFace) = true) (w5 : (Jvm.Cond.selects Cn xi y').before a0 Z = true) (w6 : (Jvm.Cond.instanceMethod y').before a0 Z = true) (w8 : (Jvm.Cond.publicMethod y').before a0 Z = true) (w9 : (Jvm.Cond.unhidden Cn xi.name xi.desc).before a0 Z = true) (w10 : (Jvm.Cond.castable Cn xi.cls).before a0 Z = true) (w3 : (Jvm.Cond.initialized y'.cls).before a0 Z = true) (w4 : (Jvm.Cond.code y' b' mx' rt').before a0 Z = true) (hy : xi.cls ≠ "java/lang/invoke/MethodHandle" ∧ xi.cls ≠ "java/lang/invoke/VarHandle")
    (hps : parseMethodDescriptor xi.desc = some ⟨ps, rr⟩) (hlen : as'.length = ps.length) (hL : L.size = maxL) (hfr : rm.frames + 1 ≤ R.frames) (hW : (st.map fun v => v.category).sum = W) (hlo : W + (mx' + 11) + rm.locals ≤ R.locals) (hc : cl + rm.cells ≤ R.cells) (hs : sl + rm.slots ≤ R.slots) (hd : decode bytes pc = .ok (.invokeinterface idx count, 5)) (hp : pc + 5 = pc') {stk : List Value} (hst : stk = as'.reverse ++ .ref a :: st)
    (k : ∀ (T' : State) (h' : Heap) (v : Option Value), St K Z R y bytes maxL ret n0 T' h' (cl + rm.cells) (sl + rm.slots) → Q' v h' → Go K R n0 Q T' pc' L (v.toList ++ st)) : Go K R n0 Q T pc L stk := by
  subst hp
  subst hst
  obtain ⟨⟨locs, X, hF⟩, e0, hn0, hx, hZ, hby, hml, hret, hlk, hown, hnm⟩ := S
  obtain ⟨cq, kq, qa, qb, qc⟩ := isOf hZ e0 E
  obtain ⟨v, _, ⟨T1, L1, c1, n1⟩, -, X1, ⟨Lc, hq, hl1, hc1, hs1⟩, stp⟩ := X.interfaceBack hx (xi := xi) (y := y') hown (mvT hZ w1) (mvT hZ w2) (mvT hZ w7 hface) (mvT hZ w5) (mvT hZ w6) (mvT hZ w8) (mvT hZ w9) (mvT hZ w10) hy (backOf (Q := fun v h' L => Q' v h' ∧ Fr n0 L) (W := W) (C K.l []) hZ w4 w3 hfr hlo) qa qb qc (g := mkF K.m pc L (as'.reverse ++ .ref a :: st)) rfl (hL.trans hml.symm) (Steps.refl _) (argsL := as') (rest := st) (lenOf hps hlen) rfl (by show 2 * 0 + _ ≤ _; rw [hW]; omega) (hb hby hd) (fun _ _ => ⟨rfl, e0, hc, hs⟩)
  dsimp only [Pt.U, Pt.locs, Pt.cells, Pt.slots] at X1 hl1 hc1 hs1 stp hq
  subst hl1 hc1 hs1
  obtain ⟨hq, hFc⟩ := hq
  exact Go.trans stp (k T1 T1.heap v ⟨⟨_, X1, Fr.app hF hFc⟩, rfl, hn0, hx, hZ, hby, hml, hret, hlk, hown, hnm⟩ hq)
theorem St.nf {y' : MethodName} (S : St K Z R y bytes maxL ret n0 T h cl sl) (w : (Jvm.Cond.selects y'.cls y' y').before a0 Z = true) : NotFace K.s y' := by
  obtain ⟨⟨locs, X, hF⟩, e0, hn0, hx, hZ, hby, hml, hret, hlk, hown, hnm⟩ := S
  exact notFace_of_selects (args := #[]) (mvT hZ w)
theorem px_lsw (S : St K Z R y bytes maxL ret n0 T h cl sl) {df o : Int} {ps : Array (Int × Int)} {pl : List (Int × Int)} {ln : Nat} {u : Int32} (hd : decode bytes pc = .ok (.lookupswitch df ps, ln)) (hpl : ps.toList = pl) (hm : (pl.zip (pl.drop 1)).all (fun (a, next) => a.1 < next.1) = true) (hu : lookupswitch.offset pl df u.toInt = o) (ho : 0 ≤ (pc : Int) + o) (hp : ((pc : Int) + o).toNat = pc') (k : Go K R n0 Q T pc' L st) : Go K R n0 Q T pc L (.int u :: st) := by
  subst hp
  subst hpl
  obtain ⟨⟨locs, X, hF⟩, e0, hn0, hx, hZ, hby, hml, hret, hlk, hown, hnm⟩ := S
  refine Go.step (fun _ t => ?_) k
  have hd' := hb hby hd
  show Steps K.p.tables K.e K.below (T.setTop { method := K.m, pc := pc, locals := L, stack := .int u :: st, locked := none }) _
  jvm_step X.here [X.here.top, hx, hd', lookupswitch.wp_chain, hu, ho]
  exact ⟨by simpa using hm, t⟩
theorem Go.join {α : Type} {P : α → Prop} {pcj : Nat} {Lj : α → Array Slot} {stj : α → List Value} (h1 : ∀ x, P x → Go K R n0 Q T pcj (Lj x) (stj x)) (h2 : (∀ x, P x → Go K R n0 Q T pcj (Lj x) (stj x)) → Go K R n0 Q T pc L st) : Go K R n0 Q T pc L st := h2 h1
theorem Go.joinT {α : Type} {P : α → Prop} {pcj cl' sl' : Nat} {Lj : α → Array Slot} {stj : α → List Value} (S : St K Z R y bytes maxL ret n0 T h cl sl) (h1 : ∀ (x : α) (T' : State), St K Z R y bytes maxL ret n0 T' h cl' sl' → P x → Go K R n0 Q T' pcj (Lj x) (stj x)) (h2 : (∀ (x : α) (T' : State), St K Z R y bytes maxL ret n0 T' h cl' sl' → P x → Go K R n0 Q T' pcj (Lj x) (stj x)) → Go K R n0 Q T pc L st) : Go K R n0 Q T pc L st := h2 h1
theorem Go.joinH {α : Type} {P : α → Heap → Prop} {pcj cl' sl' : Nat} {Lj : α → Array Slot} {stj : α → List Value} (S : St K Z R y bytes maxL ret n0 T h cl sl) (h1 : ∀ (x : α) (T' : State) (h' : Heap), St K Z R y bytes maxL ret n0 T' h' cl' sl' → P x h' → Go K R n0 Q T' pcj (Lj x) (stj x)) (h2 : (∀ (x : α) (T' : State) (h' : Heap), St K Z R y bytes maxL ret n0 T' h' cl' sl' → P x h' → Go K R n0 Q T' pcj (Lj x) (stj x)) → Go K R n0 Q T pc L st) : Go K R n0 Q T pc L st := h2 h1
theorem Go.loopH {α : Type} {Inv : Nat → α → Heap → Prop} {pcj cl' sl' : Nat} {Lj : α → Array Slot} {stj : α → List Value} (S : St K Z R y bytes maxL ret n0 T h cl sl)
    (h1 : ∀ k, (∀ j, j < k → ∀ (x : α) (T' : State) (h' : Heap), St K Z R y bytes maxL ret n0 T' h' cl' sl' → Inv j x h' → Go K R n0 Q T' pcj (Lj x) (stj x)) → ∀ (x : α) (T' : State) (h' : Heap), St K Z R y bytes maxL ret n0 T' h' cl' sl' → Inv k x h' → Go K R n0 Q T' pcj (Lj x) (stj x))
    (h2 : (∀ (k : Nat) (x : α) (T' : State) (h' : Heap), St K Z R y bytes maxL ret n0 T' h' cl' sl' → Inv k x h' → Go K R n0 Q T' pcj (Lj x) (stj x)) → Go K R n0 Q T pc L st) : Go K R n0 Q T pc L st := h2 (fun k => Nat.strongRecOn k h1)
theorem i32_of {x y : Int32} {n : Int} (h : x.toInt = n) (hy : y.toInt = n) : x = y := Int32.toInt_inj.mp (h.trans hy.symm)
theorem i64_of {x y : Int64} {n : Int} (h : x.toInt = n) (hy : y.toInt = n) : x = y := Int64.toInt_inj.mp (h.trans hy.symm)
theorem ne_new {a b n : Nat} (e : a = n) (h : b < n) : b ≠ a := by omega
theorem f_imul (x y : Int32) (n : Int) (hy : y.toInt = n) : ((x * y).toInt - x.toInt * n) % 4294967296 = 0 := by rw [← hy]; exact c_imul x y
theorem f_imul' (x y : Int32) (n : Int) (hx : x.toInt = n) : ((x * y).toInt - n * y.toInt) % 4294967296 = 0 := by rw [← hx]; exact c_imul x y
theorem f_lmul (x y : Int64) (n : Int) (hy : y.toInt = n) : ((x * y).toInt - x.toInt * n) % 18446744073709551616 = 0 := by rw [← hy]; exact c_lmul x y
theorem f_lmul' (x y : Int64) (n : Int) (hx : x.toInt = n) : ((x * y).toInt - n * y.toInt) % 18446744073709551616 = 0 := by rw [← hx]; exact c_lmul x y
theorem f_imask (x m : Int32) (k : Nat) (P : Int) (hk : k ≤ 31) (hm : m.toBitVec.toNat = 2 ^ k - 1) (hP : ((2 ^ k : Nat) : Int) = P) : (x &&& m).toInt = x.toInt % P := by rw [← hP]; exact c_mask x m k hk hm
theorem f_imask' (m x : Int32) (k : Nat) (P : Int) (hk : k ≤ 31) (hm : m.toBitVec.toNat = 2 ^ k - 1) (hP : ((2 ^ k : Nat) : Int) = P) : (m &&& x).toInt = x.toInt % P := by rw [Int32.and_comm]; exact f_imask x m k P hk hm hP
theorem f_lmask (x m : Int64) (k : Nat) (P : Int) (hk : k ≤ 63) (hm : m.toBitVec.toNat = 2 ^ k - 1) (hP : ((2 ^ k : Nat) : Int) = P) : (x &&& m).toInt = x.toInt % P := by rw [← hP]; exact c_maskL x m k hk hm
theorem f_lmask' (m x : Int64) (k : Nat) (P : Int) (hk : k ≤ 63) (hm : m.toBitVec.toNat = 2 ^ k - 1) (hP : ((2 ^ k : Nat) : Int) = P) : (m &&& x).toInt = x.toInt % P := by rw [Int64.and_comm]; exact f_lmask x m k P hk hm hP
theorem f_ishl (x q : Int32) (k : Nat) (P : Int) (hk : q.toBitVec.toNat % 32 = k) (hP : ((2 ^ k : Nat) : Int) = P) : ((x <<< (q &&& 31)).toInt - x.toInt * P) % 4294967296 = 0 := by rw [← hP]; exact c_ishl x q k hk
theorem f_ishr (x q : Int32) (k : Nat) (P : Int) (hk : q.toBitVec.toNat % 32 = k) (hP : ((2 ^ k : Nat) : Int) = P) : (x >>> (q &&& 31)).toInt = x.toInt / P := by rw [← hP]; exact c_ishr x q k hk
theorem f_iushr (x q : Int32) (k : Nat) (P : Int) (hk : q.toBitVec.toNat % 32 = k) (h0 : 0 < k) (hP : ((2 ^ k : Nat) : Int) = P) : (ushr x q).toInt = (x.toInt % 4294967296) / P := by rw [← hP]; exact c_iushr x q k hk h0
theorem f_lshl (x : Int64) (q : Int32) (k : Nat) (P : Int) (hk : q.toBitVec.toNat % 64 = k) (hP : ((2 ^ k : Nat) : Int) = P) : ((x <<< (q &&& 0x3f).toInt64).toInt - x.toInt * P) % 18446744073709551616 = 0 := by rw [← hP]; exact c_lshl x q k hk
theorem f_lshr (x : Int64) (q : Int32) (k : Nat) (P : Int) (hk : q.toBitVec.toNat % 64 = k) (hP : ((2 ^ k : Nat) : Int) = P) : (x >>> (q &&& 0x3f).toInt64).toInt = x.toInt / P := by rw [← hP]; exact c_lshr x q k hk
theorem f_lushr (x : Int64) (q : Int32) (k : Nat) (P : Int) (hk : q.toBitVec.toNat % 64 = k) (h0 : 0 < k) (hP : ((2 ^ k : Nat) : Int) = P) : (ushrL x q).toInt = (x.toInt % 18446744073709551616) / P := by rw [← hP]; exact c_lushr x q k hk h0
theorem f_idiv (x y : Int32) (d : Int) (hy : y.toInt = d) (hd : y ≠ -1) : (0 ≤ x.toInt → (x / y).toInt = x.toInt / d) ∧ (x.toInt < 0 → (x / y).toInt = -((-x.toInt) / d)) := c_idiv x y d hy hd
theorem f_irem (x y : Int32) (d : Int) (hy : y.toInt = d) : (0 ≤ x.toInt → (x % y).toInt = x.toInt % d) ∧ (x.toInt < 0 → (x % y).toInt = -((-x.toInt) % d)) := c_irem x y d hy
theorem f_ldiv (x y : Int64) (d : Int) (hy : y.toInt = d) (hd : y ≠ -1) : (0 ≤ x.toInt → (x / y).toInt = x.toInt / d) ∧ (x.toInt < 0 → (x / y).toInt = -((-x.toInt) / d)) := c_ldiv x y d hy hd
theorem f_i2b (x : Int32) : ((i2b x).toInt - x.toInt) % 256 = 0 ∧ -128 ≤ (i2b x).toInt ∧ (i2b x).toInt < 128 := c_i2b x
theorem f_i2s (x : Int32) : ((i2s x).toInt - x.toInt) % 65536 = 0 ∧ -32768 ≤ (i2s x).toInt ∧ (i2s x).toInt < 32768 := c_i2s x
theorem f_i2c (x : Int32) : ((i2c x).toInt - x.toInt) % 65536 = 0 ∧ 0 ≤ (i2c x).toInt ∧ (i2c x).toInt < 65536 := c_i2c x
theorem x_iadd {a b : Int32} {la ha lb hb : Int} (p : la ≤ a.toInt ∧ a.toInt ≤ ha) (q : lb ≤ b.toInt ∧ b.toInt ≤ hb) (h1 : -2147483648 ≤ la + lb) (h2 : ha + hb < 2147483648) : (a + b).toInt = a.toInt + b.toInt := by have r := c_iadd a b; have s := rng32 (a + b); omega
theorem x_isub {a b : Int32} {la ha lb hb : Int} (p : la ≤ a.toInt ∧ a.toInt ≤ ha) (q : lb ≤ b.toInt ∧ b.toInt ≤ hb) (h1 : -2147483648 ≤ la - hb) (h2 : ha - lb < 2147483648) : (a - b).toInt = a.toInt - b.toInt := by have r := c_isub a b; have s := rng32 (a - b); omega
theorem x_imask {a m : Int32} {P : Int} (k : Nat) (hk : k ≤ 32 - 1) (hm : m.toBitVec.toNat = 2 ^ k - 1) (hP : ((2 ^ k : Nat) : Int) = P) : (a &&& m).toInt = a.toInt % P := f_imask a m k P hk hm hP
theorem x_ineg {a : Int32} {la ha : Int} (p : la ≤ a.toInt ∧ a.toInt ≤ ha) (h1 : -2147483648 < la) : (-a).toInt = -a.toInt := by have r := c_ineg a; have s := rng32 (-a); have t := rng32 a; omega
theorem x_ishr {x : Int32} {q : Int32} {P : Int} (k : Nat) (hk : q.toBitVec.toNat % 32 = k) (hP : ((2 ^ k : Nat) : Int) = P) : (x >>> (q &&& 31)).toInt = x.toInt / P := f_ishr x q k P hk hP
theorem x_iushr {x : Int32} {q : Int32} {P la ha : Int} (p : la ≤ x.toInt ∧ x.toInt ≤ ha) (h1 : 0 ≤ la) (k : Nat) (hk : q.toBitVec.toNat % 32 = k) (h0 : 0 < k) (hP : ((2 ^ k : Nat) : Int) = P) : (ushr x q).toInt = x.toInt / P := by
  have r := f_iushr x q k P hk h0 hP
  have s := rng32 x
  rw [r]; congr 1; omega
theorem x_imul {a b : Int32} {la ha n : Int} (p : la ≤ a.toInt ∧ a.toInt ≤ ha) (hn : b.toInt = n) (h0 : 0 ≤ n) (h1 : -2147483648 ≤ la * n) (h2 : ha * n < 2147483648) : (a * b).toInt = a.toInt * n := by
  have r := f_imul a b n hn
  have s := rng32 (a * b)
  have m1 := Int.mul_le_mul_of_nonneg_right p.1 h0
  have m2 := Int.mul_le_mul_of_nonneg_right p.2 h0
  generalize a.toInt * n = z at *
  generalize la * n = z1 at *
  generalize ha * n = z2 at *
  omega
theorem x_imulN {a b : Int32} {la ha n : Int} (p : la ≤ a.toInt ∧ a.toInt ≤ ha) (hn : b.toInt = n) (h0 : n ≤ 0) (h1 : -2147483648 ≤ ha * n) (h2 : la * n < 2147483648) : (a * b).toInt = a.toInt * n := by
  have r := f_imul a b n hn
  have s := rng32 (a * b)
  have m1 := Int.mul_le_mul_of_nonpos_right p.1 h0
  have m2 := Int.mul_le_mul_of_nonpos_right p.2 h0
  generalize a.toInt * n = z at *
  generalize la * n = z1 at *
  generalize ha * n = z2 at *
  omega
theorem x_imulN' {a b : Int32} {la ha n : Int} (p : la ≤ b.toInt ∧ b.toInt ≤ ha) (hn : a.toInt = n) (h0 : n ≤ 0) (h1 : -2147483648 ≤ ha * n) (h2 : la * n < 2147483648) : (a * b).toInt = b.toInt * n := by
  rw [Int32.mul_comm]; exact x_imulN p hn h0 h1 h2
theorem x_imul' {a b : Int32} {la ha n : Int} (p : la ≤ b.toInt ∧ b.toInt ≤ ha) (hn : a.toInt = n) (h0 : 0 ≤ n) (h1 : -2147483648 ≤ la * n) (h2 : ha * n < 2147483648) : (a * b).toInt = b.toInt * n := by
  rw [Int32.mul_comm]; exact x_imul p hn h0 h1 h2
theorem x_ladd {a b : Int64} {la ha lb hb : Int} (p : la ≤ a.toInt ∧ a.toInt ≤ ha) (q : lb ≤ b.toInt ∧ b.toInt ≤ hb) (h1 : -9223372036854775808 ≤ la + lb) (h2 : ha + hb < 9223372036854775808) : (a + b).toInt = a.toInt + b.toInt := by have r := c_ladd a b; have s := rng64 (a + b); omega
theorem x_lsub {a b : Int64} {la ha lb hb : Int} (p : la ≤ a.toInt ∧ a.toInt ≤ ha) (q : lb ≤ b.toInt ∧ b.toInt ≤ hb) (h1 : -9223372036854775808 ≤ la - hb) (h2 : ha - lb < 9223372036854775808) : (a - b).toInt = a.toInt - b.toInt := by have r := c_lsub a b; have s := rng64 (a - b); omega
theorem x_lmask {a m : Int64} {P : Int} (k : Nat) (hk : k ≤ 64 - 1) (hm : m.toBitVec.toNat = 2 ^ k - 1) (hP : ((2 ^ k : Nat) : Int) = P) : (a &&& m).toInt = a.toInt % P := f_lmask a m k P hk hm hP
theorem x_lneg {a : Int64} {la ha : Int} (p : la ≤ a.toInt ∧ a.toInt ≤ ha) (h1 : -9223372036854775808 < la) : (-a).toInt = -a.toInt := by have r := c_lneg a; have s := rng64 (-a); have t := rng64 a; omega
theorem x_lshr {x : Int64} {q : Int32} {P : Int} (k : Nat) (hk : q.toBitVec.toNat % 64 = k) (hP : ((2 ^ k : Nat) : Int) = P) : (x >>> (q &&& 0x3f).toInt64).toInt = x.toInt / P := f_lshr x q k P hk hP
theorem x_lushr {x : Int64} {q : Int32} {P la ha : Int} (p : la ≤ x.toInt ∧ x.toInt ≤ ha) (h1 : 0 ≤ la) (k : Nat) (hk : q.toBitVec.toNat % 64 = k) (h0 : 0 < k) (hP : ((2 ^ k : Nat) : Int) = P) : (ushrL x q).toInt = x.toInt / P := by
  have r := f_lushr x q k P hk h0 hP
  have s := rng64 x
  rw [r]; congr 1; omega
theorem x_lmul {a b : Int64} {la ha n : Int} (p : la ≤ a.toInt ∧ a.toInt ≤ ha) (hn : b.toInt = n) (h0 : 0 ≤ n) (h1 : -9223372036854775808 ≤ la * n) (h2 : ha * n < 9223372036854775808) : (a * b).toInt = a.toInt * n := by
  have r := f_lmul a b n hn
  have s := rng64 (a * b)
  have m1 := Int.mul_le_mul_of_nonneg_right p.1 h0
  have m2 := Int.mul_le_mul_of_nonneg_right p.2 h0
  generalize a.toInt * n = z at *
  generalize la * n = z1 at *
  generalize ha * n = z2 at *
  omega
theorem x_lmulN {a b : Int64} {la ha n : Int} (p : la ≤ a.toInt ∧ a.toInt ≤ ha) (hn : b.toInt = n) (h0 : n ≤ 0) (h1 : -9223372036854775808 ≤ ha * n) (h2 : la * n < 9223372036854775808) : (a * b).toInt = a.toInt * n := by
  have r := f_lmul a b n hn
  have s := rng64 (a * b)
  have m1 := Int.mul_le_mul_of_nonpos_right p.1 h0
  have m2 := Int.mul_le_mul_of_nonpos_right p.2 h0
  generalize a.toInt * n = z at *
  generalize la * n = z1 at *
  generalize ha * n = z2 at *
  omega
theorem x_lmulN' {a b : Int64} {la ha n : Int} (p : la ≤ b.toInt ∧ b.toInt ≤ ha) (hn : a.toInt = n) (h0 : n ≤ 0) (h1 : -9223372036854775808 ≤ ha * n) (h2 : la * n < 9223372036854775808) : (a * b).toInt = b.toInt * n := by
  rw [Int64.mul_comm]; exact x_lmulN p hn h0 h1 h2
theorem x_lmul' {a b : Int64} {la ha n : Int} (p : la ≤ b.toInt ∧ b.toInt ≤ ha) (hn : a.toInt = n) (h0 : 0 ≤ n) (h1 : -9223372036854775808 ≤ la * n) (h2 : ha * n < 9223372036854775808) : (a * b).toInt = b.toInt * n := by
  rw [Int64.mul_comm]; exact x_lmul p hn h0 h1 h2
theorem ib_add {a b la ha lb hb lo hi : Int} (p : la ≤ a ∧ a ≤ ha) (q : lb ≤ b ∧ b ≤ hb) (h1 : lo ≤ la + lb) (h2 : ha + hb ≤ hi) : lo ≤ a + b ∧ a + b ≤ hi := by omega
theorem ib_sub {a b la ha lb hb lo hi : Int} (p : la ≤ a ∧ a ≤ ha) (q : lb ≤ b ∧ b ≤ hb) (h1 : lo ≤ la - hb) (h2 : ha - lb ≤ hi) : lo ≤ a - b ∧ a - b ≤ hi := by omega
theorem ib_neg {a la ha lo hi : Int} (p : la ≤ a ∧ a ≤ ha) (h1 : lo ≤ -ha) (h2 : -la ≤ hi) : lo ≤ -a ∧ -a ≤ hi := by omega
theorem ib_mod {a lo hi : Int} (P : Int) (hP : 0 < P) (h1 : lo ≤ 0) (h2 : P - 1 ≤ hi) : lo ≤ a % P ∧ a % P ≤ hi := by have := Int.emod_nonneg a (Int.ne_of_gt hP); have := Int.emod_lt_of_pos a hP; omega
theorem ib_div {a la ha lo hi : Int} (P : Int) (hP : 0 < P) (p : la ≤ a ∧ a ≤ ha) (h1 : lo ≤ la / P) (h2 : ha / P ≤ hi) : lo ≤ a / P ∧ a / P ≤ hi := ⟨Int.le_trans h1 (Int.ediv_le_ediv hP p.1), Int.le_trans (Int.ediv_le_ediv hP p.2) h2⟩
theorem ib_mul {a la ha lo hi : Int} (n : Int) (h0 : 0 ≤ n) (p : la ≤ a ∧ a ≤ ha) (h1 : lo ≤ la * n) (h2 : ha * n ≤ hi) : lo ≤ a * n ∧ a * n ≤ hi := ⟨Int.le_trans h1 (Int.mul_le_mul_of_nonneg_right p.1 h0), Int.le_trans (Int.mul_le_mul_of_nonneg_right p.2 h0) h2⟩
theorem ib_mulN {a la ha lo hi : Int} (n : Int) (h0 : n ≤ 0) (p : la ≤ a ∧ a ≤ ha) (h1 : lo ≤ ha * n) (h2 : la * n ≤ hi) : lo ≤ a * n ∧ a * n ≤ hi := ⟨Int.le_trans h1 (Int.mul_le_mul_of_nonpos_right p.2 h0), Int.le_trans (Int.mul_le_mul_of_nonpos_right p.1 h0) h2⟩
theorem x_idiv {a b : Int32} {la ha d : Int} (p : la ≤ a.toInt ∧ a.toInt ≤ ha) (hy : b.toInt = d) (h0 : 0 ≤ la) (hd : b ≠ -1) : (a / b).toInt = a.toInt / d := (c_idiv a b d hy hd).1 (Int.le_trans h0 p.1)
theorem x_irem {a b : Int32} {la ha d : Int} (p : la ≤ a.toInt ∧ a.toInt ≤ ha) (hy : b.toInt = d) (h0 : 0 ≤ la) : (a % b).toInt = a.toInt % d := (c_irem a b d hy).1 (Int.le_trans h0 p.1)
theorem x_iremV {a b : Int32} {la ha lb hb : Int} (p : la ≤ a.toInt ∧ a.toInt ≤ ha) (q : lb ≤ b.toInt ∧ b.toInt ≤ hb) (h0 : 0 ≤ la) (h1 : 0 < lb) : 0 ≤ (a % b).toInt ∧ (a % b).toInt < b.toInt := by
  have r := (c_iremV a b).1 (Int.le_trans h0 p.1) (Int.lt_of_lt_of_le h1 q.1)
  exact ⟨r.1, r.2.1⟩
theorem ib_rem {r y lb hb hi : Int} (x : 0 ≤ r ∧ r < y) (q : lb ≤ y ∧ y ≤ hb) (h : hb - 1 ≤ hi) : 0 ≤ r ∧ r ≤ hi := by omega
theorem rb32 (x : Int32) : -2147483648 ≤ x.toInt ∧ x.toInt ≤ 2147483647 := by have := rng32 x; omega
theorem rb64 (x : Int64) : -9223372036854775808 ≤ x.toInt ∧ x.toInt ≤ 9223372036854775807 := by have := rng64 x; omega
theorem x_l2i {x : Int64} {la ha : Int} (p : la ≤ x.toInt ∧ x.toInt ≤ ha) (h1 : -2147483648 ≤ la) (h2 : ha < 2147483648) : x.toInt32.toInt = x.toInt := by have r := c_l2i x; have s := rng32 x.toInt32; omega
end Kit
end Jvm.OwnK
namespace Jvm.OwnK
open Sem ClassFile Op Lib Jvm.Stand Jvm.Free Jvm.LawKit Jvm.RoadKit
section Kit2
variable {K : Ctx} {Z : State} {R : Room} {y : MethodName} {bytes : ByteArray} {maxL : Nat} {ret : Option FieldType} {n0 : Nat} {T : State} {h : Heap} {cl sl : Nat} {Q : Option Value → Heap → Prop} {pc pc' : Nat} {L L' : Array Slot} {st : List Value} {a0 : Array Value} {h' : Heap} {a b : Addr} {ty : FieldType} {n m : Nat}
def AV (Z : State) (h : Heap) (a : Addr) (ty : FieldType) (n : Nat) (g : Nat → Value) : Prop := ∃ c : Cell, Arr Z h a c ty ∧ c.slots.size = n ∧ n < 2147483648 ∧ ∀ i, i < n → c.slots[i]? = some (g i) ∧ fits ty (g i) = true
theorem AI.av {f : Nat → Int32} (A : AI Z h a ty n f) : AV Z h a ty n (fun i => .int (f i)) := A
theorem AJ.av {f : Nat → Int64} (A : AJ Z h a n f) : AV Z h a .long n (fun i => .long (f i)) := by obtain ⟨c, A, h1, h2, h3⟩ := A; exact ⟨c, A, h1, h2, fun i hi => ⟨h3 i hi, rfl⟩⟩
theorem AV.ai {g : Nat → Value} {f : Nat → Int32} (A : AV Z h a ty n g) (q : ∀ i, i < n → g i = .int (f i)) : AI Z h a ty n f := by obtain ⟨c, A, h1, h2, h3⟩ := A; exact ⟨c, A, h1, h2, fun i hi => by rw [← q i hi]; exact h3 i hi⟩
theorem AV.aj {g : Nat → Value} {f : Nat → Int64} (A : AV Z h a .long n g) (q : ∀ i, i < n → g i = .long (f i)) : AJ Z h a n f := by obtain ⟨c, A, h1, h2, h3⟩ := A; exact ⟨c, A, h1, h2, fun i hi => by rw [← q i hi]; exact (h3 i hi).1⟩
theorem ofNat_clamp {n : Nat} (h : n < 2147483648) : (Int32.ofNat n).toNatClampNeg = n := clampI (Int32.toInt_ofNat_of_lt h)
theorem getD_map {g : Nat → Value} {n k : Nat} {d : Value} (hk : k < n) : ((List.range n).map g).getD k d = g k := by simp [List.getD_eq_getElem?_getD, hk]
theorem AV.arv {g : Nat → Value} (A : AV Z h a ty n g) : ∃ k, Arv Z h a k ty (Int32.ofNat n) ((List.range n).map g) .null := by
  obtain ⟨c, A, h1, h2, h3⟩ := A
  refine ⟨c.cls, c, A, rfl, by rw [ofNat_clamp h2]; exact h1, nneg (Int32.toInt_ofNat_of_lt h2), fun k hk => ?_, fun k hk => ?_⟩
  · rw [h1] at hk; rw [getD_map hk]; exact (h3 k hk).1
  · rw [h1] at hk; rw [getD_map hk]; exact (h3 k hk).2
theorem AV.of_arv {k : ClassId} {vs : List Value} {d : Value} (hn : n < 2147483648) (A : Arv Z h a k ty (Int32.ofNat n) vs d) : AV Z h a ty n (fun i => vs.getD i d) := by
  obtain ⟨c, A, -, S, -, H, G⟩ := A
  rw [ofNat_clamp hn] at S
  exact ⟨c, A, S, hn, fun i hi => ⟨H i (by omega), G i (by omega)⟩⟩
/-- System.arraycopy(a, 0, b, 0, m) of plain arrays of one kind -/
theorem px_acpy {idx W n' : Nat} {u s0 d0 : Int32} {ga gb : Nat → Value} (S : St K Z R y bytes maxL ret n0 T h cl sl) (hprim : refKind ty = false) (A : AV Z h a ty n ga) (B : AV Z h b ty n' gb) (hb0 : n0 ≤ b) (w1 : (Jvm.Cond.methodLink y.cls idx Jvm.Stand.acN).before a0 Z = true) (w2 : (Jvm.Cond.native Jvm.Stand.acN).before a0 Z = true) (w3 : (Jvm.Cond.static Jvm.Stand.acN).before a0 Z = true) (w4 : (Jvm.Cond.initialized "java/lang/System").before a0 Z = true)
    (hs0 : s0 = 0) (hd0 : d0 = 0) (hu : u.toInt = (m : Int)) (hm : m ≤ n) (hm' : m ≤ n') (hL : L.size = maxL) (hfr : 1 ≤ R.frames) (hW : (st.map fun v => v.category).sum = W) (hlo : W + (nativeFrameWords "java/lang/System" "arraycopy" 5 + 11) ≤ R.locals) (hd : decode bytes pc = .ok (.invokestatic idx, 3)) (hp : pc + 3 = pc')
    (k : ∀ (T' : State) (h' : Heap), St K Z R y bytes maxL ret n0 T' h' cl sl → Keep h h' [b] → AV Z h' b ty n' (fun i => if i < m then ga i else gb i) → Go K R n0 Q T' pc' L st) : Go K R n0 Q T pc L (.int u :: .int d0 :: .ref b :: .int s0 :: .ref a :: st) := by
  subst hp; subst hs0; subst hd0
  obtain ⟨⟨locs, X, hF⟩, e0, hn0, hx, hZ, hby, hml, hret, hlk, hown, hnm⟩ := S
  have hln : n < 2147483648 := by obtain ⟨_, _, _, q, _⟩ := A; exact q
  have hln' : n' < 2147483648 := by obtain ⟨_, _, _, q, _⟩ := B; exact q
  obtain ⟨ka, Aa⟩ := A.arv
  obtain ⟨kb, Ab⟩ := B.arv
  have z0 : (0 : Int32).toNatClampNeg = 0 := rfl
  obtain ⟨T', h', Lc, X', e', hF', Kp, Ab', stp⟩ := cpA X hx hZ hown w1 w2 w3 w4 e0 Aa Ab (Or.inl ⟨rfl, hprim⟩) (sp := 0) (dp := 0) (nn := u) (by decide) (by decide) (nneg hu) (by rw [z0, clampI hu, ofNat_clamp hln]; omega) (by rw [z0, clampI hu, ofNat_clamp hln']; omega) rfl (by rw [z0, clampI hu]; simp; omega) hF hb0 (g := mkF K.m pc L (.int u :: .int 0 :: .ref b :: .int 0 :: .ref a :: st)) rfl (hL.trans hml.symm) rfl (hb hby hd) hfr (W := W) (by show 2 * 0 + _ ≤ _; rw [hW]; omega) hlo
  have Av := AV.of_arv hln' Ab'
  refine Go.step stp (k T' h' ⟨⟨_, X', hF'⟩, e', hn0, hx, hZ, hby, hml, hret, hlk, hown, hnm⟩ Kp ?_)
  obtain ⟨c, A1, A2, A3, A4⟩ := Av
  refine ⟨c, A1, A2, A3, fun i hi => ?_⟩
  have q := A4 i hi
  have e : ((((List.range n').map gb).take (0 : Int32).toNatClampNeg ++ (List.range u.toNatClampNeg).map (fun i => ((List.range n).map ga).getD ((0 : Int32).toNatClampNeg + i) .null) ++ ((List.range n').map gb).drop ((0 : Int32).toNatClampNeg + u.toNatClampNeg))).getD i .null = if i < m then ga i else gb i := by
    rw [z0, clampI hu]
    by_cases hi' : i < m
    · rw [if_pos hi']
      have hl : i < ((List.range m).map (fun i => ((List.range n).map ga).getD (0 + i) Value.null)).length := by simp; exact hi'
      rw [List.take_zero, List.nil_append, List.getD_eq_getElem?_getD, List.getElem?_append_left hl]
      simp [List.getD_eq_getElem?_getD, hi', Nat.lt_of_lt_of_le hi' hm]
    · rw [if_neg hi']
      have e1 : m ≤ i := by omega
      have e2 : m + (i - m) = i := by omega
      simp [List.getD_eq_getElem?_getD, List.getElem?_append, hi', e2, hi]
  simp only at q
  rw [e] at q
  exact q
end Kit2
end Jvm.OwnK
namespace Jvm.OwnK
open Sem ClassFile Op Lib Jvm.Stand Jvm.Free Jvm.LawKit Jvm.RoadKit
section Kit3
variable {K : Ctx} {Z : State} {R : Room} {y : MethodName} {bytes : ByteArray} {maxL : Nat} {ret : Option FieldType} {n0 : Nat} {T : State} {h : Heap} {cl sl : Nat} {Q : Option Value → Heap → Prop} {pc pc' : Nat} {L L' : Array Slot} {st : List Value} {a0 : Array Value} {h' : Heap} {a b : Addr} {ty : FieldType} {n m : Nat}
theorem px_newarrE {aty : ArrayType} {ad : String} (S : St K Z R y bytes maxL ret n0 T h cl sl) (had : "[" ++ (newarray.typeOf aty).toString = ad) (w : (Jvm.Cond.arrayClass (newarray.typeOf aty)).before a0 Z = true) (hdv : defaultValue (newarray.typeOf aty) = .int 0) {u : Int32} {cap : Nat} (hu : u.toInt = (n : Int)) (hcap : n ≤ cap) (hb8 : cap * 8 ≤ 536870912) (hc : cl + 1 ≤ R.cells) (hs : sl + cap ≤ R.slots)
    (hd : decode bytes pc = .ok (.newarray aty, 2)) (hp : pc + 2 = pc')
    (k : ∀ (T' : State) (h' : Heap) (a : Addr), a = h.size → n0 ≤ a → St K Z R y bytes maxL ret n0 T' h' (cl + 1) (sl + cap) → Ext h h' → AI Z h' a (newarray.typeOf aty) n (fun _ => 0) → Exa Z h' a ad → Go K R n0 Q T' pc' L (.ref a :: st)) : Go K R n0 Q T pc L (.int u :: st) := by
  subst hp
  have hsz := S.size
  obtain ⟨⟨locs, X, hF⟩, e0, hn0, hx, hZ, hby, hml, hret, hlk, hown, hnm⟩ := S
  obtain ⟨T', h', cA, X', e', E, A, Ex, stp⟩ := newPE X hx hZ w e0 (g := mkF K.m pc L (.int u :: st)) rfl (hb hby hd) rfl (nneg hu) (cap := cap) (by rw [clampI hu]; exact hcap) hb8 hc hs had
  refine Go.step stp (k T' h' h.size rfl hsz ⟨⟨_, X', hF⟩, e', hn0, hx, hZ, hby, hml, hret, hlk, hown, hnm⟩ E ⟨_, A, by rw [sz_new, clampI hu], small hu, fun i hi => ⟨?_, ?_⟩⟩ Ex)
  · simp [newA, clampI hu, hi, hdv]
  · rw [← hdv]; cases aty <;> first | rfl | (simp [newarray.typeOf, defaultValue] at hdv)
theorem px_clone {ad : String} {idx W cap : Nat} {f : Nat → Int32} (S : St K Z R y bytes maxL ret n0 T h cl sl) (A : AI Z h a ty n f) (E : Exa Z h a ad) (w1 : (Jvm.Cond.methodLink y.cls idx ⟨ad, "clone", "()Ljava/lang/Object;"⟩).before a0 Z = true) (w2 : (Jvm.Cond.sameMethod ad "java/lang/Object" "clone" "()Ljava/lang/Object;").before a0 Z = true) (w3 : (Jvm.Cond.native ⟨"java/lang/Object", "clone", "()Ljava/lang/Object;"⟩).before a0 Z = true)
    (w4 : (Jvm.Cond.instanceMethod ⟨"java/lang/Object", "clone", "()Ljava/lang/Object;"⟩).before a0 Z = true) (w5 : (Jvm.Cond.selects ad ⟨ad, "clone", "()Ljava/lang/Object;"⟩ ⟨"java/lang/Object", "clone", "()Ljava/lang/Object;"⟩).before a0 Z = true) (w6 : (Jvm.Cond.castable ad "java/lang/Cloneable").before a0 Z = true)
    (hL : L.size = maxL) (hfr : 1 ≤ R.frames) (hW : (st.map fun v => v.category).sum = W) (hlo : W + 14 ≤ R.locals) (hcap : n ≤ cap) (hc : cl + 1 ≤ R.cells) (hs : sl + cap ≤ R.slots) (hd : decode bytes pc = .ok (.invokevirtual idx, 3)) (hp : pc + 3 = pc')
    (k : ∀ (T' : State) (h' : Heap) (b : Addr), b = h.size → n0 ≤ b → St K Z R y bytes maxL ret n0 T' h' (cl + 1) (sl + cap) → Ext h h' → AI Z h' b ty n f → Exa Z h' b ad → Go K R n0 Q T' pc' L (.ref b :: st)) : Go K R n0 Q T pc L (.ref a :: st) := by
  subst hp
  have hsz := S.size
  obtain ⟨⟨locs, X, hF⟩, e0, hn0, hx, hZ, hby, hml, hret, hlk, hown, hnm⟩ := S
  obtain ⟨c, A, h1, h2, h3⟩ := A
  obtain ⟨T', h', X', e', Ex, A', E', stp⟩ := cloneA X hx hZ hown w1 w2 w3 w4 w5 w6 e0 A E (fitC_of A fun i hi v hv => by rw [(h3 i (h1 ▸ hi)).1] at hv; cases hv; exact (h3 i (h1 ▸ hi)).2) (g := mkF K.m pc L (.ref a :: st)) rfl (hL.trans hml.symm) rfl (hb hby hd) hfr (W := W) (by show 2 * 0 + _ ≤ _; rw [hW]; omega) hlo (by rw [h1]; exact hcap) hc hs
  exact Go.step stp (k T' h' h.size rfl hsz ⟨⟨_, X', hF⟩, e', hn0, hx, hZ, hby, hml, hret, hlk, hown, hnm⟩ Ex ⟨_, A', h1, h2, h3⟩ E')
theorem px_cast {C Kc : String} {idx : Nat} (S : St K Z R y bytes maxL ret n0 T h cl sl) (E : Exa Z h a C) (w1 : (Jvm.Cond.classLink y.cls idx Kc).before a0 Z = true) (w2 : (Jvm.Cond.castable C Kc).before a0 Z = true) (hd : decode bytes pc = .ok (.checkcast idx, 3)) (hp : pc + 3 = pc')
    (k : ∀ (T' : State), St K Z R y bytes maxL ret n0 T' h cl sl → Go K R n0 Q T' pc' L (.ref a :: st)) : Go K R n0 Q T pc L (.ref a :: st) := by
  subst hp
  obtain ⟨⟨locs, X, hF⟩, e0, hn0, hx, hZ, hby, hml, hret, hlk, hown, hnm⟩ := S
  obtain ⟨T', X', e', stp⟩ := castY X hx hZ hown w1 e0 (Ins.of_exa E w2) (g := mkF K.m pc L (.ref a :: st)) rfl rfl (hb hby hd)
  exact Go.step stp (k T' ⟨⟨_, X', hF⟩, e', hn0, hx, hZ, hby, hml, hret, hlk, hown, hnm⟩)
end Kit3
end Jvm.OwnK
namespace Jvm.Pilot.@@N@@
open Jvm Jvm.ClassFile Sem Op Lib Jvm.Free Jvm.Stand Jvm.LawKit Jvm.RoadKit Bundle Jvm.OwnK Jvm.Pilot.@@N@@.Jvm.D
theorem f2 (x : Int32) : -128 ≤ (i2b x).toInt ∧ (i2b x).toInt < 128 := (f_i2b x).2
theorem nar_b {x : Int32} (h : -128 ≤ x.toInt ∧ x.toInt < 128) : nar .byte x = x := by
  apply Int32.toInt_inj.mp
  have q := f_i2b x
  show (i2b x).toInt = _
  omega
theorem d1_0 : decode method_2_code 0 = .ok (.iload_n 1, 1) := by decide +kernel
theorem d1_1 : decode method_2_code 1 = .ok (.iload_n 2, 1) := by decide +kernel
theorem d1_2 : decode method_2_code 2 = .ok (.iushr, 1) := by decide +kernel
theorem d1_3 : decode method_2_code 3 = .ok (.iconst 1, 1) := by decide +kernel
theorem d1_4 : decode method_2_code 4 = .ok (.iand, 1) := by decide +kernel
theorem d1_5 : decode method_2_code 5 = .ok (.ifCond .eq 7, 3) := by decide +kernel
theorem d1_8 : decode method_2_code 8 = .ok (.iconst (-1), 1) := by decide +kernel
theorem d1_9 : decode method_2_code 9 = .ok (.goto 5, 3) := by decide +kernel
theorem d1_12 : decode method_2_code 12 = .ok (.iload_n 0, 1) := by decide +kernel
theorem d1_13 : decode method_2_code 13 = .ok (.i2b, 1) := by decide +kernel
theorem d1_14 : decode method_2_code 14 = .ok (.ireturn, 1) := by decide +kernel
theorem pn_1 : plainFor (⟨"com/example/fields_to_kinds/fieldstokinds/BytesAfterPinLaw", "pick", "(III)B"⟩ : MethodName) = true := plainFor_of_name (by first | (simp [plainName, overriddenIn]; done) | decide +kernel)
set_option maxRecDepth 65536 in
set_option maxHeartbeats 40000000 in
theorem c_pick {Z : State} {a0 : Array Value} (hw : ∀ d ∈ tables_1, d.before a0 Z = true) {i j k : Int32} {h0 : Heap} {n0 : Nat} (Z0 : n0 ≤ h0.size) :
    Ctr Z n0 (⟨"com/example/fields_to_kinds/fieldstokinds/BytesAfterPinLaw", "pick", "(III)B"⟩ : MethodName) method_2_code 3 (some .byte) ({ frames := 0, cells := 0, slots := 0, locals := 0 } : Room) [(.int i), (.int j), (.int k)] h0 (fun v h => h = h0 ∧ ∃ r : Int32, v = some (.int r) ∧ (-128 ≤ r.toInt ∧ r.toInt < 128)) := by
  refine Ctr.of (L := #[.val (.int i), .val (.int j), .val (.int k)]) pn_1 Z0 (fun m => by first | (simp [entryFrame, mkF, argsToLocals, Value.category]; done) | rfl) ?_
  intro K T S0
  refine px_iloadN S0 d1_0 rfl rfl ?_
  refine px_iloadN S0 d1_1 rfl rfl ?_
  refine px_iushr S0 d1_2 rfl ?_
  refine px_iconst (v := (1 : Int32)) S0 d1_3 rfl rfl ?_
  refine px_iand S0 d1_4 rfl ?_
  refine px_if0 S0 d1_5 (by decide) (pc' := 12) rfl rfl (fun (hc1 : ((ushr j k) &&& (1 : Int32)).toInt = 0) => ?_) (fun (hc1 : ¬ ((ushr j k) &&& (1 : Int32)).toInt = 0) => ?_)
  · refine px_iloadN S0 d1_12 rfl rfl ?_
    refine px_i2b S0 d1_13 rfl ?_
    exact px_retN (t := .byte) (z' := (i2b (i2b i))) S0 d1_14 rfl (by simp) rfl (by decide) (by decide) (⟨rfl, _, rfl, f2 _⟩)
  · refine px_iconst (v := (-1 : Int32)) S0 d1_8 rfl rfl ?_
    refine px_goto S0 d1_9 (by decide) (pc' := 14) rfl ?_
    exact px_retN (t := .byte) (z' := (-1 : Int32)) S0 d1_14 rfl (by simp) rfl (by decide) (by decide) (⟨rfl, _, rfl, by decide⟩)
theorem d4_0 : decode method_3_code 0 = .ok (.iload_n 0, 1) := by decide +kernel
theorem d4_1 : decode method_3_code 1 = .ok (.iload_n 1, 1) := by decide +kernel
theorem d4_2 : decode method_3_code 2 = .ok (.if_icmp .ge 7, 3) := by decide +kernel
theorem d4_5 : decode method_3_code 5 = .ok (.iload_n 2, 1) := by decide +kernel
theorem d4_6 : decode method_3_code 6 = .ok (.goto 7, 3) := by decide +kernel
theorem d4_9 : decode method_3_code 9 = .ok (.iload_n 2, 1) := by decide +kernel
theorem d4_10 : decode method_3_code 10 = .ok (.iconst 1, 1) := by decide +kernel
theorem d4_11 : decode method_3_code 11 = .ok (.iadd, 1) := by decide +kernel
theorem d4_12 : decode method_3_code 12 = .ok (.i2b, 1) := by decide +kernel
theorem d4_13 : decode method_3_code 13 = .ok (.ireturn, 1) := by decide +kernel
theorem pn_4 : plainFor (⟨"com/example/fields_to_kinds/fieldstokinds/BytesAfterPinLaw", "expected", "(IIB)B"⟩ : MethodName) = true := plainFor_of_name (by first | (simp [plainName, overriddenIn]; done) | decide +kernel)
set_option maxRecDepth 65536 in
set_option maxHeartbeats 40000000 in
theorem c_exp {Z : State} {a0 : Array Value} (hw : ∀ d ∈ tables_1, d.before a0 Z = true) {i l c : Int32} {h0 : Heap} {n0 : Nat} (Z0 : n0 ≤ h0.size) :
    Ctr Z n0 (⟨"com/example/fields_to_kinds/fieldstokinds/BytesAfterPinLaw", "expected", "(IIB)B"⟩ : MethodName) method_3_code 3 (some .byte) ({ frames := 0, cells := 0, slots := 0, locals := 0 } : Room) [(.int i), (.int l), (.int c)] h0 (fun v h => h = h0 ∧ ((i.toInt < l.toInt ∧ v = some (.int (i2b c))) ∨ (i.toInt ≥ l.toInt ∧ v = some (.int (i2b (i2b (c + (1 : Int32)))))))) := by
  refine Ctr.of (L := #[.val (.int i), .val (.int l), .val (.int c)]) pn_4 Z0 (fun m => by first | (simp [entryFrame, mkF, argsToLocals, Value.category]; done) | rfl) ?_
  intro K T S0
  refine px_iloadN S0 d4_0 rfl rfl ?_
  refine px_iloadN S0 d4_1 rfl rfl ?_
  refine px_icmp S0 d4_2 (by decide) (pc' := 9) rfl rfl (fun (hc1 : i.toInt ≥ l.toInt) => ?_) (fun (hc1 : i.toInt < l.toInt) => ?_)
  · refine px_iloadN S0 d4_9 rfl rfl ?_
    refine px_iconst (v := (1 : Int32)) S0 d4_10 rfl rfl ?_
    refine px_iadd S0 d4_11 rfl ?_
    refine px_i2b S0 d4_12 rfl ?_
    exact px_retN (t := .byte) (z' := (i2b (i2b (c + (1 : Int32))))) S0 d4_13 rfl (by simp) rfl (by decide) (by decide) (⟨rfl, Or.inr ⟨hc1, rfl⟩⟩)
  · refine px_iloadN S0 d4_5 rfl rfl ?_
    refine px_goto S0 d4_6 (by decide) (pc' := 13) rfl ?_
    exact px_retN (t := .byte) (z' := (i2b c)) S0 d4_13 rfl (by simp) rfl (by decide) (by decide) (⟨rfl, Or.inl ⟨hc1, rfl⟩⟩)
theorem d5_0 : decode jdk_29_method_69_code 0 = .ok (.iload_n 0, 1) := by decide +kernel
theorem d5_1 : decode jdk_29_method_69_code 1 = .ok (.iload_n 1, 1) := by decide +kernel
theorem d5_2 : decode jdk_29_method_69_code 2 = .ok (.if_icmp .gt 7, 3) := by decide +kernel
theorem d5_9 : decode jdk_29_method_69_code 9 = .ok (.iload_n 1, 1) := by decide +kernel
theorem d5_10 : decode jdk_29_method_69_code 10 = .ok (.ireturn, 1) := by decide +kernel
set_option maxRecDepth 65536 in
set_option maxHeartbeats 40000000 in
theorem c_min {Z : State} {a0 : Array Value} (hw : ∀ d ∈ tables_1, d.before a0 Z = true) {x z : Int32} {h0 : Heap} {n0 : Nat} (Z0 : n0 ≤ h0.size) (hxz : z.toInt < x.toInt) :
    Ctr Z n0 (⟨"java/lang/Math", "min", "(II)I"⟩ : MethodName) jdk_29_method_69_code 2 (some .int) ({ frames := 0, cells := 0, slots := 0, locals := 0 } : Room) [(.int x), (.int z)] h0 (fun v h => v = some (.int z) ∧ h = h0) := by
  refine Ctr.of (L := #[.val (.int x), .val (.int z)]) (Jvm.Free.JP.mathPlain rfl (by decide +kernel)) Z0 (fun m => by first | (simp [entryFrame, mkF, argsToLocals, Value.category]; done) | rfl) ?_
  intro K T S0
  refine px_iloadN S0 d5_0 rfl rfl ?_
  refine px_iloadN S0 d5_1 rfl rfl ?_
  refine px_icmp S0 d5_2 (by decide) (pc' := 9) rfl rfl (fun (hc1 : x.toInt > z.toInt) => ?_) (fun (hc1 : x.toInt ≤ z.toInt) => by exfalso; have q0 := rng32 x; have q1 := rng32 z; omega)
  refine px_iloadN S0 d5_9 rfl rfl ?_
  exact px_retI S0 d5_10 rfl (by decide) (by decide) (⟨rfl, rfl⟩)
theorem d3_0 : decode jdk_65_method_121_code 0 = .ok (.iload_n 1, 1) := by decide +kernel
theorem d3_1 : decode jdk_65_method_121_code 1 = .ok (.aload_n 0, 1) := by decide +kernel
theorem d3_2 : decode jdk_65_method_121_code 2 = .ok (.arraylength, 1) := by decide +kernel
theorem d3_3 : decode jdk_65_method_121_code 3 = .ok (.if_icmp .ne 11, 3) := by decide +kernel
theorem d3_6 : decode jdk_65_method_121_code 6 = .ok (.aload_n 0, 1) := by decide +kernel
theorem d3_7 : decode jdk_65_method_121_code 7 = .ok (.invokevirtual 310, 3) := by decide +kernel
theorem d3_10 : decode jdk_65_method_121_code 10 = .ok (.checkcast 311, 3) := by decide +kernel
theorem d3_13 : decode jdk_65_method_121_code 13 = .ok (.areturn, 1) := by decide +kernel
theorem d3_14 : decode jdk_65_method_121_code 14 = .ok (.iload_n 1, 1) := by decide +kernel
theorem d3_15 : decode jdk_65_method_121_code 15 = .ok (.newarray .byte, 2) := by decide +kernel
theorem d3_17 : decode jdk_65_method_121_code 17 = .ok (.astore_n 2, 1) := by decide +kernel
theorem d3_18 : decode jdk_65_method_121_code 18 = .ok (.aload_n 0, 1) := by decide +kernel
theorem d3_19 : decode jdk_65_method_121_code 19 = .ok (.iconst 0, 1) := by decide +kernel
theorem d3_20 : decode jdk_65_method_121_code 20 = .ok (.aload_n 2, 1) := by decide +kernel
theorem d3_21 : decode jdk_65_method_121_code 21 = .ok (.iconst 0, 1) := by decide +kernel
theorem d3_22 : decode jdk_65_method_121_code 22 = .ok (.aload_n 0, 1) := by decide +kernel
theorem d3_23 : decode jdk_65_method_121_code 23 = .ok (.arraylength, 1) := by decide +kernel
theorem d3_24 : decode jdk_65_method_121_code 24 = .ok (.iload_n 1, 1) := by decide +kernel
theorem d3_25 : decode jdk_65_method_121_code 25 = .ok (.invokestatic 304, 3) := by decide +kernel
theorem d3_28 : decode jdk_65_method_121_code 28 = .ok (.invokestatic 150, 3) := by decide +kernel
theorem d3_31 : decode jdk_65_method_121_code 31 = .ok (.aload_n 2, 1) := by decide +kernel
theorem d3_32 : decode jdk_65_method_121_code 32 = .ok (.areturn, 1) := by decide +kernel
theorem pd_3_0 : parseMethodDescriptor "(II)I" = some ⟨[.int, .int], some .int⟩ := by decide +kernel
theorem pn_3 : plainFor (⟨"java/util/Arrays", "copyOf", "([BI)[B"⟩ : MethodName) = true := plainFor_of_name (by first | (simp [plainName, overriddenIn]; done) | decide +kernel)
set_option maxRecDepth 65536 in
set_option maxHeartbeats 40000000 in
theorem c_copy {Z : State} {a0 : Array Value} (hw : ∀ d ∈ tables_1, d.before a0 Z = true) {a : Addr} {n m : Nat} {nl x : Int32} {f : Nat → Int32} {h0 : Heap} {n0 : Nat} (Z0 : n0 ≤ h0.size) (hnl : nl.toInt = (n : Int)) (hx : x.toInt = (m : Int)) (hmn : m ≤ n) (hn4 : n ≤ 4) (A0 : AI Z h0 a .byte n f) (X0 : Exa Z h0 a "[B") :
    Ctr Z n0 (⟨"java/util/Arrays", "copyOf", "([BI)[B"⟩ : MethodName) jdk_65_method_121_code 3 (some (.array .byte)) ({ frames := 1, cells := 1, slots := 4, locals := 60 } : Room) [(.ref a), (.int x)] h0 (fun v h => ∃ b : Addr, v = some (.ref b) ∧ n0 ≤ b ∧ h0.size ≤ b ∧ Keep h0 h [] ∧ AI Z h b .byte m f) := by
  refine Ctr.of (L := #[.val (.ref a), .val (.int x), .unset]) pn_3 Z0 (fun m => by first | (simp [entryFrame, mkF, argsToLocals, Value.category]; done) | rfl) ?_
  intro K T S0
  refine px_iloadN S0 d3_0 rfl rfl ?_
  refine px_aloadN S0 d3_1 rfl rfl rfl ?_
  refine px_alenI (v := nl) S0 A0 hnl d3_2 rfl ?_
  refine px_icmp S0 d3_3 (by decide) (pc' := 14) rfl rfl (fun (hc1 : ¬ x.toInt = nl.toInt) => ?_) (fun (hc1 : x.toInt = nl.toInt) => ?_)
  · refine px_iloadN S0 d3_14 rfl rfl ?_
    refine px_newarr (aty := .byte) (cap := 4) S0 (hw _ (List.mem_of_getElem? (i := 4) rfl)) rfl (n := m) hx (by omega) (by decide) (by decide) (by decide) d3_15 rfl (fun T2 h2 b2 z2 g_b2 S2 E2 A_b2 => ?_)
    have ne_a_b2 : a ≠ b2 := ne_new z2 A0.lt
    replace A0 := A0.ext E2
    replace X0 := X0.ext E2
    refine px_astoreN S2 d3_17 rfl rfl (L' := #[.val (.ref a), .val (.int x), .val (.ref b2)]) rfl ?_
    refine px_aloadN S2 d3_18 rfl rfl rfl ?_
    refine px_iconst (v := (0 : Int32)) S2 d3_19 rfl rfl ?_
    refine px_aloadN S2 d3_20 rfl rfl rfl ?_
    refine px_iconst (v := (0 : Int32)) S2 d3_21 rfl rfl ?_
    refine px_aloadN S2 d3_22 rfl rfl rfl ?_
    refine px_alenI (v := nl) S2 A0 hnl d3_23 rfl ?_
    refine px_iloadN S2 d3_24 rfl rfl ?_
    refine px_callS (as' := [(.int nl), (.int x)]) (st := [(.int (0 : Int32)), (.ref b2), (.int (0 : Int32)), (.ref a)]) (W := 4) S2 (c_min hw S2.size (by omega)) (hw _ (List.mem_of_getElem? (i := 25) rfl)) (hw _ (List.mem_of_getElem? (i := 26) rfl)) (hw _ (List.mem_of_getElem? (i := 27) rfl)) (hw _ (List.mem_of_getElem? (i := 28) rfl)) (by decide) pd_3_0 rfl rfl (by decide) rfl (by decide) (by decide) (by decide) d3_25 rfl rfl (fun T3 h3 v3 S3 q3 => ?_)
    obtain ⟨rfl, rfl⟩ := q3
    show Go _ _ _ _ _ _ _ [(.int x), (.int (0 : Int32)), (.ref b2), (.int (0 : Int32)), (.ref a)]
    refine px_acpy (W := 0) (m := m) S3 rfl A0.av A_b2.av g_b2 (hw _ (List.mem_of_getElem? (i := 29) rfl)) (hw _ (List.mem_of_getElem? (i := 32) rfl)) (hw _ (List.mem_of_getElem? (i := 30) rfl)) (hw _ (List.mem_of_getElem? (i := 31) rfl)) rfl rfl hx (by omega) (Nat.le_refl _) rfl (by decide) rfl (by decide) d3_28 rfl (fun T4 h4 S4 Kc A_b2 => ?_)
    refine px_aloadN S4 d3_31 rfl rfl rfl ?_
    exact px_retA S4 d3_32 rfl rfl rfl (by decide) (by decide) (⟨b2, rfl, g_b2, Nat.le_of_eq z2.symm, ((Keep.refl _ _).ext E2).trans Kc (allS (Or.inr (Nat.le_of_eq z2.symm)) all0), A_b2.ai (fun i hi => if_pos hi)⟩)
  · refine px_aloadN S0 d3_6 rfl rfl rfl ?_
    refine px_clone (ad := "[B") (W := 0) (cap := 4) S0 A0 X0 (hw _ (List.mem_of_getElem? (i := 13) rfl)) (hw _ (List.mem_of_getElem? (i := 14) rfl)) (hw _ (List.mem_of_getElem? (i := 18) rfl)) (hw _ (List.mem_of_getElem? (i := 16) rfl)) (hw _ (List.mem_of_getElem? (i := 17) rfl)) (hw _ (List.mem_of_getElem? (i := 19) rfl)) rfl (by decide) rfl (by decide) (by omega) (by decide) (by decide) d3_7 rfl (fun T5 h5 b z5 g_b S5 E5 A_b X_b => ?_)
    refine px_cast S5 X_b (hw _ (List.mem_of_getElem? (i := 20) rfl)) (hw _ (List.mem_of_getElem? (i := 21) rfl)) d3_10 rfl (fun T6 S6 => ?_)
    exact px_retA S6 d3_13 rfl rfl rfl (by decide) (by decide) (⟨b, rfl, g_b, Nat.le_of_eq z5.symm, (Keep.refl _ _).ext E5, by have e : m = n := (by omega); subst e; exact A_b⟩)
theorem d2_0 : decode prog_4_method_20_code 0 = .ok (.aload_n 0, 1) := by decide +kernel
theorem d2_1 : decode prog_4_method_20_code 1 = .ok (.arraylength, 1) := by decide +kernel
theorem d2_2 : decode prog_4_method_20_code 2 = .ok (.iconst 1, 1) := by decide +kernel
theorem d2_3 : decode prog_4_method_20_code 3 = .ok (.isub, 1) := by decide +kernel
theorem d2_4 : decode prog_4_method_20_code 4 = .ok (.istore_n 1, 1) := by decide +kernel
theorem d2_5 : decode prog_4_method_20_code 5 = .ok (.aload_n 0, 1) := by decide +kernel
theorem d2_6 : decode prog_4_method_20_code 6 = .ok (.iload_n 1, 1) := by decide +kernel
theorem d2_7 : decode prog_4_method_20_code 7 = .ok (.baload, 1) := by decide +kernel
theorem d2_8 : decode prog_4_method_20_code 8 = .ok (.iconst (-1), 1) := by decide +kernel
theorem d2_9 : decode prog_4_method_20_code 9 = .ok (.if_icmp .ne 9, 3) := by decide +kernel
theorem d2_12 : decode prog_4_method_20_code 12 = .ok (.iinc 1 (-1), 3) := by decide +kernel
theorem d2_15 : decode prog_4_method_20_code 15 = .ok (.goto (-10), 3) := by decide +kernel
theorem d2_18 : decode prog_4_method_20_code 18 = .ok (.aload_n 0, 1) := by decide +kernel
theorem d2_19 : decode prog_4_method_20_code 19 = .ok (.iload_n 1, 1) := by decide +kernel
theorem d2_20 : decode prog_4_method_20_code 20 = .ok (.iconst 1, 1) := by decide +kernel
theorem d2_21 : decode prog_4_method_20_code 21 = .ok (.iadd, 1) := by decide +kernel
theorem d2_22 : decode prog_4_method_20_code 22 = .ok (.invokestatic 44, 3) := by decide +kernel
theorem d2_25 : decode prog_4_method_20_code 25 = .ok (.astore_n 2, 1) := by decide +kernel
theorem d2_26 : decode prog_4_method_20_code 26 = .ok (.aload_n 2, 1) := by decide +kernel
theorem d2_27 : decode prog_4_method_20_code 27 = .ok (.iload_n 1, 1) := by decide +kernel
theorem d2_28 : decode prog_4_method_20_code 28 = .ok (.dup2, 1) := by decide +kernel
theorem d2_29 : decode prog_4_method_20_code 29 = .ok (.baload, 1) := by decide +kernel
theorem d2_30 : decode prog_4_method_20_code 30 = .ok (.iconst 1, 1) := by decide +kernel
theorem d2_31 : decode prog_4_method_20_code 31 = .ok (.iadd, 1) := by decide +kernel
theorem d2_32 : decode prog_4_method_20_code 32 = .ok (.i2b, 1) := by decide +kernel
theorem d2_33 : decode prog_4_method_20_code 33 = .ok (.bastore, 1) := by decide +kernel
theorem d2_34 : decode prog_4_method_20_code 34 = .ok (.aload_n 2, 1) := by decide +kernel
theorem d2_35 : decode prog_4_method_20_code 35 = .ok (.areturn, 1) := by decide +kernel
theorem pd_2_0 : parseMethodDescriptor "([BI)[B" = some ⟨[(.array .byte), .int], some (.array .byte)⟩ := by decide +kernel
theorem pn_2 : plainFor (⟨"com/example/fields_to_kinds/fieldstokinds/Bytes", "after", "([B)[B"⟩ : MethodName) = true := plainFor_of_name (by first | (simp [plainName, overriddenIn]; done) | decide +kernel)
set_option maxRecDepth 65536 in
set_option maxHeartbeats 40000000 in
theorem c_after {Z : State} {a0 : Array Value} (hw : ∀ d ∈ tables_1, d.before a0 Z = true) {a : Addr} {n e : Nat} {nl : Int32} {f : Nat → Int32} {h0 : Heap} {n0 : Nat} (Z0 : n0 ≤ h0.size) (hnl : nl.toInt = (n : Int)) (hn4 : n ≤ 4) (hen : e < n) (hne : ¬ (f e).toInt = -1) (hall : ∀ j, e < j → j < n → (f j).toInt = -1) (A0 : AI Z h0 a .byte n f) (X0 : Exa Z h0 a "[B") :
    Ctr Z n0 (⟨"com/example/fields_to_kinds/fieldstokinds/Bytes", "after", "([B)[B"⟩ : MethodName) prog_4_method_20_code 3 (some (.array .byte)) ({ frames := 2, cells := 1, slots := 4, locals := 74 } : Room) [(.ref a)] h0 (fun v h => ∃ b : Addr, v = some (.ref b) ∧ n0 ≤ b ∧ h0.size ≤ b ∧ Keep h0 h [] ∧ AI Z h b .byte (e + 1) (updF f e (i2b (i2b (f e + (1 : Int32)))))) := by
  refine Ctr.of (L := #[.val (.ref a), .unset, .unset]) pn_2 Z0 (fun m => by first | (simp [entryFrame, mkF, argsToLocals, Value.category]; done) | rfl) ?_
  intro K T S0
  refine px_aloadN S0 d2_0 rfl rfl rfl ?_
  refine px_alenI (v := nl) S0 A0 hnl d2_1 rfl ?_
  refine px_iconst (v := (1 : Int32)) S0 d2_2 rfl rfl ?_
  refine px_isub S0 d2_3 rfl ?_
  generalize h_v1 : (nl - (1 : Int32)) = v1
  refine px_istoreN S0 d2_4 rfl (L' := #[.val (.ref a), .val (.int v1), .unset]) rfl ?_
  refine Go.loopH (α := (Nat) × (Int32)) (Inv := fun k x h => h = h0 ∧ x.1 = e + k ∧ x.1 < n ∧ x.2.toInt = (x.1 : Int)) (pcj := 5) (cl' := 0) (sl' := 0) (Lj := fun x => #[.val (.ref a), .val (.int x.2), .unset]) (stj := fun x => []) S0 (fun k IHJ2 x T3 h3 S3 p3 => ?_) (fun J2 => ?_)
  · obtain ⟨p, i⟩ := x
    try dsimp only at p3
    obtain ⟨rfl, hp, hpn, hi⟩ := p3
    show Go _ _ _ _ _ 5 #[.val (.ref a), .val (.int i), .unset] []
    have b_i : (0 : Int) ≤ i.toInt ∧ i.toInt ≤ 3 := by omega
    by_cases hpe : p = e
    · refine px_aloadN S3 d2_5 rfl rfl rfl ?_
      refine px_iloadN S3 d2_6 rfl rfl ?_
      refine px_baload (v := (f p)) S3 A0 (i := p) hi (by omega) rfl d2_7 rfl ?_
      have hfp : ¬ (f p).toInt = -1 := by rw [hpe]; exact hne
      refine px_iconst (v := (-1 : Int32)) S3 d2_8 rfl rfl ?_
      refine px_icmp S3 d2_9 (by decide) (pc' := 18) rfl rfl (fun (hc4 : ¬ (f p).toInt = (-1 : Int32).toInt) => ?_) (fun (hc4 : (f p).toInt = (-1 : Int32).toInt) => by exfalso; have q0 := rng32 (f p); have q1 := (show (-1 : Int32).toInt = -1 from rfl); have q2 := rng32 i; omega)
      refine px_aloadN S3 d2_18 rfl rfl rfl ?_
      refine px_iloadN S3 d2_19 rfl rfl ?_
      refine px_iconst (v := (1 : Int32)) S3 d2_20 rfl rfl ?_
      refine px_iadd S3 d2_21 rfl ?_
      refine px_callS (as' := [(.ref a), (.int (i + (1 : Int32)))]) (st := []) (W := 0) S3 (c_copy (m := e + 1) hw S3.size hnl (by have q0 := c_iadd i (1 : Int32); have q1 := rng32 (i + (1 : Int32)); have q2 := rng32 i; have q3 := (show (1 : Int32).toInt = 1 from rfl); have q4 := rng32 (f p); have q5 := (show (-1 : Int32).toInt = -1 from rfl); omega) (by omega) hn4 A0 X0) (hw _ (List.mem_of_getElem? (i := 9) rfl)) (hw _ (List.mem_of_getElem? (i := 10) rfl)) (hw _ (List.mem_of_getElem? (i := 11) rfl)) (hw _ (List.mem_of_getElem? (i := 12) rfl)) (by decide) pd_2_0 rfl rfl (by decide) rfl (by decide) (by decide) (by decide) d2_22 rfl rfl (fun T5 h5 v5 S5 q5 => ?_)
      obtain ⟨b, rfl, g_b, sz_b, Kb, A_b⟩ := q5
      show Go _ _ _ _ _ _ _ [(.ref b)]
      refine px_astoreN S5 d2_25 rfl rfl (L' := #[.val (.ref a), .val (.int i), .val (.ref b)]) rfl ?_
      refine px_aloadN S5 d2_26 rfl rfl rfl ?_
      refine px_iloadN S5 d2_27 rfl rfl ?_
      refine px_dup2 S5 d2_28 rfl rfl rfl ?_
      refine px_baload (v := (f p)) S5 A_b (i := p) hi (by omega) rfl d2_29 rfl ?_
      refine px_iconst (v := (1 : Int32)) S5 d2_30 rfl rfl ?_
      refine px_iadd S5 d2_31 rfl ?_
      refine px_i2b S5 d2_32 rfl ?_
      refine px_bastore (v := (i2b (i2b ((f p) + (1 : Int32))))) S5 A_b g_b (i := p) hi (by omega) rfl d2_33 rfl (fun T6 h6 S6 W6 A_b => ?_)
      refine px_aloadN S6 d2_34 rfl rfl rfl ?_
      exact px_retA S6 d2_35 rfl rfl rfl (by decide) (by decide) (⟨b, rfl, g_b, sz_b, Kb.trans (Keep.of_wr W6) (allS (Or.inr sz_b) all0), A_b.congr (fun j _ => by rw [hpe])⟩)
    · refine px_aloadN S3 d2_5 rfl rfl rfl ?_
      refine px_iloadN S3 d2_6 rfl rfl ?_
      refine px_baload (v := (f p)) S3 A0 (i := p) hi (by omega) rfl d2_7 rfl ?_
      have hfp : (f p).toInt = -1 := hall p (by omega) hpn
      refine px_iconst (v := (-1 : Int32)) S3 d2_8 rfl rfl ?_
      refine px_icmp S3 d2_9 (by decide) (pc' := 18) rfl rfl (fun (hc7 : ¬ (f p).toInt = (-1 : Int32).toInt) => by exfalso; have q0 := rng32 (f p); have q1 := (show (-1 : Int32).toInt = -1 from rfl); have q2 := rng32 i; omega) (fun (hc7 : (f p).toInt = (-1 : Int32).toInt) => ?_)
      refine px_iinc (v := (-1 : Int32)) (r := (i + (-1 : Int32))) S3 d2_12 rfl rfl rfl rfl (L' := #[.val (.ref a), .val (.int (i + (-1 : Int32))), .unset]) rfl ?_
      have l_9 : (-1 : Int32).toInt = -1 := rfl
      have x_8 := (x_iadd b_i (show (-1 : Int) ≤ (-1 : Int32).toInt ∧ (-1 : Int32).toInt ≤ -1 from by decide) (by decide) (by decide) : (i + (-1 : Int32)).toInt = i.toInt + (-1 : Int32).toInt)
      have bx_8 : (-1 : Int) ≤ (i + (-1 : Int32)).toInt ∧ (i + (-1 : Int32)).toInt ≤ 2 := by rw [x_8]; exact ib_add b_i (show (-1 : Int) ≤ (-1 : Int32).toInt ∧ (-1 : Int32).toInt ≤ -1 from by decide) (by decide) (by decide)
      generalize h_v10 : (i + (-1 : Int32)) = v10
      rw [h_v10] at x_8 bx_8
      refine px_goto S3 d2_15 (by decide) (pc' := 5) rfl ?_
      exact IHJ2 (k - 1) (by omega) (p - 1, v10) _ _ S3 ⟨rfl, by (try dsimp only); omega, by (try dsimp only); omega, by (try dsimp only); have q0 := rng32 v10; have q1 := (show (-1 : Int32).toInt = -1 from rfl); have q2 := rng32 i; have q3 := rng32 (f p); omega⟩
  · exact J2 (n - 1 - e) (n - 1, v1) _ _ S0 ⟨rfl, by (try dsimp only); omega, by (try dsimp only); omega, by (try dsimp only); have q0 := rng32 v1; have q1 := congrArg Int32.toInt h_v1; have q2 := c_isub nl (1 : Int32); have q3 := rng32 (nl - (1 : Int32)); have q4 := rng32 nl; have q5 := (show (1 : Int32).toInt = 1 from rfl); omega⟩
theorem pd_0_0 : parseMethodDescriptor "(III)B" = some ⟨[.int, .int, .int], some .byte⟩ := by decide +kernel
theorem pd_0_1 : parseMethodDescriptor "([B)[B" = some ⟨[(.array .byte)], some (.array .byte)⟩ := by decide +kernel
theorem pd_0_2 : parseMethodDescriptor "(IIB)B" = some ⟨[.int, .int, .byte], some .byte⟩ := by decide +kernel
theorem pn_0 : plainFor x = true := plainFor_of_name (by first | (simp [plainName, overriddenIn]; done) | decide +kernel)
set_option maxRecDepth 65536 in
set_option maxHeartbeats 40000000 in
theorem law_ctr {Z : State} {a0 : Array Value} (hw : ∀ d ∈ tables_1, d.before a0 Z = true) (i0 i1 i2 i3 i4 : Int32) {h0 : Heap} {n0 : Nat} (Z0 : n0 ≤ h0.size) :
    Ctr Z n0 x code maxLocals ret room_1 [(.int i0), (.int i1), (.int i2), (.int i3), (.int i4)] h0 (fun v h => v = some (.int 1)) := by
  refine Ctr.of (L := #[.val (.int i0), .val (.int i1), .val (.int i2), .val (.int i3), .val (.int i4), .unset, .unset, .unset, .unset, .unset, .unset, .unset, .unset, .unset, .unset]) pn_0 Z0 (fun m => by first | (simp [entryFrame, mkF, argsToLocals, Value.category, maxLocals]; done) | rfl) ?_
  intro K T S0
  refine px_iloadN S0 at_0 rfl rfl ?_
  refine px_iconst (v := (3 : Int32)) S0 at_1 rfl rfl ?_
  refine px_iand S0 at_2 rfl ?_
  refine px_iconst (v := (1 : Int32)) S0 at_3 rfl rfl ?_
  refine px_iadd S0 at_4 rfl ?_
  generalize h_v1 : ((i0 &&& (3 : Int32)) + (1 : Int32)) = v1
  refine px_istore S0 at_5 rfl (L' := #[.val (.int i0), .val (.int i1), .val (.int i2), .val (.int i3), .val (.int i4), .val (.int v1), .unset, .unset, .unset, .unset, .unset, .unset, .unset, .unset, .unset]) rfl ?_
  refine px_iloadN S0 at_7 rfl rfl ?_
  refine px_iloadN S0 at_8 rfl rfl ?_
  refine px_iconst (v := (2 : Int32)) S0 at_9 rfl rfl ?_
  refine px_callS (as' := [(.int i1), (.int i0), (.int (2 : Int32))]) (st := []) (W := 0) S0 (c_pick hw S0.size) (hw _ (List.mem_of_getElem? (i := 0) rfl)) (hw _ (List.mem_of_getElem? (i := 1) rfl)) (hw _ (List.mem_of_getElem? (i := 2) rfl)) (hw _ (List.mem_of_getElem? (i := 3) rfl)) (by decide) pd_0_0 rfl rfl (by decide) rfl (by decide) (by decide) (by decide) at_10 rfl rfl (fun T2 h2 v2 S2 q2 => ?_)
  obtain ⟨rfl, y0, rfl, p_y0⟩ := q2
  show Go _ _ _ _ _ _ _ [(.int y0)]
  refine px_istore S2 at_13 rfl (L' := #[.val (.int i0), .val (.int i1), .val (.int i2), .val (.int i3), .val (.int i4), .val (.int v1), .val (.int y0), .unset, .unset, .unset, .unset, .unset, .unset, .unset, .unset]) rfl ?_
  refine px_iloadN S2 at_15 rfl rfl ?_
  refine px_iloadN S2 at_16 rfl rfl ?_
  refine px_iconst (v := (3 : Int32)) S2 at_17 rfl rfl ?_
  refine px_callS (as' := [(.int i2), (.int i0), (.int (3 : Int32))]) (st := []) (W := 0) S2 (c_pick hw S2.size) (hw _ (List.mem_of_getElem? (i := 0) rfl)) (hw _ (List.mem_of_getElem? (i := 1) rfl)) (hw _ (List.mem_of_getElem? (i := 2) rfl)) (hw _ (List.mem_of_getElem? (i := 3) rfl)) (by decide) pd_0_0 rfl rfl (by decide) rfl (by decide) (by decide) (by decide) at_18 rfl rfl (fun T3 h3 v3 S3 q3 => ?_)
  obtain ⟨rfl, y1, rfl, p_y1⟩ := q3
  show Go _ _ _ _ _ _ _ [(.int y1)]
  refine px_istore S3 at_21 rfl (L' := #[.val (.int i0), .val (.int i1), .val (.int i2), .val (.int i3), .val (.int i4), .val (.int v1), .val (.int y0), .val (.int y1), .unset, .unset, .unset, .unset, .unset, .unset, .unset]) rfl ?_
  refine px_iloadN S3 at_23 rfl rfl ?_
  refine px_iloadN S3 at_24 rfl rfl ?_
  refine px_iconst (v := (4 : Int32)) S3 at_25 rfl rfl ?_
  refine px_callS (as' := [(.int i3), (.int i0), (.int (4 : Int32))]) (st := []) (W := 0) S3 (c_pick hw S3.size) (hw _ (List.mem_of_getElem? (i := 0) rfl)) (hw _ (List.mem_of_getElem? (i := 1) rfl)) (hw _ (List.mem_of_getElem? (i := 2) rfl)) (hw _ (List.mem_of_getElem? (i := 3) rfl)) (by decide) pd_0_0 rfl rfl (by decide) rfl (by decide) (by decide) (by decide) at_26 rfl rfl (fun T4 h4 v4 S4 q4 => ?_)
  obtain ⟨rfl, y2, rfl, p_y2⟩ := q4
  show Go _ _ _ _ _ _ _ [(.int y2)]
  refine px_istore S4 at_29 rfl (L' := #[.val (.int i0), .val (.int i1), .val (.int i2), .val (.int i3), .val (.int i4), .val (.int v1), .val (.int y0), .val (.int y1), .val (.int y2), .unset, .unset, .unset, .unset, .unset, .unset]) rfl ?_
  refine px_iload S4 at_31 rfl rfl ?_
  refine px_iloadN S4 at_33 rfl rfl ?_
  refine px_iconst (v := (5 : Int32)) S4 at_34 rfl rfl ?_
  refine px_callS (as' := [(.int i4), (.int i0), (.int (5 : Int32))]) (st := []) (W := 0) S4 (c_pick hw S4.size) (hw _ (List.mem_of_getElem? (i := 0) rfl)) (hw _ (List.mem_of_getElem? (i := 1) rfl)) (hw _ (List.mem_of_getElem? (i := 2) rfl)) (hw _ (List.mem_of_getElem? (i := 3) rfl)) (by decide) pd_0_0 rfl rfl (by decide) rfl (by decide) (by decide) (by decide) at_35 rfl rfl (fun T5 h5 v5 S5 q5 => ?_)
  obtain ⟨rfl, y3, rfl, p_y3⟩ := q5
  show Go _ _ _ _ _ _ _ [(.int y3)]
  refine px_istore S5 at_38 rfl (L' := #[.val (.int i0), .val (.int i1), .val (.int i2), .val (.int i3), .val (.int i4), .val (.int v1), .val (.int y0), .val (.int y1), .val (.int y2), .val (.int y3), .unset, .unset, .unset, .unset, .unset]) rfl ?_
  rcases (show v1.toInt = 1 ∨ v1.toInt = 2 ∨ v1.toInt = 3 ∨ v1.toInt = 4 from by have q0 := rng32 v1; have q1 := congrArg Int32.toInt h_v1; have q2 := c_iadd (i0 &&& (3 : Int32)) (1 : Int32); have q3 := rng32 ((i0 &&& (3 : Int32)) + (1 : Int32)); have q4 := f_imask i0 (3 : Int32) 2 4 (by decide) (by decide) (by decide); have q5 := rng32 i0; have q6 := (show (3 : Int32).toInt = 3 from rfl); have q7 := (show (1 : Int32).toInt = 1 from rfl); omega) with e6 | e6 | e6 | e6
  · obtain rfl : v1 = (1 : Int32) := i32_of e6 rfl
    refine px_iload S5 at_40 rfl rfl ?_
    refine px_newarrE (aty := .byte) (ad := "[B") (cap := 1) S5 rfl (hw _ (List.mem_of_getElem? (i := 4) rfl)) rfl (n := 1) rfl (by decide) (by decide) (by decide) (by decide) at_42 rfl (fun T7 h7 b7 z7 g_b7 S7 E7 A_b7 X_b7 => ?_)
    refine px_astore S7 at_44 rfl rfl (L' := #[.val (.int i0), .val (.int i1), .val (.int i2), .val (.int i3), .val (.int i4), .val (.int (1 : Int32)), .val (.int y0), .val (.int y1), .val (.int y2), .val (.int y3), .val (.ref b7), .unset, .unset, .unset, .unset]) rfl ?_
    refine px_aload S7 at_46 rfl rfl rfl ?_
    refine px_iconst (v := (0 : Int32)) S7 at_48 rfl rfl ?_
    refine px_iload S7 at_49 rfl rfl ?_
    refine px_bastore (v := y0) S7 A_b7 g_b7 (i := 0) rfl (by decide) (nar_b p_y0) at_51 rfl (fun T8 h8 S8 W8 A_b7 => ?_)
    replace X_b7 := X_b7.wr W8
    refine px_iload S8 at_52 rfl rfl ?_
    refine px_iconst (v := (1 : Int32)) S8 at_54 rfl rfl ?_
    refine px_icmp S8 at_55 (by decide) (pc' := 64) rfl rfl (fun (hc9 : (1 : Int32).toInt ≤ (1 : Int32).toInt) => ?_) (fun (hc9 : (1 : Int32).toInt > (1 : Int32).toInt) => by exfalso; revert hc9; decide)
    refine px_iload S8 at_64 rfl rfl ?_
    refine px_iconst (v := (2 : Int32)) S8 at_66 rfl rfl ?_
    refine px_icmp S8 at_67 (by decide) (pc' := 76) rfl rfl (fun (hc10 : (1 : Int32).toInt ≤ (2 : Int32).toInt) => ?_) (fun (hc10 : (1 : Int32).toInt > (2 : Int32).toInt) => by exfalso; revert hc10; decide)
    refine px_iload S8 at_76 rfl rfl ?_
    refine px_iconst (v := (3 : Int32)) S8 at_78 rfl rfl ?_
    refine px_icmp S8 at_79 (by decide) (pc' := 88) rfl rfl (fun (hc11 : (1 : Int32).toInt ≤ (3 : Int32).toInt) => ?_) (fun (hc11 : (1 : Int32).toInt > (3 : Int32).toInt) => by exfalso; revert hc11; decide)
    refine px_iconst (v := (-1 : Int32)) S8 at_88 rfl rfl ?_
    refine px_istore S8 at_89 rfl (L' := #[.val (.int i0), .val (.int i1), .val (.int i2), .val (.int i3), .val (.int i4), .val (.int (1 : Int32)), .val (.int y0), .val (.int y1), .val (.int y2), .val (.int y3), .val (.ref b7), .val (.int (-1 : Int32)), .unset, .unset, .unset]) rfl ?_
    refine Go.join (P := fun lst : Int32 => (lst.toInt = -1 ∧ y0.toInt = -1) ∨ (lst.toInt = 0 ∧ ¬ y0.toInt = -1)) (pcj := 145) (Lj := fun lst => #[.val (.int i0), .val (.int i1), .val (.int i2), .val (.int i3), .val (.int i4), .val (.int (1 : Int32)), .val (.int y0), .val (.int y1), .val (.int y2), .val (.int y3), .val (.ref b7), .val (.int lst), .unset, .unset, .unset]) (stj := fun lst => []) (fun lst p_lst => ?_) (fun J12 => ?_)
    · show Go _ _ _ _ _ 145 #[.val (.int i0), .val (.int i1), .val (.int i2), .val (.int i3), .val (.int i4), .val (.int (1 : Int32)), .val (.int y0), .val (.int y1), .val (.int y2), .val (.int y3), .val (.ref b7), .val (.int lst), .unset, .unset, .unset] []
      rcases (show lst.toInt = -1 ∨ lst.toInt = 0 from by have q0 := rng32 lst; have q1 := rng32 y0; have q2 := rng32 y1; have q3 := rng32 y2; have q4 := rng32 y3; omega) with e13 | e13
      · obtain rfl : lst = (-1 : Int32) := i32_of e13 rfl
        refine px_iload S8 at_145 rfl rfl ?_
        refine px_if0 S8 at_147 (by decide) (pc' := 152) rfl rfl (fun (hc14 : (-1 : Int32).toInt ≥ 0) => by exfalso; revert hc14; decide) (fun (hc14 : (-1 : Int32).toInt < 0) => ?_)
        refine px_iconst (v := (1 : Int32)) S8 at_150 rfl rfl ?_
        exact px_retN (t := .boolean) (z' := (1 : Int32)) S8 at_151 rfl (by simp) rfl (by decide) (by decide) (rfl)
      · obtain rfl : lst = (0 : Int32) := i32_of e13 rfl
        refine px_iload S8 at_145 rfl rfl ?_
        refine px_if0 S8 at_147 (by decide) (pc' := 152) rfl rfl (fun (hc15 : (0 : Int32).toInt ≥ 0) => ?_) (fun (hc15 : (0 : Int32).toInt < 0) => by exfalso; revert hc15; decide)
        refine px_aload S8 at_152 rfl rfl rfl ?_
        have hme : ¬ y0.toInt = -1 := by have l0 : (0 : Int32).toInt = 0 := rfl; omega
        refine px_callS (as' := [(.ref b7)]) (st := []) (W := 0) S8 (c_after (n := 1) (e := 0) (nl := (1 : Int32)) hw S8.size rfl (by decide) (by decide) hme (fun j h1 h2 => by omega) A_b7 X_b7) (hw _ (List.mem_of_getElem? (i := 5) rfl)) (hw _ (List.mem_of_getElem? (i := 6) rfl)) (hw _ (List.mem_of_getElem? (i := 7) rfl)) (hw _ (List.mem_of_getElem? (i := 8) rfl)) (by decide) pd_0_1 rfl rfl (by decide) rfl (by decide) (by decide) (by decide) at_154 rfl rfl (fun T16 h16 v16 S16 q16 => ?_)
        obtain ⟨br, rfl, g_br, sz_br, K16, A_br⟩ := q16
        replace A_b7 := A_b7.keep K16 nin0
        replace X_b7 := X_b7.keep K16
        show Go _ _ _ _ _ _ _ [(.ref br)]
        refine px_astore S16 at_157 rfl rfl (L' := #[.val (.int i0), .val (.int i1), .val (.int i2), .val (.int i3), .val (.int i4), .val (.int (1 : Int32)), .val (.int y0), .val (.int y1), .val (.int y2), .val (.int y3), .val (.ref b7), .val (.int (0 : Int32)), .val (.ref br), .unset, .unset]) rfl ?_
        refine px_aload S16 at_159 rfl rfl rfl ?_
        refine px_alenI (v := (1 : Int32)) S16 A_b7 rfl at_161 rfl ?_
        refine px_iload S16 at_162 rfl rfl ?_
        refine px_icmp S16 at_164 (by decide) (pc' := 225) rfl rfl (fun (hc17 : ¬ (1 : Int32).toInt = (1 : Int32).toInt) => absurd rfl hc17) (fun (hc17 : (1 : Int32).toInt = (1 : Int32).toInt) => ?_)
        refine px_aload S16 at_167 rfl rfl rfl ?_
        refine px_iconst (v := (0 : Int32)) S16 at_169 rfl rfl ?_
        refine px_baload (v := y0) S16 A_b7 (i := 0) rfl (by decide) rfl at_170 rfl ?_
        refine px_iload S16 at_171 rfl rfl ?_
        refine px_icmp S16 at_173 (by decide) (pc' := 225) rfl rfl (fun (hc18 : ¬ y0.toInt = y0.toInt) => absurd rfl hc18) (fun (hc18 : y0.toInt = y0.toInt) => ?_)
        refine px_iload S16 at_176 rfl rfl ?_
        refine px_iconst (v := (2 : Int32)) S16 at_178 rfl rfl ?_
        refine px_icmp S16 at_179 (by decide) (pc' := 191) rfl rfl (fun (hc19 : (1 : Int32).toInt < (2 : Int32).toInt) => ?_) (fun (hc19 : (1 : Int32).toInt ≥ (2 : Int32).toInt) => by exfalso; revert hc19; decide)
        refine px_iload S16 at_191 rfl rfl ?_
        refine px_iconst (v := (3 : Int32)) S16 at_193 rfl rfl ?_
        refine px_icmp S16 at_194 (by decide) (pc' := 206) rfl rfl (fun (hc20 : (1 : Int32).toInt < (3 : Int32).toInt) => ?_) (fun (hc20 : (1 : Int32).toInt ≥ (3 : Int32).toInt) => by exfalso; revert hc20; decide)
        refine px_iload S16 at_206 rfl rfl ?_
        refine px_iconst (v := (4 : Int32)) S16 at_208 rfl rfl ?_
        refine px_icmp S16 at_209 (by decide) (pc' := 221) rfl rfl (fun (hc21 : (1 : Int32).toInt < (4 : Int32).toInt) => ?_) (fun (hc21 : (1 : Int32).toInt ≥ (4 : Int32).toInt) => by exfalso; revert hc21; decide)
        refine px_iconst (v := (1 : Int32)) S16 at_221 rfl rfl ?_
        refine px_goto S16 at_222 (by decide) (pc' := 226) rfl ?_
        refine px_istore S16 at_226 rfl (L' := #[.val (.int i0), .val (.int i1), .val (.int i2), .val (.int i3), .val (.int i4), .val (.int (1 : Int32)), .val (.int y0), .val (.int y1), .val (.int y2), .val (.int y3), .val (.ref b7), .val (.int (0 : Int32)), .val (.ref br), .val (.int (1 : Int32)), .unset]) rfl ?_
        refine px_iload S16 at_228 rfl rfl ?_
        refine px_if0 S16 at_230 (by decide) (pc' := 235) rfl rfl (fun (hc22 : ¬ (1 : Int32).toInt = 0) => ?_) (fun (hc22 : (1 : Int32).toInt = 0) => by exfalso; revert hc22; decide)
        refine px_aload S16 at_235 rfl rfl rfl ?_
        refine px_ifnull S16 at_237 rfl ?_
        refine px_aload S16 at_240 rfl rfl rfl ?_
        refine px_alenI (v := (1 : Int32)) S16 A_br rfl at_242 rfl ?_
        refine px_iload S16 at_243 rfl rfl ?_
        refine px_iconst (v := (1 : Int32)) S16 at_245 rfl rfl ?_
        refine px_iadd S16 at_246 rfl ?_
        rw [show ((0 : Int32) + (1 : Int32)) = (1 : Int32) from by decide]
        refine px_icmp S16 at_247 (by decide) (pc' := 252) rfl rfl (fun (hc23 : (1 : Int32).toInt = (1 : Int32).toInt) => ?_) (fun (hc23 : ¬ (1 : Int32).toInt = (1 : Int32).toInt) => absurd rfl hc23)
        refine px_aload S16 at_252 rfl rfl rfl ?_
        refine px_iconst (v := (0 : Int32)) S16 at_254 rfl rfl ?_
        refine px_baload (v := (i2b (i2b (y0 + (1 : Int32))))) S16 A_br (i := 0) rfl (by decide) rfl at_255 rfl ?_
        refine px_iconst (v := (0 : Int32)) S16 at_256 rfl rfl ?_
        refine px_iload S16 at_257 rfl rfl ?_
        refine px_iload S16 at_259 rfl rfl ?_
        refine px_callS (as' := [(.int (0 : Int32)), (.int (0 : Int32)), (.int y0)]) (st := [(.int (i2b (i2b (y0 + (1 : Int32)))))]) (W := 1) S16 (c_exp hw S16.size) (hw _ (List.mem_of_getElem? (i := 22) rfl)) (hw _ (List.mem_of_getElem? (i := 23) rfl)) (hw _ (List.mem_of_getElem? (i := 2) rfl)) (hw _ (List.mem_of_getElem? (i := 24) rfl)) (by decide) pd_0_2 rfl rfl (by decide) rfl (by decide) (by decide) (by decide) at_261 rfl rfl (fun T24 h24 v24 S24 q24 => ?_)
        obtain ⟨rfl, q24⟩ := q24
        obtain rfl : v24 = some (.int (i2b (i2b (y0 + (1 : Int32))))) := q24.elim (fun q => absurd q.1 (by decide)) (fun q => q.2)
        show Go _ _ _ _ _ _ _ [(.int (i2b (i2b (y0 + (1 : Int32))))), (.int (i2b (i2b (y0 + (1 : Int32)))))]
        refine px_icmp S24 at_264 (by decide) (pc' := 271) rfl rfl (fun (hc25 : ¬ (i2b (i2b (y0 + (1 : Int32)))).toInt = (i2b (i2b (y0 + (1 : Int32)))).toInt) => absurd rfl hc25) (fun (hc25 : (i2b (i2b (y0 + (1 : Int32)))).toInt = (i2b (i2b (y0 + (1 : Int32)))).toInt) => ?_)
        refine px_iconst (v := (1 : Int32)) S24 at_267 rfl rfl ?_
        refine px_goto S24 at_268 (by decide) (pc' := 272) rfl ?_
        refine px_istore S24 at_272 rfl (L' := #[.val (.int i0), .val (.int i1), .val (.int i2), .val (.int i3), .val (.int i4), .val (.int (1 : Int32)), .val (.int y0), .val (.int y1), .val (.int y2), .val (.int y3), .val (.ref b7), .val (.int (0 : Int32)), .val (.ref br), .val (.int (1 : Int32)), .val (.int (1 : Int32))]) rfl ?_
        refine px_iload S24 at_274 rfl rfl ?_
        refine px_iconst (v := (1 : Int32)) S24 at_276 rfl rfl ?_
        refine px_icmp S24 at_277 (by decide) (pc' := 307) rfl rfl (fun (hc26 : (0 : Int32).toInt < (1 : Int32).toInt) => ?_) (fun (hc26 : (0 : Int32).toInt ≥ (1 : Int32).toInt) => by exfalso; revert hc26; decide)
        refine px_iload S24 at_307 rfl rfl ?_
        refine px_iconst (v := (2 : Int32)) S24 at_309 rfl rfl ?_
        refine px_icmp S24 at_310 (by decide) (pc' := 340) rfl rfl (fun (hc27 : (0 : Int32).toInt < (2 : Int32).toInt) => ?_) (fun (hc27 : (0 : Int32).toInt ≥ (2 : Int32).toInt) => by exfalso; revert hc27; decide)
        refine px_iload S24 at_340 rfl rfl ?_
        refine px_iconst (v := (3 : Int32)) S24 at_342 rfl rfl ?_
        refine px_icmp S24 at_343 (by decide) (pc' := 373) rfl rfl (fun (hc28 : (0 : Int32).toInt < (3 : Int32).toInt) => ?_) (fun (hc28 : (0 : Int32).toInt ≥ (3 : Int32).toInt) => by exfalso; revert hc28; decide)
        refine px_iload S24 at_373 rfl rfl ?_
        exact px_retN (t := .boolean) (z' := (1 : Int32)) S24 at_375 rfl (by simp) rfl (by decide) (by decide) (rfl)
    · refine px_iload S8 at_91 rfl rfl ?_
      refine px_iconst (v := (-1 : Int32)) S8 at_93 rfl rfl ?_
      refine px_icmp S8 at_94 (by decide) (pc' := 100) rfl rfl (fun (hc29 : y0.toInt = (-1 : Int32).toInt) => ?_) (fun (hc29 : ¬ y0.toInt = (-1 : Int32).toInt) => ?_)
      · refine px_iload S8 at_100 rfl rfl ?_
        refine px_iconst (v := (1 : Int32)) S8 at_102 rfl rfl ?_
        refine px_icmp S8 at_103 (by decide) (pc' := 115) rfl rfl (fun (hc30 : (1 : Int32).toInt ≤ (1 : Int32).toInt) => ?_) (fun (hc30 : (1 : Int32).toInt > (1 : Int32).toInt) => by exfalso; revert hc30; decide)
        refine px_iload S8 at_115 rfl rfl ?_
        refine px_iconst (v := (2 : Int32)) S8 at_117 rfl rfl ?_
        refine px_icmp S8 at_118 (by decide) (pc' := 130) rfl rfl (fun (hc31 : (1 : Int32).toInt ≤ (2 : Int32).toInt) => ?_) (fun (hc31 : (1 : Int32).toInt > (2 : Int32).toInt) => by exfalso; revert hc31; decide)
        refine px_iload S8 at_130 rfl rfl ?_
        refine px_iconst (v := (3 : Int32)) S8 at_132 rfl rfl ?_
        refine px_icmp S8 at_133 (by decide) (pc' := 145) rfl rfl (fun (hc32 : (1 : Int32).toInt ≤ (3 : Int32).toInt) => ?_) (fun (hc32 : (1 : Int32).toInt > (3 : Int32).toInt) => by exfalso; revert hc32; decide)
        exact J12 _ (show ((-1 : Int32).toInt = -1 ∧ y0.toInt = -1) ∨ ((-1 : Int32).toInt = 0 ∧ ¬ y0.toInt = -1) from by have q0 := congrArg Int32.toInt h_v1; have q1 := (show (-1 : Int32).toInt = -1 from rfl); have q2 := c_iadd (i0 &&& (3 : Int32)) (1 : Int32); have q3 := rng32 ((i0 &&& (3 : Int32)) + (1 : Int32)); have q4 := f_imask i0 (3 : Int32) 2 4 (by decide) (by decide) (by decide); have q5 := rng32 i0; have q6 := (show (3 : Int32).toInt = 3 from rfl); have q7 := (show (1 : Int32).toInt = 1 from rfl); have q8 := rng32 y0; omega)
      · refine px_iconst (v := (0 : Int32)) S8 at_97 rfl rfl ?_
        refine px_istore S8 at_98 rfl (L' := #[.val (.int i0), .val (.int i1), .val (.int i2), .val (.int i3), .val (.int i4), .val (.int (1 : Int32)), .val (.int y0), .val (.int y1), .val (.int y2), .val (.int y3), .val (.ref b7), .val (.int (0 : Int32)), .unset, .unset, .unset]) rfl ?_
        refine px_iload S8 at_100 rfl rfl ?_
        refine px_iconst (v := (1 : Int32)) S8 at_102 rfl rfl ?_
        refine px_icmp S8 at_103 (by decide) (pc' := 115) rfl rfl (fun (hc33 : (1 : Int32).toInt ≤ (1 : Int32).toInt) => ?_) (fun (hc33 : (1 : Int32).toInt > (1 : Int32).toInt) => by exfalso; revert hc33; decide)
        refine px_iload S8 at_115 rfl rfl ?_
        refine px_iconst (v := (2 : Int32)) S8 at_117 rfl rfl ?_
        refine px_icmp S8 at_118 (by decide) (pc' := 130) rfl rfl (fun (hc34 : (1 : Int32).toInt ≤ (2 : Int32).toInt) => ?_) (fun (hc34 : (1 : Int32).toInt > (2 : Int32).toInt) => by exfalso; revert hc34; decide)
        refine px_iload S8 at_130 rfl rfl ?_
        refine px_iconst (v := (3 : Int32)) S8 at_132 rfl rfl ?_
        refine px_icmp S8 at_133 (by decide) (pc' := 145) rfl rfl (fun (hc35 : (1 : Int32).toInt ≤ (3 : Int32).toInt) => ?_) (fun (hc35 : (1 : Int32).toInt > (3 : Int32).toInt) => by exfalso; revert hc35; decide)
        exact J12 _ (show ((0 : Int32).toInt = -1 ∧ y0.toInt = -1) ∨ ((0 : Int32).toInt = 0 ∧ ¬ y0.toInt = -1) from by have q0 := congrArg Int32.toInt h_v1; have q1 := (show (0 : Int32).toInt = 0 from rfl); have q2 := c_iadd (i0 &&& (3 : Int32)) (1 : Int32); have q3 := rng32 ((i0 &&& (3 : Int32)) + (1 : Int32)); have q4 := f_imask i0 (3 : Int32) 2 4 (by decide) (by decide) (by decide); have q5 := rng32 i0; have q6 := (show (3 : Int32).toInt = 3 from rfl); have q7 := (show (1 : Int32).toInt = 1 from rfl); have q8 := rng32 y0; have q9 := (show (-1 : Int32).toInt = -1 from rfl); omega)
  · obtain rfl : v1 = (2 : Int32) := i32_of e6 rfl
    refine px_iload S5 at_40 rfl rfl ?_
    refine px_newarrE (aty := .byte) (ad := "[B") (cap := 2) S5 rfl (hw _ (List.mem_of_getElem? (i := 4) rfl)) rfl (n := 2) rfl (by decide) (by decide) (by decide) (by decide) at_42 rfl (fun T36 h36 b36 z36 g_b36 S36 E36 A_b36 X_b36 => ?_)
    refine px_astore S36 at_44 rfl rfl (L' := #[.val (.int i0), .val (.int i1), .val (.int i2), .val (.int i3), .val (.int i4), .val (.int (2 : Int32)), .val (.int y0), .val (.int y1), .val (.int y2), .val (.int y3), .val (.ref b36), .unset, .unset, .unset, .unset]) rfl ?_
    refine px_aload S36 at_46 rfl rfl rfl ?_
    refine px_iconst (v := (0 : Int32)) S36 at_48 rfl rfl ?_
    refine px_iload S36 at_49 rfl rfl ?_
    refine px_bastore (v := y0) S36 A_b36 g_b36 (i := 0) rfl (by decide) (nar_b p_y0) at_51 rfl (fun T37 h37 S37 W37 A_b36 => ?_)
    replace X_b36 := X_b36.wr W37
    refine px_iload S37 at_52 rfl rfl ?_
    refine px_iconst (v := (1 : Int32)) S37 at_54 rfl rfl ?_
    refine px_icmp S37 at_55 (by decide) (pc' := 64) rfl rfl (fun (hc38 : (2 : Int32).toInt ≤ (1 : Int32).toInt) => by exfalso; revert hc38; decide) (fun (hc38 : (2 : Int32).toInt > (1 : Int32).toInt) => ?_)
    refine px_aload S37 at_58 rfl rfl rfl ?_
    refine px_iconst (v := (1 : Int32)) S37 at_60 rfl rfl ?_
    refine px_iload S37 at_61 rfl rfl ?_
    refine px_bastore (v := y1) S37 A_b36 g_b36 (i := 1) rfl (by decide) (nar_b p_y1) at_63 rfl (fun T39 h39 S39 W39 A_b36 => ?_)
    replace X_b36 := X_b36.wr W39
    refine px_iload S39 at_64 rfl rfl ?_
    refine px_iconst (v := (2 : Int32)) S39 at_66 rfl rfl ?_
    refine px_icmp S39 at_67 (by decide) (pc' := 76) rfl rfl (fun (hc40 : (2 : Int32).toInt ≤ (2 : Int32).toInt) => ?_) (fun (hc40 : (2 : Int32).toInt > (2 : Int32).toInt) => by exfalso; revert hc40; decide)
    refine px_iload S39 at_76 rfl rfl ?_
    refine px_iconst (v := (3 : Int32)) S39 at_78 rfl rfl ?_
    refine px_icmp S39 at_79 (by decide) (pc' := 88) rfl rfl (fun (hc41 : (2 : Int32).toInt ≤ (3 : Int32).toInt) => ?_) (fun (hc41 : (2 : Int32).toInt > (3 : Int32).toInt) => by exfalso; revert hc41; decide)
    refine px_iconst (v := (-1 : Int32)) S39 at_88 rfl rfl ?_
    refine px_istore S39 at_89 rfl (L' := #[.val (.int i0), .val (.int i1), .val (.int i2), .val (.int i3), .val (.int i4), .val (.int (2 : Int32)), .val (.int y0), .val (.int y1), .val (.int y2), .val (.int y3), .val (.ref b36), .val (.int (-1 : Int32)), .unset, .unset, .unset]) rfl ?_
    refine Go.join (P := fun lst : Int32 => (lst.toInt = -1 ∧ y0.toInt = -1 ∧ y1.toInt = -1) ∨ (lst.toInt = 0 ∧ ¬ y0.toInt = -1 ∧ y1.toInt = -1) ∨ (lst.toInt = 1 ∧ ¬ y1.toInt = -1)) (pcj := 145) (Lj := fun lst => #[.val (.int i0), .val (.int i1), .val (.int i2), .val (.int i3), .val (.int i4), .val (.int (2 : Int32)), .val (.int y0), .val (.int y1), .val (.int y2), .val (.int y3), .val (.ref b36), .val (.int lst), .unset, .unset, .unset]) (stj := fun lst => []) (fun lst p_lst => ?_) (fun J42 => ?_)
    · show Go _ _ _ _ _ 145 #[.val (.int i0), .val (.int i1), .val (.int i2), .val (.int i3), .val (.int i4), .val (.int (2 : Int32)), .val (.int y0), .val (.int y1), .val (.int y2), .val (.int y3), .val (.ref b36), .val (.int lst), .unset, .unset, .unset] []
      rcases (show lst.toInt = -1 ∨ lst.toInt = 0 ∨ lst.toInt = 1 from by have q0 := rng32 lst; have q1 := rng32 y0; have q2 := rng32 y1; have q3 := rng32 y2; have q4 := rng32 y3; omega) with e43 | e43 | e43
      · obtain rfl : lst = (-1 : Int32) := i32_of e43 rfl
        refine px_iload S39 at_145 rfl rfl ?_
        refine px_if0 S39 at_147 (by decide) (pc' := 152) rfl rfl (fun (hc44 : (-1 : Int32).toInt ≥ 0) => by exfalso; revert hc44; decide) (fun (hc44 : (-1 : Int32).toInt < 0) => ?_)
        refine px_iconst (v := (1 : Int32)) S39 at_150 rfl rfl ?_
        exact px_retN (t := .boolean) (z' := (1 : Int32)) S39 at_151 rfl (by simp) rfl (by decide) (by decide) (rfl)
      · obtain rfl : lst = (0 : Int32) := i32_of e43 rfl
        refine px_iload S39 at_145 rfl rfl ?_
        refine px_if0 S39 at_147 (by decide) (pc' := 152) rfl rfl (fun (hc45 : (0 : Int32).toInt ≥ 0) => ?_) (fun (hc45 : (0 : Int32).toInt < 0) => by exfalso; revert hc45; decide)
        refine px_aload S39 at_152 rfl rfl rfl ?_
        have hm1 : y1.toInt = -1 := by have l0 : (0 : Int32).toInt = 0 := rfl; omega
        have hme : ¬ y0.toInt = -1 := by have l0 : (0 : Int32).toInt = 0 := rfl; omega
        refine px_callS (as' := [(.ref b36)]) (st := []) (W := 0) S39 (c_after (n := 2) (e := 0) (nl := (2 : Int32)) hw S39.size rfl (by decide) (by decide) hme (fun j h1 h2 => by have hj : j = 1 := (by omega); rcases hj with rfl <;> assumption) A_b36 X_b36) (hw _ (List.mem_of_getElem? (i := 5) rfl)) (hw _ (List.mem_of_getElem? (i := 6) rfl)) (hw _ (List.mem_of_getElem? (i := 7) rfl)) (hw _ (List.mem_of_getElem? (i := 8) rfl)) (by decide) pd_0_1 rfl rfl (by decide) rfl (by decide) (by decide) (by decide) at_154 rfl rfl (fun T46 h46 v46 S46 q46 => ?_)
        obtain ⟨br, rfl, g_br, sz_br, K46, A_br⟩ := q46
        replace A_b36 := A_b36.keep K46 nin0
        replace X_b36 := X_b36.keep K46
        show Go _ _ _ _ _ _ _ [(.ref br)]
        refine px_astore S46 at_157 rfl rfl (L' := #[.val (.int i0), .val (.int i1), .val (.int i2), .val (.int i3), .val (.int i4), .val (.int (2 : Int32)), .val (.int y0), .val (.int y1), .val (.int y2), .val (.int y3), .val (.ref b36), .val (.int (0 : Int32)), .val (.ref br), .unset, .unset]) rfl ?_
        refine px_aload S46 at_159 rfl rfl rfl ?_
        refine px_alenI (v := (2 : Int32)) S46 A_b36 rfl at_161 rfl ?_
        refine px_iload S46 at_162 rfl rfl ?_
        refine px_icmp S46 at_164 (by decide) (pc' := 225) rfl rfl (fun (hc47 : ¬ (2 : Int32).toInt = (2 : Int32).toInt) => absurd rfl hc47) (fun (hc47 : (2 : Int32).toInt = (2 : Int32).toInt) => ?_)
        refine px_aload S46 at_167 rfl rfl rfl ?_
        refine px_iconst (v := (0 : Int32)) S46 at_169 rfl rfl ?_
        refine px_baload (v := y0) S46 A_b36 (i := 0) rfl (by decide) rfl at_170 rfl ?_
        refine px_iload S46 at_171 rfl rfl ?_
        refine px_icmp S46 at_173 (by decide) (pc' := 225) rfl rfl (fun (hc48 : ¬ y0.toInt = y0.toInt) => absurd rfl hc48) (fun (hc48 : y0.toInt = y0.toInt) => ?_)
        refine px_iload S46 at_176 rfl rfl ?_
        refine px_iconst (v := (2 : Int32)) S46 at_178 rfl rfl ?_
        refine px_icmp S46 at_179 (by decide) (pc' := 191) rfl rfl (fun (hc49 : (2 : Int32).toInt < (2 : Int32).toInt) => by exfalso; revert hc49; decide) (fun (hc49 : (2 : Int32).toInt ≥ (2 : Int32).toInt) => ?_)
        refine px_aload S46 at_182 rfl rfl rfl ?_
        refine px_iconst (v := (1 : Int32)) S46 at_184 rfl rfl ?_
        refine px_baload (v := y1) S46 A_b36 (i := 1) rfl (by decide) rfl at_185 rfl ?_
        refine px_iload S46 at_186 rfl rfl ?_
        refine px_icmp S46 at_188 (by decide) (pc' := 225) rfl rfl (fun (hc50 : ¬ y1.toInt = y1.toInt) => absurd rfl hc50) (fun (hc50 : y1.toInt = y1.toInt) => ?_)
        refine px_iload S46 at_191 rfl rfl ?_
        refine px_iconst (v := (3 : Int32)) S46 at_193 rfl rfl ?_
        refine px_icmp S46 at_194 (by decide) (pc' := 206) rfl rfl (fun (hc51 : (2 : Int32).toInt < (3 : Int32).toInt) => ?_) (fun (hc51 : (2 : Int32).toInt ≥ (3 : Int32).toInt) => by exfalso; revert hc51; decide)
        refine px_iload S46 at_206 rfl rfl ?_
        refine px_iconst (v := (4 : Int32)) S46 at_208 rfl rfl ?_
        refine px_icmp S46 at_209 (by decide) (pc' := 221) rfl rfl (fun (hc52 : (2 : Int32).toInt < (4 : Int32).toInt) => ?_) (fun (hc52 : (2 : Int32).toInt ≥ (4 : Int32).toInt) => by exfalso; revert hc52; decide)
        refine px_iconst (v := (1 : Int32)) S46 at_221 rfl rfl ?_
        refine px_goto S46 at_222 (by decide) (pc' := 226) rfl ?_
        refine px_istore S46 at_226 rfl (L' := #[.val (.int i0), .val (.int i1), .val (.int i2), .val (.int i3), .val (.int i4), .val (.int (2 : Int32)), .val (.int y0), .val (.int y1), .val (.int y2), .val (.int y3), .val (.ref b36), .val (.int (0 : Int32)), .val (.ref br), .val (.int (1 : Int32)), .unset]) rfl ?_
        refine px_iload S46 at_228 rfl rfl ?_
        refine px_if0 S46 at_230 (by decide) (pc' := 235) rfl rfl (fun (hc53 : ¬ (1 : Int32).toInt = 0) => ?_) (fun (hc53 : (1 : Int32).toInt = 0) => by exfalso; revert hc53; decide)
        refine px_aload S46 at_235 rfl rfl rfl ?_
        refine px_ifnull S46 at_237 rfl ?_
        refine px_aload S46 at_240 rfl rfl rfl ?_
        refine px_alenI (v := (1 : Int32)) S46 A_br rfl at_242 rfl ?_
        refine px_iload S46 at_243 rfl rfl ?_
        refine px_iconst (v := (1 : Int32)) S46 at_245 rfl rfl ?_
        refine px_iadd S46 at_246 rfl ?_
        rw [show ((0 : Int32) + (1 : Int32)) = (1 : Int32) from by decide]
        refine px_icmp S46 at_247 (by decide) (pc' := 252) rfl rfl (fun (hc54 : (1 : Int32).toInt = (1 : Int32).toInt) => ?_) (fun (hc54 : ¬ (1 : Int32).toInt = (1 : Int32).toInt) => absurd rfl hc54)
        refine px_aload S46 at_252 rfl rfl rfl ?_
        refine px_iconst (v := (0 : Int32)) S46 at_254 rfl rfl ?_
        refine px_baload (v := (i2b (i2b (y0 + (1 : Int32))))) S46 A_br (i := 0) rfl (by decide) rfl at_255 rfl ?_
        refine px_iconst (v := (0 : Int32)) S46 at_256 rfl rfl ?_
        refine px_iload S46 at_257 rfl rfl ?_
        refine px_iload S46 at_259 rfl rfl ?_
        refine px_callS (as' := [(.int (0 : Int32)), (.int (0 : Int32)), (.int y0)]) (st := [(.int (i2b (i2b (y0 + (1 : Int32)))))]) (W := 1) S46 (c_exp hw S46.size) (hw _ (List.mem_of_getElem? (i := 22) rfl)) (hw _ (List.mem_of_getElem? (i := 23) rfl)) (hw _ (List.mem_of_getElem? (i := 2) rfl)) (hw _ (List.mem_of_getElem? (i := 24) rfl)) (by decide) pd_0_2 rfl rfl (by decide) rfl (by decide) (by decide) (by decide) at_261 rfl rfl (fun T55 h55 v55 S55 q55 => ?_)
        obtain ⟨rfl, q55⟩ := q55
        obtain rfl : v55 = some (.int (i2b (i2b (y0 + (1 : Int32))))) := q55.elim (fun q => absurd q.1 (by decide)) (fun q => q.2)
        show Go _ _ _ _ _ _ _ [(.int (i2b (i2b (y0 + (1 : Int32))))), (.int (i2b (i2b (y0 + (1 : Int32)))))]
        refine px_icmp S55 at_264 (by decide) (pc' := 271) rfl rfl (fun (hc56 : ¬ (i2b (i2b (y0 + (1 : Int32)))).toInt = (i2b (i2b (y0 + (1 : Int32)))).toInt) => absurd rfl hc56) (fun (hc56 : (i2b (i2b (y0 + (1 : Int32)))).toInt = (i2b (i2b (y0 + (1 : Int32)))).toInt) => ?_)
        refine px_iconst (v := (1 : Int32)) S55 at_267 rfl rfl ?_
        refine px_goto S55 at_268 (by decide) (pc' := 272) rfl ?_
        refine px_istore S55 at_272 rfl (L' := #[.val (.int i0), .val (.int i1), .val (.int i2), .val (.int i3), .val (.int i4), .val (.int (2 : Int32)), .val (.int y0), .val (.int y1), .val (.int y2), .val (.int y3), .val (.ref b36), .val (.int (0 : Int32)), .val (.ref br), .val (.int (1 : Int32)), .val (.int (1 : Int32))]) rfl ?_
        refine px_iload S55 at_274 rfl rfl ?_
        refine px_iconst (v := (1 : Int32)) S55 at_276 rfl rfl ?_
        refine px_icmp S55 at_277 (by decide) (pc' := 307) rfl rfl (fun (hc57 : (0 : Int32).toInt < (1 : Int32).toInt) => ?_) (fun (hc57 : (0 : Int32).toInt ≥ (1 : Int32).toInt) => by exfalso; revert hc57; decide)
        refine px_iload S55 at_307 rfl rfl ?_
        refine px_iconst (v := (2 : Int32)) S55 at_309 rfl rfl ?_
        refine px_icmp S55 at_310 (by decide) (pc' := 340) rfl rfl (fun (hc58 : (0 : Int32).toInt < (2 : Int32).toInt) => ?_) (fun (hc58 : (0 : Int32).toInt ≥ (2 : Int32).toInt) => by exfalso; revert hc58; decide)
        refine px_iload S55 at_340 rfl rfl ?_
        refine px_iconst (v := (3 : Int32)) S55 at_342 rfl rfl ?_
        refine px_icmp S55 at_343 (by decide) (pc' := 373) rfl rfl (fun (hc59 : (0 : Int32).toInt < (3 : Int32).toInt) => ?_) (fun (hc59 : (0 : Int32).toInt ≥ (3 : Int32).toInt) => by exfalso; revert hc59; decide)
        refine px_iload S55 at_373 rfl rfl ?_
        exact px_retN (t := .boolean) (z' := (1 : Int32)) S55 at_375 rfl (by simp) rfl (by decide) (by decide) (rfl)
      · obtain rfl : lst = (1 : Int32) := i32_of e43 rfl
        refine px_iload S39 at_145 rfl rfl ?_
        refine px_if0 S39 at_147 (by decide) (pc' := 152) rfl rfl (fun (hc60 : (1 : Int32).toInt ≥ 0) => ?_) (fun (hc60 : (1 : Int32).toInt < 0) => by exfalso; revert hc60; decide)
        refine px_aload S39 at_152 rfl rfl rfl ?_
        have hme : ¬ y1.toInt = -1 := by have l0 : (1 : Int32).toInt = 1 := rfl; omega
        refine px_callS (as' := [(.ref b36)]) (st := []) (W := 0) S39 (c_after (n := 2) (e := 1) (nl := (2 : Int32)) hw S39.size rfl (by decide) (by decide) hme (fun j h1 h2 => by omega) A_b36 X_b36) (hw _ (List.mem_of_getElem? (i := 5) rfl)) (hw _ (List.mem_of_getElem? (i := 6) rfl)) (hw _ (List.mem_of_getElem? (i := 7) rfl)) (hw _ (List.mem_of_getElem? (i := 8) rfl)) (by decide) pd_0_1 rfl rfl (by decide) rfl (by decide) (by decide) (by decide) at_154 rfl rfl (fun T61 h61 v61 S61 q61 => ?_)
        obtain ⟨br, rfl, g_br, sz_br, K61, A_br⟩ := q61
        replace A_b36 := A_b36.keep K61 nin0
        replace X_b36 := X_b36.keep K61
        show Go _ _ _ _ _ _ _ [(.ref br)]
        refine px_astore S61 at_157 rfl rfl (L' := #[.val (.int i0), .val (.int i1), .val (.int i2), .val (.int i3), .val (.int i4), .val (.int (2 : Int32)), .val (.int y0), .val (.int y1), .val (.int y2), .val (.int y3), .val (.ref b36), .val (.int (1 : Int32)), .val (.ref br), .unset, .unset]) rfl ?_
        refine px_aload S61 at_159 rfl rfl rfl ?_
        refine px_alenI (v := (2 : Int32)) S61 A_b36 rfl at_161 rfl ?_
        refine px_iload S61 at_162 rfl rfl ?_
        refine px_icmp S61 at_164 (by decide) (pc' := 225) rfl rfl (fun (hc62 : ¬ (2 : Int32).toInt = (2 : Int32).toInt) => absurd rfl hc62) (fun (hc62 : (2 : Int32).toInt = (2 : Int32).toInt) => ?_)
        refine px_aload S61 at_167 rfl rfl rfl ?_
        refine px_iconst (v := (0 : Int32)) S61 at_169 rfl rfl ?_
        refine px_baload (v := y0) S61 A_b36 (i := 0) rfl (by decide) rfl at_170 rfl ?_
        refine px_iload S61 at_171 rfl rfl ?_
        refine px_icmp S61 at_173 (by decide) (pc' := 225) rfl rfl (fun (hc63 : ¬ y0.toInt = y0.toInt) => absurd rfl hc63) (fun (hc63 : y0.toInt = y0.toInt) => ?_)
        refine px_iload S61 at_176 rfl rfl ?_
        refine px_iconst (v := (2 : Int32)) S61 at_178 rfl rfl ?_
        refine px_icmp S61 at_179 (by decide) (pc' := 191) rfl rfl (fun (hc64 : (2 : Int32).toInt < (2 : Int32).toInt) => by exfalso; revert hc64; decide) (fun (hc64 : (2 : Int32).toInt ≥ (2 : Int32).toInt) => ?_)
        refine px_aload S61 at_182 rfl rfl rfl ?_
        refine px_iconst (v := (1 : Int32)) S61 at_184 rfl rfl ?_
        refine px_baload (v := y1) S61 A_b36 (i := 1) rfl (by decide) rfl at_185 rfl ?_
        refine px_iload S61 at_186 rfl rfl ?_
        refine px_icmp S61 at_188 (by decide) (pc' := 225) rfl rfl (fun (hc65 : ¬ y1.toInt = y1.toInt) => absurd rfl hc65) (fun (hc65 : y1.toInt = y1.toInt) => ?_)
        refine px_iload S61 at_191 rfl rfl ?_
        refine px_iconst (v := (3 : Int32)) S61 at_193 rfl rfl ?_
        refine px_icmp S61 at_194 (by decide) (pc' := 206) rfl rfl (fun (hc66 : (2 : Int32).toInt < (3 : Int32).toInt) => ?_) (fun (hc66 : (2 : Int32).toInt ≥ (3 : Int32).toInt) => by exfalso; revert hc66; decide)
        refine px_iload S61 at_206 rfl rfl ?_
        refine px_iconst (v := (4 : Int32)) S61 at_208 rfl rfl ?_
        refine px_icmp S61 at_209 (by decide) (pc' := 221) rfl rfl (fun (hc67 : (2 : Int32).toInt < (4 : Int32).toInt) => ?_) (fun (hc67 : (2 : Int32).toInt ≥ (4 : Int32).toInt) => by exfalso; revert hc67; decide)
        refine px_iconst (v := (1 : Int32)) S61 at_221 rfl rfl ?_
        refine px_goto S61 at_222 (by decide) (pc' := 226) rfl ?_
        refine px_istore S61 at_226 rfl (L' := #[.val (.int i0), .val (.int i1), .val (.int i2), .val (.int i3), .val (.int i4), .val (.int (2 : Int32)), .val (.int y0), .val (.int y1), .val (.int y2), .val (.int y3), .val (.ref b36), .val (.int (1 : Int32)), .val (.ref br), .val (.int (1 : Int32)), .unset]) rfl ?_
        refine px_iload S61 at_228 rfl rfl ?_
        refine px_if0 S61 at_230 (by decide) (pc' := 235) rfl rfl (fun (hc68 : ¬ (1 : Int32).toInt = 0) => ?_) (fun (hc68 : (1 : Int32).toInt = 0) => by exfalso; revert hc68; decide)
        refine px_aload S61 at_235 rfl rfl rfl ?_
        refine px_ifnull S61 at_237 rfl ?_
        refine px_aload S61 at_240 rfl rfl rfl ?_
        refine px_alenI (v := (2 : Int32)) S61 A_br rfl at_242 rfl ?_
        refine px_iload S61 at_243 rfl rfl ?_
        refine px_iconst (v := (1 : Int32)) S61 at_245 rfl rfl ?_
        refine px_iadd S61 at_246 rfl ?_
        rw [show ((1 : Int32) + (1 : Int32)) = (2 : Int32) from by decide]
        refine px_icmp S61 at_247 (by decide) (pc' := 252) rfl rfl (fun (hc69 : (2 : Int32).toInt = (2 : Int32).toInt) => ?_) (fun (hc69 : ¬ (2 : Int32).toInt = (2 : Int32).toInt) => absurd rfl hc69)
        refine px_aload S61 at_252 rfl rfl rfl ?_
        refine px_iconst (v := (0 : Int32)) S61 at_254 rfl rfl ?_
        refine px_baload (v := y0) S61 A_br (i := 0) rfl (by decide) rfl at_255 rfl ?_
        refine px_iconst (v := (0 : Int32)) S61 at_256 rfl rfl ?_
        refine px_iload S61 at_257 rfl rfl ?_
        refine px_iload S61 at_259 rfl rfl ?_
        refine px_callS (as' := [(.int (0 : Int32)), (.int (1 : Int32)), (.int y0)]) (st := [(.int y0)]) (W := 1) S61 (c_exp hw S61.size) (hw _ (List.mem_of_getElem? (i := 22) rfl)) (hw _ (List.mem_of_getElem? (i := 23) rfl)) (hw _ (List.mem_of_getElem? (i := 2) rfl)) (hw _ (List.mem_of_getElem? (i := 24) rfl)) (by decide) pd_0_2 rfl rfl (by decide) rfl (by decide) (by decide) (by decide) at_261 rfl rfl (fun T70 h70 v70 S70 q70 => ?_)
        obtain ⟨rfl, q70⟩ := q70
        obtain rfl : v70 = some (.int (i2b y0)) := q70.elim (fun q => q.2) (fun q => absurd q.1 (by decide))
        show Go _ _ _ _ _ _ _ [(.int (i2b y0)), (.int y0)]
        refine px_icmp S70 at_264 (by decide) (pc' := 271) rfl rfl (fun (hc71 : ¬ y0.toInt = (i2b y0).toInt) => by exfalso; have q0 := rng32 y0; have q1 := f_i2b y0; have q2 := rng32 y1; have q3 := rng32 y2; have q4 := rng32 y3; have q5 := (show (1 : Int32).toInt = 1 from rfl); omega) (fun (hc71 : y0.toInt = (i2b y0).toInt) => ?_)
        refine px_iconst (v := (1 : Int32)) S70 at_267 rfl rfl ?_
        refine px_goto S70 at_268 (by decide) (pc' := 272) rfl ?_
        refine px_istore S70 at_272 rfl (L' := #[.val (.int i0), .val (.int i1), .val (.int i2), .val (.int i3), .val (.int i4), .val (.int (2 : Int32)), .val (.int y0), .val (.int y1), .val (.int y2), .val (.int y3), .val (.ref b36), .val (.int (1 : Int32)), .val (.ref br), .val (.int (1 : Int32)), .val (.int (1 : Int32))]) rfl ?_
        refine px_iload S70 at_274 rfl rfl ?_
        refine px_iconst (v := (1 : Int32)) S70 at_276 rfl rfl ?_
        refine px_icmp S70 at_277 (by decide) (pc' := 307) rfl rfl (fun (hc72 : (1 : Int32).toInt < (1 : Int32).toInt) => by exfalso; revert hc72; decide) (fun (hc72 : (1 : Int32).toInt ≥ (1 : Int32).toInt) => ?_)
        refine px_iload S70 at_280 rfl rfl ?_
        refine px_if0 S70 at_282 (by decide) (pc' := 304) rfl rfl (fun (hc73 : (1 : Int32).toInt = 0) => by exfalso; revert hc73; decide) (fun (hc73 : ¬ (1 : Int32).toInt = 0) => ?_)
        refine px_aload S70 at_285 rfl rfl rfl ?_
        refine px_iconst (v := (1 : Int32)) S70 at_287 rfl rfl ?_
        refine px_baload (v := (i2b (i2b (y1 + (1 : Int32))))) S70 A_br (i := 1) rfl (by decide) rfl at_288 rfl ?_
        refine px_iconst (v := (1 : Int32)) S70 at_289 rfl rfl ?_
        refine px_iload S70 at_290 rfl rfl ?_
        refine px_iload S70 at_292 rfl rfl ?_
        refine px_callS (as' := [(.int (1 : Int32)), (.int (1 : Int32)), (.int y1)]) (st := [(.int (i2b (i2b (y1 + (1 : Int32)))))]) (W := 1) S70 (c_exp hw S70.size) (hw _ (List.mem_of_getElem? (i := 22) rfl)) (hw _ (List.mem_of_getElem? (i := 23) rfl)) (hw _ (List.mem_of_getElem? (i := 2) rfl)) (hw _ (List.mem_of_getElem? (i := 24) rfl)) (by decide) pd_0_2 rfl rfl (by decide) rfl (by decide) (by decide) (by decide) at_294 rfl rfl (fun T74 h74 v74 S74 q74 => ?_)
        obtain ⟨rfl, q74⟩ := q74
        obtain rfl : v74 = some (.int (i2b (i2b (y1 + (1 : Int32))))) := q74.elim (fun q => absurd q.1 (by decide)) (fun q => q.2)
        show Go _ _ _ _ _ _ _ [(.int (i2b (i2b (y1 + (1 : Int32))))), (.int (i2b (i2b (y1 + (1 : Int32)))))]
        refine px_icmp S74 at_297 (by decide) (pc' := 304) rfl rfl (fun (hc75 : ¬ (i2b (i2b (y1 + (1 : Int32)))).toInt = (i2b (i2b (y1 + (1 : Int32)))).toInt) => absurd rfl hc75) (fun (hc75 : (i2b (i2b (y1 + (1 : Int32)))).toInt = (i2b (i2b (y1 + (1 : Int32)))).toInt) => ?_)
        refine px_iconst (v := (1 : Int32)) S74 at_300 rfl rfl ?_
        refine px_goto S74 at_301 (by decide) (pc' := 305) rfl ?_
        refine px_istore S74 at_305 rfl (L' := #[.val (.int i0), .val (.int i1), .val (.int i2), .val (.int i3), .val (.int i4), .val (.int (2 : Int32)), .val (.int y0), .val (.int y1), .val (.int y2), .val (.int y3), .val (.ref b36), .val (.int (1 : Int32)), .val (.ref br), .val (.int (1 : Int32)), .val (.int (1 : Int32))]) rfl ?_
        refine px_iload S74 at_307 rfl rfl ?_
        refine px_iconst (v := (2 : Int32)) S74 at_309 rfl rfl ?_
        refine px_icmp S74 at_310 (by decide) (pc' := 340) rfl rfl (fun (hc76 : (1 : Int32).toInt < (2 : Int32).toInt) => ?_) (fun (hc76 : (1 : Int32).toInt ≥ (2 : Int32).toInt) => by exfalso; revert hc76; decide)
        refine px_iload S74 at_340 rfl rfl ?_
        refine px_iconst (v := (3 : Int32)) S74 at_342 rfl rfl ?_
        refine px_icmp S74 at_343 (by decide) (pc' := 373) rfl rfl (fun (hc77 : (1 : Int32).toInt < (3 : Int32).toInt) => ?_) (fun (hc77 : (1 : Int32).toInt ≥ (3 : Int32).toInt) => by exfalso; revert hc77; decide)
        refine px_iload S74 at_373 rfl rfl ?_
        exact px_retN (t := .boolean) (z' := (1 : Int32)) S74 at_375 rfl (by simp) rfl (by decide) (by decide) (rfl)
    · refine px_iload S39 at_91 rfl rfl ?_
      refine px_iconst (v := (-1 : Int32)) S39 at_93 rfl rfl ?_
      refine px_icmp S39 at_94 (by decide) (pc' := 100) rfl rfl (fun (hc78 : y0.toInt = (-1 : Int32).toInt) => ?_) (fun (hc78 : ¬ y0.toInt = (-1 : Int32).toInt) => ?_)
      · refine px_iload S39 at_100 rfl rfl ?_
        refine px_iconst (v := (1 : Int32)) S39 at_102 rfl rfl ?_
        refine px_icmp S39 at_103 (by decide) (pc' := 115) rfl rfl (fun (hc79 : (2 : Int32).toInt ≤ (1 : Int32).toInt) => by exfalso; revert hc79; decide) (fun (hc79 : (2 : Int32).toInt > (1 : Int32).toInt) => ?_)
        refine px_iload S39 at_106 rfl rfl ?_
        refine px_iconst (v := (-1 : Int32)) S39 at_108 rfl rfl ?_
        refine px_icmp S39 at_109 (by decide) (pc' := 115) rfl rfl (fun (hc80 : y1.toInt = (-1 : Int32).toInt) => ?_) (fun (hc80 : ¬ y1.toInt = (-1 : Int32).toInt) => ?_)
        · refine px_iload S39 at_115 rfl rfl ?_
          refine px_iconst (v := (2 : Int32)) S39 at_117 rfl rfl ?_
          refine px_icmp S39 at_118 (by decide) (pc' := 130) rfl rfl (fun (hc81 : (2 : Int32).toInt ≤ (2 : Int32).toInt) => ?_) (fun (hc81 : (2 : Int32).toInt > (2 : Int32).toInt) => by exfalso; revert hc81; decide)
          refine px_iload S39 at_130 rfl rfl ?_
          refine px_iconst (v := (3 : Int32)) S39 at_132 rfl rfl ?_
          refine px_icmp S39 at_133 (by decide) (pc' := 145) rfl rfl (fun (hc82 : (2 : Int32).toInt ≤ (3 : Int32).toInt) => ?_) (fun (hc82 : (2 : Int32).toInt > (3 : Int32).toInt) => by exfalso; revert hc82; decide)
          exact J42 _ (show ((-1 : Int32).toInt = -1 ∧ y0.toInt = -1 ∧ y1.toInt = -1) ∨ ((-1 : Int32).toInt = 0 ∧ ¬ y0.toInt = -1 ∧ y1.toInt = -1) ∨ ((-1 : Int32).toInt = 1 ∧ ¬ y1.toInt = -1) from by have q0 := congrArg Int32.toInt h_v1; have q1 := (show (-1 : Int32).toInt = -1 from rfl); have q2 := c_iadd (i0 &&& (3 : Int32)) (1 : Int32); have q3 := rng32 ((i0 &&& (3 : Int32)) + (1 : Int32)); have q4 := f_imask i0 (3 : Int32) 2 4 (by decide) (by decide) (by decide); have q5 := rng32 i0; have q6 := (show (3 : Int32).toInt = 3 from rfl); have q7 := (show (1 : Int32).toInt = 1 from rfl); have q8 := (show (2 : Int32).toInt = 2 from rfl); have q9 := rng32 y0; have q10 := rng32 y1; omega)
        · refine px_iconst (v := (1 : Int32)) S39 at_112 rfl rfl ?_
          refine px_istore S39 at_113 rfl (L' := #[.val (.int i0), .val (.int i1), .val (.int i2), .val (.int i3), .val (.int i4), .val (.int (2 : Int32)), .val (.int y0), .val (.int y1), .val (.int y2), .val (.int y3), .val (.ref b36), .val (.int (1 : Int32)), .unset, .unset, .unset]) rfl ?_
          refine px_iload S39 at_115 rfl rfl ?_
          refine px_iconst (v := (2 : Int32)) S39 at_117 rfl rfl ?_
          refine px_icmp S39 at_118 (by decide) (pc' := 130) rfl rfl (fun (hc83 : (2 : Int32).toInt ≤ (2 : Int32).toInt) => ?_) (fun (hc83 : (2 : Int32).toInt > (2 : Int32).toInt) => by exfalso; revert hc83; decide)
          refine px_iload S39 at_130 rfl rfl ?_
          refine px_iconst (v := (3 : Int32)) S39 at_132 rfl rfl ?_
          refine px_icmp S39 at_133 (by decide) (pc' := 145) rfl rfl (fun (hc84 : (2 : Int32).toInt ≤ (3 : Int32).toInt) => ?_) (fun (hc84 : (2 : Int32).toInt > (3 : Int32).toInt) => by exfalso; revert hc84; decide)
          exact J42 _ (show ((1 : Int32).toInt = -1 ∧ y0.toInt = -1 ∧ y1.toInt = -1) ∨ ((1 : Int32).toInt = 0 ∧ ¬ y0.toInt = -1 ∧ y1.toInt = -1) ∨ ((1 : Int32).toInt = 1 ∧ ¬ y1.toInt = -1) from by have q0 := congrArg Int32.toInt h_v1; have q1 := (show (1 : Int32).toInt = 1 from rfl); have q2 := c_iadd (i0 &&& (3 : Int32)) (1 : Int32); have q3 := rng32 ((i0 &&& (3 : Int32)) + (1 : Int32)); have q4 := f_imask i0 (3 : Int32) 2 4 (by decide) (by decide) (by decide); have q5 := rng32 i0; have q6 := (show (3 : Int32).toInt = 3 from rfl); have q7 := (show (2 : Int32).toInt = 2 from rfl); have q8 := rng32 y0; have q9 := (show (-1 : Int32).toInt = -1 from rfl); have q10 := rng32 y1; omega)
      · refine px_iconst (v := (0 : Int32)) S39 at_97 rfl rfl ?_
        refine px_istore S39 at_98 rfl (L' := #[.val (.int i0), .val (.int i1), .val (.int i2), .val (.int i3), .val (.int i4), .val (.int (2 : Int32)), .val (.int y0), .val (.int y1), .val (.int y2), .val (.int y3), .val (.ref b36), .val (.int (0 : Int32)), .unset, .unset, .unset]) rfl ?_
        refine px_iload S39 at_100 rfl rfl ?_
        refine px_iconst (v := (1 : Int32)) S39 at_102 rfl rfl ?_
        refine px_icmp S39 at_103 (by decide) (pc' := 115) rfl rfl (fun (hc85 : (2 : Int32).toInt ≤ (1 : Int32).toInt) => by exfalso; revert hc85; decide) (fun (hc85 : (2 : Int32).toInt > (1 : Int32).toInt) => ?_)
        refine px_iload S39 at_106 rfl rfl ?_
        refine px_iconst (v := (-1 : Int32)) S39 at_108 rfl rfl ?_
        refine px_icmp S39 at_109 (by decide) (pc' := 115) rfl rfl (fun (hc86 : y1.toInt = (-1 : Int32).toInt) => ?_) (fun (hc86 : ¬ y1.toInt = (-1 : Int32).toInt) => ?_)
        · refine px_iload S39 at_115 rfl rfl ?_
          refine px_iconst (v := (2 : Int32)) S39 at_117 rfl rfl ?_
          refine px_icmp S39 at_118 (by decide) (pc' := 130) rfl rfl (fun (hc87 : (2 : Int32).toInt ≤ (2 : Int32).toInt) => ?_) (fun (hc87 : (2 : Int32).toInt > (2 : Int32).toInt) => by exfalso; revert hc87; decide)
          refine px_iload S39 at_130 rfl rfl ?_
          refine px_iconst (v := (3 : Int32)) S39 at_132 rfl rfl ?_
          refine px_icmp S39 at_133 (by decide) (pc' := 145) rfl rfl (fun (hc88 : (2 : Int32).toInt ≤ (3 : Int32).toInt) => ?_) (fun (hc88 : (2 : Int32).toInt > (3 : Int32).toInt) => by exfalso; revert hc88; decide)
          exact J42 _ (show ((0 : Int32).toInt = -1 ∧ y0.toInt = -1 ∧ y1.toInt = -1) ∨ ((0 : Int32).toInt = 0 ∧ ¬ y0.toInt = -1 ∧ y1.toInt = -1) ∨ ((0 : Int32).toInt = 1 ∧ ¬ y1.toInt = -1) from by have q0 := congrArg Int32.toInt h_v1; have q1 := (show (0 : Int32).toInt = 0 from rfl); have q2 := c_iadd (i0 &&& (3 : Int32)) (1 : Int32); have q3 := rng32 ((i0 &&& (3 : Int32)) + (1 : Int32)); have q4 := f_imask i0 (3 : Int32) 2 4 (by decide) (by decide) (by decide); have q5 := rng32 i0; have q6 := (show (3 : Int32).toInt = 3 from rfl); have q7 := (show (1 : Int32).toInt = 1 from rfl); have q8 := (show (2 : Int32).toInt = 2 from rfl); have q9 := rng32 y0; have q10 := (show (-1 : Int32).toInt = -1 from rfl); have q11 := rng32 y1; omega)
        · refine px_iconst (v := (1 : Int32)) S39 at_112 rfl rfl ?_
          refine px_istore S39 at_113 rfl (L' := #[.val (.int i0), .val (.int i1), .val (.int i2), .val (.int i3), .val (.int i4), .val (.int (2 : Int32)), .val (.int y0), .val (.int y1), .val (.int y2), .val (.int y3), .val (.ref b36), .val (.int (1 : Int32)), .unset, .unset, .unset]) rfl ?_
          refine px_iload S39 at_115 rfl rfl ?_
          refine px_iconst (v := (2 : Int32)) S39 at_117 rfl rfl ?_
          refine px_icmp S39 at_118 (by decide) (pc' := 130) rfl rfl (fun (hc89 : (2 : Int32).toInt ≤ (2 : Int32).toInt) => ?_) (fun (hc89 : (2 : Int32).toInt > (2 : Int32).toInt) => by exfalso; revert hc89; decide)
          refine px_iload S39 at_130 rfl rfl ?_
          refine px_iconst (v := (3 : Int32)) S39 at_132 rfl rfl ?_
          refine px_icmp S39 at_133 (by decide) (pc' := 145) rfl rfl (fun (hc90 : (2 : Int32).toInt ≤ (3 : Int32).toInt) => ?_) (fun (hc90 : (2 : Int32).toInt > (3 : Int32).toInt) => by exfalso; revert hc90; decide)
          exact J42 _ (show ((1 : Int32).toInt = -1 ∧ y0.toInt = -1 ∧ y1.toInt = -1) ∨ ((1 : Int32).toInt = 0 ∧ ¬ y0.toInt = -1 ∧ y1.toInt = -1) ∨ ((1 : Int32).toInt = 1 ∧ ¬ y1.toInt = -1) from by have q0 := congrArg Int32.toInt h_v1; have q1 := (show (1 : Int32).toInt = 1 from rfl); have q2 := c_iadd (i0 &&& (3 : Int32)) (1 : Int32); have q3 := rng32 ((i0 &&& (3 : Int32)) + (1 : Int32)); have q4 := f_imask i0 (3 : Int32) 2 4 (by decide) (by decide) (by decide); have q5 := rng32 i0; have q6 := (show (3 : Int32).toInt = 3 from rfl); have q7 := (show (2 : Int32).toInt = 2 from rfl); have q8 := rng32 y0; have q9 := (show (-1 : Int32).toInt = -1 from rfl); have q10 := rng32 y1; omega)
  · obtain rfl : v1 = (3 : Int32) := i32_of e6 rfl
    refine px_iload S5 at_40 rfl rfl ?_
    refine px_newarrE (aty := .byte) (ad := "[B") (cap := 3) S5 rfl (hw _ (List.mem_of_getElem? (i := 4) rfl)) rfl (n := 3) rfl (by decide) (by decide) (by decide) (by decide) at_42 rfl (fun T91 h91 b91 z91 g_b91 S91 E91 A_b91 X_b91 => ?_)
    refine px_astore S91 at_44 rfl rfl (L' := #[.val (.int i0), .val (.int i1), .val (.int i2), .val (.int i3), .val (.int i4), .val (.int (3 : Int32)), .val (.int y0), .val (.int y1), .val (.int y2), .val (.int y3), .val (.ref b91), .unset, .unset, .unset, .unset]) rfl ?_
    refine px_aload S91 at_46 rfl rfl rfl ?_
    refine px_iconst (v := (0 : Int32)) S91 at_48 rfl rfl ?_
    refine px_iload S91 at_49 rfl rfl ?_
    refine px_bastore (v := y0) S91 A_b91 g_b91 (i := 0) rfl (by decide) (nar_b p_y0) at_51 rfl (fun T92 h92 S92 W92 A_b91 => ?_)
    replace X_b91 := X_b91.wr W92
    refine px_iload S92 at_52 rfl rfl ?_
    refine px_iconst (v := (1 : Int32)) S92 at_54 rfl rfl ?_
    refine px_icmp S92 at_55 (by decide) (pc' := 64) rfl rfl (fun (hc93 : (3 : Int32).toInt ≤ (1 : Int32).toInt) => by exfalso; revert hc93; decide) (fun (hc93 : (3 : Int32).toInt > (1 : Int32).toInt) => ?_)
    refine px_aload S92 at_58 rfl rfl rfl ?_
    refine px_iconst (v := (1 : Int32)) S92 at_60 rfl rfl ?_
    refine px_iload S92 at_61 rfl rfl ?_
    refine px_bastore (v := y1) S92 A_b91 g_b91 (i := 1) rfl (by decide) (nar_b p_y1) at_63 rfl (fun T94 h94 S94 W94 A_b91 => ?_)
    replace X_b91 := X_b91.wr W94
    refine px_iload S94 at_64 rfl rfl ?_
    refine px_iconst (v := (2 : Int32)) S94 at_66 rfl rfl ?_
    refine px_icmp S94 at_67 (by decide) (pc' := 76) rfl rfl (fun (hc95 : (3 : Int32).toInt ≤ (2 : Int32).toInt) => by exfalso; revert hc95; decide) (fun (hc95 : (3 : Int32).toInt > (2 : Int32).toInt) => ?_)
    refine px_aload S94 at_70 rfl rfl rfl ?_
    refine px_iconst (v := (2 : Int32)) S94 at_72 rfl rfl ?_
    refine px_iload S94 at_73 rfl rfl ?_
    refine px_bastore (v := y2) S94 A_b91 g_b91 (i := 2) rfl (by decide) (nar_b p_y2) at_75 rfl (fun T96 h96 S96 W96 A_b91 => ?_)
    replace X_b91 := X_b91.wr W96
    refine px_iload S96 at_76 rfl rfl ?_
    refine px_iconst (v := (3 : Int32)) S96 at_78 rfl rfl ?_
    refine px_icmp S96 at_79 (by decide) (pc' := 88) rfl rfl (fun (hc97 : (3 : Int32).toInt ≤ (3 : Int32).toInt) => ?_) (fun (hc97 : (3 : Int32).toInt > (3 : Int32).toInt) => by exfalso; revert hc97; decide)
    refine px_iconst (v := (-1 : Int32)) S96 at_88 rfl rfl ?_
    refine px_istore S96 at_89 rfl (L' := #[.val (.int i0), .val (.int i1), .val (.int i2), .val (.int i3), .val (.int i4), .val (.int (3 : Int32)), .val (.int y0), .val (.int y1), .val (.int y2), .val (.int y3), .val (.ref b91), .val (.int (-1 : Int32)), .unset, .unset, .unset]) rfl ?_
    refine Go.join (P := fun lst : Int32 => (lst.toInt = -1 ∧ y0.toInt = -1 ∧ y1.toInt = -1 ∧ y2.toInt = -1) ∨ (lst.toInt = 0 ∧ ¬ y0.toInt = -1 ∧ y1.toInt = -1 ∧ y2.toInt = -1) ∨ (lst.toInt = 1 ∧ ¬ y1.toInt = -1 ∧ y2.toInt = -1) ∨ (lst.toInt = 2 ∧ ¬ y2.toInt = -1)) (pcj := 145) (Lj := fun lst => #[.val (.int i0), .val (.int i1), .val (.int i2), .val (.int i3), .val (.int i4), .val (.int (3 : Int32)), .val (.int y0), .val (.int y1), .val (.int y2), .val (.int y3), .val (.ref b91), .val (.int lst), .unset, .unset, .unset]) (stj := fun lst => []) (fun lst p_lst => ?_) (fun J98 => ?_)
    · show Go _ _ _ _ _ 145 #[.val (.int i0), .val (.int i1), .val (.int i2), .val (.int i3), .val (.int i4), .val (.int (3 : Int32)), .val (.int y0), .val (.int y1), .val (.int y2), .val (.int y3), .val (.ref b91), .val (.int lst), .unset, .unset, .unset] []
      rcases (show lst.toInt = -1 ∨ lst.toInt = 0 ∨ lst.toInt = 1 ∨ lst.toInt = 2 from by have q0 := rng32 lst; have q1 := rng32 y0; have q2 := rng32 y1; have q3 := rng32 y2; have q4 := rng32 y3; omega) with e99 | e99 | e99 | e99
      · obtain rfl : lst = (-1 : Int32) := i32_of e99 rfl
        refine px_iload S96 at_145 rfl rfl ?_
        refine px_if0 S96 at_147 (by decide) (pc' := 152) rfl rfl (fun (hc100 : (-1 : Int32).toInt ≥ 0) => by exfalso; revert hc100; decide) (fun (hc100 : (-1 : Int32).toInt < 0) => ?_)
        refine px_iconst (v := (1 : Int32)) S96 at_150 rfl rfl ?_
        exact px_retN (t := .boolean) (z' := (1 : Int32)) S96 at_151 rfl (by simp) rfl (by decide) (by decide) (rfl)
      · obtain rfl : lst = (0 : Int32) := i32_of e99 rfl
        refine px_iload S96 at_145 rfl rfl ?_
        refine px_if0 S96 at_147 (by decide) (pc' := 152) rfl rfl (fun (hc101 : (0 : Int32).toInt ≥ 0) => ?_) (fun (hc101 : (0 : Int32).toInt < 0) => by exfalso; revert hc101; decide)
        refine px_aload S96 at_152 rfl rfl rfl ?_
        have hm1 : y1.toInt = -1 := by have l0 : (0 : Int32).toInt = 0 := rfl; omega
        have hm2 : y2.toInt = -1 := by have l0 : (0 : Int32).toInt = 0 := rfl; omega
        have hme : ¬ y0.toInt = -1 := by have l0 : (0 : Int32).toInt = 0 := rfl; omega
        refine px_callS (as' := [(.ref b91)]) (st := []) (W := 0) S96 (c_after (n := 3) (e := 0) (nl := (3 : Int32)) hw S96.size rfl (by decide) (by decide) hme (fun j h1 h2 => by have hj : j = 1 ∨ j = 2 := (by omega); rcases hj with rfl | rfl <;> assumption) A_b91 X_b91) (hw _ (List.mem_of_getElem? (i := 5) rfl)) (hw _ (List.mem_of_getElem? (i := 6) rfl)) (hw _ (List.mem_of_getElem? (i := 7) rfl)) (hw _ (List.mem_of_getElem? (i := 8) rfl)) (by decide) pd_0_1 rfl rfl (by decide) rfl (by decide) (by decide) (by decide) at_154 rfl rfl (fun T102 h102 v102 S102 q102 => ?_)
        obtain ⟨br, rfl, g_br, sz_br, K102, A_br⟩ := q102
        replace A_b91 := A_b91.keep K102 nin0
        replace X_b91 := X_b91.keep K102
        show Go _ _ _ _ _ _ _ [(.ref br)]
        refine px_astore S102 at_157 rfl rfl (L' := #[.val (.int i0), .val (.int i1), .val (.int i2), .val (.int i3), .val (.int i4), .val (.int (3 : Int32)), .val (.int y0), .val (.int y1), .val (.int y2), .val (.int y3), .val (.ref b91), .val (.int (0 : Int32)), .val (.ref br), .unset, .unset]) rfl ?_
        refine px_aload S102 at_159 rfl rfl rfl ?_
        refine px_alenI (v := (3 : Int32)) S102 A_b91 rfl at_161 rfl ?_
        refine px_iload S102 at_162 rfl rfl ?_
        refine px_icmp S102 at_164 (by decide) (pc' := 225) rfl rfl (fun (hc103 : ¬ (3 : Int32).toInt = (3 : Int32).toInt) => absurd rfl hc103) (fun (hc103 : (3 : Int32).toInt = (3 : Int32).toInt) => ?_)
        refine px_aload S102 at_167 rfl rfl rfl ?_
        refine px_iconst (v := (0 : Int32)) S102 at_169 rfl rfl ?_
        refine px_baload (v := y0) S102 A_b91 (i := 0) rfl (by decide) rfl at_170 rfl ?_
        refine px_iload S102 at_171 rfl rfl ?_
        refine px_icmp S102 at_173 (by decide) (pc' := 225) rfl rfl (fun (hc104 : ¬ y0.toInt = y0.toInt) => absurd rfl hc104) (fun (hc104 : y0.toInt = y0.toInt) => ?_)
        refine px_iload S102 at_176 rfl rfl ?_
        refine px_iconst (v := (2 : Int32)) S102 at_178 rfl rfl ?_
        refine px_icmp S102 at_179 (by decide) (pc' := 191) rfl rfl (fun (hc105 : (3 : Int32).toInt < (2 : Int32).toInt) => by exfalso; revert hc105; decide) (fun (hc105 : (3 : Int32).toInt ≥ (2 : Int32).toInt) => ?_)
        refine px_aload S102 at_182 rfl rfl rfl ?_
        refine px_iconst (v := (1 : Int32)) S102 at_184 rfl rfl ?_
        refine px_baload (v := y1) S102 A_b91 (i := 1) rfl (by decide) rfl at_185 rfl ?_
        refine px_iload S102 at_186 rfl rfl ?_
        refine px_icmp S102 at_188 (by decide) (pc' := 225) rfl rfl (fun (hc106 : ¬ y1.toInt = y1.toInt) => absurd rfl hc106) (fun (hc106 : y1.toInt = y1.toInt) => ?_)
        refine px_iload S102 at_191 rfl rfl ?_
        refine px_iconst (v := (3 : Int32)) S102 at_193 rfl rfl ?_
        refine px_icmp S102 at_194 (by decide) (pc' := 206) rfl rfl (fun (hc107 : (3 : Int32).toInt < (3 : Int32).toInt) => by exfalso; revert hc107; decide) (fun (hc107 : (3 : Int32).toInt ≥ (3 : Int32).toInt) => ?_)
        refine px_aload S102 at_197 rfl rfl rfl ?_
        refine px_iconst (v := (2 : Int32)) S102 at_199 rfl rfl ?_
        refine px_baload (v := y2) S102 A_b91 (i := 2) rfl (by decide) rfl at_200 rfl ?_
        refine px_iload S102 at_201 rfl rfl ?_
        refine px_icmp S102 at_203 (by decide) (pc' := 225) rfl rfl (fun (hc108 : ¬ y2.toInt = y2.toInt) => absurd rfl hc108) (fun (hc108 : y2.toInt = y2.toInt) => ?_)
        refine px_iload S102 at_206 rfl rfl ?_
        refine px_iconst (v := (4 : Int32)) S102 at_208 rfl rfl ?_
        refine px_icmp S102 at_209 (by decide) (pc' := 221) rfl rfl (fun (hc109 : (3 : Int32).toInt < (4 : Int32).toInt) => ?_) (fun (hc109 : (3 : Int32).toInt ≥ (4 : Int32).toInt) => by exfalso; revert hc109; decide)
        refine px_iconst (v := (1 : Int32)) S102 at_221 rfl rfl ?_
        refine px_goto S102 at_222 (by decide) (pc' := 226) rfl ?_
        refine px_istore S102 at_226 rfl (L' := #[.val (.int i0), .val (.int i1), .val (.int i2), .val (.int i3), .val (.int i4), .val (.int (3 : Int32)), .val (.int y0), .val (.int y1), .val (.int y2), .val (.int y3), .val (.ref b91), .val (.int (0 : Int32)), .val (.ref br), .val (.int (1 : Int32)), .unset]) rfl ?_
        refine px_iload S102 at_228 rfl rfl ?_
        refine px_if0 S102 at_230 (by decide) (pc' := 235) rfl rfl (fun (hc110 : ¬ (1 : Int32).toInt = 0) => ?_) (fun (hc110 : (1 : Int32).toInt = 0) => by exfalso; revert hc110; decide)
        refine px_aload S102 at_235 rfl rfl rfl ?_
        refine px_ifnull S102 at_237 rfl ?_
        refine px_aload S102 at_240 rfl rfl rfl ?_
        refine px_alenI (v := (1 : Int32)) S102 A_br rfl at_242 rfl ?_
        refine px_iload S102 at_243 rfl rfl ?_
        refine px_iconst (v := (1 : Int32)) S102 at_245 rfl rfl ?_
        refine px_iadd S102 at_246 rfl ?_
        rw [show ((0 : Int32) + (1 : Int32)) = (1 : Int32) from by decide]
        refine px_icmp S102 at_247 (by decide) (pc' := 252) rfl rfl (fun (hc111 : (1 : Int32).toInt = (1 : Int32).toInt) => ?_) (fun (hc111 : ¬ (1 : Int32).toInt = (1 : Int32).toInt) => absurd rfl hc111)
        refine px_aload S102 at_252 rfl rfl rfl ?_
        refine px_iconst (v := (0 : Int32)) S102 at_254 rfl rfl ?_
        refine px_baload (v := (i2b (i2b (y0 + (1 : Int32))))) S102 A_br (i := 0) rfl (by decide) rfl at_255 rfl ?_
        refine px_iconst (v := (0 : Int32)) S102 at_256 rfl rfl ?_
        refine px_iload S102 at_257 rfl rfl ?_
        refine px_iload S102 at_259 rfl rfl ?_
        refine px_callS (as' := [(.int (0 : Int32)), (.int (0 : Int32)), (.int y0)]) (st := [(.int (i2b (i2b (y0 + (1 : Int32)))))]) (W := 1) S102 (c_exp hw S102.size) (hw _ (List.mem_of_getElem? (i := 22) rfl)) (hw _ (List.mem_of_getElem? (i := 23) rfl)) (hw _ (List.mem_of_getElem? (i := 2) rfl)) (hw _ (List.mem_of_getElem? (i := 24) rfl)) (by decide) pd_0_2 rfl rfl (by decide) rfl (by decide) (by decide) (by decide) at_261 rfl rfl (fun T112 h112 v112 S112 q112 => ?_)
        obtain ⟨rfl, q112⟩ := q112
        obtain rfl : v112 = some (.int (i2b (i2b (y0 + (1 : Int32))))) := q112.elim (fun q => absurd q.1 (by decide)) (fun q => q.2)
        show Go _ _ _ _ _ _ _ [(.int (i2b (i2b (y0 + (1 : Int32))))), (.int (i2b (i2b (y0 + (1 : Int32)))))]
        refine px_icmp S112 at_264 (by decide) (pc' := 271) rfl rfl (fun (hc113 : ¬ (i2b (i2b (y0 + (1 : Int32)))).toInt = (i2b (i2b (y0 + (1 : Int32)))).toInt) => absurd rfl hc113) (fun (hc113 : (i2b (i2b (y0 + (1 : Int32)))).toInt = (i2b (i2b (y0 + (1 : Int32)))).toInt) => ?_)
        refine px_iconst (v := (1 : Int32)) S112 at_267 rfl rfl ?_
        refine px_goto S112 at_268 (by decide) (pc' := 272) rfl ?_
        refine px_istore S112 at_272 rfl (L' := #[.val (.int i0), .val (.int i1), .val (.int i2), .val (.int i3), .val (.int i4), .val (.int (3 : Int32)), .val (.int y0), .val (.int y1), .val (.int y2), .val (.int y3), .val (.ref b91), .val (.int (0 : Int32)), .val (.ref br), .val (.int (1 : Int32)), .val (.int (1 : Int32))]) rfl ?_
        refine px_iload S112 at_274 rfl rfl ?_
        refine px_iconst (v := (1 : Int32)) S112 at_276 rfl rfl ?_
        refine px_icmp S112 at_277 (by decide) (pc' := 307) rfl rfl (fun (hc114 : (0 : Int32).toInt < (1 : Int32).toInt) => ?_) (fun (hc114 : (0 : Int32).toInt ≥ (1 : Int32).toInt) => by exfalso; revert hc114; decide)
        refine px_iload S112 at_307 rfl rfl ?_
        refine px_iconst (v := (2 : Int32)) S112 at_309 rfl rfl ?_
        refine px_icmp S112 at_310 (by decide) (pc' := 340) rfl rfl (fun (hc115 : (0 : Int32).toInt < (2 : Int32).toInt) => ?_) (fun (hc115 : (0 : Int32).toInt ≥ (2 : Int32).toInt) => by exfalso; revert hc115; decide)
        refine px_iload S112 at_340 rfl rfl ?_
        refine px_iconst (v := (3 : Int32)) S112 at_342 rfl rfl ?_
        refine px_icmp S112 at_343 (by decide) (pc' := 373) rfl rfl (fun (hc116 : (0 : Int32).toInt < (3 : Int32).toInt) => ?_) (fun (hc116 : (0 : Int32).toInt ≥ (3 : Int32).toInt) => by exfalso; revert hc116; decide)
        refine px_iload S112 at_373 rfl rfl ?_
        exact px_retN (t := .boolean) (z' := (1 : Int32)) S112 at_375 rfl (by simp) rfl (by decide) (by decide) (rfl)
      · obtain rfl : lst = (1 : Int32) := i32_of e99 rfl
        refine px_iload S96 at_145 rfl rfl ?_
        refine px_if0 S96 at_147 (by decide) (pc' := 152) rfl rfl (fun (hc117 : (1 : Int32).toInt ≥ 0) => ?_) (fun (hc117 : (1 : Int32).toInt < 0) => by exfalso; revert hc117; decide)
        refine px_aload S96 at_152 rfl rfl rfl ?_
        have hm2 : y2.toInt = -1 := by have l0 : (1 : Int32).toInt = 1 := rfl; omega
        have hme : ¬ y1.toInt = -1 := by have l0 : (1 : Int32).toInt = 1 := rfl; omega
        refine px_callS (as' := [(.ref b91)]) (st := []) (W := 0) S96 (c_after (n := 3) (e := 1) (nl := (3 : Int32)) hw S96.size rfl (by decide) (by decide) hme (fun j h1 h2 => by have hj : j = 2 := (by omega); rcases hj with rfl <;> assumption) A_b91 X_b91) (hw _ (List.mem_of_getElem? (i := 5) rfl)) (hw _ (List.mem_of_getElem? (i := 6) rfl)) (hw _ (List.mem_of_getElem? (i := 7) rfl)) (hw _ (List.mem_of_getElem? (i := 8) rfl)) (by decide) pd_0_1 rfl rfl (by decide) rfl (by decide) (by decide) (by decide) at_154 rfl rfl (fun T118 h118 v118 S118 q118 => ?_)
        obtain ⟨br, rfl, g_br, sz_br, K118, A_br⟩ := q118
        replace A_b91 := A_b91.keep K118 nin0
        replace X_b91 := X_b91.keep K118
        show Go _ _ _ _ _ _ _ [(.ref br)]
        refine px_astore S118 at_157 rfl rfl (L' := #[.val (.int i0), .val (.int i1), .val (.int i2), .val (.int i3), .val (.int i4), .val (.int (3 : Int32)), .val (.int y0), .val (.int y1), .val (.int y2), .val (.int y3), .val (.ref b91), .val (.int (1 : Int32)), .val (.ref br), .unset, .unset]) rfl ?_
        refine px_aload S118 at_159 rfl rfl rfl ?_
        refine px_alenI (v := (3 : Int32)) S118 A_b91 rfl at_161 rfl ?_
        refine px_iload S118 at_162 rfl rfl ?_
        refine px_icmp S118 at_164 (by decide) (pc' := 225) rfl rfl (fun (hc119 : ¬ (3 : Int32).toInt = (3 : Int32).toInt) => absurd rfl hc119) (fun (hc119 : (3 : Int32).toInt = (3 : Int32).toInt) => ?_)
        refine px_aload S118 at_167 rfl rfl rfl ?_
        refine px_iconst (v := (0 : Int32)) S118 at_169 rfl rfl ?_
        refine px_baload (v := y0) S118 A_b91 (i := 0) rfl (by decide) rfl at_170 rfl ?_
        refine px_iload S118 at_171 rfl rfl ?_
        refine px_icmp S118 at_173 (by decide) (pc' := 225) rfl rfl (fun (hc120 : ¬ y0.toInt = y0.toInt) => absurd rfl hc120) (fun (hc120 : y0.toInt = y0.toInt) => ?_)
        refine px_iload S118 at_176 rfl rfl ?_
        refine px_iconst (v := (2 : Int32)) S118 at_178 rfl rfl ?_
        refine px_icmp S118 at_179 (by decide) (pc' := 191) rfl rfl (fun (hc121 : (3 : Int32).toInt < (2 : Int32).toInt) => by exfalso; revert hc121; decide) (fun (hc121 : (3 : Int32).toInt ≥ (2 : Int32).toInt) => ?_)
        refine px_aload S118 at_182 rfl rfl rfl ?_
        refine px_iconst (v := (1 : Int32)) S118 at_184 rfl rfl ?_
        refine px_baload (v := y1) S118 A_b91 (i := 1) rfl (by decide) rfl at_185 rfl ?_
        refine px_iload S118 at_186 rfl rfl ?_
        refine px_icmp S118 at_188 (by decide) (pc' := 225) rfl rfl (fun (hc122 : ¬ y1.toInt = y1.toInt) => absurd rfl hc122) (fun (hc122 : y1.toInt = y1.toInt) => ?_)
        refine px_iload S118 at_191 rfl rfl ?_
        refine px_iconst (v := (3 : Int32)) S118 at_193 rfl rfl ?_
        refine px_icmp S118 at_194 (by decide) (pc' := 206) rfl rfl (fun (hc123 : (3 : Int32).toInt < (3 : Int32).toInt) => by exfalso; revert hc123; decide) (fun (hc123 : (3 : Int32).toInt ≥ (3 : Int32).toInt) => ?_)
        refine px_aload S118 at_197 rfl rfl rfl ?_
        refine px_iconst (v := (2 : Int32)) S118 at_199 rfl rfl ?_
        refine px_baload (v := y2) S118 A_b91 (i := 2) rfl (by decide) rfl at_200 rfl ?_
        refine px_iload S118 at_201 rfl rfl ?_
        refine px_icmp S118 at_203 (by decide) (pc' := 225) rfl rfl (fun (hc124 : ¬ y2.toInt = y2.toInt) => absurd rfl hc124) (fun (hc124 : y2.toInt = y2.toInt) => ?_)
        refine px_iload S118 at_206 rfl rfl ?_
        refine px_iconst (v := (4 : Int32)) S118 at_208 rfl rfl ?_
        refine px_icmp S118 at_209 (by decide) (pc' := 221) rfl rfl (fun (hc125 : (3 : Int32).toInt < (4 : Int32).toInt) => ?_) (fun (hc125 : (3 : Int32).toInt ≥ (4 : Int32).toInt) => by exfalso; revert hc125; decide)
        refine px_iconst (v := (1 : Int32)) S118 at_221 rfl rfl ?_
        refine px_goto S118 at_222 (by decide) (pc' := 226) rfl ?_
        refine px_istore S118 at_226 rfl (L' := #[.val (.int i0), .val (.int i1), .val (.int i2), .val (.int i3), .val (.int i4), .val (.int (3 : Int32)), .val (.int y0), .val (.int y1), .val (.int y2), .val (.int y3), .val (.ref b91), .val (.int (1 : Int32)), .val (.ref br), .val (.int (1 : Int32)), .unset]) rfl ?_
        refine px_iload S118 at_228 rfl rfl ?_
        refine px_if0 S118 at_230 (by decide) (pc' := 235) rfl rfl (fun (hc126 : ¬ (1 : Int32).toInt = 0) => ?_) (fun (hc126 : (1 : Int32).toInt = 0) => by exfalso; revert hc126; decide)
        refine px_aload S118 at_235 rfl rfl rfl ?_
        refine px_ifnull S118 at_237 rfl ?_
        refine px_aload S118 at_240 rfl rfl rfl ?_
        refine px_alenI (v := (2 : Int32)) S118 A_br rfl at_242 rfl ?_
        refine px_iload S118 at_243 rfl rfl ?_
        refine px_iconst (v := (1 : Int32)) S118 at_245 rfl rfl ?_
        refine px_iadd S118 at_246 rfl ?_
        rw [show ((1 : Int32) + (1 : Int32)) = (2 : Int32) from by decide]
        refine px_icmp S118 at_247 (by decide) (pc' := 252) rfl rfl (fun (hc127 : (2 : Int32).toInt = (2 : Int32).toInt) => ?_) (fun (hc127 : ¬ (2 : Int32).toInt = (2 : Int32).toInt) => absurd rfl hc127)
        refine px_aload S118 at_252 rfl rfl rfl ?_
        refine px_iconst (v := (0 : Int32)) S118 at_254 rfl rfl ?_
        refine px_baload (v := y0) S118 A_br (i := 0) rfl (by decide) rfl at_255 rfl ?_
        refine px_iconst (v := (0 : Int32)) S118 at_256 rfl rfl ?_
        refine px_iload S118 at_257 rfl rfl ?_
        refine px_iload S118 at_259 rfl rfl ?_
        refine px_callS (as' := [(.int (0 : Int32)), (.int (1 : Int32)), (.int y0)]) (st := [(.int y0)]) (W := 1) S118 (c_exp hw S118.size) (hw _ (List.mem_of_getElem? (i := 22) rfl)) (hw _ (List.mem_of_getElem? (i := 23) rfl)) (hw _ (List.mem_of_getElem? (i := 2) rfl)) (hw _ (List.mem_of_getElem? (i := 24) rfl)) (by decide) pd_0_2 rfl rfl (by decide) rfl (by decide) (by decide) (by decide) at_261 rfl rfl (fun T128 h128 v128 S128 q128 => ?_)
        obtain ⟨rfl, q128⟩ := q128
        obtain rfl : v128 = some (.int (i2b y0)) := q128.elim (fun q => q.2) (fun q => absurd q.1 (by decide))
        show Go _ _ _ _ _ _ _ [(.int (i2b y0)), (.int y0)]
        refine px_icmp S128 at_264 (by decide) (pc' := 271) rfl rfl (fun (hc129 : ¬ y0.toInt = (i2b y0).toInt) => by exfalso; have q0 := rng32 y0; have q1 := f_i2b y0; have q2 := rng32 y1; have q3 := rng32 y2; have q4 := rng32 y3; have q5 := (show (1 : Int32).toInt = 1 from rfl); omega) (fun (hc129 : y0.toInt = (i2b y0).toInt) => ?_)
        refine px_iconst (v := (1 : Int32)) S128 at_267 rfl rfl ?_
        refine px_goto S128 at_268 (by decide) (pc' := 272) rfl ?_
        refine px_istore S128 at_272 rfl (L' := #[.val (.int i0), .val (.int i1), .val (.int i2), .val (.int i3), .val (.int i4), .val (.int (3 : Int32)), .val (.int y0), .val (.int y1), .val (.int y2), .val (.int y3), .val (.ref b91), .val (.int (1 : Int32)), .val (.ref br), .val (.int (1 : Int32)), .val (.int (1 : Int32))]) rfl ?_
        refine px_iload S128 at_274 rfl rfl ?_
        refine px_iconst (v := (1 : Int32)) S128 at_276 rfl rfl ?_
        refine px_icmp S128 at_277 (by decide) (pc' := 307) rfl rfl (fun (hc130 : (1 : Int32).toInt < (1 : Int32).toInt) => by exfalso; revert hc130; decide) (fun (hc130 : (1 : Int32).toInt ≥ (1 : Int32).toInt) => ?_)
        refine px_iload S128 at_280 rfl rfl ?_
        refine px_if0 S128 at_282 (by decide) (pc' := 304) rfl rfl (fun (hc131 : (1 : Int32).toInt = 0) => by exfalso; revert hc131; decide) (fun (hc131 : ¬ (1 : Int32).toInt = 0) => ?_)
        refine px_aload S128 at_285 rfl rfl rfl ?_
        refine px_iconst (v := (1 : Int32)) S128 at_287 rfl rfl ?_
        refine px_baload (v := (i2b (i2b (y1 + (1 : Int32))))) S128 A_br (i := 1) rfl (by decide) rfl at_288 rfl ?_
        refine px_iconst (v := (1 : Int32)) S128 at_289 rfl rfl ?_
        refine px_iload S128 at_290 rfl rfl ?_
        refine px_iload S128 at_292 rfl rfl ?_
        refine px_callS (as' := [(.int (1 : Int32)), (.int (1 : Int32)), (.int y1)]) (st := [(.int (i2b (i2b (y1 + (1 : Int32)))))]) (W := 1) S128 (c_exp hw S128.size) (hw _ (List.mem_of_getElem? (i := 22) rfl)) (hw _ (List.mem_of_getElem? (i := 23) rfl)) (hw _ (List.mem_of_getElem? (i := 2) rfl)) (hw _ (List.mem_of_getElem? (i := 24) rfl)) (by decide) pd_0_2 rfl rfl (by decide) rfl (by decide) (by decide) (by decide) at_294 rfl rfl (fun T132 h132 v132 S132 q132 => ?_)
        obtain ⟨rfl, q132⟩ := q132
        obtain rfl : v132 = some (.int (i2b (i2b (y1 + (1 : Int32))))) := q132.elim (fun q => absurd q.1 (by decide)) (fun q => q.2)
        show Go _ _ _ _ _ _ _ [(.int (i2b (i2b (y1 + (1 : Int32))))), (.int (i2b (i2b (y1 + (1 : Int32)))))]
        refine px_icmp S132 at_297 (by decide) (pc' := 304) rfl rfl (fun (hc133 : ¬ (i2b (i2b (y1 + (1 : Int32)))).toInt = (i2b (i2b (y1 + (1 : Int32)))).toInt) => absurd rfl hc133) (fun (hc133 : (i2b (i2b (y1 + (1 : Int32)))).toInt = (i2b (i2b (y1 + (1 : Int32)))).toInt) => ?_)
        refine px_iconst (v := (1 : Int32)) S132 at_300 rfl rfl ?_
        refine px_goto S132 at_301 (by decide) (pc' := 305) rfl ?_
        refine px_istore S132 at_305 rfl (L' := #[.val (.int i0), .val (.int i1), .val (.int i2), .val (.int i3), .val (.int i4), .val (.int (3 : Int32)), .val (.int y0), .val (.int y1), .val (.int y2), .val (.int y3), .val (.ref b91), .val (.int (1 : Int32)), .val (.ref br), .val (.int (1 : Int32)), .val (.int (1 : Int32))]) rfl ?_
        refine px_iload S132 at_307 rfl rfl ?_
        refine px_iconst (v := (2 : Int32)) S132 at_309 rfl rfl ?_
        refine px_icmp S132 at_310 (by decide) (pc' := 340) rfl rfl (fun (hc134 : (1 : Int32).toInt < (2 : Int32).toInt) => ?_) (fun (hc134 : (1 : Int32).toInt ≥ (2 : Int32).toInt) => by exfalso; revert hc134; decide)
        refine px_iload S132 at_340 rfl rfl ?_
        refine px_iconst (v := (3 : Int32)) S132 at_342 rfl rfl ?_
        refine px_icmp S132 at_343 (by decide) (pc' := 373) rfl rfl (fun (hc135 : (1 : Int32).toInt < (3 : Int32).toInt) => ?_) (fun (hc135 : (1 : Int32).toInt ≥ (3 : Int32).toInt) => by exfalso; revert hc135; decide)
        refine px_iload S132 at_373 rfl rfl ?_
        exact px_retN (t := .boolean) (z' := (1 : Int32)) S132 at_375 rfl (by simp) rfl (by decide) (by decide) (rfl)
      · obtain rfl : lst = (2 : Int32) := i32_of e99 rfl
        refine px_iload S96 at_145 rfl rfl ?_
        refine px_if0 S96 at_147 (by decide) (pc' := 152) rfl rfl (fun (hc136 : (2 : Int32).toInt ≥ 0) => ?_) (fun (hc136 : (2 : Int32).toInt < 0) => by exfalso; revert hc136; decide)
        refine px_aload S96 at_152 rfl rfl rfl ?_
        have hme : ¬ y2.toInt = -1 := by have l0 : (2 : Int32).toInt = 2 := rfl; omega
        refine px_callS (as' := [(.ref b91)]) (st := []) (W := 0) S96 (c_after (n := 3) (e := 2) (nl := (3 : Int32)) hw S96.size rfl (by decide) (by decide) hme (fun j h1 h2 => by omega) A_b91 X_b91) (hw _ (List.mem_of_getElem? (i := 5) rfl)) (hw _ (List.mem_of_getElem? (i := 6) rfl)) (hw _ (List.mem_of_getElem? (i := 7) rfl)) (hw _ (List.mem_of_getElem? (i := 8) rfl)) (by decide) pd_0_1 rfl rfl (by decide) rfl (by decide) (by decide) (by decide) at_154 rfl rfl (fun T137 h137 v137 S137 q137 => ?_)
        obtain ⟨br, rfl, g_br, sz_br, K137, A_br⟩ := q137
        replace A_b91 := A_b91.keep K137 nin0
        replace X_b91 := X_b91.keep K137
        show Go _ _ _ _ _ _ _ [(.ref br)]
        refine px_astore S137 at_157 rfl rfl (L' := #[.val (.int i0), .val (.int i1), .val (.int i2), .val (.int i3), .val (.int i4), .val (.int (3 : Int32)), .val (.int y0), .val (.int y1), .val (.int y2), .val (.int y3), .val (.ref b91), .val (.int (2 : Int32)), .val (.ref br), .unset, .unset]) rfl ?_
        refine px_aload S137 at_159 rfl rfl rfl ?_
        refine px_alenI (v := (3 : Int32)) S137 A_b91 rfl at_161 rfl ?_
        refine px_iload S137 at_162 rfl rfl ?_
        refine px_icmp S137 at_164 (by decide) (pc' := 225) rfl rfl (fun (hc138 : ¬ (3 : Int32).toInt = (3 : Int32).toInt) => absurd rfl hc138) (fun (hc138 : (3 : Int32).toInt = (3 : Int32).toInt) => ?_)
        refine px_aload S137 at_167 rfl rfl rfl ?_
        refine px_iconst (v := (0 : Int32)) S137 at_169 rfl rfl ?_
        refine px_baload (v := y0) S137 A_b91 (i := 0) rfl (by decide) rfl at_170 rfl ?_
        refine px_iload S137 at_171 rfl rfl ?_
        refine px_icmp S137 at_173 (by decide) (pc' := 225) rfl rfl (fun (hc139 : ¬ y0.toInt = y0.toInt) => absurd rfl hc139) (fun (hc139 : y0.toInt = y0.toInt) => ?_)
        refine px_iload S137 at_176 rfl rfl ?_
        refine px_iconst (v := (2 : Int32)) S137 at_178 rfl rfl ?_
        refine px_icmp S137 at_179 (by decide) (pc' := 191) rfl rfl (fun (hc140 : (3 : Int32).toInt < (2 : Int32).toInt) => by exfalso; revert hc140; decide) (fun (hc140 : (3 : Int32).toInt ≥ (2 : Int32).toInt) => ?_)
        refine px_aload S137 at_182 rfl rfl rfl ?_
        refine px_iconst (v := (1 : Int32)) S137 at_184 rfl rfl ?_
        refine px_baload (v := y1) S137 A_b91 (i := 1) rfl (by decide) rfl at_185 rfl ?_
        refine px_iload S137 at_186 rfl rfl ?_
        refine px_icmp S137 at_188 (by decide) (pc' := 225) rfl rfl (fun (hc141 : ¬ y1.toInt = y1.toInt) => absurd rfl hc141) (fun (hc141 : y1.toInt = y1.toInt) => ?_)
        refine px_iload S137 at_191 rfl rfl ?_
        refine px_iconst (v := (3 : Int32)) S137 at_193 rfl rfl ?_
        refine px_icmp S137 at_194 (by decide) (pc' := 206) rfl rfl (fun (hc142 : (3 : Int32).toInt < (3 : Int32).toInt) => by exfalso; revert hc142; decide) (fun (hc142 : (3 : Int32).toInt ≥ (3 : Int32).toInt) => ?_)
        refine px_aload S137 at_197 rfl rfl rfl ?_
        refine px_iconst (v := (2 : Int32)) S137 at_199 rfl rfl ?_
        refine px_baload (v := y2) S137 A_b91 (i := 2) rfl (by decide) rfl at_200 rfl ?_
        refine px_iload S137 at_201 rfl rfl ?_
        refine px_icmp S137 at_203 (by decide) (pc' := 225) rfl rfl (fun (hc143 : ¬ y2.toInt = y2.toInt) => absurd rfl hc143) (fun (hc143 : y2.toInt = y2.toInt) => ?_)
        refine px_iload S137 at_206 rfl rfl ?_
        refine px_iconst (v := (4 : Int32)) S137 at_208 rfl rfl ?_
        refine px_icmp S137 at_209 (by decide) (pc' := 221) rfl rfl (fun (hc144 : (3 : Int32).toInt < (4 : Int32).toInt) => ?_) (fun (hc144 : (3 : Int32).toInt ≥ (4 : Int32).toInt) => by exfalso; revert hc144; decide)
        refine px_iconst (v := (1 : Int32)) S137 at_221 rfl rfl ?_
        refine px_goto S137 at_222 (by decide) (pc' := 226) rfl ?_
        refine px_istore S137 at_226 rfl (L' := #[.val (.int i0), .val (.int i1), .val (.int i2), .val (.int i3), .val (.int i4), .val (.int (3 : Int32)), .val (.int y0), .val (.int y1), .val (.int y2), .val (.int y3), .val (.ref b91), .val (.int (2 : Int32)), .val (.ref br), .val (.int (1 : Int32)), .unset]) rfl ?_
        refine px_iload S137 at_228 rfl rfl ?_
        refine px_if0 S137 at_230 (by decide) (pc' := 235) rfl rfl (fun (hc145 : ¬ (1 : Int32).toInt = 0) => ?_) (fun (hc145 : (1 : Int32).toInt = 0) => by exfalso; revert hc145; decide)
        refine px_aload S137 at_235 rfl rfl rfl ?_
        refine px_ifnull S137 at_237 rfl ?_
        refine px_aload S137 at_240 rfl rfl rfl ?_
        refine px_alenI (v := (3 : Int32)) S137 A_br rfl at_242 rfl ?_
        refine px_iload S137 at_243 rfl rfl ?_
        refine px_iconst (v := (1 : Int32)) S137 at_245 rfl rfl ?_
        refine px_iadd S137 at_246 rfl ?_
        rw [show ((2 : Int32) + (1 : Int32)) = (3 : Int32) from by decide]
        refine px_icmp S137 at_247 (by decide) (pc' := 252) rfl rfl (fun (hc146 : (3 : Int32).toInt = (3 : Int32).toInt) => ?_) (fun (hc146 : ¬ (3 : Int32).toInt = (3 : Int32).toInt) => absurd rfl hc146)
        refine px_aload S137 at_252 rfl rfl rfl ?_
        refine px_iconst (v := (0 : Int32)) S137 at_254 rfl rfl ?_
        refine px_baload (v := y0) S137 A_br (i := 0) rfl (by decide) rfl at_255 rfl ?_
        refine px_iconst (v := (0 : Int32)) S137 at_256 rfl rfl ?_
        refine px_iload S137 at_257 rfl rfl ?_
        refine px_iload S137 at_259 rfl rfl ?_
        refine px_callS (as' := [(.int (0 : Int32)), (.int (2 : Int32)), (.int y0)]) (st := [(.int y0)]) (W := 1) S137 (c_exp hw S137.size) (hw _ (List.mem_of_getElem? (i := 22) rfl)) (hw _ (List.mem_of_getElem? (i := 23) rfl)) (hw _ (List.mem_of_getElem? (i := 2) rfl)) (hw _ (List.mem_of_getElem? (i := 24) rfl)) (by decide) pd_0_2 rfl rfl (by decide) rfl (by decide) (by decide) (by decide) at_261 rfl rfl (fun T147 h147 v147 S147 q147 => ?_)
        obtain ⟨rfl, q147⟩ := q147
        obtain rfl : v147 = some (.int (i2b y0)) := q147.elim (fun q => q.2) (fun q => absurd q.1 (by decide))
        show Go _ _ _ _ _ _ _ [(.int (i2b y0)), (.int y0)]
        refine px_icmp S147 at_264 (by decide) (pc' := 271) rfl rfl (fun (hc148 : ¬ y0.toInt = (i2b y0).toInt) => by exfalso; have q0 := rng32 y0; have q1 := f_i2b y0; have q2 := rng32 y1; have q3 := rng32 y2; have q4 := rng32 y3; have q5 := (show (2 : Int32).toInt = 2 from rfl); omega) (fun (hc148 : y0.toInt = (i2b y0).toInt) => ?_)
        refine px_iconst (v := (1 : Int32)) S147 at_267 rfl rfl ?_
        refine px_goto S147 at_268 (by decide) (pc' := 272) rfl ?_
        refine px_istore S147 at_272 rfl (L' := #[.val (.int i0), .val (.int i1), .val (.int i2), .val (.int i3), .val (.int i4), .val (.int (3 : Int32)), .val (.int y0), .val (.int y1), .val (.int y2), .val (.int y3), .val (.ref b91), .val (.int (2 : Int32)), .val (.ref br), .val (.int (1 : Int32)), .val (.int (1 : Int32))]) rfl ?_
        refine px_iload S147 at_274 rfl rfl ?_
        refine px_iconst (v := (1 : Int32)) S147 at_276 rfl rfl ?_
        refine px_icmp S147 at_277 (by decide) (pc' := 307) rfl rfl (fun (hc149 : (2 : Int32).toInt < (1 : Int32).toInt) => by exfalso; revert hc149; decide) (fun (hc149 : (2 : Int32).toInt ≥ (1 : Int32).toInt) => ?_)
        refine px_iload S147 at_280 rfl rfl ?_
        refine px_if0 S147 at_282 (by decide) (pc' := 304) rfl rfl (fun (hc150 : (1 : Int32).toInt = 0) => by exfalso; revert hc150; decide) (fun (hc150 : ¬ (1 : Int32).toInt = 0) => ?_)
        refine px_aload S147 at_285 rfl rfl rfl ?_
        refine px_iconst (v := (1 : Int32)) S147 at_287 rfl rfl ?_
        refine px_baload (v := y1) S147 A_br (i := 1) rfl (by decide) rfl at_288 rfl ?_
        refine px_iconst (v := (1 : Int32)) S147 at_289 rfl rfl ?_
        refine px_iload S147 at_290 rfl rfl ?_
        refine px_iload S147 at_292 rfl rfl ?_
        refine px_callS (as' := [(.int (1 : Int32)), (.int (2 : Int32)), (.int y1)]) (st := [(.int y1)]) (W := 1) S147 (c_exp hw S147.size) (hw _ (List.mem_of_getElem? (i := 22) rfl)) (hw _ (List.mem_of_getElem? (i := 23) rfl)) (hw _ (List.mem_of_getElem? (i := 2) rfl)) (hw _ (List.mem_of_getElem? (i := 24) rfl)) (by decide) pd_0_2 rfl rfl (by decide) rfl (by decide) (by decide) (by decide) at_294 rfl rfl (fun T151 h151 v151 S151 q151 => ?_)
        obtain ⟨rfl, q151⟩ := q151
        obtain rfl : v151 = some (.int (i2b y1)) := q151.elim (fun q => q.2) (fun q => absurd q.1 (by decide))
        show Go _ _ _ _ _ _ _ [(.int (i2b y1)), (.int y1)]
        refine px_icmp S151 at_297 (by decide) (pc' := 304) rfl rfl (fun (hc152 : ¬ y1.toInt = (i2b y1).toInt) => by exfalso; have q0 := rng32 y1; have q1 := f_i2b y1; have q2 := rng32 y0; have q3 := rng32 y2; have q4 := rng32 y3; have q5 := (show (2 : Int32).toInt = 2 from rfl); have q6 := f_i2b y0; omega) (fun (hc152 : y1.toInt = (i2b y1).toInt) => ?_)
        refine px_iconst (v := (1 : Int32)) S151 at_300 rfl rfl ?_
        refine px_goto S151 at_301 (by decide) (pc' := 305) rfl ?_
        refine px_istore S151 at_305 rfl (L' := #[.val (.int i0), .val (.int i1), .val (.int i2), .val (.int i3), .val (.int i4), .val (.int (3 : Int32)), .val (.int y0), .val (.int y1), .val (.int y2), .val (.int y3), .val (.ref b91), .val (.int (2 : Int32)), .val (.ref br), .val (.int (1 : Int32)), .val (.int (1 : Int32))]) rfl ?_
        refine px_iload S151 at_307 rfl rfl ?_
        refine px_iconst (v := (2 : Int32)) S151 at_309 rfl rfl ?_
        refine px_icmp S151 at_310 (by decide) (pc' := 340) rfl rfl (fun (hc153 : (2 : Int32).toInt < (2 : Int32).toInt) => by exfalso; revert hc153; decide) (fun (hc153 : (2 : Int32).toInt ≥ (2 : Int32).toInt) => ?_)
        refine px_iload S151 at_313 rfl rfl ?_
        refine px_if0 S151 at_315 (by decide) (pc' := 337) rfl rfl (fun (hc154 : (1 : Int32).toInt = 0) => by exfalso; revert hc154; decide) (fun (hc154 : ¬ (1 : Int32).toInt = 0) => ?_)
        refine px_aload S151 at_318 rfl rfl rfl ?_
        refine px_iconst (v := (2 : Int32)) S151 at_320 rfl rfl ?_
        refine px_baload (v := (i2b (i2b (y2 + (1 : Int32))))) S151 A_br (i := 2) rfl (by decide) rfl at_321 rfl ?_
        refine px_iconst (v := (2 : Int32)) S151 at_322 rfl rfl ?_
        refine px_iload S151 at_323 rfl rfl ?_
        refine px_iload S151 at_325 rfl rfl ?_
        refine px_callS (as' := [(.int (2 : Int32)), (.int (2 : Int32)), (.int y2)]) (st := [(.int (i2b (i2b (y2 + (1 : Int32)))))]) (W := 1) S151 (c_exp hw S151.size) (hw _ (List.mem_of_getElem? (i := 22) rfl)) (hw _ (List.mem_of_getElem? (i := 23) rfl)) (hw _ (List.mem_of_getElem? (i := 2) rfl)) (hw _ (List.mem_of_getElem? (i := 24) rfl)) (by decide) pd_0_2 rfl rfl (by decide) rfl (by decide) (by decide) (by decide) at_327 rfl rfl (fun T155 h155 v155 S155 q155 => ?_)
        obtain ⟨rfl, q155⟩ := q155
        obtain rfl : v155 = some (.int (i2b (i2b (y2 + (1 : Int32))))) := q155.elim (fun q => absurd q.1 (by decide)) (fun q => q.2)
        show Go _ _ _ _ _ _ _ [(.int (i2b (i2b (y2 + (1 : Int32))))), (.int (i2b (i2b (y2 + (1 : Int32)))))]
        refine px_icmp S155 at_330 (by decide) (pc' := 337) rfl rfl (fun (hc156 : ¬ (i2b (i2b (y2 + (1 : Int32)))).toInt = (i2b (i2b (y2 + (1 : Int32)))).toInt) => absurd rfl hc156) (fun (hc156 : (i2b (i2b (y2 + (1 : Int32)))).toInt = (i2b (i2b (y2 + (1 : Int32)))).toInt) => ?_)
        refine px_iconst (v := (1 : Int32)) S155 at_333 rfl rfl ?_
        refine px_goto S155 at_334 (by decide) (pc' := 338) rfl ?_
        refine px_istore S155 at_338 rfl (L' := #[.val (.int i0), .val (.int i1), .val (.int i2), .val (.int i3), .val (.int i4), .val (.int (3 : Int32)), .val (.int y0), .val (.int y1), .val (.int y2), .val (.int y3), .val (.ref b91), .val (.int (2 : Int32)), .val (.ref br), .val (.int (1 : Int32)), .val (.int (1 : Int32))]) rfl ?_
        refine px_iload S155 at_340 rfl rfl ?_
        refine px_iconst (v := (3 : Int32)) S155 at_342 rfl rfl ?_
        refine px_icmp S155 at_343 (by decide) (pc' := 373) rfl rfl (fun (hc157 : (2 : Int32).toInt < (3 : Int32).toInt) => ?_) (fun (hc157 : (2 : Int32).toInt ≥ (3 : Int32).toInt) => by exfalso; revert hc157; decide)
        refine px_iload S155 at_373 rfl rfl ?_
        exact px_retN (t := .boolean) (z' := (1 : Int32)) S155 at_375 rfl (by simp) rfl (by decide) (by decide) (rfl)
    · refine px_iload S96 at_91 rfl rfl ?_
      refine px_iconst (v := (-1 : Int32)) S96 at_93 rfl rfl ?_
      refine px_icmp S96 at_94 (by decide) (pc' := 100) rfl rfl (fun (hc158 : y0.toInt = (-1 : Int32).toInt) => ?_) (fun (hc158 : ¬ y0.toInt = (-1 : Int32).toInt) => ?_)
      · refine px_iload S96 at_100 rfl rfl ?_
        refine px_iconst (v := (1 : Int32)) S96 at_102 rfl rfl ?_
        refine px_icmp S96 at_103 (by decide) (pc' := 115) rfl rfl (fun (hc159 : (3 : Int32).toInt ≤ (1 : Int32).toInt) => by exfalso; revert hc159; decide) (fun (hc159 : (3 : Int32).toInt > (1 : Int32).toInt) => ?_)
        refine px_iload S96 at_106 rfl rfl ?_
        refine px_iconst (v := (-1 : Int32)) S96 at_108 rfl rfl ?_
        refine px_icmp S96 at_109 (by decide) (pc' := 115) rfl rfl (fun (hc160 : y1.toInt = (-1 : Int32).toInt) => ?_) (fun (hc160 : ¬ y1.toInt = (-1 : Int32).toInt) => ?_)
        · refine px_iload S96 at_115 rfl rfl ?_
          refine px_iconst (v := (2 : Int32)) S96 at_117 rfl rfl ?_
          refine px_icmp S96 at_118 (by decide) (pc' := 130) rfl rfl (fun (hc161 : (3 : Int32).toInt ≤ (2 : Int32).toInt) => by exfalso; revert hc161; decide) (fun (hc161 : (3 : Int32).toInt > (2 : Int32).toInt) => ?_)
          refine px_iload S96 at_121 rfl rfl ?_
          refine px_iconst (v := (-1 : Int32)) S96 at_123 rfl rfl ?_
          refine px_icmp S96 at_124 (by decide) (pc' := 130) rfl rfl (fun (hc162 : y2.toInt = (-1 : Int32).toInt) => ?_) (fun (hc162 : ¬ y2.toInt = (-1 : Int32).toInt) => ?_)
          · refine px_iload S96 at_130 rfl rfl ?_
            refine px_iconst (v := (3 : Int32)) S96 at_132 rfl rfl ?_
            refine px_icmp S96 at_133 (by decide) (pc' := 145) rfl rfl (fun (hc163 : (3 : Int32).toInt ≤ (3 : Int32).toInt) => ?_) (fun (hc163 : (3 : Int32).toInt > (3 : Int32).toInt) => by exfalso; revert hc163; decide)
            exact J98 _ (show ((-1 : Int32).toInt = -1 ∧ y0.toInt = -1 ∧ y1.toInt = -1 ∧ y2.toInt = -1) ∨ ((-1 : Int32).toInt = 0 ∧ ¬ y0.toInt = -1 ∧ y1.toInt = -1 ∧ y2.toInt = -1) ∨ ((-1 : Int32).toInt = 1 ∧ ¬ y1.toInt = -1 ∧ y2.toInt = -1) ∨ ((-1 : Int32).toInt = 2 ∧ ¬ y2.toInt = -1) from by have q0 := congrArg Int32.toInt h_v1; have q1 := (show (-1 : Int32).toInt = -1 from rfl); have q2 := c_iadd (i0 &&& (3 : Int32)) (1 : Int32); have q3 := rng32 ((i0 &&& (3 : Int32)) + (1 : Int32)); have q4 := f_imask i0 (3 : Int32) 2 4 (by decide) (by decide) (by decide); have q5 := rng32 i0; have q6 := (show (3 : Int32).toInt = 3 from rfl); have q7 := (show (1 : Int32).toInt = 1 from rfl); have q8 := rng32 y0; have q9 := rng32 y1; have q10 := rng32 y2; omega)
          · refine px_iconst (v := (2 : Int32)) S96 at_127 rfl rfl ?_
            refine px_istore S96 at_128 rfl (L' := #[.val (.int i0), .val (.int i1), .val (.int i2), .val (.int i3), .val (.int i4), .val (.int (3 : Int32)), .val (.int y0), .val (.int y1), .val (.int y2), .val (.int y3), .val (.ref b91), .val (.int (2 : Int32)), .unset, .unset, .unset]) rfl ?_
            refine px_iload S96 at_130 rfl rfl ?_
            refine px_iconst (v := (3 : Int32)) S96 at_132 rfl rfl ?_
            refine px_icmp S96 at_133 (by decide) (pc' := 145) rfl rfl (fun (hc164 : (3 : Int32).toInt ≤ (3 : Int32).toInt) => ?_) (fun (hc164 : (3 : Int32).toInt > (3 : Int32).toInt) => by exfalso; revert hc164; decide)
            exact J98 _ (show ((2 : Int32).toInt = -1 ∧ y0.toInt = -1 ∧ y1.toInt = -1 ∧ y2.toInt = -1) ∨ ((2 : Int32).toInt = 0 ∧ ¬ y0.toInt = -1 ∧ y1.toInt = -1 ∧ y2.toInt = -1) ∨ ((2 : Int32).toInt = 1 ∧ ¬ y1.toInt = -1 ∧ y2.toInt = -1) ∨ ((2 : Int32).toInt = 2 ∧ ¬ y2.toInt = -1) from by have q0 := congrArg Int32.toInt h_v1; have q1 := (show (2 : Int32).toInt = 2 from rfl); have q2 := c_iadd (i0 &&& (3 : Int32)) (1 : Int32); have q3 := rng32 ((i0 &&& (3 : Int32)) + (1 : Int32)); have q4 := f_imask i0 (3 : Int32) 2 4 (by decide) (by decide) (by decide); have q5 := rng32 i0; have q6 := (show (3 : Int32).toInt = 3 from rfl); have q7 := (show (1 : Int32).toInt = 1 from rfl); have q8 := rng32 y0; have q9 := (show (-1 : Int32).toInt = -1 from rfl); have q10 := rng32 y1; have q11 := rng32 y2; omega)
        · refine px_iconst (v := (1 : Int32)) S96 at_112 rfl rfl ?_
          refine px_istore S96 at_113 rfl (L' := #[.val (.int i0), .val (.int i1), .val (.int i2), .val (.int i3), .val (.int i4), .val (.int (3 : Int32)), .val (.int y0), .val (.int y1), .val (.int y2), .val (.int y3), .val (.ref b91), .val (.int (1 : Int32)), .unset, .unset, .unset]) rfl ?_
          refine px_iload S96 at_115 rfl rfl ?_
          refine px_iconst (v := (2 : Int32)) S96 at_117 rfl rfl ?_
          refine px_icmp S96 at_118 (by decide) (pc' := 130) rfl rfl (fun (hc165 : (3 : Int32).toInt ≤ (2 : Int32).toInt) => by exfalso; revert hc165; decide) (fun (hc165 : (3 : Int32).toInt > (2 : Int32).toInt) => ?_)
          refine px_iload S96 at_121 rfl rfl ?_
          refine px_iconst (v := (-1 : Int32)) S96 at_123 rfl rfl ?_
          refine px_icmp S96 at_124 (by decide) (pc' := 130) rfl rfl (fun (hc166 : y2.toInt = (-1 : Int32).toInt) => ?_) (fun (hc166 : ¬ y2.toInt = (-1 : Int32).toInt) => ?_)
          · refine px_iload S96 at_130 rfl rfl ?_
            refine px_iconst (v := (3 : Int32)) S96 at_132 rfl rfl ?_
            refine px_icmp S96 at_133 (by decide) (pc' := 145) rfl rfl (fun (hc167 : (3 : Int32).toInt ≤ (3 : Int32).toInt) => ?_) (fun (hc167 : (3 : Int32).toInt > (3 : Int32).toInt) => by exfalso; revert hc167; decide)
            exact J98 _ (show ((1 : Int32).toInt = -1 ∧ y0.toInt = -1 ∧ y1.toInt = -1 ∧ y2.toInt = -1) ∨ ((1 : Int32).toInt = 0 ∧ ¬ y0.toInt = -1 ∧ y1.toInt = -1 ∧ y2.toInt = -1) ∨ ((1 : Int32).toInt = 1 ∧ ¬ y1.toInt = -1 ∧ y2.toInt = -1) ∨ ((1 : Int32).toInt = 2 ∧ ¬ y2.toInt = -1) from by have q0 := congrArg Int32.toInt h_v1; have q1 := (show (1 : Int32).toInt = 1 from rfl); have q2 := c_iadd (i0 &&& (3 : Int32)) (1 : Int32); have q3 := rng32 ((i0 &&& (3 : Int32)) + (1 : Int32)); have q4 := f_imask i0 (3 : Int32) 2 4 (by decide) (by decide) (by decide); have q5 := rng32 i0; have q6 := (show (3 : Int32).toInt = 3 from rfl); have q7 := rng32 y0; have q8 := (show (-1 : Int32).toInt = -1 from rfl); have q9 := rng32 y1; have q10 := rng32 y2; omega)
          · refine px_iconst (v := (2 : Int32)) S96 at_127 rfl rfl ?_
            refine px_istore S96 at_128 rfl (L' := #[.val (.int i0), .val (.int i1), .val (.int i2), .val (.int i3), .val (.int i4), .val (.int (3 : Int32)), .val (.int y0), .val (.int y1), .val (.int y2), .val (.int y3), .val (.ref b91), .val (.int (2 : Int32)), .unset, .unset, .unset]) rfl ?_
            refine px_iload S96 at_130 rfl rfl ?_
            refine px_iconst (v := (3 : Int32)) S96 at_132 rfl rfl ?_
            refine px_icmp S96 at_133 (by decide) (pc' := 145) rfl rfl (fun (hc168 : (3 : Int32).toInt ≤ (3 : Int32).toInt) => ?_) (fun (hc168 : (3 : Int32).toInt > (3 : Int32).toInt) => by exfalso; revert hc168; decide)
            exact J98 _ (show ((2 : Int32).toInt = -1 ∧ y0.toInt = -1 ∧ y1.toInt = -1 ∧ y2.toInt = -1) ∨ ((2 : Int32).toInt = 0 ∧ ¬ y0.toInt = -1 ∧ y1.toInt = -1 ∧ y2.toInt = -1) ∨ ((2 : Int32).toInt = 1 ∧ ¬ y1.toInt = -1 ∧ y2.toInt = -1) ∨ ((2 : Int32).toInt = 2 ∧ ¬ y2.toInt = -1) from by have q0 := congrArg Int32.toInt h_v1; have q1 := (show (2 : Int32).toInt = 2 from rfl); have q2 := c_iadd (i0 &&& (3 : Int32)) (1 : Int32); have q3 := rng32 ((i0 &&& (3 : Int32)) + (1 : Int32)); have q4 := f_imask i0 (3 : Int32) 2 4 (by decide) (by decide) (by decide); have q5 := rng32 i0; have q6 := (show (3 : Int32).toInt = 3 from rfl); have q7 := (show (1 : Int32).toInt = 1 from rfl); have q8 := rng32 y0; have q9 := (show (-1 : Int32).toInt = -1 from rfl); have q10 := rng32 y1; have q11 := rng32 y2; omega)
      · refine px_iconst (v := (0 : Int32)) S96 at_97 rfl rfl ?_
        refine px_istore S96 at_98 rfl (L' := #[.val (.int i0), .val (.int i1), .val (.int i2), .val (.int i3), .val (.int i4), .val (.int (3 : Int32)), .val (.int y0), .val (.int y1), .val (.int y2), .val (.int y3), .val (.ref b91), .val (.int (0 : Int32)), .unset, .unset, .unset]) rfl ?_
        refine px_iload S96 at_100 rfl rfl ?_
        refine px_iconst (v := (1 : Int32)) S96 at_102 rfl rfl ?_
        refine px_icmp S96 at_103 (by decide) (pc' := 115) rfl rfl (fun (hc169 : (3 : Int32).toInt ≤ (1 : Int32).toInt) => by exfalso; revert hc169; decide) (fun (hc169 : (3 : Int32).toInt > (1 : Int32).toInt) => ?_)
        refine px_iload S96 at_106 rfl rfl ?_
        refine px_iconst (v := (-1 : Int32)) S96 at_108 rfl rfl ?_
        refine px_icmp S96 at_109 (by decide) (pc' := 115) rfl rfl (fun (hc170 : y1.toInt = (-1 : Int32).toInt) => ?_) (fun (hc170 : ¬ y1.toInt = (-1 : Int32).toInt) => ?_)
        · refine px_iload S96 at_115 rfl rfl ?_
          refine px_iconst (v := (2 : Int32)) S96 at_117 rfl rfl ?_
          refine px_icmp S96 at_118 (by decide) (pc' := 130) rfl rfl (fun (hc171 : (3 : Int32).toInt ≤ (2 : Int32).toInt) => by exfalso; revert hc171; decide) (fun (hc171 : (3 : Int32).toInt > (2 : Int32).toInt) => ?_)
          refine px_iload S96 at_121 rfl rfl ?_
          refine px_iconst (v := (-1 : Int32)) S96 at_123 rfl rfl ?_
          refine px_icmp S96 at_124 (by decide) (pc' := 130) rfl rfl (fun (hc172 : y2.toInt = (-1 : Int32).toInt) => ?_) (fun (hc172 : ¬ y2.toInt = (-1 : Int32).toInt) => ?_)
          · refine px_iload S96 at_130 rfl rfl ?_
            refine px_iconst (v := (3 : Int32)) S96 at_132 rfl rfl ?_
            refine px_icmp S96 at_133 (by decide) (pc' := 145) rfl rfl (fun (hc173 : (3 : Int32).toInt ≤ (3 : Int32).toInt) => ?_) (fun (hc173 : (3 : Int32).toInt > (3 : Int32).toInt) => by exfalso; revert hc173; decide)
            exact J98 _ (show ((0 : Int32).toInt = -1 ∧ y0.toInt = -1 ∧ y1.toInt = -1 ∧ y2.toInt = -1) ∨ ((0 : Int32).toInt = 0 ∧ ¬ y0.toInt = -1 ∧ y1.toInt = -1 ∧ y2.toInt = -1) ∨ ((0 : Int32).toInt = 1 ∧ ¬ y1.toInt = -1 ∧ y2.toInt = -1) ∨ ((0 : Int32).toInt = 2 ∧ ¬ y2.toInt = -1) from by have q0 := congrArg Int32.toInt h_v1; have q1 := (show (0 : Int32).toInt = 0 from rfl); have q2 := c_iadd (i0 &&& (3 : Int32)) (1 : Int32); have q3 := rng32 ((i0 &&& (3 : Int32)) + (1 : Int32)); have q4 := f_imask i0 (3 : Int32) 2 4 (by decide) (by decide) (by decide); have q5 := rng32 i0; have q6 := (show (3 : Int32).toInt = 3 from rfl); have q7 := (show (1 : Int32).toInt = 1 from rfl); have q8 := rng32 y0; have q9 := (show (-1 : Int32).toInt = -1 from rfl); have q10 := rng32 y1; have q11 := rng32 y2; omega)
          · refine px_iconst (v := (2 : Int32)) S96 at_127 rfl rfl ?_
            refine px_istore S96 at_128 rfl (L' := #[.val (.int i0), .val (.int i1), .val (.int i2), .val (.int i3), .val (.int i4), .val (.int (3 : Int32)), .val (.int y0), .val (.int y1), .val (.int y2), .val (.int y3), .val (.ref b91), .val (.int (2 : Int32)), .unset, .unset, .unset]) rfl ?_
            refine px_iload S96 at_130 rfl rfl ?_
            refine px_iconst (v := (3 : Int32)) S96 at_132 rfl rfl ?_
            refine px_icmp S96 at_133 (by decide) (pc' := 145) rfl rfl (fun (hc174 : (3 : Int32).toInt ≤ (3 : Int32).toInt) => ?_) (fun (hc174 : (3 : Int32).toInt > (3 : Int32).toInt) => by exfalso; revert hc174; decide)
            exact J98 _ (show ((2 : Int32).toInt = -1 ∧ y0.toInt = -1 ∧ y1.toInt = -1 ∧ y2.toInt = -1) ∨ ((2 : Int32).toInt = 0 ∧ ¬ y0.toInt = -1 ∧ y1.toInt = -1 ∧ y2.toInt = -1) ∨ ((2 : Int32).toInt = 1 ∧ ¬ y1.toInt = -1 ∧ y2.toInt = -1) ∨ ((2 : Int32).toInt = 2 ∧ ¬ y2.toInt = -1) from by have q0 := congrArg Int32.toInt h_v1; have q1 := (show (2 : Int32).toInt = 2 from rfl); have q2 := c_iadd (i0 &&& (3 : Int32)) (1 : Int32); have q3 := rng32 ((i0 &&& (3 : Int32)) + (1 : Int32)); have q4 := f_imask i0 (3 : Int32) 2 4 (by decide) (by decide) (by decide); have q5 := rng32 i0; have q6 := (show (3 : Int32).toInt = 3 from rfl); have q7 := (show (1 : Int32).toInt = 1 from rfl); have q8 := rng32 y0; have q9 := (show (-1 : Int32).toInt = -1 from rfl); have q10 := rng32 y1; have q11 := rng32 y2; omega)
        · refine px_iconst (v := (1 : Int32)) S96 at_112 rfl rfl ?_
          refine px_istore S96 at_113 rfl (L' := #[.val (.int i0), .val (.int i1), .val (.int i2), .val (.int i3), .val (.int i4), .val (.int (3 : Int32)), .val (.int y0), .val (.int y1), .val (.int y2), .val (.int y3), .val (.ref b91), .val (.int (1 : Int32)), .unset, .unset, .unset]) rfl ?_
          refine px_iload S96 at_115 rfl rfl ?_
          refine px_iconst (v := (2 : Int32)) S96 at_117 rfl rfl ?_
          refine px_icmp S96 at_118 (by decide) (pc' := 130) rfl rfl (fun (hc175 : (3 : Int32).toInt ≤ (2 : Int32).toInt) => by exfalso; revert hc175; decide) (fun (hc175 : (3 : Int32).toInt > (2 : Int32).toInt) => ?_)
          refine px_iload S96 at_121 rfl rfl ?_
          refine px_iconst (v := (-1 : Int32)) S96 at_123 rfl rfl ?_
          refine px_icmp S96 at_124 (by decide) (pc' := 130) rfl rfl (fun (hc176 : y2.toInt = (-1 : Int32).toInt) => ?_) (fun (hc176 : ¬ y2.toInt = (-1 : Int32).toInt) => ?_)
          · refine px_iload S96 at_130 rfl rfl ?_
            refine px_iconst (v := (3 : Int32)) S96 at_132 rfl rfl ?_
            refine px_icmp S96 at_133 (by decide) (pc' := 145) rfl rfl (fun (hc177 : (3 : Int32).toInt ≤ (3 : Int32).toInt) => ?_) (fun (hc177 : (3 : Int32).toInt > (3 : Int32).toInt) => by exfalso; revert hc177; decide)
            exact J98 _ (show ((1 : Int32).toInt = -1 ∧ y0.toInt = -1 ∧ y1.toInt = -1 ∧ y2.toInt = -1) ∨ ((1 : Int32).toInt = 0 ∧ ¬ y0.toInt = -1 ∧ y1.toInt = -1 ∧ y2.toInt = -1) ∨ ((1 : Int32).toInt = 1 ∧ ¬ y1.toInt = -1 ∧ y2.toInt = -1) ∨ ((1 : Int32).toInt = 2 ∧ ¬ y2.toInt = -1) from by have q0 := congrArg Int32.toInt h_v1; have q1 := (show (1 : Int32).toInt = 1 from rfl); have q2 := c_iadd (i0 &&& (3 : Int32)) (1 : Int32); have q3 := rng32 ((i0 &&& (3 : Int32)) + (1 : Int32)); have q4 := f_imask i0 (3 : Int32) 2 4 (by decide) (by decide) (by decide); have q5 := rng32 i0; have q6 := (show (3 : Int32).toInt = 3 from rfl); have q7 := rng32 y0; have q8 := (show (-1 : Int32).toInt = -1 from rfl); have q9 := rng32 y1; have q10 := rng32 y2; omega)
          · refine px_iconst (v := (2 : Int32)) S96 at_127 rfl rfl ?_
            refine px_istore S96 at_128 rfl (L' := #[.val (.int i0), .val (.int i1), .val (.int i2), .val (.int i3), .val (.int i4), .val (.int (3 : Int32)), .val (.int y0), .val (.int y1), .val (.int y2), .val (.int y3), .val (.ref b91), .val (.int (2 : Int32)), .unset, .unset, .unset]) rfl ?_
            refine px_iload S96 at_130 rfl rfl ?_
            refine px_iconst (v := (3 : Int32)) S96 at_132 rfl rfl ?_
            refine px_icmp S96 at_133 (by decide) (pc' := 145) rfl rfl (fun (hc178 : (3 : Int32).toInt ≤ (3 : Int32).toInt) => ?_) (fun (hc178 : (3 : Int32).toInt > (3 : Int32).toInt) => by exfalso; revert hc178; decide)
            exact J98 _ (show ((2 : Int32).toInt = -1 ∧ y0.toInt = -1 ∧ y1.toInt = -1 ∧ y2.toInt = -1) ∨ ((2 : Int32).toInt = 0 ∧ ¬ y0.toInt = -1 ∧ y1.toInt = -1 ∧ y2.toInt = -1) ∨ ((2 : Int32).toInt = 1 ∧ ¬ y1.toInt = -1 ∧ y2.toInt = -1) ∨ ((2 : Int32).toInt = 2 ∧ ¬ y2.toInt = -1) from by have q0 := congrArg Int32.toInt h_v1; have q1 := (show (2 : Int32).toInt = 2 from rfl); have q2 := c_iadd (i0 &&& (3 : Int32)) (1 : Int32); have q3 := rng32 ((i0 &&& (3 : Int32)) + (1 : Int32)); have q4 := f_imask i0 (3 : Int32) 2 4 (by decide) (by decide) (by decide); have q5 := rng32 i0; have q6 := (show (3 : Int32).toInt = 3 from rfl); have q7 := (show (1 : Int32).toInt = 1 from rfl); have q8 := rng32 y0; have q9 := (show (-1 : Int32).toInt = -1 from rfl); have q10 := rng32 y1; have q11 := rng32 y2; omega)
  · obtain rfl : v1 = (4 : Int32) := i32_of e6 rfl
    refine px_iload S5 at_40 rfl rfl ?_
    refine px_newarrE (aty := .byte) (ad := "[B") (cap := 4) S5 rfl (hw _ (List.mem_of_getElem? (i := 4) rfl)) rfl (n := 4) rfl (by decide) (by decide) (by decide) (by decide) at_42 rfl (fun T179 h179 b179 z179 g_b179 S179 E179 A_b179 X_b179 => ?_)
    refine px_astore S179 at_44 rfl rfl (L' := #[.val (.int i0), .val (.int i1), .val (.int i2), .val (.int i3), .val (.int i4), .val (.int (4 : Int32)), .val (.int y0), .val (.int y1), .val (.int y2), .val (.int y3), .val (.ref b179), .unset, .unset, .unset, .unset]) rfl ?_
    refine px_aload S179 at_46 rfl rfl rfl ?_
    refine px_iconst (v := (0 : Int32)) S179 at_48 rfl rfl ?_
    refine px_iload S179 at_49 rfl rfl ?_
    refine px_bastore (v := y0) S179 A_b179 g_b179 (i := 0) rfl (by decide) (nar_b p_y0) at_51 rfl (fun T180 h180 S180 W180 A_b179 => ?_)
    replace X_b179 := X_b179.wr W180
    refine px_iload S180 at_52 rfl rfl ?_
    refine px_iconst (v := (1 : Int32)) S180 at_54 rfl rfl ?_
    refine px_icmp S180 at_55 (by decide) (pc' := 64) rfl rfl (fun (hc181 : (4 : Int32).toInt ≤ (1 : Int32).toInt) => by exfalso; revert hc181; decide) (fun (hc181 : (4 : Int32).toInt > (1 : Int32).toInt) => ?_)
    refine px_aload S180 at_58 rfl rfl rfl ?_
    refine px_iconst (v := (1 : Int32)) S180 at_60 rfl rfl ?_
    refine px_iload S180 at_61 rfl rfl ?_
    refine px_bastore (v := y1) S180 A_b179 g_b179 (i := 1) rfl (by decide) (nar_b p_y1) at_63 rfl (fun T182 h182 S182 W182 A_b179 => ?_)
    replace X_b179 := X_b179.wr W182
    refine px_iload S182 at_64 rfl rfl ?_
    refine px_iconst (v := (2 : Int32)) S182 at_66 rfl rfl ?_
    refine px_icmp S182 at_67 (by decide) (pc' := 76) rfl rfl (fun (hc183 : (4 : Int32).toInt ≤ (2 : Int32).toInt) => by exfalso; revert hc183; decide) (fun (hc183 : (4 : Int32).toInt > (2 : Int32).toInt) => ?_)
    refine px_aload S182 at_70 rfl rfl rfl ?_
    refine px_iconst (v := (2 : Int32)) S182 at_72 rfl rfl ?_
    refine px_iload S182 at_73 rfl rfl ?_
    refine px_bastore (v := y2) S182 A_b179 g_b179 (i := 2) rfl (by decide) (nar_b p_y2) at_75 rfl (fun T184 h184 S184 W184 A_b179 => ?_)
    replace X_b179 := X_b179.wr W184
    refine px_iload S184 at_76 rfl rfl ?_
    refine px_iconst (v := (3 : Int32)) S184 at_78 rfl rfl ?_
    refine px_icmp S184 at_79 (by decide) (pc' := 88) rfl rfl (fun (hc185 : (4 : Int32).toInt ≤ (3 : Int32).toInt) => by exfalso; revert hc185; decide) (fun (hc185 : (4 : Int32).toInt > (3 : Int32).toInt) => ?_)
    refine px_aload S184 at_82 rfl rfl rfl ?_
    refine px_iconst (v := (3 : Int32)) S184 at_84 rfl rfl ?_
    refine px_iload S184 at_85 rfl rfl ?_
    refine px_bastore (v := y3) S184 A_b179 g_b179 (i := 3) rfl (by decide) (nar_b p_y3) at_87 rfl (fun T186 h186 S186 W186 A_b179 => ?_)
    replace X_b179 := X_b179.wr W186
    refine px_iconst (v := (-1 : Int32)) S186 at_88 rfl rfl ?_
    refine px_istore S186 at_89 rfl (L' := #[.val (.int i0), .val (.int i1), .val (.int i2), .val (.int i3), .val (.int i4), .val (.int (4 : Int32)), .val (.int y0), .val (.int y1), .val (.int y2), .val (.int y3), .val (.ref b179), .val (.int (-1 : Int32)), .unset, .unset, .unset]) rfl ?_
    refine Go.join (P := fun lst : Int32 => (lst.toInt = -1 ∧ y0.toInt = -1 ∧ y1.toInt = -1 ∧ y2.toInt = -1 ∧ y3.toInt = -1) ∨ (lst.toInt = 0 ∧ ¬ y0.toInt = -1 ∧ y1.toInt = -1 ∧ y2.toInt = -1 ∧ y3.toInt = -1) ∨ (lst.toInt = 1 ∧ ¬ y1.toInt = -1 ∧ y2.toInt = -1 ∧ y3.toInt = -1) ∨ (lst.toInt = 2 ∧ ¬ y2.toInt = -1 ∧ y3.toInt = -1) ∨ (lst.toInt = 3 ∧ ¬ y3.toInt = -1)) (pcj := 145) (Lj := fun lst => #[.val (.int i0), .val (.int i1), .val (.int i2), .val (.int i3), .val (.int i4), .val (.int (4 : Int32)), .val (.int y0), .val (.int y1), .val (.int y2), .val (.int y3), .val (.ref b179), .val (.int lst), .unset, .unset, .unset]) (stj := fun lst => []) (fun lst p_lst => ?_) (fun J187 => ?_)
    · show Go _ _ _ _ _ 145 #[.val (.int i0), .val (.int i1), .val (.int i2), .val (.int i3), .val (.int i4), .val (.int (4 : Int32)), .val (.int y0), .val (.int y1), .val (.int y2), .val (.int y3), .val (.ref b179), .val (.int lst), .unset, .unset, .unset] []
      rcases (show lst.toInt = -1 ∨ lst.toInt = 0 ∨ lst.toInt = 1 ∨ lst.toInt = 2 ∨ lst.toInt = 3 from by have q0 := rng32 lst; have q1 := rng32 y0; have q2 := rng32 y1; have q3 := rng32 y2; have q4 := rng32 y3; omega) with e188 | e188 | e188 | e188 | e188
      · obtain rfl : lst = (-1 : Int32) := i32_of e188 rfl
        refine px_iload S186 at_145 rfl rfl ?_
        refine px_if0 S186 at_147 (by decide) (pc' := 152) rfl rfl (fun (hc189 : (-1 : Int32).toInt ≥ 0) => by exfalso; revert hc189; decide) (fun (hc189 : (-1 : Int32).toInt < 0) => ?_)
        refine px_iconst (v := (1 : Int32)) S186 at_150 rfl rfl ?_
        exact px_retN (t := .boolean) (z' := (1 : Int32)) S186 at_151 rfl (by simp) rfl (by decide) (by decide) (rfl)
      · obtain rfl : lst = (0 : Int32) := i32_of e188 rfl
        refine px_iload S186 at_145 rfl rfl ?_
        refine px_if0 S186 at_147 (by decide) (pc' := 152) rfl rfl (fun (hc190 : (0 : Int32).toInt ≥ 0) => ?_) (fun (hc190 : (0 : Int32).toInt < 0) => by exfalso; revert hc190; decide)
        refine px_aload S186 at_152 rfl rfl rfl ?_
        have hm1 : y1.toInt = -1 := by have l0 : (0 : Int32).toInt = 0 := rfl; omega
        have hm2 : y2.toInt = -1 := by have l0 : (0 : Int32).toInt = 0 := rfl; omega
        have hm3 : y3.toInt = -1 := by have l0 : (0 : Int32).toInt = 0 := rfl; omega
        have hme : ¬ y0.toInt = -1 := by have l0 : (0 : Int32).toInt = 0 := rfl; omega
        refine px_callS (as' := [(.ref b179)]) (st := []) (W := 0) S186 (c_after (n := 4) (e := 0) (nl := (4 : Int32)) hw S186.size rfl (by decide) (by decide) hme (fun j h1 h2 => by have hj : j = 1 ∨ j = 2 ∨ j = 3 := (by omega); rcases hj with rfl | rfl | rfl <;> assumption) A_b179 X_b179) (hw _ (List.mem_of_getElem? (i := 5) rfl)) (hw _ (List.mem_of_getElem? (i := 6) rfl)) (hw _ (List.mem_of_getElem? (i := 7) rfl)) (hw _ (List.mem_of_getElem? (i := 8) rfl)) (by decide) pd_0_1 rfl rfl (by decide) rfl (by decide) (by decide) (by decide) at_154 rfl rfl (fun T191 h191 v191 S191 q191 => ?_)
        obtain ⟨br, rfl, g_br, sz_br, K191, A_br⟩ := q191
        replace A_b179 := A_b179.keep K191 nin0
        replace X_b179 := X_b179.keep K191
        show Go _ _ _ _ _ _ _ [(.ref br)]
        refine px_astore S191 at_157 rfl rfl (L' := #[.val (.int i0), .val (.int i1), .val (.int i2), .val (.int i3), .val (.int i4), .val (.int (4 : Int32)), .val (.int y0), .val (.int y1), .val (.int y2), .val (.int y3), .val (.ref b179), .val (.int (0 : Int32)), .val (.ref br), .unset, .unset]) rfl ?_
        refine px_aload S191 at_159 rfl rfl rfl ?_
        refine px_alenI (v := (4 : Int32)) S191 A_b179 rfl at_161 rfl ?_
        refine px_iload S191 at_162 rfl rfl ?_
        refine px_icmp S191 at_164 (by decide) (pc' := 225) rfl rfl (fun (hc192 : ¬ (4 : Int32).toInt = (4 : Int32).toInt) => absurd rfl hc192) (fun (hc192 : (4 : Int32).toInt = (4 : Int32).toInt) => ?_)
        refine px_aload S191 at_167 rfl rfl rfl ?_
        refine px_iconst (v := (0 : Int32)) S191 at_169 rfl rfl ?_
        refine px_baload (v := y0) S191 A_b179 (i := 0) rfl (by decide) rfl at_170 rfl ?_
        refine px_iload S191 at_171 rfl rfl ?_
        refine px_icmp S191 at_173 (by decide) (pc' := 225) rfl rfl (fun (hc193 : ¬ y0.toInt = y0.toInt) => absurd rfl hc193) (fun (hc193 : y0.toInt = y0.toInt) => ?_)
        refine px_iload S191 at_176 rfl rfl ?_
        refine px_iconst (v := (2 : Int32)) S191 at_178 rfl rfl ?_
        refine px_icmp S191 at_179 (by decide) (pc' := 191) rfl rfl (fun (hc194 : (4 : Int32).toInt < (2 : Int32).toInt) => by exfalso; revert hc194; decide) (fun (hc194 : (4 : Int32).toInt ≥ (2 : Int32).toInt) => ?_)
        refine px_aload S191 at_182 rfl rfl rfl ?_
        refine px_iconst (v := (1 : Int32)) S191 at_184 rfl rfl ?_
        refine px_baload (v := y1) S191 A_b179 (i := 1) rfl (by decide) rfl at_185 rfl ?_
        refine px_iload S191 at_186 rfl rfl ?_
        refine px_icmp S191 at_188 (by decide) (pc' := 225) rfl rfl (fun (hc195 : ¬ y1.toInt = y1.toInt) => absurd rfl hc195) (fun (hc195 : y1.toInt = y1.toInt) => ?_)
        refine px_iload S191 at_191 rfl rfl ?_
        refine px_iconst (v := (3 : Int32)) S191 at_193 rfl rfl ?_
        refine px_icmp S191 at_194 (by decide) (pc' := 206) rfl rfl (fun (hc196 : (4 : Int32).toInt < (3 : Int32).toInt) => by exfalso; revert hc196; decide) (fun (hc196 : (4 : Int32).toInt ≥ (3 : Int32).toInt) => ?_)
        refine px_aload S191 at_197 rfl rfl rfl ?_
        refine px_iconst (v := (2 : Int32)) S191 at_199 rfl rfl ?_
        refine px_baload (v := y2) S191 A_b179 (i := 2) rfl (by decide) rfl at_200 rfl ?_
        refine px_iload S191 at_201 rfl rfl ?_
        refine px_icmp S191 at_203 (by decide) (pc' := 225) rfl rfl (fun (hc197 : ¬ y2.toInt = y2.toInt) => absurd rfl hc197) (fun (hc197 : y2.toInt = y2.toInt) => ?_)
        refine px_iload S191 at_206 rfl rfl ?_
        refine px_iconst (v := (4 : Int32)) S191 at_208 rfl rfl ?_
        refine px_icmp S191 at_209 (by decide) (pc' := 221) rfl rfl (fun (hc198 : (4 : Int32).toInt < (4 : Int32).toInt) => by exfalso; revert hc198; decide) (fun (hc198 : (4 : Int32).toInt ≥ (4 : Int32).toInt) => ?_)
        refine px_aload S191 at_212 rfl rfl rfl ?_
        refine px_iconst (v := (3 : Int32)) S191 at_214 rfl rfl ?_
        refine px_baload (v := y3) S191 A_b179 (i := 3) rfl (by decide) rfl at_215 rfl ?_
        refine px_iload S191 at_216 rfl rfl ?_
        refine px_icmp S191 at_218 (by decide) (pc' := 225) rfl rfl (fun (hc199 : ¬ y3.toInt = y3.toInt) => absurd rfl hc199) (fun (hc199 : y3.toInt = y3.toInt) => ?_)
        refine px_iconst (v := (1 : Int32)) S191 at_221 rfl rfl ?_
        refine px_goto S191 at_222 (by decide) (pc' := 226) rfl ?_
        refine px_istore S191 at_226 rfl (L' := #[.val (.int i0), .val (.int i1), .val (.int i2), .val (.int i3), .val (.int i4), .val (.int (4 : Int32)), .val (.int y0), .val (.int y1), .val (.int y2), .val (.int y3), .val (.ref b179), .val (.int (0 : Int32)), .val (.ref br), .val (.int (1 : Int32)), .unset]) rfl ?_
        refine px_iload S191 at_228 rfl rfl ?_
        refine px_if0 S191 at_230 (by decide) (pc' := 235) rfl rfl (fun (hc200 : ¬ (1 : Int32).toInt = 0) => ?_) (fun (hc200 : (1 : Int32).toInt = 0) => by exfalso; revert hc200; decide)
        refine px_aload S191 at_235 rfl rfl rfl ?_
        refine px_ifnull S191 at_237 rfl ?_
        refine px_aload S191 at_240 rfl rfl rfl ?_
        refine px_alenI (v := (1 : Int32)) S191 A_br rfl at_242 rfl ?_
        refine px_iload S191 at_243 rfl rfl ?_
        refine px_iconst (v := (1 : Int32)) S191 at_245 rfl rfl ?_
        refine px_iadd S191 at_246 rfl ?_
        rw [show ((0 : Int32) + (1 : Int32)) = (1 : Int32) from by decide]
        refine px_icmp S191 at_247 (by decide) (pc' := 252) rfl rfl (fun (hc201 : (1 : Int32).toInt = (1 : Int32).toInt) => ?_) (fun (hc201 : ¬ (1 : Int32).toInt = (1 : Int32).toInt) => absurd rfl hc201)
        refine px_aload S191 at_252 rfl rfl rfl ?_
        refine px_iconst (v := (0 : Int32)) S191 at_254 rfl rfl ?_
        refine px_baload (v := (i2b (i2b (y0 + (1 : Int32))))) S191 A_br (i := 0) rfl (by decide) rfl at_255 rfl ?_
        refine px_iconst (v := (0 : Int32)) S191 at_256 rfl rfl ?_
        refine px_iload S191 at_257 rfl rfl ?_
        refine px_iload S191 at_259 rfl rfl ?_
        refine px_callS (as' := [(.int (0 : Int32)), (.int (0 : Int32)), (.int y0)]) (st := [(.int (i2b (i2b (y0 + (1 : Int32)))))]) (W := 1) S191 (c_exp hw S191.size) (hw _ (List.mem_of_getElem? (i := 22) rfl)) (hw _ (List.mem_of_getElem? (i := 23) rfl)) (hw _ (List.mem_of_getElem? (i := 2) rfl)) (hw _ (List.mem_of_getElem? (i := 24) rfl)) (by decide) pd_0_2 rfl rfl (by decide) rfl (by decide) (by decide) (by decide) at_261 rfl rfl (fun T202 h202 v202 S202 q202 => ?_)
        obtain ⟨rfl, q202⟩ := q202
        obtain rfl : v202 = some (.int (i2b (i2b (y0 + (1 : Int32))))) := q202.elim (fun q => absurd q.1 (by decide)) (fun q => q.2)
        show Go _ _ _ _ _ _ _ [(.int (i2b (i2b (y0 + (1 : Int32))))), (.int (i2b (i2b (y0 + (1 : Int32)))))]
        refine px_icmp S202 at_264 (by decide) (pc' := 271) rfl rfl (fun (hc203 : ¬ (i2b (i2b (y0 + (1 : Int32)))).toInt = (i2b (i2b (y0 + (1 : Int32)))).toInt) => absurd rfl hc203) (fun (hc203 : (i2b (i2b (y0 + (1 : Int32)))).toInt = (i2b (i2b (y0 + (1 : Int32)))).toInt) => ?_)
        refine px_iconst (v := (1 : Int32)) S202 at_267 rfl rfl ?_
        refine px_goto S202 at_268 (by decide) (pc' := 272) rfl ?_
        refine px_istore S202 at_272 rfl (L' := #[.val (.int i0), .val (.int i1), .val (.int i2), .val (.int i3), .val (.int i4), .val (.int (4 : Int32)), .val (.int y0), .val (.int y1), .val (.int y2), .val (.int y3), .val (.ref b179), .val (.int (0 : Int32)), .val (.ref br), .val (.int (1 : Int32)), .val (.int (1 : Int32))]) rfl ?_
        refine px_iload S202 at_274 rfl rfl ?_
        refine px_iconst (v := (1 : Int32)) S202 at_276 rfl rfl ?_
        refine px_icmp S202 at_277 (by decide) (pc' := 307) rfl rfl (fun (hc204 : (0 : Int32).toInt < (1 : Int32).toInt) => ?_) (fun (hc204 : (0 : Int32).toInt ≥ (1 : Int32).toInt) => by exfalso; revert hc204; decide)
        refine px_iload S202 at_307 rfl rfl ?_
        refine px_iconst (v := (2 : Int32)) S202 at_309 rfl rfl ?_
        refine px_icmp S202 at_310 (by decide) (pc' := 340) rfl rfl (fun (hc205 : (0 : Int32).toInt < (2 : Int32).toInt) => ?_) (fun (hc205 : (0 : Int32).toInt ≥ (2 : Int32).toInt) => by exfalso; revert hc205; decide)
        refine px_iload S202 at_340 rfl rfl ?_
        refine px_iconst (v := (3 : Int32)) S202 at_342 rfl rfl ?_
        refine px_icmp S202 at_343 (by decide) (pc' := 373) rfl rfl (fun (hc206 : (0 : Int32).toInt < (3 : Int32).toInt) => ?_) (fun (hc206 : (0 : Int32).toInt ≥ (3 : Int32).toInt) => by exfalso; revert hc206; decide)
        refine px_iload S202 at_373 rfl rfl ?_
        exact px_retN (t := .boolean) (z' := (1 : Int32)) S202 at_375 rfl (by simp) rfl (by decide) (by decide) (rfl)
      · obtain rfl : lst = (1 : Int32) := i32_of e188 rfl
        refine px_iload S186 at_145 rfl rfl ?_
        refine px_if0 S186 at_147 (by decide) (pc' := 152) rfl rfl (fun (hc207 : (1 : Int32).toInt ≥ 0) => ?_) (fun (hc207 : (1 : Int32).toInt < 0) => by exfalso; revert hc207; decide)
        refine px_aload S186 at_152 rfl rfl rfl ?_
        have hm2 : y2.toInt = -1 := by have l0 : (1 : Int32).toInt = 1 := rfl; omega
        have hm3 : y3.toInt = -1 := by have l0 : (1 : Int32).toInt = 1 := rfl; omega
        have hme : ¬ y1.toInt = -1 := by have l0 : (1 : Int32).toInt = 1 := rfl; omega
        refine px_callS (as' := [(.ref b179)]) (st := []) (W := 0) S186 (c_after (n := 4) (e := 1) (nl := (4 : Int32)) hw S186.size rfl (by decide) (by decide) hme (fun j h1 h2 => by have hj : j = 2 ∨ j = 3 := (by omega); rcases hj with rfl | rfl <;> assumption) A_b179 X_b179) (hw _ (List.mem_of_getElem? (i := 5) rfl)) (hw _ (List.mem_of_getElem? (i := 6) rfl)) (hw _ (List.mem_of_getElem? (i := 7) rfl)) (hw _ (List.mem_of_getElem? (i := 8) rfl)) (by decide) pd_0_1 rfl rfl (by decide) rfl (by decide) (by decide) (by decide) at_154 rfl rfl (fun T208 h208 v208 S208 q208 => ?_)
        obtain ⟨br, rfl, g_br, sz_br, K208, A_br⟩ := q208
        replace A_b179 := A_b179.keep K208 nin0
        replace X_b179 := X_b179.keep K208
        show Go _ _ _ _ _ _ _ [(.ref br)]
        refine px_astore S208 at_157 rfl rfl (L' := #[.val (.int i0), .val (.int i1), .val (.int i2), .val (.int i3), .val (.int i4), .val (.int (4 : Int32)), .val (.int y0), .val (.int y1), .val (.int y2), .val (.int y3), .val (.ref b179), .val (.int (1 : Int32)), .val (.ref br), .unset, .unset]) rfl ?_
        refine px_aload S208 at_159 rfl rfl rfl ?_
        refine px_alenI (v := (4 : Int32)) S208 A_b179 rfl at_161 rfl ?_
        refine px_iload S208 at_162 rfl rfl ?_
        refine px_icmp S208 at_164 (by decide) (pc' := 225) rfl rfl (fun (hc209 : ¬ (4 : Int32).toInt = (4 : Int32).toInt) => absurd rfl hc209) (fun (hc209 : (4 : Int32).toInt = (4 : Int32).toInt) => ?_)
        refine px_aload S208 at_167 rfl rfl rfl ?_
        refine px_iconst (v := (0 : Int32)) S208 at_169 rfl rfl ?_
        refine px_baload (v := y0) S208 A_b179 (i := 0) rfl (by decide) rfl at_170 rfl ?_
        refine px_iload S208 at_171 rfl rfl ?_
        refine px_icmp S208 at_173 (by decide) (pc' := 225) rfl rfl (fun (hc210 : ¬ y0.toInt = y0.toInt) => absurd rfl hc210) (fun (hc210 : y0.toInt = y0.toInt) => ?_)
        refine px_iload S208 at_176 rfl rfl ?_
        refine px_iconst (v := (2 : Int32)) S208 at_178 rfl rfl ?_
        refine px_icmp S208 at_179 (by decide) (pc' := 191) rfl rfl (fun (hc211 : (4 : Int32).toInt < (2 : Int32).toInt) => by exfalso; revert hc211; decide) (fun (hc211 : (4 : Int32).toInt ≥ (2 : Int32).toInt) => ?_)
        refine px_aload S208 at_182 rfl rfl rfl ?_
        refine px_iconst (v := (1 : Int32)) S208 at_184 rfl rfl ?_
        refine px_baload (v := y1) S208 A_b179 (i := 1) rfl (by decide) rfl at_185 rfl ?_
        refine px_iload S208 at_186 rfl rfl ?_
        refine px_icmp S208 at_188 (by decide) (pc' := 225) rfl rfl (fun (hc212 : ¬ y1.toInt = y1.toInt) => absurd rfl hc212) (fun (hc212 : y1.toInt = y1.toInt) => ?_)
        refine px_iload S208 at_191 rfl rfl ?_
        refine px_iconst (v := (3 : Int32)) S208 at_193 rfl rfl ?_
        refine px_icmp S208 at_194 (by decide) (pc' := 206) rfl rfl (fun (hc213 : (4 : Int32).toInt < (3 : Int32).toInt) => by exfalso; revert hc213; decide) (fun (hc213 : (4 : Int32).toInt ≥ (3 : Int32).toInt) => ?_)
        refine px_aload S208 at_197 rfl rfl rfl ?_
        refine px_iconst (v := (2 : Int32)) S208 at_199 rfl rfl ?_
        refine px_baload (v := y2) S208 A_b179 (i := 2) rfl (by decide) rfl at_200 rfl ?_
        refine px_iload S208 at_201 rfl rfl ?_
        refine px_icmp S208 at_203 (by decide) (pc' := 225) rfl rfl (fun (hc214 : ¬ y2.toInt = y2.toInt) => absurd rfl hc214) (fun (hc214 : y2.toInt = y2.toInt) => ?_)
        refine px_iload S208 at_206 rfl rfl ?_
        refine px_iconst (v := (4 : Int32)) S208 at_208 rfl rfl ?_
        refine px_icmp S208 at_209 (by decide) (pc' := 221) rfl rfl (fun (hc215 : (4 : Int32).toInt < (4 : Int32).toInt) => by exfalso; revert hc215; decide) (fun (hc215 : (4 : Int32).toInt ≥ (4 : Int32).toInt) => ?_)
        refine px_aload S208 at_212 rfl rfl rfl ?_
        refine px_iconst (v := (3 : Int32)) S208 at_214 rfl rfl ?_
        refine px_baload (v := y3) S208 A_b179 (i := 3) rfl (by decide) rfl at_215 rfl ?_
        refine px_iload S208 at_216 rfl rfl ?_
        refine px_icmp S208 at_218 (by decide) (pc' := 225) rfl rfl (fun (hc216 : ¬ y3.toInt = y3.toInt) => absurd rfl hc216) (fun (hc216 : y3.toInt = y3.toInt) => ?_)
        refine px_iconst (v := (1 : Int32)) S208 at_221 rfl rfl ?_
        refine px_goto S208 at_222 (by decide) (pc' := 226) rfl ?_
        refine px_istore S208 at_226 rfl (L' := #[.val (.int i0), .val (.int i1), .val (.int i2), .val (.int i3), .val (.int i4), .val (.int (4 : Int32)), .val (.int y0), .val (.int y1), .val (.int y2), .val (.int y3), .val (.ref b179), .val (.int (1 : Int32)), .val (.ref br), .val (.int (1 : Int32)), .unset]) rfl ?_
        refine px_iload S208 at_228 rfl rfl ?_
        refine px_if0 S208 at_230 (by decide) (pc' := 235) rfl rfl (fun (hc217 : ¬ (1 : Int32).toInt = 0) => ?_) (fun (hc217 : (1 : Int32).toInt = 0) => by exfalso; revert hc217; decide)
        refine px_aload S208 at_235 rfl rfl rfl ?_
        refine px_ifnull S208 at_237 rfl ?_
        refine px_aload S208 at_240 rfl rfl rfl ?_
        refine px_alenI (v := (2 : Int32)) S208 A_br rfl at_242 rfl ?_
        refine px_iload S208 at_243 rfl rfl ?_
        refine px_iconst (v := (1 : Int32)) S208 at_245 rfl rfl ?_
        refine px_iadd S208 at_246 rfl ?_
        rw [show ((1 : Int32) + (1 : Int32)) = (2 : Int32) from by decide]
        refine px_icmp S208 at_247 (by decide) (pc' := 252) rfl rfl (fun (hc218 : (2 : Int32).toInt = (2 : Int32).toInt) => ?_) (fun (hc218 : ¬ (2 : Int32).toInt = (2 : Int32).toInt) => absurd rfl hc218)
        refine px_aload S208 at_252 rfl rfl rfl ?_
        refine px_iconst (v := (0 : Int32)) S208 at_254 rfl rfl ?_
        refine px_baload (v := y0) S208 A_br (i := 0) rfl (by decide) rfl at_255 rfl ?_
        refine px_iconst (v := (0 : Int32)) S208 at_256 rfl rfl ?_
        refine px_iload S208 at_257 rfl rfl ?_
        refine px_iload S208 at_259 rfl rfl ?_
        refine px_callS (as' := [(.int (0 : Int32)), (.int (1 : Int32)), (.int y0)]) (st := [(.int y0)]) (W := 1) S208 (c_exp hw S208.size) (hw _ (List.mem_of_getElem? (i := 22) rfl)) (hw _ (List.mem_of_getElem? (i := 23) rfl)) (hw _ (List.mem_of_getElem? (i := 2) rfl)) (hw _ (List.mem_of_getElem? (i := 24) rfl)) (by decide) pd_0_2 rfl rfl (by decide) rfl (by decide) (by decide) (by decide) at_261 rfl rfl (fun T219 h219 v219 S219 q219 => ?_)
        obtain ⟨rfl, q219⟩ := q219
        obtain rfl : v219 = some (.int (i2b y0)) := q219.elim (fun q => q.2) (fun q => absurd q.1 (by decide))
        show Go _ _ _ _ _ _ _ [(.int (i2b y0)), (.int y0)]
        refine px_icmp S219 at_264 (by decide) (pc' := 271) rfl rfl (fun (hc220 : ¬ y0.toInt = (i2b y0).toInt) => by exfalso; have q0 := rng32 y0; have q1 := f_i2b y0; have q2 := rng32 y1; have q3 := rng32 y2; have q4 := rng32 y3; have q5 := (show (1 : Int32).toInt = 1 from rfl); omega) (fun (hc220 : y0.toInt = (i2b y0).toInt) => ?_)
        refine px_iconst (v := (1 : Int32)) S219 at_267 rfl rfl ?_
        refine px_goto S219 at_268 (by decide) (pc' := 272) rfl ?_
        refine px_istore S219 at_272 rfl (L' := #[.val (.int i0), .val (.int i1), .val (.int i2), .val (.int i3), .val (.int i4), .val (.int (4 : Int32)), .val (.int y0), .val (.int y1), .val (.int y2), .val (.int y3), .val (.ref b179), .val (.int (1 : Int32)), .val (.ref br), .val (.int (1 : Int32)), .val (.int (1 : Int32))]) rfl ?_
        refine px_iload S219 at_274 rfl rfl ?_
        refine px_iconst (v := (1 : Int32)) S219 at_276 rfl rfl ?_
        refine px_icmp S219 at_277 (by decide) (pc' := 307) rfl rfl (fun (hc221 : (1 : Int32).toInt < (1 : Int32).toInt) => by exfalso; revert hc221; decide) (fun (hc221 : (1 : Int32).toInt ≥ (1 : Int32).toInt) => ?_)
        refine px_iload S219 at_280 rfl rfl ?_
        refine px_if0 S219 at_282 (by decide) (pc' := 304) rfl rfl (fun (hc222 : (1 : Int32).toInt = 0) => by exfalso; revert hc222; decide) (fun (hc222 : ¬ (1 : Int32).toInt = 0) => ?_)
        refine px_aload S219 at_285 rfl rfl rfl ?_
        refine px_iconst (v := (1 : Int32)) S219 at_287 rfl rfl ?_
        refine px_baload (v := (i2b (i2b (y1 + (1 : Int32))))) S219 A_br (i := 1) rfl (by decide) rfl at_288 rfl ?_
        refine px_iconst (v := (1 : Int32)) S219 at_289 rfl rfl ?_
        refine px_iload S219 at_290 rfl rfl ?_
        refine px_iload S219 at_292 rfl rfl ?_
        refine px_callS (as' := [(.int (1 : Int32)), (.int (1 : Int32)), (.int y1)]) (st := [(.int (i2b (i2b (y1 + (1 : Int32)))))]) (W := 1) S219 (c_exp hw S219.size) (hw _ (List.mem_of_getElem? (i := 22) rfl)) (hw _ (List.mem_of_getElem? (i := 23) rfl)) (hw _ (List.mem_of_getElem? (i := 2) rfl)) (hw _ (List.mem_of_getElem? (i := 24) rfl)) (by decide) pd_0_2 rfl rfl (by decide) rfl (by decide) (by decide) (by decide) at_294 rfl rfl (fun T223 h223 v223 S223 q223 => ?_)
        obtain ⟨rfl, q223⟩ := q223
        obtain rfl : v223 = some (.int (i2b (i2b (y1 + (1 : Int32))))) := q223.elim (fun q => absurd q.1 (by decide)) (fun q => q.2)
        show Go _ _ _ _ _ _ _ [(.int (i2b (i2b (y1 + (1 : Int32))))), (.int (i2b (i2b (y1 + (1 : Int32)))))]
        refine px_icmp S223 at_297 (by decide) (pc' := 304) rfl rfl (fun (hc224 : ¬ (i2b (i2b (y1 + (1 : Int32)))).toInt = (i2b (i2b (y1 + (1 : Int32)))).toInt) => absurd rfl hc224) (fun (hc224 : (i2b (i2b (y1 + (1 : Int32)))).toInt = (i2b (i2b (y1 + (1 : Int32)))).toInt) => ?_)
        refine px_iconst (v := (1 : Int32)) S223 at_300 rfl rfl ?_
        refine px_goto S223 at_301 (by decide) (pc' := 305) rfl ?_
        refine px_istore S223 at_305 rfl (L' := #[.val (.int i0), .val (.int i1), .val (.int i2), .val (.int i3), .val (.int i4), .val (.int (4 : Int32)), .val (.int y0), .val (.int y1), .val (.int y2), .val (.int y3), .val (.ref b179), .val (.int (1 : Int32)), .val (.ref br), .val (.int (1 : Int32)), .val (.int (1 : Int32))]) rfl ?_
        refine px_iload S223 at_307 rfl rfl ?_
        refine px_iconst (v := (2 : Int32)) S223 at_309 rfl rfl ?_
        refine px_icmp S223 at_310 (by decide) (pc' := 340) rfl rfl (fun (hc225 : (1 : Int32).toInt < (2 : Int32).toInt) => ?_) (fun (hc225 : (1 : Int32).toInt ≥ (2 : Int32).toInt) => by exfalso; revert hc225; decide)
        refine px_iload S223 at_340 rfl rfl ?_
        refine px_iconst (v := (3 : Int32)) S223 at_342 rfl rfl ?_
        refine px_icmp S223 at_343 (by decide) (pc' := 373) rfl rfl (fun (hc226 : (1 : Int32).toInt < (3 : Int32).toInt) => ?_) (fun (hc226 : (1 : Int32).toInt ≥ (3 : Int32).toInt) => by exfalso; revert hc226; decide)
        refine px_iload S223 at_373 rfl rfl ?_
        exact px_retN (t := .boolean) (z' := (1 : Int32)) S223 at_375 rfl (by simp) rfl (by decide) (by decide) (rfl)
      · obtain rfl : lst = (2 : Int32) := i32_of e188 rfl
        refine px_iload S186 at_145 rfl rfl ?_
        refine px_if0 S186 at_147 (by decide) (pc' := 152) rfl rfl (fun (hc227 : (2 : Int32).toInt ≥ 0) => ?_) (fun (hc227 : (2 : Int32).toInt < 0) => by exfalso; revert hc227; decide)
        refine px_aload S186 at_152 rfl rfl rfl ?_
        have hm3 : y3.toInt = -1 := by have l0 : (2 : Int32).toInt = 2 := rfl; omega
        have hme : ¬ y2.toInt = -1 := by have l0 : (2 : Int32).toInt = 2 := rfl; omega
        refine px_callS (as' := [(.ref b179)]) (st := []) (W := 0) S186 (c_after (n := 4) (e := 2) (nl := (4 : Int32)) hw S186.size rfl (by decide) (by decide) hme (fun j h1 h2 => by have hj : j = 3 := (by omega); rcases hj with rfl <;> assumption) A_b179 X_b179) (hw _ (List.mem_of_getElem? (i := 5) rfl)) (hw _ (List.mem_of_getElem? (i := 6) rfl)) (hw _ (List.mem_of_getElem? (i := 7) rfl)) (hw _ (List.mem_of_getElem? (i := 8) rfl)) (by decide) pd_0_1 rfl rfl (by decide) rfl (by decide) (by decide) (by decide) at_154 rfl rfl (fun T228 h228 v228 S228 q228 => ?_)
        obtain ⟨br, rfl, g_br, sz_br, K228, A_br⟩ := q228
        replace A_b179 := A_b179.keep K228 nin0
        replace X_b179 := X_b179.keep K228
        show Go _ _ _ _ _ _ _ [(.ref br)]
        refine px_astore S228 at_157 rfl rfl (L' := #[.val (.int i0), .val (.int i1), .val (.int i2), .val (.int i3), .val (.int i4), .val (.int (4 : Int32)), .val (.int y0), .val (.int y1), .val (.int y2), .val (.int y3), .val (.ref b179), .val (.int (2 : Int32)), .val (.ref br), .unset, .unset]) rfl ?_
        refine px_aload S228 at_159 rfl rfl rfl ?_
        refine px_alenI (v := (4 : Int32)) S228 A_b179 rfl at_161 rfl ?_
        refine px_iload S228 at_162 rfl rfl ?_
        refine px_icmp S228 at_164 (by decide) (pc' := 225) rfl rfl (fun (hc229 : ¬ (4 : Int32).toInt = (4 : Int32).toInt) => absurd rfl hc229) (fun (hc229 : (4 : Int32).toInt = (4 : Int32).toInt) => ?_)
        refine px_aload S228 at_167 rfl rfl rfl ?_
        refine px_iconst (v := (0 : Int32)) S228 at_169 rfl rfl ?_
        refine px_baload (v := y0) S228 A_b179 (i := 0) rfl (by decide) rfl at_170 rfl ?_
        refine px_iload S228 at_171 rfl rfl ?_
        refine px_icmp S228 at_173 (by decide) (pc' := 225) rfl rfl (fun (hc230 : ¬ y0.toInt = y0.toInt) => absurd rfl hc230) (fun (hc230 : y0.toInt = y0.toInt) => ?_)
        refine px_iload S228 at_176 rfl rfl ?_
        refine px_iconst (v := (2 : Int32)) S228 at_178 rfl rfl ?_
        refine px_icmp S228 at_179 (by decide) (pc' := 191) rfl rfl (fun (hc231 : (4 : Int32).toInt < (2 : Int32).toInt) => by exfalso; revert hc231; decide) (fun (hc231 : (4 : Int32).toInt ≥ (2 : Int32).toInt) => ?_)
        refine px_aload S228 at_182 rfl rfl rfl ?_
        refine px_iconst (v := (1 : Int32)) S228 at_184 rfl rfl ?_
        refine px_baload (v := y1) S228 A_b179 (i := 1) rfl (by decide) rfl at_185 rfl ?_
        refine px_iload S228 at_186 rfl rfl ?_
        refine px_icmp S228 at_188 (by decide) (pc' := 225) rfl rfl (fun (hc232 : ¬ y1.toInt = y1.toInt) => absurd rfl hc232) (fun (hc232 : y1.toInt = y1.toInt) => ?_)
        refine px_iload S228 at_191 rfl rfl ?_
        refine px_iconst (v := (3 : Int32)) S228 at_193 rfl rfl ?_
        refine px_icmp S228 at_194 (by decide) (pc' := 206) rfl rfl (fun (hc233 : (4 : Int32).toInt < (3 : Int32).toInt) => by exfalso; revert hc233; decide) (fun (hc233 : (4 : Int32).toInt ≥ (3 : Int32).toInt) => ?_)
        refine px_aload S228 at_197 rfl rfl rfl ?_
        refine px_iconst (v := (2 : Int32)) S228 at_199 rfl rfl ?_
        refine px_baload (v := y2) S228 A_b179 (i := 2) rfl (by decide) rfl at_200 rfl ?_
        refine px_iload S228 at_201 rfl rfl ?_
        refine px_icmp S228 at_203 (by decide) (pc' := 225) rfl rfl (fun (hc234 : ¬ y2.toInt = y2.toInt) => absurd rfl hc234) (fun (hc234 : y2.toInt = y2.toInt) => ?_)
        refine px_iload S228 at_206 rfl rfl ?_
        refine px_iconst (v := (4 : Int32)) S228 at_208 rfl rfl ?_
        refine px_icmp S228 at_209 (by decide) (pc' := 221) rfl rfl (fun (hc235 : (4 : Int32).toInt < (4 : Int32).toInt) => by exfalso; revert hc235; decide) (fun (hc235 : (4 : Int32).toInt ≥ (4 : Int32).toInt) => ?_)
        refine px_aload S228 at_212 rfl rfl rfl ?_
        refine px_iconst (v := (3 : Int32)) S228 at_214 rfl rfl ?_
        refine px_baload (v := y3) S228 A_b179 (i := 3) rfl (by decide) rfl at_215 rfl ?_
        refine px_iload S228 at_216 rfl rfl ?_
        refine px_icmp S228 at_218 (by decide) (pc' := 225) rfl rfl (fun (hc236 : ¬ y3.toInt = y3.toInt) => absurd rfl hc236) (fun (hc236 : y3.toInt = y3.toInt) => ?_)
        refine px_iconst (v := (1 : Int32)) S228 at_221 rfl rfl ?_
        refine px_goto S228 at_222 (by decide) (pc' := 226) rfl ?_
        refine px_istore S228 at_226 rfl (L' := #[.val (.int i0), .val (.int i1), .val (.int i2), .val (.int i3), .val (.int i4), .val (.int (4 : Int32)), .val (.int y0), .val (.int y1), .val (.int y2), .val (.int y3), .val (.ref b179), .val (.int (2 : Int32)), .val (.ref br), .val (.int (1 : Int32)), .unset]) rfl ?_
        refine px_iload S228 at_228 rfl rfl ?_
        refine px_if0 S228 at_230 (by decide) (pc' := 235) rfl rfl (fun (hc237 : ¬ (1 : Int32).toInt = 0) => ?_) (fun (hc237 : (1 : Int32).toInt = 0) => by exfalso; revert hc237; decide)
        refine px_aload S228 at_235 rfl rfl rfl ?_
        refine px_ifnull S228 at_237 rfl ?_
        refine px_aload S228 at_240 rfl rfl rfl ?_
        refine px_alenI (v := (3 : Int32)) S228 A_br rfl at_242 rfl ?_
        refine px_iload S228 at_243 rfl rfl ?_
        refine px_iconst (v := (1 : Int32)) S228 at_245 rfl rfl ?_
        refine px_iadd S228 at_246 rfl ?_
        rw [show ((2 : Int32) + (1 : Int32)) = (3 : Int32) from by decide]
        refine px_icmp S228 at_247 (by decide) (pc' := 252) rfl rfl (fun (hc238 : (3 : Int32).toInt = (3 : Int32).toInt) => ?_) (fun (hc238 : ¬ (3 : Int32).toInt = (3 : Int32).toInt) => absurd rfl hc238)
        refine px_aload S228 at_252 rfl rfl rfl ?_
        refine px_iconst (v := (0 : Int32)) S228 at_254 rfl rfl ?_
        refine px_baload (v := y0) S228 A_br (i := 0) rfl (by decide) rfl at_255 rfl ?_
        refine px_iconst (v := (0 : Int32)) S228 at_256 rfl rfl ?_
        refine px_iload S228 at_257 rfl rfl ?_
        refine px_iload S228 at_259 rfl rfl ?_
        refine px_callS (as' := [(.int (0 : Int32)), (.int (2 : Int32)), (.int y0)]) (st := [(.int y0)]) (W := 1) S228 (c_exp hw S228.size) (hw _ (List.mem_of_getElem? (i := 22) rfl)) (hw _ (List.mem_of_getElem? (i := 23) rfl)) (hw _ (List.mem_of_getElem? (i := 2) rfl)) (hw _ (List.mem_of_getElem? (i := 24) rfl)) (by decide) pd_0_2 rfl rfl (by decide) rfl (by decide) (by decide) (by decide) at_261 rfl rfl (fun T239 h239 v239 S239 q239 => ?_)
        obtain ⟨rfl, q239⟩ := q239
        obtain rfl : v239 = some (.int (i2b y0)) := q239.elim (fun q => q.2) (fun q => absurd q.1 (by decide))
        show Go _ _ _ _ _ _ _ [(.int (i2b y0)), (.int y0)]
        refine px_icmp S239 at_264 (by decide) (pc' := 271) rfl rfl (fun (hc240 : ¬ y0.toInt = (i2b y0).toInt) => by exfalso; have q0 := rng32 y0; have q1 := f_i2b y0; have q2 := rng32 y1; have q3 := rng32 y2; have q4 := rng32 y3; have q5 := (show (2 : Int32).toInt = 2 from rfl); omega) (fun (hc240 : y0.toInt = (i2b y0).toInt) => ?_)
        refine px_iconst (v := (1 : Int32)) S239 at_267 rfl rfl ?_
        refine px_goto S239 at_268 (by decide) (pc' := 272) rfl ?_
        refine px_istore S239 at_272 rfl (L' := #[.val (.int i0), .val (.int i1), .val (.int i2), .val (.int i3), .val (.int i4), .val (.int (4 : Int32)), .val (.int y0), .val (.int y1), .val (.int y2), .val (.int y3), .val (.ref b179), .val (.int (2 : Int32)), .val (.ref br), .val (.int (1 : Int32)), .val (.int (1 : Int32))]) rfl ?_
        refine px_iload S239 at_274 rfl rfl ?_
        refine px_iconst (v := (1 : Int32)) S239 at_276 rfl rfl ?_
        refine px_icmp S239 at_277 (by decide) (pc' := 307) rfl rfl (fun (hc241 : (2 : Int32).toInt < (1 : Int32).toInt) => by exfalso; revert hc241; decide) (fun (hc241 : (2 : Int32).toInt ≥ (1 : Int32).toInt) => ?_)
        refine px_iload S239 at_280 rfl rfl ?_
        refine px_if0 S239 at_282 (by decide) (pc' := 304) rfl rfl (fun (hc242 : (1 : Int32).toInt = 0) => by exfalso; revert hc242; decide) (fun (hc242 : ¬ (1 : Int32).toInt = 0) => ?_)
        refine px_aload S239 at_285 rfl rfl rfl ?_
        refine px_iconst (v := (1 : Int32)) S239 at_287 rfl rfl ?_
        refine px_baload (v := y1) S239 A_br (i := 1) rfl (by decide) rfl at_288 rfl ?_
        refine px_iconst (v := (1 : Int32)) S239 at_289 rfl rfl ?_
        refine px_iload S239 at_290 rfl rfl ?_
        refine px_iload S239 at_292 rfl rfl ?_
        refine px_callS (as' := [(.int (1 : Int32)), (.int (2 : Int32)), (.int y1)]) (st := [(.int y1)]) (W := 1) S239 (c_exp hw S239.size) (hw _ (List.mem_of_getElem? (i := 22) rfl)) (hw _ (List.mem_of_getElem? (i := 23) rfl)) (hw _ (List.mem_of_getElem? (i := 2) rfl)) (hw _ (List.mem_of_getElem? (i := 24) rfl)) (by decide) pd_0_2 rfl rfl (by decide) rfl (by decide) (by decide) (by decide) at_294 rfl rfl (fun T243 h243 v243 S243 q243 => ?_)
        obtain ⟨rfl, q243⟩ := q243
        obtain rfl : v243 = some (.int (i2b y1)) := q243.elim (fun q => q.2) (fun q => absurd q.1 (by decide))
        show Go _ _ _ _ _ _ _ [(.int (i2b y1)), (.int y1)]
        refine px_icmp S243 at_297 (by decide) (pc' := 304) rfl rfl (fun (hc244 : ¬ y1.toInt = (i2b y1).toInt) => by exfalso; have q0 := rng32 y1; have q1 := f_i2b y1; have q2 := rng32 y0; have q3 := rng32 y2; have q4 := rng32 y3; have q5 := (show (2 : Int32).toInt = 2 from rfl); have q6 := f_i2b y0; omega) (fun (hc244 : y1.toInt = (i2b y1).toInt) => ?_)
        refine px_iconst (v := (1 : Int32)) S243 at_300 rfl rfl ?_
        refine px_goto S243 at_301 (by decide) (pc' := 305) rfl ?_
        refine px_istore S243 at_305 rfl (L' := #[.val (.int i0), .val (.int i1), .val (.int i2), .val (.int i3), .val (.int i4), .val (.int (4 : Int32)), .val (.int y0), .val (.int y1), .val (.int y2), .val (.int y3), .val (.ref b179), .val (.int (2 : Int32)), .val (.ref br), .val (.int (1 : Int32)), .val (.int (1 : Int32))]) rfl ?_
        refine px_iload S243 at_307 rfl rfl ?_
        refine px_iconst (v := (2 : Int32)) S243 at_309 rfl rfl ?_
        refine px_icmp S243 at_310 (by decide) (pc' := 340) rfl rfl (fun (hc245 : (2 : Int32).toInt < (2 : Int32).toInt) => by exfalso; revert hc245; decide) (fun (hc245 : (2 : Int32).toInt ≥ (2 : Int32).toInt) => ?_)
        refine px_iload S243 at_313 rfl rfl ?_
        refine px_if0 S243 at_315 (by decide) (pc' := 337) rfl rfl (fun (hc246 : (1 : Int32).toInt = 0) => by exfalso; revert hc246; decide) (fun (hc246 : ¬ (1 : Int32).toInt = 0) => ?_)
        refine px_aload S243 at_318 rfl rfl rfl ?_
        refine px_iconst (v := (2 : Int32)) S243 at_320 rfl rfl ?_
        refine px_baload (v := (i2b (i2b (y2 + (1 : Int32))))) S243 A_br (i := 2) rfl (by decide) rfl at_321 rfl ?_
        refine px_iconst (v := (2 : Int32)) S243 at_322 rfl rfl ?_
        refine px_iload S243 at_323 rfl rfl ?_
        refine px_iload S243 at_325 rfl rfl ?_
        refine px_callS (as' := [(.int (2 : Int32)), (.int (2 : Int32)), (.int y2)]) (st := [(.int (i2b (i2b (y2 + (1 : Int32)))))]) (W := 1) S243 (c_exp hw S243.size) (hw _ (List.mem_of_getElem? (i := 22) rfl)) (hw _ (List.mem_of_getElem? (i := 23) rfl)) (hw _ (List.mem_of_getElem? (i := 2) rfl)) (hw _ (List.mem_of_getElem? (i := 24) rfl)) (by decide) pd_0_2 rfl rfl (by decide) rfl (by decide) (by decide) (by decide) at_327 rfl rfl (fun T247 h247 v247 S247 q247 => ?_)
        obtain ⟨rfl, q247⟩ := q247
        obtain rfl : v247 = some (.int (i2b (i2b (y2 + (1 : Int32))))) := q247.elim (fun q => absurd q.1 (by decide)) (fun q => q.2)
        show Go _ _ _ _ _ _ _ [(.int (i2b (i2b (y2 + (1 : Int32))))), (.int (i2b (i2b (y2 + (1 : Int32)))))]
        refine px_icmp S247 at_330 (by decide) (pc' := 337) rfl rfl (fun (hc248 : ¬ (i2b (i2b (y2 + (1 : Int32)))).toInt = (i2b (i2b (y2 + (1 : Int32)))).toInt) => absurd rfl hc248) (fun (hc248 : (i2b (i2b (y2 + (1 : Int32)))).toInt = (i2b (i2b (y2 + (1 : Int32)))).toInt) => ?_)
        refine px_iconst (v := (1 : Int32)) S247 at_333 rfl rfl ?_
        refine px_goto S247 at_334 (by decide) (pc' := 338) rfl ?_
        refine px_istore S247 at_338 rfl (L' := #[.val (.int i0), .val (.int i1), .val (.int i2), .val (.int i3), .val (.int i4), .val (.int (4 : Int32)), .val (.int y0), .val (.int y1), .val (.int y2), .val (.int y3), .val (.ref b179), .val (.int (2 : Int32)), .val (.ref br), .val (.int (1 : Int32)), .val (.int (1 : Int32))]) rfl ?_
        refine px_iload S247 at_340 rfl rfl ?_
        refine px_iconst (v := (3 : Int32)) S247 at_342 rfl rfl ?_
        refine px_icmp S247 at_343 (by decide) (pc' := 373) rfl rfl (fun (hc249 : (2 : Int32).toInt < (3 : Int32).toInt) => ?_) (fun (hc249 : (2 : Int32).toInt ≥ (3 : Int32).toInt) => by exfalso; revert hc249; decide)
        refine px_iload S247 at_373 rfl rfl ?_
        exact px_retN (t := .boolean) (z' := (1 : Int32)) S247 at_375 rfl (by simp) rfl (by decide) (by decide) (rfl)
      · obtain rfl : lst = (3 : Int32) := i32_of e188 rfl
        refine px_iload S186 at_145 rfl rfl ?_
        refine px_if0 S186 at_147 (by decide) (pc' := 152) rfl rfl (fun (hc250 : (3 : Int32).toInt ≥ 0) => ?_) (fun (hc250 : (3 : Int32).toInt < 0) => by exfalso; revert hc250; decide)
        refine px_aload S186 at_152 rfl rfl rfl ?_
        have hme : ¬ y3.toInt = -1 := by have l0 : (3 : Int32).toInt = 3 := rfl; omega
        refine px_callS (as' := [(.ref b179)]) (st := []) (W := 0) S186 (c_after (n := 4) (e := 3) (nl := (4 : Int32)) hw S186.size rfl (by decide) (by decide) hme (fun j h1 h2 => by omega) A_b179 X_b179) (hw _ (List.mem_of_getElem? (i := 5) rfl)) (hw _ (List.mem_of_getElem? (i := 6) rfl)) (hw _ (List.mem_of_getElem? (i := 7) rfl)) (hw _ (List.mem_of_getElem? (i := 8) rfl)) (by decide) pd_0_1 rfl rfl (by decide) rfl (by decide) (by decide) (by decide) at_154 rfl rfl (fun T251 h251 v251 S251 q251 => ?_)
        obtain ⟨br, rfl, g_br, sz_br, K251, A_br⟩ := q251
        replace A_b179 := A_b179.keep K251 nin0
        replace X_b179 := X_b179.keep K251
        show Go _ _ _ _ _ _ _ [(.ref br)]
        refine px_astore S251 at_157 rfl rfl (L' := #[.val (.int i0), .val (.int i1), .val (.int i2), .val (.int i3), .val (.int i4), .val (.int (4 : Int32)), .val (.int y0), .val (.int y1), .val (.int y2), .val (.int y3), .val (.ref b179), .val (.int (3 : Int32)), .val (.ref br), .unset, .unset]) rfl ?_
        refine px_aload S251 at_159 rfl rfl rfl ?_
        refine px_alenI (v := (4 : Int32)) S251 A_b179 rfl at_161 rfl ?_
        refine px_iload S251 at_162 rfl rfl ?_
        refine px_icmp S251 at_164 (by decide) (pc' := 225) rfl rfl (fun (hc252 : ¬ (4 : Int32).toInt = (4 : Int32).toInt) => absurd rfl hc252) (fun (hc252 : (4 : Int32).toInt = (4 : Int32).toInt) => ?_)
        refine px_aload S251 at_167 rfl rfl rfl ?_
        refine px_iconst (v := (0 : Int32)) S251 at_169 rfl rfl ?_
        refine px_baload (v := y0) S251 A_b179 (i := 0) rfl (by decide) rfl at_170 rfl ?_
        refine px_iload S251 at_171 rfl rfl ?_
        refine px_icmp S251 at_173 (by decide) (pc' := 225) rfl rfl (fun (hc253 : ¬ y0.toInt = y0.toInt) => absurd rfl hc253) (fun (hc253 : y0.toInt = y0.toInt) => ?_)
        refine px_iload S251 at_176 rfl rfl ?_
        refine px_iconst (v := (2 : Int32)) S251 at_178 rfl rfl ?_
        refine px_icmp S251 at_179 (by decide) (pc' := 191) rfl rfl (fun (hc254 : (4 : Int32).toInt < (2 : Int32).toInt) => by exfalso; revert hc254; decide) (fun (hc254 : (4 : Int32).toInt ≥ (2 : Int32).toInt) => ?_)
        refine px_aload S251 at_182 rfl rfl rfl ?_
        refine px_iconst (v := (1 : Int32)) S251 at_184 rfl rfl ?_
        refine px_baload (v := y1) S251 A_b179 (i := 1) rfl (by decide) rfl at_185 rfl ?_
        refine px_iload S251 at_186 rfl rfl ?_
        refine px_icmp S251 at_188 (by decide) (pc' := 225) rfl rfl (fun (hc255 : ¬ y1.toInt = y1.toInt) => absurd rfl hc255) (fun (hc255 : y1.toInt = y1.toInt) => ?_)
        refine px_iload S251 at_191 rfl rfl ?_
        refine px_iconst (v := (3 : Int32)) S251 at_193 rfl rfl ?_
        refine px_icmp S251 at_194 (by decide) (pc' := 206) rfl rfl (fun (hc256 : (4 : Int32).toInt < (3 : Int32).toInt) => by exfalso; revert hc256; decide) (fun (hc256 : (4 : Int32).toInt ≥ (3 : Int32).toInt) => ?_)
        refine px_aload S251 at_197 rfl rfl rfl ?_
        refine px_iconst (v := (2 : Int32)) S251 at_199 rfl rfl ?_
        refine px_baload (v := y2) S251 A_b179 (i := 2) rfl (by decide) rfl at_200 rfl ?_
        refine px_iload S251 at_201 rfl rfl ?_
        refine px_icmp S251 at_203 (by decide) (pc' := 225) rfl rfl (fun (hc257 : ¬ y2.toInt = y2.toInt) => absurd rfl hc257) (fun (hc257 : y2.toInt = y2.toInt) => ?_)
        refine px_iload S251 at_206 rfl rfl ?_
        refine px_iconst (v := (4 : Int32)) S251 at_208 rfl rfl ?_
        refine px_icmp S251 at_209 (by decide) (pc' := 221) rfl rfl (fun (hc258 : (4 : Int32).toInt < (4 : Int32).toInt) => by exfalso; revert hc258; decide) (fun (hc258 : (4 : Int32).toInt ≥ (4 : Int32).toInt) => ?_)
        refine px_aload S251 at_212 rfl rfl rfl ?_
        refine px_iconst (v := (3 : Int32)) S251 at_214 rfl rfl ?_
        refine px_baload (v := y3) S251 A_b179 (i := 3) rfl (by decide) rfl at_215 rfl ?_
        refine px_iload S251 at_216 rfl rfl ?_
        refine px_icmp S251 at_218 (by decide) (pc' := 225) rfl rfl (fun (hc259 : ¬ y3.toInt = y3.toInt) => absurd rfl hc259) (fun (hc259 : y3.toInt = y3.toInt) => ?_)
        refine px_iconst (v := (1 : Int32)) S251 at_221 rfl rfl ?_
        refine px_goto S251 at_222 (by decide) (pc' := 226) rfl ?_
        refine px_istore S251 at_226 rfl (L' := #[.val (.int i0), .val (.int i1), .val (.int i2), .val (.int i3), .val (.int i4), .val (.int (4 : Int32)), .val (.int y0), .val (.int y1), .val (.int y2), .val (.int y3), .val (.ref b179), .val (.int (3 : Int32)), .val (.ref br), .val (.int (1 : Int32)), .unset]) rfl ?_
        refine px_iload S251 at_228 rfl rfl ?_
        refine px_if0 S251 at_230 (by decide) (pc' := 235) rfl rfl (fun (hc260 : ¬ (1 : Int32).toInt = 0) => ?_) (fun (hc260 : (1 : Int32).toInt = 0) => by exfalso; revert hc260; decide)
        refine px_aload S251 at_235 rfl rfl rfl ?_
        refine px_ifnull S251 at_237 rfl ?_
        refine px_aload S251 at_240 rfl rfl rfl ?_
        refine px_alenI (v := (4 : Int32)) S251 A_br rfl at_242 rfl ?_
        refine px_iload S251 at_243 rfl rfl ?_
        refine px_iconst (v := (1 : Int32)) S251 at_245 rfl rfl ?_
        refine px_iadd S251 at_246 rfl ?_
        rw [show ((3 : Int32) + (1 : Int32)) = (4 : Int32) from by decide]
        refine px_icmp S251 at_247 (by decide) (pc' := 252) rfl rfl (fun (hc261 : (4 : Int32).toInt = (4 : Int32).toInt) => ?_) (fun (hc261 : ¬ (4 : Int32).toInt = (4 : Int32).toInt) => absurd rfl hc261)
        refine px_aload S251 at_252 rfl rfl rfl ?_
        refine px_iconst (v := (0 : Int32)) S251 at_254 rfl rfl ?_
        refine px_baload (v := y0) S251 A_br (i := 0) rfl (by decide) rfl at_255 rfl ?_
        refine px_iconst (v := (0 : Int32)) S251 at_256 rfl rfl ?_
        refine px_iload S251 at_257 rfl rfl ?_
        refine px_iload S251 at_259 rfl rfl ?_
        refine px_callS (as' := [(.int (0 : Int32)), (.int (3 : Int32)), (.int y0)]) (st := [(.int y0)]) (W := 1) S251 (c_exp hw S251.size) (hw _ (List.mem_of_getElem? (i := 22) rfl)) (hw _ (List.mem_of_getElem? (i := 23) rfl)) (hw _ (List.mem_of_getElem? (i := 2) rfl)) (hw _ (List.mem_of_getElem? (i := 24) rfl)) (by decide) pd_0_2 rfl rfl (by decide) rfl (by decide) (by decide) (by decide) at_261 rfl rfl (fun T262 h262 v262 S262 q262 => ?_)
        obtain ⟨rfl, q262⟩ := q262
        obtain rfl : v262 = some (.int (i2b y0)) := q262.elim (fun q => q.2) (fun q => absurd q.1 (by decide))
        show Go _ _ _ _ _ _ _ [(.int (i2b y0)), (.int y0)]
        refine px_icmp S262 at_264 (by decide) (pc' := 271) rfl rfl (fun (hc263 : ¬ y0.toInt = (i2b y0).toInt) => by exfalso; have q0 := rng32 y0; have q1 := f_i2b y0; have q2 := rng32 y1; have q3 := rng32 y2; have q4 := rng32 y3; have q5 := (show (3 : Int32).toInt = 3 from rfl); omega) (fun (hc263 : y0.toInt = (i2b y0).toInt) => ?_)
        refine px_iconst (v := (1 : Int32)) S262 at_267 rfl rfl ?_
        refine px_goto S262 at_268 (by decide) (pc' := 272) rfl ?_
        refine px_istore S262 at_272 rfl (L' := #[.val (.int i0), .val (.int i1), .val (.int i2), .val (.int i3), .val (.int i4), .val (.int (4 : Int32)), .val (.int y0), .val (.int y1), .val (.int y2), .val (.int y3), .val (.ref b179), .val (.int (3 : Int32)), .val (.ref br), .val (.int (1 : Int32)), .val (.int (1 : Int32))]) rfl ?_
        refine px_iload S262 at_274 rfl rfl ?_
        refine px_iconst (v := (1 : Int32)) S262 at_276 rfl rfl ?_
        refine px_icmp S262 at_277 (by decide) (pc' := 307) rfl rfl (fun (hc264 : (3 : Int32).toInt < (1 : Int32).toInt) => by exfalso; revert hc264; decide) (fun (hc264 : (3 : Int32).toInt ≥ (1 : Int32).toInt) => ?_)
        refine px_iload S262 at_280 rfl rfl ?_
        refine px_if0 S262 at_282 (by decide) (pc' := 304) rfl rfl (fun (hc265 : (1 : Int32).toInt = 0) => by exfalso; revert hc265; decide) (fun (hc265 : ¬ (1 : Int32).toInt = 0) => ?_)
        refine px_aload S262 at_285 rfl rfl rfl ?_
        refine px_iconst (v := (1 : Int32)) S262 at_287 rfl rfl ?_
        refine px_baload (v := y1) S262 A_br (i := 1) rfl (by decide) rfl at_288 rfl ?_
        refine px_iconst (v := (1 : Int32)) S262 at_289 rfl rfl ?_
        refine px_iload S262 at_290 rfl rfl ?_
        refine px_iload S262 at_292 rfl rfl ?_
        refine px_callS (as' := [(.int (1 : Int32)), (.int (3 : Int32)), (.int y1)]) (st := [(.int y1)]) (W := 1) S262 (c_exp hw S262.size) (hw _ (List.mem_of_getElem? (i := 22) rfl)) (hw _ (List.mem_of_getElem? (i := 23) rfl)) (hw _ (List.mem_of_getElem? (i := 2) rfl)) (hw _ (List.mem_of_getElem? (i := 24) rfl)) (by decide) pd_0_2 rfl rfl (by decide) rfl (by decide) (by decide) (by decide) at_294 rfl rfl (fun T266 h266 v266 S266 q266 => ?_)
        obtain ⟨rfl, q266⟩ := q266
        obtain rfl : v266 = some (.int (i2b y1)) := q266.elim (fun q => q.2) (fun q => absurd q.1 (by decide))
        show Go _ _ _ _ _ _ _ [(.int (i2b y1)), (.int y1)]
        refine px_icmp S266 at_297 (by decide) (pc' := 304) rfl rfl (fun (hc267 : ¬ y1.toInt = (i2b y1).toInt) => by exfalso; have q0 := rng32 y1; have q1 := f_i2b y1; have q2 := rng32 y0; have q3 := rng32 y2; have q4 := rng32 y3; have q5 := (show (3 : Int32).toInt = 3 from rfl); have q6 := f_i2b y0; omega) (fun (hc267 : y1.toInt = (i2b y1).toInt) => ?_)
        refine px_iconst (v := (1 : Int32)) S266 at_300 rfl rfl ?_
        refine px_goto S266 at_301 (by decide) (pc' := 305) rfl ?_
        refine px_istore S266 at_305 rfl (L' := #[.val (.int i0), .val (.int i1), .val (.int i2), .val (.int i3), .val (.int i4), .val (.int (4 : Int32)), .val (.int y0), .val (.int y1), .val (.int y2), .val (.int y3), .val (.ref b179), .val (.int (3 : Int32)), .val (.ref br), .val (.int (1 : Int32)), .val (.int (1 : Int32))]) rfl ?_
        refine px_iload S266 at_307 rfl rfl ?_
        refine px_iconst (v := (2 : Int32)) S266 at_309 rfl rfl ?_
        refine px_icmp S266 at_310 (by decide) (pc' := 340) rfl rfl (fun (hc268 : (3 : Int32).toInt < (2 : Int32).toInt) => by exfalso; revert hc268; decide) (fun (hc268 : (3 : Int32).toInt ≥ (2 : Int32).toInt) => ?_)
        refine px_iload S266 at_313 rfl rfl ?_
        refine px_if0 S266 at_315 (by decide) (pc' := 337) rfl rfl (fun (hc269 : (1 : Int32).toInt = 0) => by exfalso; revert hc269; decide) (fun (hc269 : ¬ (1 : Int32).toInt = 0) => ?_)
        refine px_aload S266 at_318 rfl rfl rfl ?_
        refine px_iconst (v := (2 : Int32)) S266 at_320 rfl rfl ?_
        refine px_baload (v := y2) S266 A_br (i := 2) rfl (by decide) rfl at_321 rfl ?_
        refine px_iconst (v := (2 : Int32)) S266 at_322 rfl rfl ?_
        refine px_iload S266 at_323 rfl rfl ?_
        refine px_iload S266 at_325 rfl rfl ?_
        refine px_callS (as' := [(.int (2 : Int32)), (.int (3 : Int32)), (.int y2)]) (st := [(.int y2)]) (W := 1) S266 (c_exp hw S266.size) (hw _ (List.mem_of_getElem? (i := 22) rfl)) (hw _ (List.mem_of_getElem? (i := 23) rfl)) (hw _ (List.mem_of_getElem? (i := 2) rfl)) (hw _ (List.mem_of_getElem? (i := 24) rfl)) (by decide) pd_0_2 rfl rfl (by decide) rfl (by decide) (by decide) (by decide) at_327 rfl rfl (fun T270 h270 v270 S270 q270 => ?_)
        obtain ⟨rfl, q270⟩ := q270
        obtain rfl : v270 = some (.int (i2b y2)) := q270.elim (fun q => q.2) (fun q => absurd q.1 (by decide))
        show Go _ _ _ _ _ _ _ [(.int (i2b y2)), (.int y2)]
        refine px_icmp S270 at_330 (by decide) (pc' := 337) rfl rfl (fun (hc271 : ¬ y2.toInt = (i2b y2).toInt) => by exfalso; have q0 := rng32 y2; have q1 := f_i2b y2; have q2 := rng32 y0; have q3 := rng32 y1; have q4 := rng32 y3; have q5 := (show (3 : Int32).toInt = 3 from rfl); have q6 := f_i2b y0; have q7 := f_i2b y1; omega) (fun (hc271 : y2.toInt = (i2b y2).toInt) => ?_)
        refine px_iconst (v := (1 : Int32)) S270 at_333 rfl rfl ?_
        refine px_goto S270 at_334 (by decide) (pc' := 338) rfl ?_
        refine px_istore S270 at_338 rfl (L' := #[.val (.int i0), .val (.int i1), .val (.int i2), .val (.int i3), .val (.int i4), .val (.int (4 : Int32)), .val (.int y0), .val (.int y1), .val (.int y2), .val (.int y3), .val (.ref b179), .val (.int (3 : Int32)), .val (.ref br), .val (.int (1 : Int32)), .val (.int (1 : Int32))]) rfl ?_
        refine px_iload S270 at_340 rfl rfl ?_
        refine px_iconst (v := (3 : Int32)) S270 at_342 rfl rfl ?_
        refine px_icmp S270 at_343 (by decide) (pc' := 373) rfl rfl (fun (hc272 : (3 : Int32).toInt < (3 : Int32).toInt) => by exfalso; revert hc272; decide) (fun (hc272 : (3 : Int32).toInt ≥ (3 : Int32).toInt) => ?_)
        refine px_iload S270 at_346 rfl rfl ?_
        refine px_if0 S270 at_348 (by decide) (pc' := 370) rfl rfl (fun (hc273 : (1 : Int32).toInt = 0) => by exfalso; revert hc273; decide) (fun (hc273 : ¬ (1 : Int32).toInt = 0) => ?_)
        refine px_aload S270 at_351 rfl rfl rfl ?_
        refine px_iconst (v := (3 : Int32)) S270 at_353 rfl rfl ?_
        refine px_baload (v := (i2b (i2b (y3 + (1 : Int32))))) S270 A_br (i := 3) rfl (by decide) rfl at_354 rfl ?_
        refine px_iconst (v := (3 : Int32)) S270 at_355 rfl rfl ?_
        refine px_iload S270 at_356 rfl rfl ?_
        refine px_iload S270 at_358 rfl rfl ?_
        refine px_callS (as' := [(.int (3 : Int32)), (.int (3 : Int32)), (.int y3)]) (st := [(.int (i2b (i2b (y3 + (1 : Int32)))))]) (W := 1) S270 (c_exp hw S270.size) (hw _ (List.mem_of_getElem? (i := 22) rfl)) (hw _ (List.mem_of_getElem? (i := 23) rfl)) (hw _ (List.mem_of_getElem? (i := 2) rfl)) (hw _ (List.mem_of_getElem? (i := 24) rfl)) (by decide) pd_0_2 rfl rfl (by decide) rfl (by decide) (by decide) (by decide) at_360 rfl rfl (fun T274 h274 v274 S274 q274 => ?_)
        obtain ⟨rfl, q274⟩ := q274
        obtain rfl : v274 = some (.int (i2b (i2b (y3 + (1 : Int32))))) := q274.elim (fun q => absurd q.1 (by decide)) (fun q => q.2)
        show Go _ _ _ _ _ _ _ [(.int (i2b (i2b (y3 + (1 : Int32))))), (.int (i2b (i2b (y3 + (1 : Int32)))))]
        refine px_icmp S274 at_363 (by decide) (pc' := 370) rfl rfl (fun (hc275 : ¬ (i2b (i2b (y3 + (1 : Int32)))).toInt = (i2b (i2b (y3 + (1 : Int32)))).toInt) => absurd rfl hc275) (fun (hc275 : (i2b (i2b (y3 + (1 : Int32)))).toInt = (i2b (i2b (y3 + (1 : Int32)))).toInt) => ?_)
        refine px_iconst (v := (1 : Int32)) S274 at_366 rfl rfl ?_
        refine px_goto S274 at_367 (by decide) (pc' := 371) rfl ?_
        refine px_istore S274 at_371 rfl (L' := #[.val (.int i0), .val (.int i1), .val (.int i2), .val (.int i3), .val (.int i4), .val (.int (4 : Int32)), .val (.int y0), .val (.int y1), .val (.int y2), .val (.int y3), .val (.ref b179), .val (.int (3 : Int32)), .val (.ref br), .val (.int (1 : Int32)), .val (.int (1 : Int32))]) rfl ?_
        refine px_iload S274 at_373 rfl rfl ?_
        exact px_retN (t := .boolean) (z' := (1 : Int32)) S274 at_375 rfl (by simp) rfl (by decide) (by decide) (rfl)
    · refine px_iload S186 at_91 rfl rfl ?_
      refine px_iconst (v := (-1 : Int32)) S186 at_93 rfl rfl ?_
      refine px_icmp S186 at_94 (by decide) (pc' := 100) rfl rfl (fun (hc276 : y0.toInt = (-1 : Int32).toInt) => ?_) (fun (hc276 : ¬ y0.toInt = (-1 : Int32).toInt) => ?_)
      · refine px_iload S186 at_100 rfl rfl ?_
        refine px_iconst (v := (1 : Int32)) S186 at_102 rfl rfl ?_
        refine px_icmp S186 at_103 (by decide) (pc' := 115) rfl rfl (fun (hc277 : (4 : Int32).toInt ≤ (1 : Int32).toInt) => by exfalso; revert hc277; decide) (fun (hc277 : (4 : Int32).toInt > (1 : Int32).toInt) => ?_)
        refine px_iload S186 at_106 rfl rfl ?_
        refine px_iconst (v := (-1 : Int32)) S186 at_108 rfl rfl ?_
        refine px_icmp S186 at_109 (by decide) (pc' := 115) rfl rfl (fun (hc278 : y1.toInt = (-1 : Int32).toInt) => ?_) (fun (hc278 : ¬ y1.toInt = (-1 : Int32).toInt) => ?_)
        · refine px_iload S186 at_115 rfl rfl ?_
          refine px_iconst (v := (2 : Int32)) S186 at_117 rfl rfl ?_
          refine px_icmp S186 at_118 (by decide) (pc' := 130) rfl rfl (fun (hc279 : (4 : Int32).toInt ≤ (2 : Int32).toInt) => by exfalso; revert hc279; decide) (fun (hc279 : (4 : Int32).toInt > (2 : Int32).toInt) => ?_)
          refine px_iload S186 at_121 rfl rfl ?_
          refine px_iconst (v := (-1 : Int32)) S186 at_123 rfl rfl ?_
          refine px_icmp S186 at_124 (by decide) (pc' := 130) rfl rfl (fun (hc280 : y2.toInt = (-1 : Int32).toInt) => ?_) (fun (hc280 : ¬ y2.toInt = (-1 : Int32).toInt) => ?_)
          · refine px_iload S186 at_130 rfl rfl ?_
            refine px_iconst (v := (3 : Int32)) S186 at_132 rfl rfl ?_
            refine px_icmp S186 at_133 (by decide) (pc' := 145) rfl rfl (fun (hc281 : (4 : Int32).toInt ≤ (3 : Int32).toInt) => by exfalso; revert hc281; decide) (fun (hc281 : (4 : Int32).toInt > (3 : Int32).toInt) => ?_)
            refine px_iload S186 at_136 rfl rfl ?_
            refine px_iconst (v := (-1 : Int32)) S186 at_138 rfl rfl ?_
            refine px_icmp S186 at_139 (by decide) (pc' := 145) rfl rfl (fun (hc282 : y3.toInt = (-1 : Int32).toInt) => ?_) (fun (hc282 : ¬ y3.toInt = (-1 : Int32).toInt) => ?_)
            · exact J187 _ (show ((-1 : Int32).toInt = -1 ∧ y0.toInt = -1 ∧ y1.toInt = -1 ∧ y2.toInt = -1 ∧ y3.toInt = -1) ∨ ((-1 : Int32).toInt = 0 ∧ ¬ y0.toInt = -1 ∧ y1.toInt = -1 ∧ y2.toInt = -1 ∧ y3.toInt = -1) ∨ ((-1 : Int32).toInt = 1 ∧ ¬ y1.toInt = -1 ∧ y2.toInt = -1 ∧ y3.toInt = -1) ∨ ((-1 : Int32).toInt = 2 ∧ ¬ y2.toInt = -1 ∧ y3.toInt = -1) ∨ ((-1 : Int32).toInt = 3 ∧ ¬ y3.toInt = -1) from by have q0 := congrArg Int32.toInt h_v1; have q1 := (show (-1 : Int32).toInt = -1 from rfl); have q2 := c_iadd (i0 &&& (3 : Int32)) (1 : Int32); have q3 := rng32 ((i0 &&& (3 : Int32)) + (1 : Int32)); have q4 := f_imask i0 (3 : Int32) 2 4 (by decide) (by decide) (by decide); have q5 := rng32 i0; have q6 := (show (3 : Int32).toInt = 3 from rfl); have q7 := (show (1 : Int32).toInt = 1 from rfl); have q8 := (show (4 : Int32).toInt = 4 from rfl); have q9 := rng32 y0; have q10 := rng32 y1; have q11 := rng32 y2; have q12 := rng32 y3; omega)
            · refine px_iconst (v := (3 : Int32)) S186 at_142 rfl rfl ?_
              refine px_istore S186 at_143 rfl (L' := #[.val (.int i0), .val (.int i1), .val (.int i2), .val (.int i3), .val (.int i4), .val (.int (4 : Int32)), .val (.int y0), .val (.int y1), .val (.int y2), .val (.int y3), .val (.ref b179), .val (.int (3 : Int32)), .unset, .unset, .unset]) rfl ?_
              exact J187 _ (show ((3 : Int32).toInt = -1 ∧ y0.toInt = -1 ∧ y1.toInt = -1 ∧ y2.toInt = -1 ∧ y3.toInt = -1) ∨ ((3 : Int32).toInt = 0 ∧ ¬ y0.toInt = -1 ∧ y1.toInt = -1 ∧ y2.toInt = -1 ∧ y3.toInt = -1) ∨ ((3 : Int32).toInt = 1 ∧ ¬ y1.toInt = -1 ∧ y2.toInt = -1 ∧ y3.toInt = -1) ∨ ((3 : Int32).toInt = 2 ∧ ¬ y2.toInt = -1 ∧ y3.toInt = -1) ∨ ((3 : Int32).toInt = 3 ∧ ¬ y3.toInt = -1) from by have q0 := congrArg Int32.toInt h_v1; have q1 := (show (3 : Int32).toInt = 3 from rfl); have q2 := c_iadd (i0 &&& (3 : Int32)) (1 : Int32); have q3 := rng32 ((i0 &&& (3 : Int32)) + (1 : Int32)); have q4 := f_imask i0 (3 : Int32) 2 4 (by decide) (by decide) (by decide); have q5 := rng32 i0; have q6 := (show (1 : Int32).toInt = 1 from rfl); have q7 := (show (4 : Int32).toInt = 4 from rfl); have q8 := rng32 y0; have q9 := (show (-1 : Int32).toInt = -1 from rfl); have q10 := rng32 y1; have q11 := rng32 y2; have q12 := rng32 y3; omega)
          · refine px_iconst (v := (2 : Int32)) S186 at_127 rfl rfl ?_
            refine px_istore S186 at_128 rfl (L' := #[.val (.int i0), .val (.int i1), .val (.int i2), .val (.int i3), .val (.int i4), .val (.int (4 : Int32)), .val (.int y0), .val (.int y1), .val (.int y2), .val (.int y3), .val (.ref b179), .val (.int (2 : Int32)), .unset, .unset, .unset]) rfl ?_
            refine px_iload S186 at_130 rfl rfl ?_
            refine px_iconst (v := (3 : Int32)) S186 at_132 rfl rfl ?_
            refine px_icmp S186 at_133 (by decide) (pc' := 145) rfl rfl (fun (hc283 : (4 : Int32).toInt ≤ (3 : Int32).toInt) => by exfalso; revert hc283; decide) (fun (hc283 : (4 : Int32).toInt > (3 : Int32).toInt) => ?_)
            refine px_iload S186 at_136 rfl rfl ?_
            refine px_iconst (v := (-1 : Int32)) S186 at_138 rfl rfl ?_
            refine px_icmp S186 at_139 (by decide) (pc' := 145) rfl rfl (fun (hc284 : y3.toInt = (-1 : Int32).toInt) => ?_) (fun (hc284 : ¬ y3.toInt = (-1 : Int32).toInt) => ?_)
            · exact J187 _ (show ((2 : Int32).toInt = -1 ∧ y0.toInt = -1 ∧ y1.toInt = -1 ∧ y2.toInt = -1 ∧ y3.toInt = -1) ∨ ((2 : Int32).toInt = 0 ∧ ¬ y0.toInt = -1 ∧ y1.toInt = -1 ∧ y2.toInt = -1 ∧ y3.toInt = -1) ∨ ((2 : Int32).toInt = 1 ∧ ¬ y1.toInt = -1 ∧ y2.toInt = -1 ∧ y3.toInt = -1) ∨ ((2 : Int32).toInt = 2 ∧ ¬ y2.toInt = -1 ∧ y3.toInt = -1) ∨ ((2 : Int32).toInt = 3 ∧ ¬ y3.toInt = -1) from by have q0 := congrArg Int32.toInt h_v1; have q1 := (show (2 : Int32).toInt = 2 from rfl); have q2 := c_iadd (i0 &&& (3 : Int32)) (1 : Int32); have q3 := rng32 ((i0 &&& (3 : Int32)) + (1 : Int32)); have q4 := f_imask i0 (3 : Int32) 2 4 (by decide) (by decide) (by decide); have q5 := rng32 i0; have q6 := (show (3 : Int32).toInt = 3 from rfl); have q7 := (show (1 : Int32).toInt = 1 from rfl); have q8 := (show (4 : Int32).toInt = 4 from rfl); have q9 := rng32 y0; have q10 := (show (-1 : Int32).toInt = -1 from rfl); have q11 := rng32 y1; have q12 := rng32 y2; have q13 := rng32 y3; omega)
            · refine px_iconst (v := (3 : Int32)) S186 at_142 rfl rfl ?_
              refine px_istore S186 at_143 rfl (L' := #[.val (.int i0), .val (.int i1), .val (.int i2), .val (.int i3), .val (.int i4), .val (.int (4 : Int32)), .val (.int y0), .val (.int y1), .val (.int y2), .val (.int y3), .val (.ref b179), .val (.int (3 : Int32)), .unset, .unset, .unset]) rfl ?_
              exact J187 _ (show ((3 : Int32).toInt = -1 ∧ y0.toInt = -1 ∧ y1.toInt = -1 ∧ y2.toInt = -1 ∧ y3.toInt = -1) ∨ ((3 : Int32).toInt = 0 ∧ ¬ y0.toInt = -1 ∧ y1.toInt = -1 ∧ y2.toInt = -1 ∧ y3.toInt = -1) ∨ ((3 : Int32).toInt = 1 ∧ ¬ y1.toInt = -1 ∧ y2.toInt = -1 ∧ y3.toInt = -1) ∨ ((3 : Int32).toInt = 2 ∧ ¬ y2.toInt = -1 ∧ y3.toInt = -1) ∨ ((3 : Int32).toInt = 3 ∧ ¬ y3.toInt = -1) from by have q0 := congrArg Int32.toInt h_v1; have q1 := (show (3 : Int32).toInt = 3 from rfl); have q2 := c_iadd (i0 &&& (3 : Int32)) (1 : Int32); have q3 := rng32 ((i0 &&& (3 : Int32)) + (1 : Int32)); have q4 := f_imask i0 (3 : Int32) 2 4 (by decide) (by decide) (by decide); have q5 := rng32 i0; have q6 := (show (1 : Int32).toInt = 1 from rfl); have q7 := (show (4 : Int32).toInt = 4 from rfl); have q8 := rng32 y0; have q9 := (show (-1 : Int32).toInt = -1 from rfl); have q10 := rng32 y1; have q11 := rng32 y2; have q12 := rng32 y3; omega)
        · refine px_iconst (v := (1 : Int32)) S186 at_112 rfl rfl ?_
          refine px_istore S186 at_113 rfl (L' := #[.val (.int i0), .val (.int i1), .val (.int i2), .val (.int i3), .val (.int i4), .val (.int (4 : Int32)), .val (.int y0), .val (.int y1), .val (.int y2), .val (.int y3), .val (.ref b179), .val (.int (1 : Int32)), .unset, .unset, .unset]) rfl ?_
          refine px_iload S186 at_115 rfl rfl ?_
          refine px_iconst (v := (2 : Int32)) S186 at_117 rfl rfl ?_
          refine px_icmp S186 at_118 (by decide) (pc' := 130) rfl rfl (fun (hc285 : (4 : Int32).toInt ≤ (2 : Int32).toInt) => by exfalso; revert hc285; decide) (fun (hc285 : (4 : Int32).toInt > (2 : Int32).toInt) => ?_)
          refine px_iload S186 at_121 rfl rfl ?_
          refine px_iconst (v := (-1 : Int32)) S186 at_123 rfl rfl ?_
          refine px_icmp S186 at_124 (by decide) (pc' := 130) rfl rfl (fun (hc286 : y2.toInt = (-1 : Int32).toInt) => ?_) (fun (hc286 : ¬ y2.toInt = (-1 : Int32).toInt) => ?_)
          · refine px_iload S186 at_130 rfl rfl ?_
            refine px_iconst (v := (3 : Int32)) S186 at_132 rfl rfl ?_
            refine px_icmp S186 at_133 (by decide) (pc' := 145) rfl rfl (fun (hc287 : (4 : Int32).toInt ≤ (3 : Int32).toInt) => by exfalso; revert hc287; decide) (fun (hc287 : (4 : Int32).toInt > (3 : Int32).toInt) => ?_)
            refine px_iload S186 at_136 rfl rfl ?_
            refine px_iconst (v := (-1 : Int32)) S186 at_138 rfl rfl ?_
            refine px_icmp S186 at_139 (by decide) (pc' := 145) rfl rfl (fun (hc288 : y3.toInt = (-1 : Int32).toInt) => ?_) (fun (hc288 : ¬ y3.toInt = (-1 : Int32).toInt) => ?_)
            · exact J187 _ (show ((1 : Int32).toInt = -1 ∧ y0.toInt = -1 ∧ y1.toInt = -1 ∧ y2.toInt = -1 ∧ y3.toInt = -1) ∨ ((1 : Int32).toInt = 0 ∧ ¬ y0.toInt = -1 ∧ y1.toInt = -1 ∧ y2.toInt = -1 ∧ y3.toInt = -1) ∨ ((1 : Int32).toInt = 1 ∧ ¬ y1.toInt = -1 ∧ y2.toInt = -1 ∧ y3.toInt = -1) ∨ ((1 : Int32).toInt = 2 ∧ ¬ y2.toInt = -1 ∧ y3.toInt = -1) ∨ ((1 : Int32).toInt = 3 ∧ ¬ y3.toInt = -1) from by have q0 := congrArg Int32.toInt h_v1; have q1 := (show (1 : Int32).toInt = 1 from rfl); have q2 := c_iadd (i0 &&& (3 : Int32)) (1 : Int32); have q3 := rng32 ((i0 &&& (3 : Int32)) + (1 : Int32)); have q4 := f_imask i0 (3 : Int32) 2 4 (by decide) (by decide) (by decide); have q5 := rng32 i0; have q6 := (show (3 : Int32).toInt = 3 from rfl); have q7 := (show (4 : Int32).toInt = 4 from rfl); have q8 := rng32 y0; have q9 := (show (-1 : Int32).toInt = -1 from rfl); have q10 := rng32 y1; have q11 := rng32 y2; have q12 := rng32 y3; omega)
            · refine px_iconst (v := (3 : Int32)) S186 at_142 rfl rfl ?_
              refine px_istore S186 at_143 rfl (L' := #[.val (.int i0), .val (.int i1), .val (.int i2), .val (.int i3), .val (.int i4), .val (.int (4 : Int32)), .val (.int y0), .val (.int y1), .val (.int y2), .val (.int y3), .val (.ref b179), .val (.int (3 : Int32)), .unset, .unset, .unset]) rfl ?_
              exact J187 _ (show ((3 : Int32).toInt = -1 ∧ y0.toInt = -1 ∧ y1.toInt = -1 ∧ y2.toInt = -1 ∧ y3.toInt = -1) ∨ ((3 : Int32).toInt = 0 ∧ ¬ y0.toInt = -1 ∧ y1.toInt = -1 ∧ y2.toInt = -1 ∧ y3.toInt = -1) ∨ ((3 : Int32).toInt = 1 ∧ ¬ y1.toInt = -1 ∧ y2.toInt = -1 ∧ y3.toInt = -1) ∨ ((3 : Int32).toInt = 2 ∧ ¬ y2.toInt = -1 ∧ y3.toInt = -1) ∨ ((3 : Int32).toInt = 3 ∧ ¬ y3.toInt = -1) from by have q0 := congrArg Int32.toInt h_v1; have q1 := (show (3 : Int32).toInt = 3 from rfl); have q2 := c_iadd (i0 &&& (3 : Int32)) (1 : Int32); have q3 := rng32 ((i0 &&& (3 : Int32)) + (1 : Int32)); have q4 := f_imask i0 (3 : Int32) 2 4 (by decide) (by decide) (by decide); have q5 := rng32 i0; have q6 := (show (1 : Int32).toInt = 1 from rfl); have q7 := (show (4 : Int32).toInt = 4 from rfl); have q8 := rng32 y0; have q9 := (show (-1 : Int32).toInt = -1 from rfl); have q10 := rng32 y1; have q11 := rng32 y2; have q12 := rng32 y3; omega)
          · refine px_iconst (v := (2 : Int32)) S186 at_127 rfl rfl ?_
            refine px_istore S186 at_128 rfl (L' := #[.val (.int i0), .val (.int i1), .val (.int i2), .val (.int i3), .val (.int i4), .val (.int (4 : Int32)), .val (.int y0), .val (.int y1), .val (.int y2), .val (.int y3), .val (.ref b179), .val (.int (2 : Int32)), .unset, .unset, .unset]) rfl ?_
            refine px_iload S186 at_130 rfl rfl ?_
            refine px_iconst (v := (3 : Int32)) S186 at_132 rfl rfl ?_
            refine px_icmp S186 at_133 (by decide) (pc' := 145) rfl rfl (fun (hc289 : (4 : Int32).toInt ≤ (3 : Int32).toInt) => by exfalso; revert hc289; decide) (fun (hc289 : (4 : Int32).toInt > (3 : Int32).toInt) => ?_)
            refine px_iload S186 at_136 rfl rfl ?_
            refine px_iconst (v := (-1 : Int32)) S186 at_138 rfl rfl ?_
            refine px_icmp S186 at_139 (by decide) (pc' := 145) rfl rfl (fun (hc290 : y3.toInt = (-1 : Int32).toInt) => ?_) (fun (hc290 : ¬ y3.toInt = (-1 : Int32).toInt) => ?_)
            · exact J187 _ (show ((2 : Int32).toInt = -1 ∧ y0.toInt = -1 ∧ y1.toInt = -1 ∧ y2.toInt = -1 ∧ y3.toInt = -1) ∨ ((2 : Int32).toInt = 0 ∧ ¬ y0.toInt = -1 ∧ y1.toInt = -1 ∧ y2.toInt = -1 ∧ y3.toInt = -1) ∨ ((2 : Int32).toInt = 1 ∧ ¬ y1.toInt = -1 ∧ y2.toInt = -1 ∧ y3.toInt = -1) ∨ ((2 : Int32).toInt = 2 ∧ ¬ y2.toInt = -1 ∧ y3.toInt = -1) ∨ ((2 : Int32).toInt = 3 ∧ ¬ y3.toInt = -1) from by have q0 := congrArg Int32.toInt h_v1; have q1 := (show (2 : Int32).toInt = 2 from rfl); have q2 := c_iadd (i0 &&& (3 : Int32)) (1 : Int32); have q3 := rng32 ((i0 &&& (3 : Int32)) + (1 : Int32)); have q4 := f_imask i0 (3 : Int32) 2 4 (by decide) (by decide) (by decide); have q5 := rng32 i0; have q6 := (show (3 : Int32).toInt = 3 from rfl); have q7 := (show (1 : Int32).toInt = 1 from rfl); have q8 := (show (4 : Int32).toInt = 4 from rfl); have q9 := rng32 y0; have q10 := (show (-1 : Int32).toInt = -1 from rfl); have q11 := rng32 y1; have q12 := rng32 y2; have q13 := rng32 y3; omega)
            · refine px_iconst (v := (3 : Int32)) S186 at_142 rfl rfl ?_
              refine px_istore S186 at_143 rfl (L' := #[.val (.int i0), .val (.int i1), .val (.int i2), .val (.int i3), .val (.int i4), .val (.int (4 : Int32)), .val (.int y0), .val (.int y1), .val (.int y2), .val (.int y3), .val (.ref b179), .val (.int (3 : Int32)), .unset, .unset, .unset]) rfl ?_
              exact J187 _ (show ((3 : Int32).toInt = -1 ∧ y0.toInt = -1 ∧ y1.toInt = -1 ∧ y2.toInt = -1 ∧ y3.toInt = -1) ∨ ((3 : Int32).toInt = 0 ∧ ¬ y0.toInt = -1 ∧ y1.toInt = -1 ∧ y2.toInt = -1 ∧ y3.toInt = -1) ∨ ((3 : Int32).toInt = 1 ∧ ¬ y1.toInt = -1 ∧ y2.toInt = -1 ∧ y3.toInt = -1) ∨ ((3 : Int32).toInt = 2 ∧ ¬ y2.toInt = -1 ∧ y3.toInt = -1) ∨ ((3 : Int32).toInt = 3 ∧ ¬ y3.toInt = -1) from by have q0 := congrArg Int32.toInt h_v1; have q1 := (show (3 : Int32).toInt = 3 from rfl); have q2 := c_iadd (i0 &&& (3 : Int32)) (1 : Int32); have q3 := rng32 ((i0 &&& (3 : Int32)) + (1 : Int32)); have q4 := f_imask i0 (3 : Int32) 2 4 (by decide) (by decide) (by decide); have q5 := rng32 i0; have q6 := (show (1 : Int32).toInt = 1 from rfl); have q7 := (show (4 : Int32).toInt = 4 from rfl); have q8 := rng32 y0; have q9 := (show (-1 : Int32).toInt = -1 from rfl); have q10 := rng32 y1; have q11 := rng32 y2; have q12 := rng32 y3; omega)
      · refine px_iconst (v := (0 : Int32)) S186 at_97 rfl rfl ?_
        refine px_istore S186 at_98 rfl (L' := #[.val (.int i0), .val (.int i1), .val (.int i2), .val (.int i3), .val (.int i4), .val (.int (4 : Int32)), .val (.int y0), .val (.int y1), .val (.int y2), .val (.int y3), .val (.ref b179), .val (.int (0 : Int32)), .unset, .unset, .unset]) rfl ?_
        refine px_iload S186 at_100 rfl rfl ?_
        refine px_iconst (v := (1 : Int32)) S186 at_102 rfl rfl ?_
        refine px_icmp S186 at_103 (by decide) (pc' := 115) rfl rfl (fun (hc291 : (4 : Int32).toInt ≤ (1 : Int32).toInt) => by exfalso; revert hc291; decide) (fun (hc291 : (4 : Int32).toInt > (1 : Int32).toInt) => ?_)
        refine px_iload S186 at_106 rfl rfl ?_
        refine px_iconst (v := (-1 : Int32)) S186 at_108 rfl rfl ?_
        refine px_icmp S186 at_109 (by decide) (pc' := 115) rfl rfl (fun (hc292 : y1.toInt = (-1 : Int32).toInt) => ?_) (fun (hc292 : ¬ y1.toInt = (-1 : Int32).toInt) => ?_)
        · refine px_iload S186 at_115 rfl rfl ?_
          refine px_iconst (v := (2 : Int32)) S186 at_117 rfl rfl ?_
          refine px_icmp S186 at_118 (by decide) (pc' := 130) rfl rfl (fun (hc293 : (4 : Int32).toInt ≤ (2 : Int32).toInt) => by exfalso; revert hc293; decide) (fun (hc293 : (4 : Int32).toInt > (2 : Int32).toInt) => ?_)
          refine px_iload S186 at_121 rfl rfl ?_
          refine px_iconst (v := (-1 : Int32)) S186 at_123 rfl rfl ?_
          refine px_icmp S186 at_124 (by decide) (pc' := 130) rfl rfl (fun (hc294 : y2.toInt = (-1 : Int32).toInt) => ?_) (fun (hc294 : ¬ y2.toInt = (-1 : Int32).toInt) => ?_)
          · refine px_iload S186 at_130 rfl rfl ?_
            refine px_iconst (v := (3 : Int32)) S186 at_132 rfl rfl ?_
            refine px_icmp S186 at_133 (by decide) (pc' := 145) rfl rfl (fun (hc295 : (4 : Int32).toInt ≤ (3 : Int32).toInt) => by exfalso; revert hc295; decide) (fun (hc295 : (4 : Int32).toInt > (3 : Int32).toInt) => ?_)
            refine px_iload S186 at_136 rfl rfl ?_
            refine px_iconst (v := (-1 : Int32)) S186 at_138 rfl rfl ?_
            refine px_icmp S186 at_139 (by decide) (pc' := 145) rfl rfl (fun (hc296 : y3.toInt = (-1 : Int32).toInt) => ?_) (fun (hc296 : ¬ y3.toInt = (-1 : Int32).toInt) => ?_)
            · exact J187 _ (show ((0 : Int32).toInt = -1 ∧ y0.toInt = -1 ∧ y1.toInt = -1 ∧ y2.toInt = -1 ∧ y3.toInt = -1) ∨ ((0 : Int32).toInt = 0 ∧ ¬ y0.toInt = -1 ∧ y1.toInt = -1 ∧ y2.toInt = -1 ∧ y3.toInt = -1) ∨ ((0 : Int32).toInt = 1 ∧ ¬ y1.toInt = -1 ∧ y2.toInt = -1 ∧ y3.toInt = -1) ∨ ((0 : Int32).toInt = 2 ∧ ¬ y2.toInt = -1 ∧ y3.toInt = -1) ∨ ((0 : Int32).toInt = 3 ∧ ¬ y3.toInt = -1) from by have q0 := congrArg Int32.toInt h_v1; have q1 := (show (0 : Int32).toInt = 0 from rfl); have q2 := c_iadd (i0 &&& (3 : Int32)) (1 : Int32); have q3 := rng32 ((i0 &&& (3 : Int32)) + (1 : Int32)); have q4 := f_imask i0 (3 : Int32) 2 4 (by decide) (by decide) (by decide); have q5 := rng32 i0; have q6 := (show (3 : Int32).toInt = 3 from rfl); have q7 := (show (1 : Int32).toInt = 1 from rfl); have q8 := (show (4 : Int32).toInt = 4 from rfl); have q9 := rng32 y0; have q10 := (show (-1 : Int32).toInt = -1 from rfl); have q11 := rng32 y1; have q12 := rng32 y2; have q13 := rng32 y3; omega)
            · refine px_iconst (v := (3 : Int32)) S186 at_142 rfl rfl ?_
              refine px_istore S186 at_143 rfl (L' := #[.val (.int i0), .val (.int i1), .val (.int i2), .val (.int i3), .val (.int i4), .val (.int (4 : Int32)), .val (.int y0), .val (.int y1), .val (.int y2), .val (.int y3), .val (.ref b179), .val (.int (3 : Int32)), .unset, .unset, .unset]) rfl ?_
              exact J187 _ (show ((3 : Int32).toInt = -1 ∧ y0.toInt = -1 ∧ y1.toInt = -1 ∧ y2.toInt = -1 ∧ y3.toInt = -1) ∨ ((3 : Int32).toInt = 0 ∧ ¬ y0.toInt = -1 ∧ y1.toInt = -1 ∧ y2.toInt = -1 ∧ y3.toInt = -1) ∨ ((3 : Int32).toInt = 1 ∧ ¬ y1.toInt = -1 ∧ y2.toInt = -1 ∧ y3.toInt = -1) ∨ ((3 : Int32).toInt = 2 ∧ ¬ y2.toInt = -1 ∧ y3.toInt = -1) ∨ ((3 : Int32).toInt = 3 ∧ ¬ y3.toInt = -1) from by have q0 := congrArg Int32.toInt h_v1; have q1 := (show (3 : Int32).toInt = 3 from rfl); have q2 := c_iadd (i0 &&& (3 : Int32)) (1 : Int32); have q3 := rng32 ((i0 &&& (3 : Int32)) + (1 : Int32)); have q4 := f_imask i0 (3 : Int32) 2 4 (by decide) (by decide) (by decide); have q5 := rng32 i0; have q6 := (show (1 : Int32).toInt = 1 from rfl); have q7 := (show (4 : Int32).toInt = 4 from rfl); have q8 := rng32 y0; have q9 := (show (-1 : Int32).toInt = -1 from rfl); have q10 := rng32 y1; have q11 := rng32 y2; have q12 := rng32 y3; omega)
          · refine px_iconst (v := (2 : Int32)) S186 at_127 rfl rfl ?_
            refine px_istore S186 at_128 rfl (L' := #[.val (.int i0), .val (.int i1), .val (.int i2), .val (.int i3), .val (.int i4), .val (.int (4 : Int32)), .val (.int y0), .val (.int y1), .val (.int y2), .val (.int y3), .val (.ref b179), .val (.int (2 : Int32)), .unset, .unset, .unset]) rfl ?_
            refine px_iload S186 at_130 rfl rfl ?_
            refine px_iconst (v := (3 : Int32)) S186 at_132 rfl rfl ?_
            refine px_icmp S186 at_133 (by decide) (pc' := 145) rfl rfl (fun (hc297 : (4 : Int32).toInt ≤ (3 : Int32).toInt) => by exfalso; revert hc297; decide) (fun (hc297 : (4 : Int32).toInt > (3 : Int32).toInt) => ?_)
            refine px_iload S186 at_136 rfl rfl ?_
            refine px_iconst (v := (-1 : Int32)) S186 at_138 rfl rfl ?_
            refine px_icmp S186 at_139 (by decide) (pc' := 145) rfl rfl (fun (hc298 : y3.toInt = (-1 : Int32).toInt) => ?_) (fun (hc298 : ¬ y3.toInt = (-1 : Int32).toInt) => ?_)
            · exact J187 _ (show ((2 : Int32).toInt = -1 ∧ y0.toInt = -1 ∧ y1.toInt = -1 ∧ y2.toInt = -1 ∧ y3.toInt = -1) ∨ ((2 : Int32).toInt = 0 ∧ ¬ y0.toInt = -1 ∧ y1.toInt = -1 ∧ y2.toInt = -1 ∧ y3.toInt = -1) ∨ ((2 : Int32).toInt = 1 ∧ ¬ y1.toInt = -1 ∧ y2.toInt = -1 ∧ y3.toInt = -1) ∨ ((2 : Int32).toInt = 2 ∧ ¬ y2.toInt = -1 ∧ y3.toInt = -1) ∨ ((2 : Int32).toInt = 3 ∧ ¬ y3.toInt = -1) from by have q0 := congrArg Int32.toInt h_v1; have q1 := (show (2 : Int32).toInt = 2 from rfl); have q2 := c_iadd (i0 &&& (3 : Int32)) (1 : Int32); have q3 := rng32 ((i0 &&& (3 : Int32)) + (1 : Int32)); have q4 := f_imask i0 (3 : Int32) 2 4 (by decide) (by decide) (by decide); have q5 := rng32 i0; have q6 := (show (3 : Int32).toInt = 3 from rfl); have q7 := (show (1 : Int32).toInt = 1 from rfl); have q8 := (show (4 : Int32).toInt = 4 from rfl); have q9 := rng32 y0; have q10 := (show (-1 : Int32).toInt = -1 from rfl); have q11 := rng32 y1; have q12 := rng32 y2; have q13 := rng32 y3; omega)
            · refine px_iconst (v := (3 : Int32)) S186 at_142 rfl rfl ?_
              refine px_istore S186 at_143 rfl (L' := #[.val (.int i0), .val (.int i1), .val (.int i2), .val (.int i3), .val (.int i4), .val (.int (4 : Int32)), .val (.int y0), .val (.int y1), .val (.int y2), .val (.int y3), .val (.ref b179), .val (.int (3 : Int32)), .unset, .unset, .unset]) rfl ?_
              exact J187 _ (show ((3 : Int32).toInt = -1 ∧ y0.toInt = -1 ∧ y1.toInt = -1 ∧ y2.toInt = -1 ∧ y3.toInt = -1) ∨ ((3 : Int32).toInt = 0 ∧ ¬ y0.toInt = -1 ∧ y1.toInt = -1 ∧ y2.toInt = -1 ∧ y3.toInt = -1) ∨ ((3 : Int32).toInt = 1 ∧ ¬ y1.toInt = -1 ∧ y2.toInt = -1 ∧ y3.toInt = -1) ∨ ((3 : Int32).toInt = 2 ∧ ¬ y2.toInt = -1 ∧ y3.toInt = -1) ∨ ((3 : Int32).toInt = 3 ∧ ¬ y3.toInt = -1) from by have q0 := congrArg Int32.toInt h_v1; have q1 := (show (3 : Int32).toInt = 3 from rfl); have q2 := c_iadd (i0 &&& (3 : Int32)) (1 : Int32); have q3 := rng32 ((i0 &&& (3 : Int32)) + (1 : Int32)); have q4 := f_imask i0 (3 : Int32) 2 4 (by decide) (by decide) (by decide); have q5 := rng32 i0; have q6 := (show (1 : Int32).toInt = 1 from rfl); have q7 := (show (4 : Int32).toInt = 4 from rfl); have q8 := rng32 y0; have q9 := (show (-1 : Int32).toInt = -1 from rfl); have q10 := rng32 y1; have q11 := rng32 y2; have q12 := rng32 y3; omega)
        · refine px_iconst (v := (1 : Int32)) S186 at_112 rfl rfl ?_
          refine px_istore S186 at_113 rfl (L' := #[.val (.int i0), .val (.int i1), .val (.int i2), .val (.int i3), .val (.int i4), .val (.int (4 : Int32)), .val (.int y0), .val (.int y1), .val (.int y2), .val (.int y3), .val (.ref b179), .val (.int (1 : Int32)), .unset, .unset, .unset]) rfl ?_
          refine px_iload S186 at_115 rfl rfl ?_
          refine px_iconst (v := (2 : Int32)) S186 at_117 rfl rfl ?_
          refine px_icmp S186 at_118 (by decide) (pc' := 130) rfl rfl (fun (hc299 : (4 : Int32).toInt ≤ (2 : Int32).toInt) => by exfalso; revert hc299; decide) (fun (hc299 : (4 : Int32).toInt > (2 : Int32).toInt) => ?_)
          refine px_iload S186 at_121 rfl rfl ?_
          refine px_iconst (v := (-1 : Int32)) S186 at_123 rfl rfl ?_
          refine px_icmp S186 at_124 (by decide) (pc' := 130) rfl rfl (fun (hc300 : y2.toInt = (-1 : Int32).toInt) => ?_) (fun (hc300 : ¬ y2.toInt = (-1 : Int32).toInt) => ?_)
          · refine px_iload S186 at_130 rfl rfl ?_
            refine px_iconst (v := (3 : Int32)) S186 at_132 rfl rfl ?_
            refine px_icmp S186 at_133 (by decide) (pc' := 145) rfl rfl (fun (hc301 : (4 : Int32).toInt ≤ (3 : Int32).toInt) => by exfalso; revert hc301; decide) (fun (hc301 : (4 : Int32).toInt > (3 : Int32).toInt) => ?_)
            refine px_iload S186 at_136 rfl rfl ?_
            refine px_iconst (v := (-1 : Int32)) S186 at_138 rfl rfl ?_
            refine px_icmp S186 at_139 (by decide) (pc' := 145) rfl rfl (fun (hc302 : y3.toInt = (-1 : Int32).toInt) => ?_) (fun (hc302 : ¬ y3.toInt = (-1 : Int32).toInt) => ?_)
            · exact J187 _ (show ((1 : Int32).toInt = -1 ∧ y0.toInt = -1 ∧ y1.toInt = -1 ∧ y2.toInt = -1 ∧ y3.toInt = -1) ∨ ((1 : Int32).toInt = 0 ∧ ¬ y0.toInt = -1 ∧ y1.toInt = -1 ∧ y2.toInt = -1 ∧ y3.toInt = -1) ∨ ((1 : Int32).toInt = 1 ∧ ¬ y1.toInt = -1 ∧ y2.toInt = -1 ∧ y3.toInt = -1) ∨ ((1 : Int32).toInt = 2 ∧ ¬ y2.toInt = -1 ∧ y3.toInt = -1) ∨ ((1 : Int32).toInt = 3 ∧ ¬ y3.toInt = -1) from by have q0 := congrArg Int32.toInt h_v1; have q1 := (show (1 : Int32).toInt = 1 from rfl); have q2 := c_iadd (i0 &&& (3 : Int32)) (1 : Int32); have q3 := rng32 ((i0 &&& (3 : Int32)) + (1 : Int32)); have q4 := f_imask i0 (3 : Int32) 2 4 (by decide) (by decide) (by decide); have q5 := rng32 i0; have q6 := (show (3 : Int32).toInt = 3 from rfl); have q7 := (show (4 : Int32).toInt = 4 from rfl); have q8 := rng32 y0; have q9 := (show (-1 : Int32).toInt = -1 from rfl); have q10 := rng32 y1; have q11 := rng32 y2; have q12 := rng32 y3; omega)
            · refine px_iconst (v := (3 : Int32)) S186 at_142 rfl rfl ?_
              refine px_istore S186 at_143 rfl (L' := #[.val (.int i0), .val (.int i1), .val (.int i2), .val (.int i3), .val (.int i4), .val (.int (4 : Int32)), .val (.int y0), .val (.int y1), .val (.int y2), .val (.int y3), .val (.ref b179), .val (.int (3 : Int32)), .unset, .unset, .unset]) rfl ?_
              exact J187 _ (show ((3 : Int32).toInt = -1 ∧ y0.toInt = -1 ∧ y1.toInt = -1 ∧ y2.toInt = -1 ∧ y3.toInt = -1) ∨ ((3 : Int32).toInt = 0 ∧ ¬ y0.toInt = -1 ∧ y1.toInt = -1 ∧ y2.toInt = -1 ∧ y3.toInt = -1) ∨ ((3 : Int32).toInt = 1 ∧ ¬ y1.toInt = -1 ∧ y2.toInt = -1 ∧ y3.toInt = -1) ∨ ((3 : Int32).toInt = 2 ∧ ¬ y2.toInt = -1 ∧ y3.toInt = -1) ∨ ((3 : Int32).toInt = 3 ∧ ¬ y3.toInt = -1) from by have q0 := congrArg Int32.toInt h_v1; have q1 := (show (3 : Int32).toInt = 3 from rfl); have q2 := c_iadd (i0 &&& (3 : Int32)) (1 : Int32); have q3 := rng32 ((i0 &&& (3 : Int32)) + (1 : Int32)); have q4 := f_imask i0 (3 : Int32) 2 4 (by decide) (by decide) (by decide); have q5 := rng32 i0; have q6 := (show (1 : Int32).toInt = 1 from rfl); have q7 := (show (4 : Int32).toInt = 4 from rfl); have q8 := rng32 y0; have q9 := (show (-1 : Int32).toInt = -1 from rfl); have q10 := rng32 y1; have q11 := rng32 y2; have q12 := rng32 y3; omega)
          · refine px_iconst (v := (2 : Int32)) S186 at_127 rfl rfl ?_
            refine px_istore S186 at_128 rfl (L' := #[.val (.int i0), .val (.int i1), .val (.int i2), .val (.int i3), .val (.int i4), .val (.int (4 : Int32)), .val (.int y0), .val (.int y1), .val (.int y2), .val (.int y3), .val (.ref b179), .val (.int (2 : Int32)), .unset, .unset, .unset]) rfl ?_
            refine px_iload S186 at_130 rfl rfl ?_
            refine px_iconst (v := (3 : Int32)) S186 at_132 rfl rfl ?_
            refine px_icmp S186 at_133 (by decide) (pc' := 145) rfl rfl (fun (hc303 : (4 : Int32).toInt ≤ (3 : Int32).toInt) => by exfalso; revert hc303; decide) (fun (hc303 : (4 : Int32).toInt > (3 : Int32).toInt) => ?_)
            refine px_iload S186 at_136 rfl rfl ?_
            refine px_iconst (v := (-1 : Int32)) S186 at_138 rfl rfl ?_
            refine px_icmp S186 at_139 (by decide) (pc' := 145) rfl rfl (fun (hc304 : y3.toInt = (-1 : Int32).toInt) => ?_) (fun (hc304 : ¬ y3.toInt = (-1 : Int32).toInt) => ?_)
            · exact J187 _ (show ((2 : Int32).toInt = -1 ∧ y0.toInt = -1 ∧ y1.toInt = -1 ∧ y2.toInt = -1 ∧ y3.toInt = -1) ∨ ((2 : Int32).toInt = 0 ∧ ¬ y0.toInt = -1 ∧ y1.toInt = -1 ∧ y2.toInt = -1 ∧ y3.toInt = -1) ∨ ((2 : Int32).toInt = 1 ∧ ¬ y1.toInt = -1 ∧ y2.toInt = -1 ∧ y3.toInt = -1) ∨ ((2 : Int32).toInt = 2 ∧ ¬ y2.toInt = -1 ∧ y3.toInt = -1) ∨ ((2 : Int32).toInt = 3 ∧ ¬ y3.toInt = -1) from by have q0 := congrArg Int32.toInt h_v1; have q1 := (show (2 : Int32).toInt = 2 from rfl); have q2 := c_iadd (i0 &&& (3 : Int32)) (1 : Int32); have q3 := rng32 ((i0 &&& (3 : Int32)) + (1 : Int32)); have q4 := f_imask i0 (3 : Int32) 2 4 (by decide) (by decide) (by decide); have q5 := rng32 i0; have q6 := (show (3 : Int32).toInt = 3 from rfl); have q7 := (show (1 : Int32).toInt = 1 from rfl); have q8 := (show (4 : Int32).toInt = 4 from rfl); have q9 := rng32 y0; have q10 := (show (-1 : Int32).toInt = -1 from rfl); have q11 := rng32 y1; have q12 := rng32 y2; have q13 := rng32 y3; omega)
            · refine px_iconst (v := (3 : Int32)) S186 at_142 rfl rfl ?_
              refine px_istore S186 at_143 rfl (L' := #[.val (.int i0), .val (.int i1), .val (.int i2), .val (.int i3), .val (.int i4), .val (.int (4 : Int32)), .val (.int y0), .val (.int y1), .val (.int y2), .val (.int y3), .val (.ref b179), .val (.int (3 : Int32)), .unset, .unset, .unset]) rfl ?_
              exact J187 _ (show ((3 : Int32).toInt = -1 ∧ y0.toInt = -1 ∧ y1.toInt = -1 ∧ y2.toInt = -1 ∧ y3.toInt = -1) ∨ ((3 : Int32).toInt = 0 ∧ ¬ y0.toInt = -1 ∧ y1.toInt = -1 ∧ y2.toInt = -1 ∧ y3.toInt = -1) ∨ ((3 : Int32).toInt = 1 ∧ ¬ y1.toInt = -1 ∧ y2.toInt = -1 ∧ y3.toInt = -1) ∨ ((3 : Int32).toInt = 2 ∧ ¬ y2.toInt = -1 ∧ y3.toInt = -1) ∨ ((3 : Int32).toInt = 3 ∧ ¬ y3.toInt = -1) from by have q0 := congrArg Int32.toInt h_v1; have q1 := (show (3 : Int32).toInt = 3 from rfl); have q2 := c_iadd (i0 &&& (3 : Int32)) (1 : Int32); have q3 := rng32 ((i0 &&& (3 : Int32)) + (1 : Int32)); have q4 := f_imask i0 (3 : Int32) 2 4 (by decide) (by decide) (by decide); have q5 := rng32 i0; have q6 := (show (1 : Int32).toInt = 1 from rfl); have q7 := (show (4 : Int32).toInt = 4 from rfl); have q8 := rng32 y0; have q9 := (show (-1 : Int32).toInt = -1 from rfl); have q10 := rng32 y1; have q11 := rng32 y2; have q12 := rng32 y3; omega)
set_option maxRecDepth 65536 in
set_option maxHeartbeats 40000000 in
theorem comes_1 {Post : Tables → Env → Array Value → State → Outcome → State → Prop} (hpost : ∀ tb e args s v u, (limb_1_1.after args s (.returned v) u = true ∧ limb_1_2.after args s (.returned v) u = true ∧ True) → FrameEnd s (.returned v) u (Jvm.fieldLocs frame_1_writes args s ++ Jvm.arrayLocs frame_1_arrays args s ++ Jvm.staticLocs frame_1_statics s) 16 128 → Post tb e args s (.returned v) u) :
    ArmFor flags0 classFile x code maxLocals ret World_1 tables_1 room_1 Calls_1 rest_1 Pre_1 Post := by
  intro l hfl _ _ p e ha hc hk s m args below hf hA hF happ hP
  obtain ⟨hcalls, hrest, hpre⟩ := hP
  obtain ⟨-, -, -, hnamed, -, -, -, hat⟩ := (Spec.applies_iff hf).mp happ
  obtain ⟨hg, hn⟩ := and_e (Cond.before_iff.mp (show (Jvm.Cond.and given_1 narrow_1).before args s = true from hpre))
  obtain ⟨hcount, hg0⟩ := and_e hg
  obtain ⟨ha0, hg1⟩ := and_e hg0
  obtain ⟨ha1, hg2⟩ := and_e hg1
  obtain ⟨ha2, hg3⟩ := and_e hg2
  obtain ⟨ha3, hg4⟩ := and_e hg3
  obtain ⟨w0, w1, w2, w3, w4, rfl⟩ : ∃ w0 w1 w2 w3 w4 : Value, args = #[w0, w1, w2, w3, w4] := by
    have hs : args.size = 5 := by simpa [Cond.value, given_1] using hcount
    obtain ⟨L⟩ := args
    match L, hs with
    | [w0, w1, w2, w3, w4], _ => exact ⟨w0, w1, w2, w3, w4, rfl⟩
  have hw := fun d (hd : d ∈ tables_1) => atoms_spec (ws := Jvm.Cond.code x code maxLocals ret :: tables_1) hat d (List.mem_cons_of_mem _ hd)
  obtain ⟨i0, ei0⟩ := is_v ha0
  obtain rfl : w0 = (.int i0) := Option.some.inj ei0
  obtain ⟨i1, ei1⟩ := is_v ha1
  obtain rfl : w1 = (.int i1) := Option.some.inj ei1
  obtain ⟨i2, ei2⟩ := is_v ha2
  obtain rfl : w2 = (.int i2) := Option.some.inj ei2
  obtain ⟨i3, ei3⟩ := is_v ha3
  obtain rfl : w3 = (.int i3) := Option.some.inj ei3
  obtain ⟨i4, ei4⟩ := is_v hg4
  obtain rfl : w4 = (.int i4) := Option.some.inj ei4
  obtain ⟨n, o, h1, h2, h3, _, L, rfl, ⟨rfl, N⟩, hq⟩ := law_ctr (Z := s) hw i0 i1 i2 i3 i4 (Nat.le_refl _) l tables_1 p e ha hc hk s m _ below hf ((Spec.applies_iff_loose hf).mp happ).1 ⟨rfl, State.Warmed39.refl s, rfl⟩ trivial
  refine ⟨n, _, h1, h2, h3, hpost _ _ _ _ _ _ ⟨Cond.after_iff.mpr rfl, Cond.after_iff.mpr (eq_i res_at (Term.int_eval (1)) rfl), trivial⟩ ⟨hq.1, hq.2.1, (hq.2.2.sift fun y hy => Or.inr (N y hy)).mono (by decide) (by decide)⟩⟩
theorem main_1_1 : Claimed_1_1 := comes_1 fun _ _ _ _ _ _ h hF => ⟨h.1, hF⟩
theorem main_1_2 : Claimed_1_2 := comes_1 fun _ _ _ _ _ _ h hF => ⟨h.2.1, hF⟩
end Jvm.Pilot.@@N@@
namespace Jvm.Pilot.@@N@@
open Jvm Jvm.ClassFile Sem Op Lib Jvm.Free Jvm.Stand Jvm.Pilot.@@N@@.Jvm.D
/-! MADE BY PROGRAM (witnessworld.py) out of the Statement's table words and the real class files: 12 classes; the members and pool entries that the words name. The judged class is class 1, her method 3. -/
namespace start1
open Jvm.ClassFile
def u (s : String) : CpInfo := .utf8 (stringToUtf16 s)
/-- a pool by its gaps: so many unusable entries, then the entry; so many at the end -/
def gap : Nat → List CpInfo → List CpInfo
  | 0, r => r
  | n + 1, r => .unusable :: gap n r
def poolList (es : List (Nat × CpInfo)) (last : Nat) : List CpInfo := es.foldr (fun e r => gap e.1 (e.2 :: r)) (gap last [])
def pool (es : List (Nat × CpInfo)) (last : Nat) : Array CpInfo := ⟨poolList es last⟩
def fileOf (pool : Array CpInfo) (this : Nat) (attrs : Array Attribute := #[]) (ms : Array MethodInfo := #[]) (fl : Nat := 33) (sup : Nat := 0) (ifs : Array Nat := #[]) (fds : Array FieldInfo := #[]) : ClassFile where
  minorVersion := 0
  majorVersion := 65
  constantPool := pool
  accessFlags := fl
  thisClass := this
  superClass := sup
  interfaces := ifs
  fields := fds
  methods := ms
  attributes := attrs
def plain (name : String) (sup : Option ClassId) : Class where
  name := name
  kind := .ordinary
  loader := none
  accessFlags := 33
  super := sup
  interfaces := #[]
  cf := none
  fields := #[]
  methods := #[]
  instanceTypes := #[]
  staticTypes := #[]
  resolved := #[]
  callSites := []
  init := .initialized
  statics := none
  mirror := none

def pool0 : Array CpInfo := pool [(5, u "<init>"), (0, u "()V"), (1, .class_ 10), (1, u "java/lang/Object"), (85, u "clone"), (0, u "()Ljava/lang/Object;")] 26

def k0m0 : Method := { name := "<init>", desc := "()V", sig := { parameters := [], returnType := none }, accessFlags := 1, code := none }
def k0m1 : Method := { name := "clone", desc := "()Ljava/lang/Object;", sig := { parameters := [], returnType := some (.object "java/lang/Object") }, accessFlags := 260, code := none }
/-- java/lang/Object -/
def k0 : Class := { plain "java/lang/Object" none with
  accessFlags := 33
  interfaces := #[]
  cf := some (fileOf pool0 8 #[] #[{ accessFlags := 1, nameIndex := 5, descriptorIndex := 6, attributes := #[] }, { accessFlags := 260, nameIndex := 96, descriptorIndex := 97, attributes := #[] }] 33 0 #[] #[])
  fields := #[]
  methods := #[k0m0, k0m1]
  instanceTypes := #[]
  staticTypes := #[]
  resolved := Array.replicate 124 none
  statics := none }

def pool1 : Array CpInfo := pool [(2, .class_ 4), (1, u "java/lang/Object"), (0, u "<init>"), (0, u "()V"), (0, .methodref 8 9), (0, .class_ 10), (0, .nameAndType 11 12), (0, u "com/example/fields_to_kinds/fieldstokinds/BytesAfterPinLaw"), (0, u "pick"), (0, u "(III)B"), (0, .methodref 14 15), (0, .class_ 16), (0, .nameAndType 17 18), (0, u "com/example/fields_to_kinds/fieldstokinds/Bytes"), (0, u "after"), (0, u "([B)[B"), (0, .methodref 8 20), (0, .nameAndType 21 22), (0, u "expected"), (0, u "(IIB)B"), (3, u "law"), (0, u "(IIIII)Z")] 4

def k1m0 : Method := { name := "<init>", desc := "()V", sig := { parameters := [], returnType := none }, accessFlags := 1, code := none }
def k1c1 : Code := { maxStack := 2, maxLocals := 3, code := method_2_code, exceptionTable := #[], attributes := #[] }
def k1m1 : Method := { name := "pick", desc := "(III)B", sig := { parameters := [.int, .int, .int], returnType := some .byte }, accessFlags := 10, code := some k1c1 }
def k1c2 : Code := { maxStack := 2, maxLocals := 3, code := method_3_code, exceptionTable := #[], attributes := #[] }
def k1m2 : Method := { name := "expected", desc := "(IIB)B", sig := { parameters := [.int, .int, .byte], returnType := some .byte }, accessFlags := 10, code := some k1c2 }
def k1c3 : Code := { maxStack := 4, maxLocals := 15, code := code, exceptionTable := #[], attributes := #[] }
def k1m3 : Method := { name := "law", desc := "(IIIII)Z", sig := { parameters := [.int, .int, .int, .int, .int], returnType := some .boolean }, accessFlags := 9, code := some k1c3 }
/-- com/example/fields_to_kinds/fieldstokinds/BytesAfterPinLaw -/
def k1 : Class := { plain "com/example/fields_to_kinds/fieldstokinds/BytesAfterPinLaw" (some 0) with
  accessFlags := 49
  interfaces := #[]
  cf := some (fileOf pool1 8 #[] #[{ accessFlags := 1, nameIndex := 5, descriptorIndex := 6, attributes := #[] }, { accessFlags := 10, nameIndex := 11, descriptorIndex := 12, attributes := #[] }, { accessFlags := 10, nameIndex := 21, descriptorIndex := 22, attributes := #[] }, { accessFlags := 9, nameIndex := 26, descriptorIndex := 27, attributes := #[] }] 49 2 #[] #[])
  fields := #[]
  methods := #[k1m0, k1m1, k1m2, k1m3]
  instanceTypes := #[]
  staticTypes := #[]
  resolved := Array.replicate 32 none
  statics := none }

def pool2 : Array CpInfo := pool [(2, .class_ 4), (1, u "java/lang/Object"), (0, u "<init>"), (0, u "()V"), (0, .class_ 8), (0, u "com/example/fields_to_kinds/fieldstokinds/Bytes"), (2, u "bytes"), (0, u "[B"), (6, u "length"), (0, u "I"), (23, .methodref 45 46), (0, .class_ 47), (0, .nameAndType 48 49), (0, u "java/util/Arrays"), (0, u "copyOf"), (0, u "([BI)[B"), (85, u "INITIAL_CAPACITY"), (18, u "after"), (0, u "([B)[B")] 18

def k2m0 : Method := { name := "<init>", desc := "()V", sig := { parameters := [], returnType := none }, accessFlags := 0, code := none }
def k2c1 : Code := { maxStack := 4, maxLocals := 3, code := prog_4_method_20_code, exceptionTable := #[], attributes := #[] }
def k2m1 : Method := { name := "after", desc := "([B)[B", sig := { parameters := [(.array .byte)], returnType := some (.array .byte) }, accessFlags := 8, code := some k2c1 }
/-- com/example/fields_to_kinds/fieldstokinds/Bytes -/
def k2 : Class := { plain "com/example/fields_to_kinds/fieldstokinds/Bytes" (some 0) with
  accessFlags := 32
  interfaces := #[]
  cf := some (fileOf pool2 7 #[] #[{ accessFlags := 0, nameIndex := 5, descriptorIndex := 6, attributes := #[] }, { accessFlags := 8, nameIndex := 154, descriptorIndex := 155, attributes := #[] }] 32 2 #[] #[{ accessFlags := 26, nameIndex := 135, descriptorIndex := 20, attributes := #[] }, { accessFlags := 2, nameIndex := 11, descriptorIndex := 12, attributes := #[] }, { accessFlags := 2, nameIndex := 19, descriptorIndex := 20, attributes := #[] }])
  fields := #[{ name := "INITIAL_CAPACITY", type := .int, accessFlags := 26, slot := 0, constantValue := 0 }, { name := "bytes", type := (.array .byte), accessFlags := 2, slot := 0, constantValue := 0 }, { name := "length", type := .int, accessFlags := 2, slot := 1, constantValue := 0 }]
  methods := #[k2m0, k2m1]
  instanceTypes := #[(.array .byte), .int]
  staticTypes := #[.int]
  resolved := Array.replicate 174 none
  statics := none }

def pool3 : Array CpInfo := pool [(2, .class_ 4), (1, u "java/lang/Object"), (0, u "<init>"), (0, u "()V"), (7, .class_ 16), (1, u "java/util/Arrays"), (57, .class_ 76), (1, u "java/util/Arrays$NaturalOrder"), (32, u "()Ljava/lang/Object;"), (3, .class_ 115), (1, u "java/util/Arrays$LegacyMergeSort"), (1, u "Z"), (10, .nameAndType 129 109), (0, u "clone"), (20, .methodref 151 152), (0, .class_ 153), (0, .nameAndType 154 155), (0, u "java/lang/System"), (0, u "arraycopy"), (0, u "(Ljava/lang/Object;ILjava/lang/Object;II)V"), (146, u "copyOf"), (1, .methodref 305 306), (0, .class_ 307), (0, .nameAndType 308 309), (0, u "java/lang/Math"), (0, u "min"), (0, u "(II)I"), (0, .methodref 311 128), (0, .class_ 312), (0, u "[B"), (62, .class_ 376), (0, u "java/util/Arrays$ArrayList"), (68, u "$assertionsDisabled"), (269, u "MIN_ARRAY_SORT_GRAN"), (0, u "I"), (2, u "INSERTIONSORT_THRESHOLD"), (149, u "([BI)[B"), (105, .class_ 976), (0, u "java/util/Arrays$ArrayItr")] 52

def k3m0 : Method := { name := "<init>", desc := "()V", sig := { parameters := [], returnType := none }, accessFlags := 2, code := none }
def k3c1 : Code := { maxStack := 6, maxLocals := 3, code := jdk_65_method_121_code, exceptionTable := #[], attributes := #[] }
def k3m1 : Method := { name := "copyOf", desc := "([BI)[B", sig := { parameters := [(.array .byte), .int], returnType := some (.array .byte) }, accessFlags := 9, code := some k3c1 }
/-- java/util/Arrays -/
def k3 : Class := { plain "java/util/Arrays" (some 0) with
  accessFlags := 49
  interfaces := #[]
  cf := some (fileOf pool3 14 #[.nestMembers #[975, 375, 113, 74]] #[{ accessFlags := 2, nameIndex := 5, descriptorIndex := 6, attributes := #[] }, { accessFlags := 9, nameIndex := 302, descriptorIndex := 869, attributes := #[] }] 49 2 #[] #[{ accessFlags := 26, nameIndex := 715, descriptorIndex := 716, attributes := #[] }, { accessFlags := 26, nameIndex := 719, descriptorIndex := 716, attributes := #[] }, { accessFlags := 4120, nameIndex := 445, descriptorIndex := 117, attributes := #[] }])
  fields := #[{ name := "MIN_ARRAY_SORT_GRAN", type := .int, accessFlags := 26, slot := 0, constantValue := 0 }, { name := "INSERTIONSORT_THRESHOLD", type := .int, accessFlags := 26, slot := 1, constantValue := 0 }, { name := "$assertionsDisabled", type := .boolean, accessFlags := 4120, slot := 2, constantValue := 0 }]
  methods := #[k3m0, k3m1]
  instanceTypes := #[]
  staticTypes := #[.int, .int, .boolean]
  resolved := Array.replicate 1029 none
  statics := none }

def pool4 : Array CpInfo := pool [(1, .class_ 2), (0, u "java/lang/Cloneable"), (0, .class_ 4), (0, u "java/lang/Object")] 2

/-- java/lang/Cloneable -/
def k4 : Class := { plain "java/lang/Cloneable" (some 0) with
  accessFlags := 1537
  interfaces := #[]
  cf := some (fileOf pool4 1 #[] #[] 1537 3 #[] #[])
  fields := #[]
  methods := #[]
  instanceTypes := #[]
  staticTypes := #[]
  resolved := Array.replicate 7 none
  statics := none }

def pool5 : Array CpInfo := pool [(1, .class_ 2), (0, u "java/lang/Math"), (1, .class_ 6), (1, u "java/lang/Object"), (0, u "<init>"), (0, u "()V"), (89, .class_ 100), (1, u "java/lang/Math$RandomNumberGeneratorHolder"), (71, u "negativeZeroFloatBits"), (0, u "J"), (2, u "negativeZeroDoubleBits"), (24, u "min"), (43, u "$assertionsDisabled"), (0, u "Z"), (88, u "(II)I"), (2, u "twoToTheDoubleScaleDown"), (0, u "D"), (4, u "twoToTheDoubleScaleUp"), (9, u "E"), (3, u "PI"), (2, u "TAU"), (2, u "DEGREES_TO_RADIANS"), (0, u "RADIANS_TO_DEGREES")] 94

def k5m0 : Method := { name := "<init>", desc := "()V", sig := { parameters := [], returnType := none }, accessFlags := 2, code := none }
def k5c1 : Code := { maxStack := 2, maxLocals := 2, code := jdk_29_method_69_code, exceptionTable := #[], attributes := #[] }
def k5m1 : Method := { name := "min", desc := "(II)I", sig := { parameters := [.int, .int], returnType := some .int }, accessFlags := 9, code := some k5c1 }
/-- java/lang/Math -/
def k5 : Class := { plain "java/lang/Math" (some 0) with
  accessFlags := 49
  interfaces := #[]
  cf := some (fileOf pool5 1 #[.nestMembers #[98]] #[{ accessFlags := 2, nameIndex := 7, descriptorIndex := 8, attributes := #[] }, { accessFlags := 9, nameIndex := 201, descriptorIndex := 335, attributes := #[] }] 49 4 #[] #[{ accessFlags := 25, nameIndex := 354, descriptorIndex := 339, attributes := #[] }, { accessFlags := 25, nameIndex := 358, descriptorIndex := 339, attributes := #[] }, { accessFlags := 25, nameIndex := 361, descriptorIndex := 339, attributes := #[] }, { accessFlags := 26, nameIndex := 364, descriptorIndex := 339, attributes := #[] }, { accessFlags := 26, nameIndex := 365, descriptorIndex := 339, attributes := #[] }, { accessFlags := 26, nameIndex := 172, descriptorIndex := 173, attributes := #[] }, { accessFlags := 26, nameIndex := 176, descriptorIndex := 173, attributes := #[] }, { accessFlags := 8, nameIndex := 344, descriptorIndex := 339, attributes := #[] }, { accessFlags := 8, nameIndex := 338, descriptorIndex := 339, attributes := #[] }, { accessFlags := 4120, nameIndex := 245, descriptorIndex := 246, attributes := #[] }])
  fields := #[{ name := "E", type := .double, accessFlags := 25, slot := 0, constantValue := 0 }, { name := "PI", type := .double, accessFlags := 25, slot := 1, constantValue := 0 }, { name := "TAU", type := .double, accessFlags := 25, slot := 2, constantValue := 0 }, { name := "DEGREES_TO_RADIANS", type := .double, accessFlags := 26, slot := 3, constantValue := 0 }, { name := "RADIANS_TO_DEGREES", type := .double, accessFlags := 26, slot := 4, constantValue := 0 }, { name := "negativeZeroFloatBits", type := .long, accessFlags := 26, slot := 5, constantValue := 0 }, { name := "negativeZeroDoubleBits", type := .long, accessFlags := 26, slot := 6, constantValue := 0 }, { name := "twoToTheDoubleScaleUp", type := .double, accessFlags := 8, slot := 7, constantValue := 0 }, { name := "twoToTheDoubleScaleDown", type := .double, accessFlags := 8, slot := 8, constantValue := 0 }, { name := "$assertionsDisabled", type := .boolean, accessFlags := 4120, slot := 9, constantValue := 0 }]
  methods := #[k5m0, k5m1]
  instanceTypes := #[]
  staticTypes := #[.double, .double, .double, .double, .double, .long, .long, .double, .double, .boolean]
  resolved := Array.replicate 460 none
  statics := none }

def pool6 : Array CpInfo := pool [(2, .class_ 4), (1, u "java/lang/Object"), (0, u "<init>"), (0, u "()V"), (1, .class_ 10), (1, u "java/lang/System"), (0, u "allowSecurityManager"), (0, u "I"), (16, u "cons"), (0, u "Ljava/io/Console;"), (77, .class_ 110), (1, u "java/lang/System$CallersHolder"), (43, u "initialErrStream"), (0, u "Ljava/io/PrintStream;"), (19, u "security"), (0, u "Ljava/lang/SecurityManager;"), (31, .class_ 209), (0, u "java/lang/System$1"), (7, u "props"), (0, u "Ljava/util/Properties;"), (2, u "lineSeparator"), (0, u "Ljava/lang/String;"), (96, .class_ 321), (1, u "java/lang/System$LoggerFinder"), (5, .class_ 328), (0, u "java/lang/System$Logger"), (67, u "err"), (2, u "out"), (91, u "notSupportedJnuEncoding"), (15, u "in"), (17, u "initialIn"), (0, u "Ljava/io/InputStream;"), (35, u "bootLayer"), (0, u "Ljava/lang/ModuleLayer;"), (99, .class_ 664), (0, u "java/lang/System$2"), (9, u "NEVER"), (2, u "MAYBE"), (49, u "arraycopy"), (0, u "(Ljava/lang/Object;ILjava/lang/Object;II)V"), (72, .class_ 802), (0, u "java/lang/System$Logger$Level")] 31

def k6m0 : Method := { name := "<init>", desc := "()V", sig := { parameters := [], returnType := none }, accessFlags := 2, code := none }
def k6m1 : Method := { name := "arraycopy", desc := "(Ljava/lang/Object;ILjava/lang/Object;II)V", sig := { parameters := [(.object "java/lang/Object"), .int, (.object "java/lang/Object"), .int, .int], returnType := none }, accessFlags := 265, code := none }
/-- java/lang/System -/
def k6 : Class := { plain "java/lang/System" (some 0) with
  accessFlags := 49
  interfaces := #[]
  cf := some (fileOf pool6 8 #[.nestMembers #[319, 327, 801, 108, 663, 208]] #[{ accessFlags := 2, nameIndex := 5, descriptorIndex := 6, attributes := #[] }, { accessFlags := 265, nameIndex := 727, descriptorIndex := 728, attributes := #[] }] 49 2 #[] #[{ accessFlags := 25, nameIndex := 507, descriptorIndex := 526, attributes := #[] }, { accessFlags := 25, nameIndex := 399, descriptorIndex := 155, attributes := #[] }, { accessFlags := 25, nameIndex := 396, descriptorIndex := 155, attributes := #[] }, { accessFlags := 10, nameIndex := 525, descriptorIndex := 526, attributes := #[] }, { accessFlags := 26, nameIndex := 674, descriptorIndex := 12, attributes := #[] }, { accessFlags := 26, nameIndex := 677, descriptorIndex := 12, attributes := #[] }, { accessFlags := 10, nameIndex := 11, descriptorIndex := 12, attributes := #[] }, { accessFlags := 74, nameIndex := 175, descriptorIndex := 176, attributes := #[] }, { accessFlags := 10, nameIndex := 491, descriptorIndex := 222, attributes := #[] }, { accessFlags := 74, nameIndex := 29, descriptorIndex := 30, attributes := #[] }, { accessFlags := 74, nameIndex := 154, descriptorIndex := 155, attributes := #[] }, { accessFlags := 10, nameIndex := 217, descriptorIndex := 218, attributes := #[] }, { accessFlags := 10, nameIndex := 221, descriptorIndex := 222, attributes := #[] }, { accessFlags := 8, nameIndex := 562, descriptorIndex := 563, attributes := #[] }])
  fields := #[{ name := "in", type := (.object "java/io/InputStream"), accessFlags := 25, slot := 0, constantValue := 0 }, { name := "out", type := (.object "java/io/PrintStream"), accessFlags := 25, slot := 1, constantValue := 0 }, { name := "err", type := (.object "java/io/PrintStream"), accessFlags := 25, slot := 2, constantValue := 0 }, { name := "initialIn", type := (.object "java/io/InputStream"), accessFlags := 10, slot := 3, constantValue := 0 }, { name := "NEVER", type := .int, accessFlags := 26, slot := 4, constantValue := 0 }, { name := "MAYBE", type := .int, accessFlags := 26, slot := 5, constantValue := 0 }, { name := "allowSecurityManager", type := .int, accessFlags := 10, slot := 6, constantValue := 0 }, { name := "security", type := (.object "java/lang/SecurityManager"), accessFlags := 74, slot := 7, constantValue := 0 }, { name := "notSupportedJnuEncoding", type := (.object "java/lang/String"), accessFlags := 10, slot := 8, constantValue := 0 }, { name := "cons", type := (.object "java/io/Console"), accessFlags := 74, slot := 9, constantValue := 0 }, { name := "initialErrStream", type := (.object "java/io/PrintStream"), accessFlags := 74, slot := 10, constantValue := 0 }, { name := "props", type := (.object "java/util/Properties"), accessFlags := 10, slot := 11, constantValue := 0 }, { name := "lineSeparator", type := (.object "java/lang/String"), accessFlags := 10, slot := 12, constantValue := 0 }, { name := "bootLayer", type := (.object "java/lang/ModuleLayer"), accessFlags := 8, slot := 13, constantValue := 0 }]
  methods := #[k6m0, k6m1]
  instanceTypes := #[]
  staticTypes := #[(.object "java/io/InputStream"), (.object "java/io/PrintStream"), (.object "java/io/PrintStream"), (.object "java/io/InputStream"), .int, .int, .int, (.object "java/lang/SecurityManager"), (.object "java/lang/String"), (.object "java/io/Console"), (.object "java/io/PrintStream"), (.object "java/util/Properties"), (.object "java/lang/String"), (.object "java/lang/ModuleLayer")]
  resolved := Array.replicate 834 none
  statics := none }

def pool7 : Array CpInfo := pool [(1, u "java/io/Serializable"), (0, .class_ 1), (0, u "java/lang/Object"), (0, .class_ 3)] 3

/-- java/io/Serializable -/
def k7 : Class := { plain "java/io/Serializable" (some 0) with
  accessFlags := 1537
  interfaces := #[]
  cf := some (fileOf pool7 2 #[] #[] 1537 4 #[] #[])
  fields := #[]
  methods := #[]
  instanceTypes := #[]
  staticTypes := #[]
  resolved := Array.replicate 8 none
  statics := none }

/-- the primitive byte -/
def k8 : Class := { plain "byte" none with kind := .primitive 'B', accessFlags := 0x411 }
/-- [B -/
def k9 : Class := { plain "[B" (some 0) with kind := .array 8 .byte, interfaces := #[4, 7], accessFlags := 1041 }

/-- the primitive int -/
def k10 : Class := { plain "int" none with kind := .primitive 'I', accessFlags := 0x411 }
/-- [I -/
def k11 : Class := { plain "[I" (some 0) with kind := .array 10 .int, interfaces := #[4, 7], accessFlags := 1041 }

def heap : Heap := #[]
def classes : Array Class := #[k0, k1, k2, k3, k4, k5, k6, k7, k8, k9, k10, k11]
def interned : List (Array UInt16 × Addr) := []
def slotsUsed : Nat := 0
def theMethod : MethodId := ⟨1, 3⟩
def args0 : Array Value := #[.int 5, .int 1, .int 1, .int 9, .int 4]
def aboutOver (below : List Frame) : State where
  vm := { classes := classes, interned := interned.toArray }
  heap := heap
  slotsUsed := slotsUsed
  threads := #[{ frames := .invoking theMethod args0 :: below }]
def below0 : List Frame := [.native { method := ⟨0, 0⟩, args := #[] }]
def about1 : State := aboutOver below0
def p0 : Program := .bare "" "" ""
def e0 : Env := launch0.env 0 0 0
theorem w_frames : about1.frames = Frame.invoking theMethod args0 :: below0 := rfl
set_option maxRecDepth 65536 in
theorem w_args : argsFit about1.vm theMethod args0 = true := by decide +kernel
set_option maxRecDepth 65536 in
theorem w_heap : heapFits about1 = true := by decide +kernel
set_option maxRecDepth 65536 in
theorem w_runnable : about1.curStatus? = some .runnable := by decide +kernel
set_option maxRecDepth 65536 in
theorem w_alone : about1.alone = true := by decide +kernel
set_option maxRecDepth 65536 in
theorem w_named : about1.methodNamed? x = some theMethod := by decide +kernel
set_option maxRecDepth 65536 in
theorem w_hears : about1.hears theMethod below0 = true := by decide +kernel
set_option maxRecDepth 65536 in
theorem w_ripe : about1.ripe theMethod args0 below0 = true := by decide +kernel
theorem w_running : about1.status = .running := rfl
set_option maxRecDepth 65536 in
theorem w_room : about1.hasRoom e0.platform room_1 = true :=
  launch0.hasRoom_least _ room_1 (by decide +kernel) (by decide +kernel) (by decide +kernel) (by decide +kernel) (by decide +kernel) (by decide +kernel)
theorem allAtoms_all (ts : List Jvm.Cond) (a : Array Jvm.Value) (st : Jvm.State) : (allAtoms ts).before a st = ts.all (fun c => c.before a st) := by
  induction ts with
  | nil => rfl
  | cons c t ih =>
    show (Jvm.Cond.and c (allAtoms t)).before a st = _
    rw [Jvm.Cond.before_and, ih, List.all_cons]
def words1 : List Jvm.Cond := Jvm.Cond.code x code maxLocals ret :: tables_1
/-- a 'code' word, met by the world's own term for the bytes: nothing is compared byte by byte -/
theorem code_word {y : MethodName} {bytes : ByteArray} {mx : Nat} {rt : Option FieldType} {a : Array Value} {s : State} {m : MethodId} {meth : Method} {c : Code} (h1 : s.methodNamed? y = some m) (h2 : s.vm.method? m = some meth) (h3 : meth.code = some c) (h4 : c.code = bytes)
    (h5 : (c.maxLocals == mx && c.exceptionTable.isEmpty && decide (c.maxStack ≤ mostOperands) && decide (meth.sig.returnType = rt) && !meth.locks && decide (parseMethodDescriptor y.desc = some meth.sig)) = true) : (Jvm.Cond.code y bytes mx rt).before a s = true := by
  simp only [Bool.and_eq_true, beq_iff_eq, Bool.not_eq_true', decide_eq_true_eq] at h5
  obtain ⟨⟨⟨⟨⟨g1, g2⟩, g3⟩, g4⟩, g5⟩, g6⟩ := h5
  simp [Cond.before, Cond.holds, Cond.value, h1, h2, h3, h4, g1, g2, g3, g4, g5, g6]
def isCode : Jvm.Cond → Bool
  | .code _ _ _ _ => true
  | _ => false
theorem all_split {L : List Jvm.Cond} {P : Jvm.Cond → Bool} (h1 : L.all (fun c => isCode c || P c) = true) (h2 : ∀ c ∈ L.filter isCode, P c = true) : L.all P = true := by
  refine List.all_eq_true.mpr fun c hc => ?_
  have h := List.all_eq_true.mp h1 c hc
  rcases Bool.eq_false_or_eq_true (isCode c) with hi | hi
  · exact h2 c (List.mem_filter.mpr ⟨hc, hi⟩)
  · simpa [hi] using h
set_option maxRecDepth 65536 in
theorem w_c0 : (Jvm.Cond.code x code maxLocals ret).before args0 about1 = true := code_word (m := ⟨1, 3⟩) (meth := k1m3) (c := k1c3) (by decide +kernel) rfl rfl rfl (by decide +kernel)
set_option maxRecDepth 65536 in
theorem w_c1 : (Jvm.Cond.code ({ cls := "com/example/fields_to_kinds/fieldstokinds/BytesAfterPinLaw", name := "pick", desc := "(III)B" } : Jvm.MethodName) method_2_code (3 : Nat) (Option.some Jvm.ClassFile.FieldType.byte)).before args0 about1 = true := code_word (m := ⟨1, 1⟩) (meth := k1m1) (c := k1c1) (by decide +kernel) rfl rfl rfl (by decide +kernel)
set_option maxRecDepth 65536 in
theorem w_c2 : (Jvm.Cond.code ({ cls := "com/example/fields_to_kinds/fieldstokinds/Bytes", name := "after", desc := "([B)[B" } : Jvm.MethodName) prog_4_method_20_code (3 : Nat) (Option.some (Jvm.ClassFile.FieldType.array Jvm.ClassFile.FieldType.byte))).before args0 about1 = true := code_word (m := ⟨2, 1⟩) (meth := k2m1) (c := k2c1) (by decide +kernel) rfl rfl rfl (by decide +kernel)
set_option maxRecDepth 65536 in
theorem w_c3 : (Jvm.Cond.code ({ cls := "java/util/Arrays", name := "copyOf", desc := "([BI)[B" } : Jvm.MethodName) jdk_65_method_121_code (3 : Nat) (Option.some (Jvm.ClassFile.FieldType.array Jvm.ClassFile.FieldType.byte))).before args0 about1 = true := code_word (m := ⟨3, 1⟩) (meth := k3m1) (c := k3c1) (by decide +kernel) rfl rfl rfl (by decide +kernel)
set_option maxRecDepth 65536 in
theorem w_c4 : (Jvm.Cond.code ({ cls := "com/example/fields_to_kinds/fieldstokinds/BytesAfterPinLaw", name := "expected", desc := "(IIB)B" } : Jvm.MethodName) method_3_code (3 : Nat) (Option.some Jvm.ClassFile.FieldType.byte)).before args0 about1 = true := code_word (m := ⟨1, 2⟩) (meth := k1m2) (c := k1c2) (by decide +kernel) rfl rfl rfl (by decide +kernel)
set_option maxRecDepth 65536 in
theorem w_c5 : (Jvm.Cond.code ({ cls := "java/lang/Math", name := "min", desc := "(II)I" } : Jvm.MethodName) jdk_29_method_69_code (2 : Nat) (Option.some Jvm.ClassFile.FieldType.int)).before args0 about1 = true := code_word (m := ⟨5, 1⟩) (meth := k5m1) (c := k5c1) (by decide +kernel) rfl rfl rfl (by decide +kernel)
def codes1 : List Jvm.Cond := [Jvm.Cond.code x code maxLocals ret, Jvm.Cond.code ({ cls := "com/example/fields_to_kinds/fieldstokinds/BytesAfterPinLaw", name := "pick", desc := "(III)B" } : Jvm.MethodName) method_2_code (3 : Nat) (Option.some Jvm.ClassFile.FieldType.byte), Jvm.Cond.code ({ cls := "com/example/fields_to_kinds/fieldstokinds/Bytes", name := "after", desc := "([B)[B" } : Jvm.MethodName) prog_4_method_20_code (3 : Nat) (Option.some (Jvm.ClassFile.FieldType.array Jvm.ClassFile.FieldType.byte)), Jvm.Cond.code ({ cls := "java/util/Arrays", name := "copyOf", desc := "([BI)[B" } : Jvm.MethodName) jdk_65_method_121_code (3 : Nat) (Option.some (Jvm.ClassFile.FieldType.array Jvm.ClassFile.FieldType.byte)), Jvm.Cond.code ({ cls := "com/example/fields_to_kinds/fieldstokinds/BytesAfterPinLaw", name := "expected", desc := "(IIB)B" } : Jvm.MethodName) method_3_code (3 : Nat) (Option.some Jvm.ClassFile.FieldType.byte), Jvm.Cond.code ({ cls := "java/lang/Math", name := "min", desc := "(II)I" } : Jvm.MethodName) jdk_29_method_69_code (2 : Nat) (Option.some Jvm.ClassFile.FieldType.int)]
set_option maxRecDepth 65536 in
theorem codes_eq : words1.filter isCode = codes1 := rfl
theorem w_codes : ∀ c ∈ words1.filter isCode, c.before args0 about1 = true := by
  rw [codes_eq]
  intro c hc
  simp only [codes1, List.mem_cons, List.not_mem_nil, or_false] at hc
  rcases hc with rfl | rfl | rfl | rfl | rfl | rfl
  · exact w_c0
  · exact w_c1
  · exact w_c2
  · exact w_c3
  · exact w_c4
  · exact w_c5
set_option maxRecDepth 65536 in
theorem w_t1 : (words1.take 24).all (fun c => isCode c || c.before args0 about1) = true := by decide +kernel
set_option maxRecDepth 65536 in
theorem w_t2 : (words1.drop 24).all (fun c => isCode c || c.before args0 about1) = true := by decide +kernel
theorem w_tables : (allAtoms (Jvm.Cond.code x code maxLocals ret :: tables_1)).before args0 about1 = true := by
  rw [allAtoms_all]
  show words1.all (fun c => c.before args0 about1) = true
  refine all_split ?_ w_codes
  rw [← List.take_append_drop 24 words1, List.all_append, w_t1, w_t2]
  rfl
set_option maxRecDepth 65536 in
theorem w_case : (Jvm.Cond.and given_1 narrow_1).before args0 about1 = true := by decide +kernel
theorem w_applies : (headSpec (Jvm.Cond.code x code maxLocals ret :: tables_1) room_1).applies x e0.platform about1 = true :=
  (Spec.applies_iff w_frames).mpr ⟨w_running, w_runnable, w_alone, w_named, w_hears, w_ripe, w_room, w_tables⟩
theorem atStart : AtStart classFile x code maxLocals ret World_1 tables_1 room_1 Calls_1 rest_1 Pre_1 launch0 p0 e0 about1 theMethod args0 below0 :=
  ⟨lists_1, trivial, launch0.admits_env _ _ _, launch0.least_env, fairChoices_fair.cas, fairChoices_fair.clock, w_frames, w_args, w_heap, w_applies, trivial, trivial, w_case⟩
end start1
theorem witness_1 : WitnessClaimed_1 := ⟨start1.p0, start1.e0, start1.about1, start1.theMethod, start1.args0, start1.below0, start1.atStart⟩
end Jvm.Pilot.@@N@@
