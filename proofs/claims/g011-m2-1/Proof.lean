import JvmDerived
import JvmDerived.Pilot.@@N@@Statement
import JvmDerived.Pilot.@@N@@Code
set_option linter.unusedVariables false
set_option linter.unusedSimpArgs false
@@BLOCK:NumsL.lean.txt@@
namespace Jvm.RoadKit
open Sem ClassFile Op Lib Jvm.Stand Jvm.Free Jvm.LawKit
section New
variable {p : Program} {l : Launch} {e : Env} {R : Room} {s : State} {m : MethodId} {args : Array Value} {below : List Frame} {meth : Method} {c : Code} {T : State} {locs : List Loc} {cells slots : Nat}
theorem retI (X : Stand p l e R s m args below meth c T locs cells slots) (hx : p.tables.exec = Jvm.exec) {pc : Nat} {Ls : Array Slot} {z : Int32} {rest : List Value} (hret : meth.sig.returnType = some .int) (hd : decode c.code pc = .ok (.ireturn, 1)) {fs : List Frame}
    (hl : ∀ (f : JFrame) (acts : List Action), f.method = m → f.locked = none → f.entered = [] → (doReturn e (T.setTop f) acts (some (.int z))).1 = T.setFrames fs) : Steps p.tables e below (T.setTop (mkF m pc Ls (.int z :: rest))) (T.setFrames fs) := by
  have hm' : T.vm.method? m = some meth := X.method'
  have hn : narrow .int (.int z) = .int z := rfl
  show Steps p.tables e below (T.setTop { method := m, pc := pc, locals := Ls, stack := _ :: rest, locked := none }) _
  jvm_step X.here [X.here.top, hx, hd, hm', hret, hn]
  first | (intro acts; rw [hl _ acts rfl rfl rfl]) | rw [hl _ _ rfl rfl rfl]
  exact Steps.refl _
end New
end Jvm.RoadKit
namespace Jvm.Pilot.@@N@@
open Jvm Jvm.ClassFile Sem Op Lib Jvm.Free Jvm.Stand Jvm.LawKit Jvm.RoadKit Bundle Jvm.Pilot.@@N@@.Jvm.D
section OwnBase
variable {p : Program} {l : Launch} {e : Env} {R : Room} {s : State} {m : MethodId} {args : Array Value} {below : List Frame} {meth : Method} {c : Code} {T : State} {h : Heap} {locs : List Loc} {cells slots : Nat} {Z : State} {a0 : Array Value} {own nm : String} {bytes : ByteArray} {mx : Nat} {rt : Option FieldType} {K : State → Outcome → Prop} {pc pc' : Nat} {Ls : Array Slot} {rest : List Value}
/-- the run from S comes to an end that is as K says -/
def own_Go (p : Program) (e : Env) (below : List Frame) (K : State → Outcome → Prop) (S : State) : Prop :=
  ∃ t o, Steps p.tables e below S t ∧ t.status = .running ∧ Ended t below o ∧ K t o
def own_K (s : State) (Q : Option Value → Heap → List Loc → Prop) (kc ks : Nat) (t : State) (o : Outcome) : Prop :=
  ∃ v L, o = .returned v ∧ Q v t.heap L ∧ FrameEnd s o t L kc ks
/-- the walk stands: all that a step asks, in one word -/
def own_S (Z : State) (own nm : String) (bytes : ByteArray) (mx : Nat) (rt : Option FieldType) (p : Program) (l : Launch) (e : Env) (R : Room) (s : State) (m : MethodId) (args : Array Value) (below : List Frame) (meth : Method) (c : Code) (T : State) (h : Heap) (locs : List Loc) (cells slots : Nat) : Prop :=
  Stand p l e R s m args below meth c T locs cells slots ∧ p.tables.exec = Jvm.exec ∧ c.code = bytes ∧ c.maxLocals = mx ∧ s.vm.findClass own = some m.cls ∧ Z.Warmed39 s.vm ∧ meth.sig.returnType = rt ∧ meth.locks = false ∧ T.heap = h ∧ meth.name = nm
theorem own_S.st (P : own_S Z own nm bytes mx rt p l e R s m args below meth c T h locs cells slots) : Stand p l e R s m args below meth c T locs cells slots := P.1
theorem own_S.ex (P : own_S Z own nm bytes mx rt p l e R s m args below meth c T h locs cells slots) : p.tables.exec = Jvm.exec := P.2.1
theorem own_S.cd (P : own_S Z own nm bytes mx rt p l e R s m args below meth c T h locs cells slots) {pc : Nat} {r : Except ClassFile.DecodeError (ClassFile.Instr × Nat)} (hd : decode bytes pc = r) : decode c.code pc = r := hb P.2.2.1 hd
theorem own_S.ml (P : own_S Z own nm bytes mx rt p l e R s m args below meth c T h locs cells slots) : c.maxLocals = mx := P.2.2.2.1
theorem own_S.ow (P : own_S Z own nm bytes mx rt p l e R s m args below meth c T h locs cells slots) : s.vm.findClass own = some m.cls := P.2.2.2.2.1
theorem own_S.wz (P : own_S Z own nm bytes mx rt p l e R s m args below meth c T h locs cells slots) : Z.Warmed39 s.vm := P.2.2.2.2.2.1
theorem own_S.rty (P : own_S Z own nm bytes mx rt p l e R s m args below meth c T h locs cells slots) : meth.sig.returnType = rt := P.2.2.2.2.2.2.1
theorem own_S.lk (P : own_S Z own nm bytes mx rt p l e R s m args below meth c T h locs cells slots) : meth.locks = false := P.2.2.2.2.2.2.2.1
theorem own_S.hp (P : own_S Z own nm bytes mx rt p l e R s m args below meth c T h locs cells slots) : T.heap = h := P.2.2.2.2.2.2.2.2.1
theorem own_S.nmm (P : own_S Z own nm bytes mx rt p l e R s m args below meth c T h locs cells slots) : meth.name = nm := P.2.2.2.2.2.2.2.2.2
theorem own_S.move (P : own_S Z own nm bytes mx rt p l e R s m args below meth c T h locs cells slots) {T' : State} {h' : Heap} {locs' : List Loc} {cells' slots' : Nat} (X : Stand p l e R s m args below meth c T' locs' cells' slots') (eh : T'.heap = h') : own_S Z own nm bytes mx rt p l e R s m args below meth c T' h' locs' cells' slots' :=
  ⟨X, P.2.1, P.2.2.1, P.2.2.2.1, P.2.2.2.2.1, P.2.2.2.2.2.1, P.2.2.2.2.2.2.1, P.2.2.2.2.2.2.2.1, eh, P.2.2.2.2.2.2.2.2.2⟩
theorem own_st {S S' : State} (h : ∀ t, Steps p.tables e below S' t → Steps p.tables e below S t) (k : own_Go p e below K S') : own_Go p e below K S := by
  obtain ⟨t, o, h1, h2⟩ := k
  exact ⟨t, o, h t h1, h2⟩

theorem own_iadd (P : own_S Z own nm bytes mx rt p l e R s m args below meth c T h locs cells slots) {x y : Int32} (hd : decode bytes pc = .ok (.iadd, 1)) (hp : pc + 1 = pc')
    (k : own_Go p e below K (T.setTop (mkF m pc' Ls (.int (x + y) :: rest)))) : own_Go p e below K (T.setTop (mkF m pc Ls (.int y :: .int x :: rest))) := by
  subst hp
  exact own_st (fun t k => XS.iadd P.st.here P.ex rfl (P.cd hd) rfl k) k
theorem own_isub (P : own_S Z own nm bytes mx rt p l e R s m args below meth c T h locs cells slots) {x y : Int32} (hd : decode bytes pc = .ok (.isub, 1)) (hp : pc + 1 = pc')
    (k : own_Go p e below K (T.setTop (mkF m pc' Ls (.int (x - y) :: rest)))) : own_Go p e below K (T.setTop (mkF m pc Ls (.int y :: .int x :: rest))) := by
  subst hp
  exact own_st (fun t k => XS.isub P.st.here P.ex rfl (P.cd hd) rfl k) k
theorem own_imul (P : own_S Z own nm bytes mx rt p l e R s m args below meth c T h locs cells slots) {x y : Int32} (hd : decode bytes pc = .ok (.imul, 1)) (hp : pc + 1 = pc')
    (k : own_Go p e below K (T.setTop (mkF m pc' Ls (.int (x * y) :: rest)))) : own_Go p e below K (T.setTop (mkF m pc Ls (.int y :: .int x :: rest))) := by
  subst hp
  exact own_st (fun t k => XS.imul P.st.here P.ex rfl (P.cd hd) rfl k) k
theorem own_iand (P : own_S Z own nm bytes mx rt p l e R s m args below meth c T h locs cells slots) {x y : Int32} (hd : decode bytes pc = .ok (.iand, 1)) (hp : pc + 1 = pc')
    (k : own_Go p e below K (T.setTop (mkF m pc' Ls (.int (x &&& y) :: rest)))) : own_Go p e below K (T.setTop (mkF m pc Ls (.int y :: .int x :: rest))) := by
  subst hp
  exact own_st (fun t k => XS.iand P.st.here P.ex rfl (P.cd hd) rfl k) k
theorem own_ior (P : own_S Z own nm bytes mx rt p l e R s m args below meth c T h locs cells slots) {x y : Int32} (hd : decode bytes pc = .ok (.ior, 1)) (hp : pc + 1 = pc')
    (k : own_Go p e below K (T.setTop (mkF m pc' Ls (.int (x ||| y) :: rest)))) : own_Go p e below K (T.setTop (mkF m pc Ls (.int y :: .int x :: rest))) := by
  subst hp
  exact own_st (fun t k => XS.ior P.st.here P.ex rfl (P.cd hd) rfl k) k
theorem own_ixor (P : own_S Z own nm bytes mx rt p l e R s m args below meth c T h locs cells slots) {x y : Int32} (hd : decode bytes pc = .ok (.ixor, 1)) (hp : pc + 1 = pc')
    (k : own_Go p e below K (T.setTop (mkF m pc' Ls (.int (x ^^^ y) :: rest)))) : own_Go p e below K (T.setTop (mkF m pc Ls (.int y :: .int x :: rest))) := by
  subst hp
  exact own_st (fun t k => XS.ixor P.st.here P.ex rfl (P.cd hd) rfl k) k
theorem own_idiv (P : own_S Z own nm bytes mx rt p l e R s m args below meth c T h locs cells slots) {x y : Int32} (hd : decode bytes pc = .ok (.idiv, 1)) (hp : pc + 1 = pc') (hy : y ≠ 0)
    (k : own_Go p e below K (T.setTop (mkF m pc' Ls (.int (x / y) :: rest)))) : own_Go p e below K (T.setTop (mkF m pc Ls (.int y :: .int x :: rest))) := by
  subst hp
  exact own_st (fun t k => XS.idiv P.st.here P.ex rfl (P.cd hd) rfl hy k) k
theorem own_irem (P : own_S Z own nm bytes mx rt p l e R s m args below meth c T h locs cells slots) {x y : Int32} (hd : decode bytes pc = .ok (.irem, 1)) (hp : pc + 1 = pc') (hy : y ≠ 0)
    (k : own_Go p e below K (T.setTop (mkF m pc' Ls (.int (x - (x / y) * y) :: rest)))) : own_Go p e below K (T.setTop (mkF m pc Ls (.int y :: .int x :: rest))) := by
  subst hp
  exact own_st (fun t k => XS.irem P.st.here P.ex rfl (P.cd hd) rfl hy k) k
theorem own_ladd (P : own_S Z own nm bytes mx rt p l e R s m args below meth c T h locs cells slots) {x y : Int64} (hd : decode bytes pc = .ok (.ladd, 1)) (hp : pc + 1 = pc')
    (k : own_Go p e below K (T.setTop (mkF m pc' Ls (.long (x + y) :: rest)))) : own_Go p e below K (T.setTop (mkF m pc Ls (.long y :: .long x :: rest))) := by
  subst hp
  exact own_st (fun t k => XS.ladd P.st.here P.ex rfl (P.cd hd) rfl k) k
theorem own_lsub (P : own_S Z own nm bytes mx rt p l e R s m args below meth c T h locs cells slots) {x y : Int64} (hd : decode bytes pc = .ok (.lsub, 1)) (hp : pc + 1 = pc')
    (k : own_Go p e below K (T.setTop (mkF m pc' Ls (.long (x - y) :: rest)))) : own_Go p e below K (T.setTop (mkF m pc Ls (.long y :: .long x :: rest))) := by
  subst hp
  exact own_st (fun t k => XS.lsub P.st.here P.ex rfl (P.cd hd) rfl k) k
theorem own_lmul (P : own_S Z own nm bytes mx rt p l e R s m args below meth c T h locs cells slots) {x y : Int64} (hd : decode bytes pc = .ok (.lmul, 1)) (hp : pc + 1 = pc')
    (k : own_Go p e below K (T.setTop (mkF m pc' Ls (.long (x * y) :: rest)))) : own_Go p e below K (T.setTop (mkF m pc Ls (.long y :: .long x :: rest))) := by
  subst hp
  exact own_st (fun t k => XS.lmul P.st.here P.ex rfl (P.cd hd) rfl k) k
theorem own_land (P : own_S Z own nm bytes mx rt p l e R s m args below meth c T h locs cells slots) {x y : Int64} (hd : decode bytes pc = .ok (.land, 1)) (hp : pc + 1 = pc')
    (k : own_Go p e below K (T.setTop (mkF m pc' Ls (.long (x &&& y) :: rest)))) : own_Go p e below K (T.setTop (mkF m pc Ls (.long y :: .long x :: rest))) := by
  subst hp
  exact own_st (fun t k => XS.land P.st.here P.ex rfl (P.cd hd) rfl k) k
theorem own_lor (P : own_S Z own nm bytes mx rt p l e R s m args below meth c T h locs cells slots) {x y : Int64} (hd : decode bytes pc = .ok (.lor, 1)) (hp : pc + 1 = pc')
    (k : own_Go p e below K (T.setTop (mkF m pc' Ls (.long (x ||| y) :: rest)))) : own_Go p e below K (T.setTop (mkF m pc Ls (.long y :: .long x :: rest))) := by
  subst hp
  exact own_st (fun t k => XS.lor P.st.here P.ex rfl (P.cd hd) rfl k) k
theorem own_lxor (P : own_S Z own nm bytes mx rt p l e R s m args below meth c T h locs cells slots) {x y : Int64} (hd : decode bytes pc = .ok (.lxor, 1)) (hp : pc + 1 = pc')
    (k : own_Go p e below K (T.setTop (mkF m pc' Ls (.long (x ^^^ y) :: rest)))) : own_Go p e below K (T.setTop (mkF m pc Ls (.long y :: .long x :: rest))) := by
  subst hp
  exact own_st (fun t k => XS.lxor P.st.here P.ex rfl (P.cd hd) rfl k) k
theorem own_ldiv (P : own_S Z own nm bytes mx rt p l e R s m args below meth c T h locs cells slots) {x y : Int64} (hd : decode bytes pc = .ok (.ldiv, 1)) (hp : pc + 1 = pc') (hy : y ≠ 0)
    (k : own_Go p e below K (T.setTop (mkF m pc' Ls (.long (x / y) :: rest)))) : own_Go p e below K (T.setTop (mkF m pc Ls (.long y :: .long x :: rest))) := by
  subst hp
  exact own_st (fun t k => XS.ldiv P.st.here P.ex rfl (P.cd hd) rfl hy k) k
theorem own_lrem (P : own_S Z own nm bytes mx rt p l e R s m args below meth c T h locs cells slots) {x y : Int64} (hd : decode bytes pc = .ok (.lrem, 1)) (hp : pc + 1 = pc') (hy : y ≠ 0)
    (k : own_Go p e below K (T.setTop (mkF m pc' Ls (.long (x - (x / y) * y) :: rest)))) : own_Go p e below K (T.setTop (mkF m pc Ls (.long y :: .long x :: rest))) := by
  subst hp
  exact own_st (fun t k => XS.lrem P.st.here P.ex rfl (P.cd hd) rfl hy k) k
theorem own_ishl (P : own_S Z own nm bytes mx rt p l e R s m args below meth c T h locs cells slots) {x y : Int32} (hd : decode bytes pc = .ok (.ishl, 1)) (hp : pc + 1 = pc')
    (k : own_Go p e below K (T.setTop (mkF m pc' Ls (.int (x <<< (y &&& 31)) :: rest)))) : own_Go p e below K (T.setTop (mkF m pc Ls (.int y :: .int x :: rest))) := by
  subst hp
  exact own_st (fun t k => XS.ishl P.st.here P.ex rfl (P.cd hd) rfl k) k
theorem own_ishr (P : own_S Z own nm bytes mx rt p l e R s m args below meth c T h locs cells slots) {x y : Int32} (hd : decode bytes pc = .ok (.ishr, 1)) (hp : pc + 1 = pc')
    (k : own_Go p e below K (T.setTop (mkF m pc' Ls (.int (x >>> (y &&& 31)) :: rest)))) : own_Go p e below K (T.setTop (mkF m pc Ls (.int y :: .int x :: rest))) := by
  subst hp
  exact own_st (fun t k => XS.ishr P.st.here P.ex rfl (P.cd hd) rfl k) k
theorem own_iushr (P : own_S Z own nm bytes mx rt p l e R s m args below meth c T h locs cells slots) {x y : Int32} (hd : decode bytes pc = .ok (.iushr, 1)) (hp : pc + 1 = pc')
    (k : own_Go p e below K (T.setTop (mkF m pc' Ls (.int ((x.toUInt32 >>> (y &&& 31).toUInt32).toInt32) :: rest)))) : own_Go p e below K (T.setTop (mkF m pc Ls (.int y :: .int x :: rest))) := by
  subst hp
  exact own_st (fun t k => XS.iushr P.st.here P.ex rfl (P.cd hd) rfl k) k
theorem own_lshl (P : own_S Z own nm bytes mx rt p l e R s m args below meth c T h locs cells slots) {x : Int64} {y : Int32} (hd : decode bytes pc = .ok (.lshl, 1)) (hp : pc + 1 = pc')
    (k : own_Go p e below K (T.setTop (mkF m pc' Ls (.long (x <<< (y &&& 0x3f).toInt64) :: rest)))) : own_Go p e below K (T.setTop (mkF m pc Ls (.int y :: .long x :: rest))) := by
  subst hp
  exact own_st (fun t k => XS.lshl P.st.here P.ex rfl (P.cd hd) rfl k) k
theorem own_lshr (P : own_S Z own nm bytes mx rt p l e R s m args below meth c T h locs cells slots) {x : Int64} {y : Int32} (hd : decode bytes pc = .ok (.lshr, 1)) (hp : pc + 1 = pc')
    (k : own_Go p e below K (T.setTop (mkF m pc' Ls (.long (x >>> (y &&& 0x3f).toInt64) :: rest)))) : own_Go p e below K (T.setTop (mkF m pc Ls (.int y :: .long x :: rest))) := by
  subst hp
  exact own_st (fun t k => XS.lshr P.st.here P.ex rfl (P.cd hd) rfl k) k
theorem own_lushr (P : own_S Z own nm bytes mx rt p l e R s m args below meth c T h locs cells slots) {x : Int64} {y : Int32} (hd : decode bytes pc = .ok (.lushr, 1)) (hp : pc + 1 = pc')
    (k : own_Go p e below K (T.setTop (mkF m pc' Ls (.long ((x.toUInt64 >>> (y &&& 0x3f).toInt64.toUInt64).toInt64) :: rest)))) : own_Go p e below K (T.setTop (mkF m pc Ls (.int y :: .long x :: rest))) := by
  subst hp
  exact own_st (fun t k => XS.lushr P.st.here P.ex rfl (P.cd hd) rfl k) k
theorem own_i2l (P : own_S Z own nm bytes mx rt p l e R s m args below meth c T h locs cells slots) {x : Int32} (hd : decode bytes pc = .ok (.i2l, 1)) (hp : pc + 1 = pc')
    (k : own_Go p e below K (T.setTop (mkF m pc' Ls (.long (x.toInt64) :: rest)))) : own_Go p e below K (T.setTop (mkF m pc Ls (.int x :: rest))) := by
  subst hp
  exact own_st (fun t k => XS.i2l P.st.here P.ex rfl (P.cd hd) rfl k) k
theorem own_l2i (P : own_S Z own nm bytes mx rt p l e R s m args below meth c T h locs cells slots) {x : Int64} (hd : decode bytes pc = .ok (.l2i, 1)) (hp : pc + 1 = pc')
    (k : own_Go p e below K (T.setTop (mkF m pc' Ls (.int (x.toInt32) :: rest)))) : own_Go p e below K (T.setTop (mkF m pc Ls (.long x :: rest))) := by
  subst hp
  exact own_st (fun t k => XS.l2i P.st.here P.ex rfl (P.cd hd) rfl k) k
theorem own_i2b (P : own_S Z own nm bytes mx rt p l e R s m args below meth c T h locs cells slots) {x : Int32} (hd : decode bytes pc = .ok (.i2b, 1)) (hp : pc + 1 = pc')
    (k : own_Go p e below K (T.setTop (mkF m pc' Ls (.int (x.toInt8.toInt32) :: rest)))) : own_Go p e below K (T.setTop (mkF m pc Ls (.int x :: rest))) := by
  subst hp
  exact own_st (fun t k => XS.i2b P.st.here P.ex rfl (P.cd hd) rfl k) k
theorem own_i2c (P : own_S Z own nm bytes mx rt p l e R s m args below meth c T h locs cells slots) {x : Int32} (hd : decode bytes pc = .ok (.i2c, 1)) (hp : pc + 1 = pc')
    (k : own_Go p e below K (T.setTop (mkF m pc' Ls (.int (x.toUInt32.toUInt16.toUInt32.toInt32) :: rest)))) : own_Go p e below K (T.setTop (mkF m pc Ls (.int x :: rest))) := by
  subst hp
  exact own_st (fun t k => XS.i2c P.st.here P.ex rfl (P.cd hd) rfl k) k
theorem own_i2s (P : own_S Z own nm bytes mx rt p l e R s m args below meth c T h locs cells slots) {x : Int32} (hd : decode bytes pc = .ok (.i2s, 1)) (hp : pc + 1 = pc')
    (k : own_Go p e below K (T.setTop (mkF m pc' Ls (.int (x.toInt16.toInt32) :: rest)))) : own_Go p e below K (T.setTop (mkF m pc Ls (.int x :: rest))) := by
  subst hp
  exact own_st (fun t k => XS.i2s P.st.here P.ex rfl (P.cd hd) rfl k) k
theorem own_lneg (P : own_S Z own nm bytes mx rt p l e R s m args below meth c T h locs cells slots) {x : Int64} (hd : decode bytes pc = .ok (.lneg, 1)) (hp : pc + 1 = pc')
    (k : own_Go p e below K (T.setTop (mkF m pc' Ls (.long (-x) :: rest)))) : own_Go p e below K (T.setTop (mkF m pc Ls (.long x :: rest))) := by
  subst hp
  exact own_st (fun t k => XS.lneg P.st.here P.ex rfl (P.cd hd) rfl k) k
theorem own_ineg (P : own_S Z own nm bytes mx rt p l e R s m args below meth c T h locs cells slots) {x : Int32} (hd : decode bytes pc = .ok (.ineg, 1)) (hp : pc + 1 = pc')
    (k : own_Go p e below K (T.setTop (mkF m pc' Ls (.int (-x) :: rest)))) : own_Go p e below K (T.setTop (mkF m pc Ls (.int x :: rest))) := by
  subst hp
  exact own_st (fun t k => XS.ineg P.st.here P.ex rfl (P.cd hd) rfl k) k
theorem own_iloadN (P : own_S Z own nm bytes mx rt p l e R s m args below meth c T h locs cells slots) {j : Fin 4} {v : Int32} (hd : decode bytes pc = .ok (.iload_n j, 1)) (hp : pc + 1 = pc') (hl : Ls[j.val]? = some (.val (.int v)))
    (k : own_Go p e below K (T.setTop (mkF m pc' Ls (.int v :: rest)))) : own_Go p e below K (T.setTop (mkF m pc Ls rest)) := by
  subst hp
  exact own_st (fun t k => XS.iloadN P.st.here P.ex rfl (P.cd hd) hl k) k
theorem own_iload (P : own_S Z own nm bytes mx rt p l e R s m args below meth c T h locs cells slots) {j : Nat} {v : Int32} (hd : decode bytes pc = .ok (.iload j, 2)) (hp : pc + 2 = pc') (hl : Ls[j]? = some (.val (.int v)))
    (k : own_Go p e below K (T.setTop (mkF m pc' Ls (.int v :: rest)))) : own_Go p e below K (T.setTop (mkF m pc Ls rest)) := by
  subst hp
  exact own_st (fun t k => XS.iload P.st.here P.ex rfl (P.cd hd) hl k) k
theorem own_lloadN (P : own_S Z own nm bytes mx rt p l e R s m args below meth c T h locs cells slots) {j : Fin 4} {v : Int64} (hd : decode bytes pc = .ok (.lload_n j, 1)) (hp : pc + 1 = pc') (hl : Ls[j.val]? = some (.val (.long v)))
    (k : own_Go p e below K (T.setTop (mkF m pc' Ls (.long v :: rest)))) : own_Go p e below K (T.setTop (mkF m pc Ls rest)) := by
  subst hp
  exact own_st (fun t k => XS.lloadN P.st.here P.ex rfl (P.cd hd) hl k) k
theorem own_lload (P : own_S Z own nm bytes mx rt p l e R s m args below meth c T h locs cells slots) {j : Nat} {v : Int64} (hd : decode bytes pc = .ok (.lload j, 2)) (hp : pc + 2 = pc') (hl : Ls[j]? = some (.val (.long v)))
    (k : own_Go p e below K (T.setTop (mkF m pc' Ls (.long v :: rest)))) : own_Go p e below K (T.setTop (mkF m pc Ls rest)) := by
  subst hp
  exact own_st (fun t k => XS.lload P.st.here P.ex rfl (P.cd hd) hl k) k
theorem own_aloadN (P : own_S Z own nm bytes mx rt p l e R s m args below meth c T h locs cells slots) {j : Fin 4} {v : Value} (hd : decode bytes pc = .ok (.aload_n j, 1)) (hp : pc + 1 = pc') (hl : Ls[j.val]? = some (.val v)) (hv : v.isRef = true)
    (k : own_Go p e below K (T.setTop (mkF m pc' Ls (v :: rest)))) : own_Go p e below K (T.setTop (mkF m pc Ls rest)) := by
  subst hp
  exact own_st (fun t k => XS.aloadN P.st.here P.ex rfl (P.cd hd) hl hv k) k
theorem own_aload (P : own_S Z own nm bytes mx rt p l e R s m args below meth c T h locs cells slots) {j : Nat} {v : Value} (hd : decode bytes pc = .ok (.aload j, 2)) (hp : pc + 2 = pc') (hl : Ls[j]? = some (.val v)) (hv : v.isRef = true)
    (k : own_Go p e below K (T.setTop (mkF m pc' Ls (v :: rest)))) : own_Go p e below K (T.setTop (mkF m pc Ls rest)) := by
  subst hp
  exact own_st (fun t k => XS.aload P.st.here P.ex rfl (P.cd hd) hl hv k) k
theorem own_istoreN (P : own_S Z own nm bytes mx rt p l e R s m args below meth c T h locs cells slots) {j : Fin 4} {v : Int32} {Ls' : Array Slot} (hd : decode bytes pc = .ok (.istore_n j, 1)) (hp : pc + 1 = pc') (hl : storeLocals Ls j.val (.int v) = some Ls')
    (k : own_Go p e below K (T.setTop (mkF m pc' Ls' rest))) : own_Go p e below K (T.setTop (mkF m pc Ls (.int v :: rest))) := by
  subst hp
  exact own_st (fun t k => XS.istoreN P.st.here P.ex rfl (P.cd hd) rfl hl k) k
theorem own_istore (P : own_S Z own nm bytes mx rt p l e R s m args below meth c T h locs cells slots) {j : Nat} {v : Int32} {Ls' : Array Slot} (hd : decode bytes pc = .ok (.istore j, 2)) (hp : pc + 2 = pc') (hl : storeLocals Ls j (.int v) = some Ls')
    (k : own_Go p e below K (T.setTop (mkF m pc' Ls' rest))) : own_Go p e below K (T.setTop (mkF m pc Ls (.int v :: rest))) := by
  subst hp
  exact own_st (fun t k => XS.istore P.st.here P.ex rfl (P.cd hd) rfl hl k) k
theorem own_lstoreN (P : own_S Z own nm bytes mx rt p l e R s m args below meth c T h locs cells slots) {j : Fin 4} {v : Int64} {Ls' : Array Slot} (hd : decode bytes pc = .ok (.lstore_n j, 1)) (hp : pc + 1 = pc') (hl : storeLocals Ls j.val (.long v) = some Ls')
    (k : own_Go p e below K (T.setTop (mkF m pc' Ls' rest))) : own_Go p e below K (T.setTop (mkF m pc Ls (.long v :: rest))) := by
  subst hp
  exact own_st (fun t k => XS.lstoreN P.st.here P.ex rfl (P.cd hd) rfl hl k) k
theorem own_lstore (P : own_S Z own nm bytes mx rt p l e R s m args below meth c T h locs cells slots) {j : Nat} {v : Int64} {Ls' : Array Slot} (hd : decode bytes pc = .ok (.lstore j, 2)) (hp : pc + 2 = pc') (hl : storeLocals Ls j (.long v) = some Ls')
    (k : own_Go p e below K (T.setTop (mkF m pc' Ls' rest))) : own_Go p e below K (T.setTop (mkF m pc Ls (.long v :: rest))) := by
  subst hp
  exact own_st (fun t k => XS.lstore P.st.here P.ex rfl (P.cd hd) rfl hl k) k
theorem own_astoreN (P : own_S Z own nm bytes mx rt p l e R s m args below meth c T h locs cells slots) {j : Fin 4} {v : Value} {Ls' : Array Slot} (hd : decode bytes pc = .ok (.astore_n j, 1)) (hp : pc + 1 = pc') (hv : v.isRef = true) (hl : storeLocals Ls j.val v = some Ls')
    (k : own_Go p e below K (T.setTop (mkF m pc' Ls' rest))) : own_Go p e below K (T.setTop (mkF m pc Ls (v :: rest))) := by
  subst hp
  exact own_st (fun t k => XS.astoreN P.st.here P.ex rfl (P.cd hd) rfl hv hl k) k
theorem own_astore (P : own_S Z own nm bytes mx rt p l e R s m args below meth c T h locs cells slots) {j : Nat} {v : Value} {Ls' : Array Slot} (hd : decode bytes pc = .ok (.astore j, 2)) (hp : pc + 2 = pc') (hv : v.isRef = true) (hl : storeLocals Ls j v = some Ls')
    (k : own_Go p e below K (T.setTop (mkF m pc' Ls' rest))) : own_Go p e below K (T.setTop (mkF m pc Ls (v :: rest))) := by
  subst hp
  exact own_st (fun t k => XS.astore P.st.here P.ex rfl (P.cd hd) rfl hv hl k) k
theorem own_iconst (P : own_S Z own nm bytes mx rt p l e R s m args below meth c T h locs cells slots) {i : Int} {v : Int32} (hd : decode bytes pc = .ok (.iconst i, 1)) (hp : pc + 1 = pc') (hv : Int32.ofInt i = v)
    (k : own_Go p e below K (T.setTop (mkF m pc' Ls (.int v :: rest)))) : own_Go p e below K (T.setTop (mkF m pc Ls rest)) := by
  subst hp
  exact own_st (fun t k => XS.iconst P.st.here P.ex rfl (P.cd hd) (by rw [hv]; exact k)) k
theorem own_bipush (P : own_S Z own nm bytes mx rt p l e R s m args below meth c T h locs cells slots) {i : Int} {v : Int32} (hd : decode bytes pc = .ok (.bipush i, 2)) (hp : pc + 2 = pc') (hv : (Int8.ofInt i).toInt32 = v)
    (k : own_Go p e below K (T.setTop (mkF m pc' Ls (.int v :: rest)))) : own_Go p e below K (T.setTop (mkF m pc Ls rest)) := by
  subst hp
  exact own_st (fun t k => XS.bipush P.st.here P.ex rfl (P.cd hd) (by rw [hv]; exact k)) k
theorem own_sipush (P : own_S Z own nm bytes mx rt p l e R s m args below meth c T h locs cells slots) {i : Int} {v : Int32} (hd : decode bytes pc = .ok (.sipush i, 3)) (hp : pc + 3 = pc') (hv : (Int16.ofInt i).toInt32 = v)
    (k : own_Go p e below K (T.setTop (mkF m pc' Ls (.int v :: rest)))) : own_Go p e below K (T.setTop (mkF m pc Ls rest)) := by
  subst hp
  exact own_st (fun t k => XS.sipush P.st.here P.ex rfl (P.cd hd) (by rw [hv]; exact k)) k
theorem own_lconst (P : own_S Z own nm bytes mx rt p l e R s m args below meth c T h locs cells slots) {j : Fin 2} {v : Int64} (hd : decode bytes pc = .ok (.lconst j, 1)) (hp : pc + 1 = pc') (hv : Int64.ofNat j = v)
    (k : own_Go p e below K (T.setTop (mkF m pc' Ls (.long v :: rest)))) : own_Go p e below K (T.setTop (mkF m pc Ls rest)) := by
  subst hp
  exact own_st (fun t k => XS.lconst P.st.here P.ex rfl (P.cd hd) (by rw [hv]; exact k)) k
theorem own_aconstNull (P : own_S Z own nm bytes mx rt p l e R s m args below meth c T h locs cells slots)  (hd : decode bytes pc = .ok (.aconst_null, 1)) (hp : pc + 1 = pc')
    (k : own_Go p e below K (T.setTop (mkF m pc' Ls (.null :: rest)))) : own_Go p e below K (T.setTop (mkF m pc Ls rest)) := by
  subst hp
  exact own_st (fun t k => XS.aconstNull P.st.here P.ex rfl (P.cd hd) k) k
theorem own_iinc (P : own_S Z own nm bytes mx rt p l e R s m args below meth c T h locs cells slots) {j : Nat} {i : Int} {x v : Int32} {Ls' : Array Slot} (hd : decode bytes pc = .ok (.iinc j i, 3)) (hp : pc + 3 = pc') (hl : Ls[j]? = some (.val (.int x))) (hv : Int32.ofInt i = v) (hl' : storeLocals Ls j (.int (x + v)) = some Ls')
    (k : own_Go p e below K (T.setTop (mkF m pc' Ls' rest))) : own_Go p e below K (T.setTop (mkF m pc Ls rest)) := by
  subst hp
  exact own_st (fun t k => XS.iinc P.st.here P.ex rfl (P.cd hd) hl (by rw [hv]; exact hl') k) k
theorem own_dup (P : own_S Z own nm bytes mx rt p l e R s m args below meth c T h locs cells slots) {v : Value} (hd : decode bytes pc = .ok (.dup, 1)) (hp : pc + 1 = pc') (hc : v.category = 1)
    (k : own_Go p e below K (T.setTop (mkF m pc' Ls (v :: v :: rest)))) : own_Go p e below K (T.setTop (mkF m pc Ls (v :: rest))) := by
  subst hp
  exact own_st (fun t k => XS.dup P.st.here P.ex rfl (P.cd hd) rfl hc k) k
theorem own_dupX1 (P : own_S Z own nm bytes mx rt p l e R s m args below meth c T h locs cells slots) {v u : Value} (hd : decode bytes pc = .ok (.dup_x1, 1)) (hp : pc + 1 = pc') (hc : v.category = 1) (hc' : u.category = 1)
    (k : own_Go p e below K (T.setTop (mkF m pc' Ls (v :: u :: v :: rest)))) : own_Go p e below K (T.setTop (mkF m pc Ls (v :: u :: rest))) := by
  subst hp
  exact own_st (fun t k => XS.dupX1 P.st.here P.ex rfl (P.cd hd) rfl hc hc' k) k
theorem own_pop (P : own_S Z own nm bytes mx rt p l e R s m args below meth c T h locs cells slots) {v : Value} (hd : decode bytes pc = .ok (.pop, 1)) (hp : pc + 1 = pc') (hc : v.category = 1)
    (k : own_Go p e below K (T.setTop (mkF m pc' Ls rest))) : own_Go p e below K (T.setTop (mkF m pc Ls (v :: rest))) := by
  subst hp
  exact own_st (fun t k => XS.pop P.st.here P.ex rfl (P.cd hd) rfl hc k) k
theorem own_goto (P : own_S Z own nm bytes mx rt p l e R s m args below meth c T h locs cells slots) {o : Int} (hd : decode bytes pc = .ok (.goto o, 3)) (ho : 0 ≤ (pc : Int) + o) (hp : ((pc : Int) + o).toNat = pc')
    (k : own_Go p e below K (T.setTop (mkF m pc' Ls rest))) : own_Go p e below K (T.setTop (mkF m pc Ls rest)) := own_st (fun t k => XS.goto P.st.here P.ex rfl rfl (P.cd hd) ho hp k) k
/-- what a branch asks of two ints, of two longs -/
def own_ci (cd : ClassFile.Cond) (x y : Int32) : Prop := match cd with | .eq => x = y | .ne => ¬ x = y | .lt => x < y | .ge => ¬ x < y | .gt => y < x | .le => ¬ y < x
def own_cl (cd : ClassFile.Cond) (x y : Int64) : Prop := match cd with | .eq => x = y | .ne => ¬ x = y | .lt => x < y | .ge => ¬ x < y | .gt => y < x | .le => ¬ y < x
theorem own_ciY {cd : ClassFile.Cond} {x y : Int32} (q : own_ci cd x y) : if_icmp.holds cd x y = true := by
  cases cd
  · exact (teq q).1
  · exact (feq q).2
  · exact (tlt q).1
  · exact (flt q).2.1
  · exact (tlt q).2.2.1
  · exact (flt q).2.2.2
theorem own_ciN {cd : ClassFile.Cond} {x y : Int32} (q : ¬ own_ci cd x y) : if_icmp.holds cd x y = false := by
  cases cd
  · exact (feq q).1
  · exact (teq (Classical.not_not.mp q)).2
  · exact (flt q).1
  · exact (tlt (Classical.not_not.mp q)).2.1
  · exact (flt q).2.2.1
  · exact (tlt (Classical.not_not.mp q)).2.2.2
theorem own_clY {cd : ClassFile.Cond} {x y : Int64} (q : own_cl cd x y) : own_ci cd (lcmpW x y) 0 := by
  rw [lcW]
  cases cd
  · exact (lc_eq x y).mpr q
  · exact fun r => q ((lc_eq x y).mp r)
  · exact (lc_lt x y).mpr q
  · exact fun r => q ((lc_lt x y).mp r)
  · exact (lc_gt x y).mpr q
  · exact fun r => q ((lc_gt x y).mp r)
theorem own_clN {cd : ClassFile.Cond} {x y : Int64} (q : ¬ own_cl cd x y) : ¬ own_ci cd (lcmpW x y) 0 := by
  rw [lcW]
  cases cd
  · exact fun r => q ((lc_eq x y).mp r)
  · exact fun r => q fun z => r ((lc_eq x y).mpr z)
  · exact fun r => q ((lc_lt x y).mp r)
  · exact fun r => q fun z => r ((lc_lt x y).mpr z)
  · exact fun r => q ((lc_gt x y).mp r)
  · exact fun r => q fun z => r ((lc_gt x y).mpr z)
theorem own_icmpY (P : own_S Z own nm bytes mx rt p l e R s m args below meth c T h locs cells slots) {cd : ClassFile.Cond} {o : Int} {x y : Int32} (hd : decode bytes pc = .ok (.if_icmp cd o, 3)) (q : own_ci cd x y) (ho : 0 ≤ (pc : Int) + o) (hp : ((pc : Int) + o).toNat = pc')
    (k : own_Go p e below K (T.setTop (mkF m pc' Ls rest))) : own_Go p e below K (T.setTop (mkF m pc Ls (.int y :: .int x :: rest))) := own_st (fun t k => XS.icmpYes P.st.here P.ex rfl rfl (P.cd hd) rfl (own_ciY q) ho hp k) k
theorem own_icmpN (P : own_S Z own nm bytes mx rt p l e R s m args below meth c T h locs cells slots) {cd : ClassFile.Cond} {o : Int} {x y : Int32} (hd : decode bytes pc = .ok (.if_icmp cd o, 3)) (q : ¬ own_ci cd x y) (hp : pc + 3 = pc')
    (k : own_Go p e below K (T.setTop (mkF m pc' Ls rest))) : own_Go p e below K (T.setTop (mkF m pc Ls (.int y :: .int x :: rest))) := by
  subst hp
  exact own_st (fun t k => XS.icmpNo P.st.here P.ex rfl (P.cd hd) rfl (own_ciN q) k) k
theorem own_if0Y (P : own_S Z own nm bytes mx rt p l e R s m args below meth c T h locs cells slots) {cd : ClassFile.Cond} {o : Int} {x : Int32} (hd : decode bytes pc = .ok (.ifCond cd o, 3)) (q : own_ci cd x 0) (ho : 0 ≤ (pc : Int) + o) (hp : ((pc : Int) + o).toNat = pc')
    (k : own_Go p e below K (T.setTop (mkF m pc' Ls rest))) : own_Go p e below K (T.setTop (mkF m pc Ls (.int x :: rest))) := own_st (fun t k => XS.ifYes P.st.here P.ex rfl rfl (P.cd hd) rfl ((if0 _ _).trans (own_ciY q)) ho hp k) k
theorem own_if0N (P : own_S Z own nm bytes mx rt p l e R s m args below meth c T h locs cells slots) {cd : ClassFile.Cond} {o : Int} {x : Int32} (hd : decode bytes pc = .ok (.ifCond cd o, 3)) (q : ¬ own_ci cd x 0) (hp : pc + 3 = pc')
    (k : own_Go p e below K (T.setTop (mkF m pc' Ls rest))) : own_Go p e below K (T.setTop (mkF m pc Ls (.int x :: rest))) := by
  subst hp
  exact own_st (fun t k => XS.ifNo P.st.here P.ex rfl (P.cd hd) rfl ((if0 _ _).trans (own_ciN q)) k) k
theorem own_lcmp (P : own_S Z own nm bytes mx rt p l e R s m args below meth c T h locs cells slots) {x y : Int64} (hd : decode bytes pc = .ok (.lcmp, 1)) (hp : pc + 1 = pc')
    (k : own_Go p e below K (T.setTop (mkF m pc' Ls (.int (lcmpW x y) :: rest)))) : own_Go p e below K (T.setTop (mkF m pc Ls (.long y :: .long x :: rest))) := by
  subst hp
  exact own_st (fun t k => XS.lcmp P.st.here P.ex rfl (P.cd hd) rfl k) k
theorem own_lcY (P : own_S Z own nm bytes mx rt p l e R s m args below meth c T h locs cells slots) {cd : ClassFile.Cond} {o : Int} {x y : Int64} (hd : decode bytes pc = .ok (.lcmp, 1)) (hd2 : decode bytes (pc + 1) = .ok (.ifCond cd o, 3)) (q : own_cl cd x y) (ho : 0 ≤ ((pc + 1 : Nat) : Int) + o) (hp : (((pc + 1 : Nat) : Int) + o).toNat = pc')
    (k : own_Go p e below K (T.setTop (mkF m pc' Ls rest))) : own_Go p e below K (T.setTop (mkF m pc Ls (.long y :: .long x :: rest))) :=
  own_lcmp P hd rfl (own_if0Y P hd2 (own_clY q) ho hp k)
theorem own_lcN (P : own_S Z own nm bytes mx rt p l e R s m args below meth c T h locs cells slots) {cd : ClassFile.Cond} {o : Int} {x y : Int64} (hd : decode bytes pc = .ok (.lcmp, 1)) (hd2 : decode bytes (pc + 1) = .ok (.ifCond cd o, 3)) (q : ¬ own_cl cd x y) (hp : pc + 1 + 3 = pc')
    (k : own_Go p e below K (T.setTop (mkF m pc' Ls rest))) : own_Go p e below K (T.setTop (mkF m pc Ls (.long y :: .long x :: rest))) :=
  own_lcmp P hd rfl (own_if0N P hd2 (own_clN q) hp k)

theorem own_ldc (P : own_S Z own nm bytes mx rt p l e R s m args below meth c T h locs cells slots) {idx : Nat} {v : Int32} (wc : (Cond.constant own idx v).before a0 Z = true) (hd : decode bytes pc = .ok (.ldc idx, 2)) (hp : pc + 2 = pc')
    (k : own_Go p e below K (T.setTop (mkF m pc' Ls (.int v :: rest)))) : own_Go p e below K (T.setTop (mkF m pc Ls rest)) := by
  subst hp
  exact own_st (fun t k => P.st.ldcInt P.ex P.ow (mvT P.wz wc) (g := mkF m pc Ls rest) rfl (P.cd hd) t k) k
theorem own_ldcw (P : own_S Z own nm bytes mx rt p l e R s m args below meth c T h locs cells slots) {idx : Nat} {v : Int32} (wc : (Cond.constant own idx v).before a0 Z = true) (hd : decode bytes pc = .ok (.ldc_w idx, 3)) (hp : pc + 3 = pc')
    (k : own_Go p e below K (T.setTop (mkF m pc' Ls (.int v :: rest)))) : own_Go p e below K (T.setTop (mkF m pc Ls rest)) := by
  subst hp
  exact own_st (fun t k => P.st.ldcwInt P.ex P.ow (mvT P.wz wc) (g := mkF m pc Ls rest) rfl (P.cd hd) t k) k
theorem own_ldc2 (P : own_S Z own nm bytes mx rt p l e R s m args below meth c T h locs cells slots) {idx : Nat} {v : Int64} (wc : (Cond.constantLong own idx v).before a0 Z = true) (hd : decode bytes pc = .ok (.ldc2_w idx, 3)) (hp : pc + 3 = pc')
    (k : own_Go p e below K (T.setTop (mkF m pc' Ls (.long v :: rest)))) : own_Go p e below K (T.setTop (mkF m pc Ls rest)) := by
  subst hp
  exact own_st (fun t k => P.st.ldc2Long P.ex P.ow (mvT P.wz wc) (g := mkF m pc Ls rest) rfl (P.cd hd) t k) k

theorem own_retL {Q : Option Value → Heap → List Loc → Prop} {kc ks : Nat} (P : own_S Z own nm bytes mx (some .long) p l e R s m args below meth c T h locs cells slots) {v : Int64} (hd : decode bytes pc = .ok (.lreturn, 1)) (hc : cells ≤ kc) (hs : slots ≤ ks) (hq : Q (some (.long v)) h locs) :
    own_Go p e below (own_K s Q kc ks) (T.setTop (mkF m pc Ls [(.long v)])) := by
  obtain ⟨X, hx, hby, hml, hown, hZ, hr0, hlk, hh, -⟩ := P
  obtain ⟨fs, hr, hrun, hended, hW, hsame⟩ := X.leave (v := some (.long v)) (fun h => by rw [hr0] at h; cases h) hlk
  refine ⟨_, _, X.lreturnOut hx hr0 (hb hby hd) hr, hrun, hended, _, _, rfl, ?_, ⟨_, rfl⟩, hW, hsame.mono hc hs⟩
  rw [← hh] at hq
  exact hq
theorem own_retI {Q : Option Value → Heap → List Loc → Prop} {kc ks : Nat} (P : own_S Z own nm bytes mx (some .int) p l e R s m args below meth c T h locs cells slots) {v : Int32} (hd : decode bytes pc = .ok (.ireturn, 1)) (hc : cells ≤ kc) (hs : slots ≤ ks) (hq : Q (some (.int v)) h locs) :
    own_Go p e below (own_K s Q kc ks) (T.setTop (mkF m pc Ls [(.int v)])) := by
  obtain ⟨X, hx, hby, hml, hown, hZ, hr0, hlk, hh, -⟩ := P
  obtain ⟨fs, hr, hrun, hended, hW, hsame⟩ := X.leave (v := some (.int v)) (fun h => by rw [hr0] at h; cases h) hlk
  refine ⟨_, _, retI X hx hr0 (hb hby hd) hr, hrun, hended, _, _, rfl, ?_, ⟨_, rfl⟩, hW, hsame.mono hc hs⟩
  rw [← hh] at hq
  exact hq
theorem own_retZ {Q : Option Value → Heap → List Loc → Prop} {kc ks : Nat} (P : own_S Z own nm bytes mx (some .boolean) p l e R s m args below meth c T h locs cells slots) {v z : Int32} (hd : decode bytes pc = .ok (.ireturn, 1)) (hz : nar .boolean v = z) (hc : cells ≤ kc) (hs : slots ≤ ks) (hq : Q (some (.int z)) h locs) :
    own_Go p e below (own_K s Q kc ks) (T.setTop (mkF m pc Ls [(.int v)])) := by
  obtain ⟨X, hx, hby, hml, hown, hZ, hr0, hlk, hh, -⟩ := P
  obtain ⟨fs, hr, hrun, hended, hW, hsame⟩ := X.leave (v := some (.int z)) (fun h => by rw [hr0] at h; cases h) hlk
  refine ⟨_, _, retN X hx (t := .boolean) hr0 (by simp) (hb hby hd) (by rw [hz]; exact hr), hrun, hended, _, _, rfl, ?_, ⟨_, rfl⟩, hW, hsame.mono hc hs⟩
  rw [← hh] at hq
  exact hq
theorem own_retV {Q : Option Value → Heap → List Loc → Prop} {kc ks : Nat} (P : own_S Z own nm bytes mx none p l e R s m args below meth c T h locs cells slots) (hd : decode bytes pc = .ok (.return_, 1)) (hc : cells ≤ kc) (hs : slots ≤ ks) (hq : Q none h locs) :
    own_Go p e below (own_K s Q kc ks) (T.setTop (mkF m pc Ls [])) := by
  obtain ⟨X, hx, hby, hml, hown, hZ, hr0, hlk, hh, -⟩ := P
  obtain ⟨fs, hr, hrun, hended, hW, hsame⟩ := X.leave (v := none) (fun _ => rfl) hlk
  refine ⟨_, _, X.returnOut hx hr0 (hb hby hd) hr, hrun, hended, _, _, rfl, ?_, ⟨_, rfl⟩, hW, hsame.mono hc hs⟩
  rw [← hh] at hq
  exact hq
/-- a method's contract: from these arguments and this heap it returns as Q says -/
def own_Con (l : Launch) (Z : State) (y : MethodName) (bytes : ByteArray) (mx : Nat) (rt : Option FieldType) (ws : List Jvm.Cond) (rm : Room) (as' : Array Value) (h : Heap) (Q : Option Value → Heap → List Loc → Prop) : Prop :=
  MetFree l y (head1 (Jvm.Cond.code y bytes mx rt :: ws) rm) (fun a U => a = as' ∧ Z.Warmed39 U.vm ∧ U.heap = h) (fun _ _ _ _ _ => True) (fun _ U o U' => ∃ v L, o = .returned v ∧ Q v U'.heap L ∧ FrameEnd U o U' L rm.cells rm.slots)
/-- it returned v, wrote nothing and made nothing -/
def own_P (v : Option Value) (h : Heap) (v' : Option Value) (h' : Heap) (L : List Loc) : Prop := v' = v ∧ L = [] ∧ h' = h
theorem own_enter {y : MethodName} {ws : List Jvm.Cond} {rm : Room} {as' : Array Value} {Q : Option Value → Heap → List Loc → Prop} (hpl : plainFor y = true) (Ls : Array Slot) (hef : ∀ m, entryFrame m as' mx = mkF m 0 Ls [])
    (body : ∀ (p : Program) (e : Env) (s : State) (m : MethodId) (below : List Frame) (meth : Method) (c : Code) (T : State), own_S Z y.cls y.name bytes mx rt p l e rm s m as' below meth c T h [] 0 0 → own_Go p e below (own_K s Q rm.cells rm.slots) (T.setTop (mkF m 0 Ls []))) :
    own_Con l Z y bytes mx rt ws rm as' h Q := by
  refine MetFree.of_bodySF hpl hisR ?_
  intro p e s m args below meth c s₁ Bd hml0 hP hK
  obtain ⟨rfl, hZ, hh⟩ := hP
  have e0 : s₁.heap = h := by rw [← hh, Bd.state]; rfl
  obtain ⟨t, o, h1, h2, h3, v, L, ho, hq, hf⟩ := body p e s m below meth c s₁ ⟨Stand.of_body Bd, Bd.exec, Bd.bytes, hml0, findClass_of_methodNamed Bd.named, hZ, Bd.returns, BodyLoose.notSynchronized Bd, e0, (name_of_methodNamed Bd.named Bd.method).1⟩
  exact ⟨t, o, castTop (hef m) h1, h2, h3, v, L, ho, hq, hf⟩
theorem own_callQ (P : own_S Z own nm bytes mx rt p l e R s m args below meth c T h locs cells slots) {idx : Nat} {y : MethodName} {by' : ByteArray} {mx' : Nat} {rt' : Option FieldType} {rm : Room} {Q : Option Value → Heap → List Loc → Prop} {argsL st : List Value} {ps : List FieldType} {rr : Option FieldType}
    (wl : (Cond.methodLink own idx y).before a0 Z = true) (wt : (Cond.static y).before a0 Z = true) (wi : (Cond.initialized y.cls).before a0 Z = true) (wc : (Cond.code y by' mx' rt').before a0 Z = true) (hy : y.cls ≠ "java/lang/invoke/MethodHandle" ∧ y.cls ≠ "java/lang/invoke/VarHandle")
    (hM : own_Con l Z y by' mx' rt' [] rm argsL.toArray h Q) (hd : decode bytes pc = .ok (.invokestatic idx, 3)) (hp : pc + 3 = pc') (hdes : parseMethodDescriptor y.desc = some ⟨ps, rr⟩) (hlen : argsL.length = ps.length) (hsz : Ls.size = mx) (hst : st = argsL.reverse ++ rest)
    (hf : rm.frames + 1 ≤ R.frames) (W : Nat) (hW : (rest.map fun v => v.category).sum = W) (hl : W + (mx' + 11) + rm.locals ≤ R.locals) (hc : cells + rm.cells ≤ R.cells) (hs : slots + rm.slots ≤ R.slots)
    (k : ∀ T' h' v L, Q v h' L → own_S Z own nm bytes mx rt p l e R s m args below meth c T' h' (locs ++ L) (cells + rm.cells) (slots + rm.slots) → own_Go p e below K (T'.setTop (mkF m pc' Ls (v.toList ++ rest)))) :
    own_Go p e below K (T.setTop (mkF m pc Ls st)) := by
  subst hp
  obtain ⟨v, _, ⟨T3, L3, k3, n3⟩, -, X3, ⟨Lc3, hQ3, l3, y3, z3⟩, st3⟩ := Jvm.LawKit.callS P.st P.ex (y := y) P.ow (mvT P.wz wl) (mvT P.wz wt) (mvT P.wz wi) (mvT P.wz wc) hy (backOf (W := W) hM P.wz wc wi hf hl) (g := (mkF m pc Ls st)) rfl (by rw [P.ml]; exact hsz) (argsL := argsL) (rest := rest) (lenOf hdes hlen) hst (by show 2 * 0 + _ ≤ _; rw [hW]; exact Nat.le_of_eq (by simp)) (P.cd hd) (fun _ _ => ⟨rfl, P.hp, hc, hs⟩)
  dsimp only [Pt.U, Pt.locs, Pt.cells, Pt.slots] at X3 l3 y3 z3 st3 hQ3
  subst l3 y3 z3
  exact own_st st3 (k T3 T3.heap v Lc3 hQ3 (P.move X3 rfl))
theorem own_callP (P : own_S Z own nm bytes mx rt p l e R s m args below meth c T h locs cells slots) {idx : Nat} {y : MethodName} {by' : ByteArray} {mx' : Nat} {rt' : Option FieldType} {rm : Room} {v : Option Value} {argsL st : List Value} {ps : List FieldType} {rr : Option FieldType}
    (wl : (Cond.methodLink own idx y).before a0 Z = true) (wt : (Cond.static y).before a0 Z = true) (wi : (Cond.initialized y.cls).before a0 Z = true) (wc : (Cond.code y by' mx' rt').before a0 Z = true) (hy : y.cls ≠ "java/lang/invoke/MethodHandle" ∧ y.cls ≠ "java/lang/invoke/VarHandle")
    (hM : own_Con l Z y by' mx' rt' [] rm argsL.toArray h (own_P v h)) (hd : decode bytes pc = .ok (.invokestatic idx, 3)) (hp : pc + 3 = pc') (hdes : parseMethodDescriptor y.desc = some ⟨ps, rr⟩) (hlen : argsL.length = ps.length) (hsz : Ls.size = mx) (hst : st = argsL.reverse ++ rest)
    (hf : rm.frames + 1 ≤ R.frames) (W : Nat) (hW : (rest.map fun v => v.category).sum = W) (hl : W + (mx' + 11) + rm.locals ≤ R.locals) (hc : rm.cells = 0) (hs : rm.slots = 0) (hcc : cells ≤ R.cells) (hss : slots ≤ R.slots)
    (k : ∀ T', own_S Z own nm bytes mx rt p l e R s m args below meth c T' h locs cells slots → own_Go p e below K (T'.setTop (mkF m pc' Ls (v.toList ++ rest)))) :
    own_Go p e below K (T.setTop (mkF m pc Ls st)) := by
  refine own_callQ P wl wt wi wc hy hM hd hp hdes hlen hsz hst hf W hW hl (by rw [hc]; exact hcc) (by rw [hs]; exact hss) fun T' h' v' L hQ P' => ?_
  obtain ⟨rfl, rfl, rfl⟩ := hQ
  rw [hc, hs, List.append_nil] at P'
  exact k T' P'
def own_One (s : Slot) : Prop := s = .unset ∨ ∃ w : Value, s = .val w ∧ w.category = 1
theorem own_conMono {y : MethodName} {ws : List Jvm.Cond} {rm : Room} {as' : Array Value} {Q Q' : Option Value → Heap → List Loc → Prop} (q : own_Con l Z y bytes mx rt ws rm as' h Q) (f : ∀ v h' L, Q v h' L → Q' v h' L) : own_Con l Z y bytes mx rt ws rm as' h Q' := by
  intro p e ha hc hk s m args below hf happ hP hK
  obtain ⟨n, o, h1, h2, h3, v, L, h4, h5, h6⟩ := q p e ha hc hk s m args below hf happ hP hK
  exact ⟨n, o, h1, h2, h3, v, L, h4, f _ _ _ h5, h6⟩
theorem own_S.mono (P : own_S Z own nm bytes mx rt p l e R s m args below meth c T h locs cells slots) {cells' slots' : Nat} (hc : cells ≤ cells') (hs : slots ≤ slots') : own_S Z own nm bytes mx rt p l e R s m args below meth c T h locs cells' slots' :=
  P.move { P.st with same := P.st.same.mono hc hs } P.hp
end OwnBase
section OwnHeap
variable {p : Program} {l : Launch} {e : Env} {R : Room} {s : State} {m : MethodId} {args : Array Value} {below : List Frame} {meth : Method} {c : Code} {T : State} {h : Heap} {locs : List Loc} {cells slots : Nat} {Z : State} {a0 : Array Value} {own nm : String} {bytes : ByteArray} {mx : Nat} {rt : Option FieldType} {K : State → Outcome → Prop} {pc pc' : Nat} {Ls : Array Slot} {rest : List Value}
theorem own_new (P : own_S Z own nm bytes mx rt p l e R s m args below meth c T h locs cells slots) {C : String} {idx n : Nat} (wl : (Cond.classLink own idx C).before a0 Z = true) (wi : (Cond.instantiable C n).before a0 Z = true) (wz : (Cond.initialized C).before a0 Z = true) (hd : decode bytes pc = .ok (.new idx, 3)) (hp : pc + 3 = pc') (hc : cells + 1 ≤ R.cells) (hl : slots + n ≤ R.slots)
    (k : ∀ (T' : State) (h' : Heap) (a : Addr), a = h.size → Ext h h' → Exa Z h' a C → (∀ {O fn d : String} {ty : FieldType}, Laid Z a0 C O fn d → parseFieldDescriptor d = some ty → Fld Z h' a O fn d (defaultValue ty)) → own_S Z own nm bytes mx rt p l e R s m args below meth c T' h' locs (cells + 1) (slots + n) → own_Go p e below K (T'.setTop (mkF m pc' Ls (.ref a :: rest)))) :
    own_Go p e below K (T.setTop (mkF m pc Ls rest)) := by
  subst hp
  obtain ⟨T2, h2, X2, e2, E2, A2, D2, -, st2⟩ := newO P.st P.ex P.wz P.ow wl wi wz P.hp (g := mkF m pc Ls rest) rfl (P.cd hd) hc hl
  exact own_st st2 (k T2 h2 h.size rfl E2 A2 D2 (P.move X2 e2))
theorem own_initO (P : own_S Z own nm bytes mx rt p l e R s m args below meth c T h locs cells slots) {idx : Nat} {a : Addr} (w1 : (Cond.methodLink own idx Lib.objectInit).before a0 Z = true) (w2 : (Cond.instanceMethod Lib.objectInit).before a0 Z = true) (w3 : (Cond.code Lib.objectInit ⟨#[0xb1]⟩ 1 none).before a0 Z = true) (hd : decode bytes pc = .ok (.invokespecial idx, 3)) (hp : pc + 3 = pc') (hsz : Ls.size = mx) (hf : 1 ≤ R.frames) (W : Nat) (hW : (rest.map fun v => v.category).sum = W) (hl : W + 12 ≤ R.locals)
    (k : ∀ T' : State, own_S Z own nm bytes mx rt p l e R s m args below meth c T' h locs cells slots → own_Go p e below K (T'.setTop (mkF m pc' Ls rest))) : own_Go p e below K (T.setTop (mkF m pc Ls (.ref a :: rest))) := by
  subst hp
  obtain ⟨T2, X2, e2, st2⟩ := initO P.st P.ex P.wz P.ow w1 w2 w3 P.hp (g := mkF m pc Ls (.ref a :: rest)) rfl (by rw [P.ml]; exact hsz) rfl (P.cd hd) hf (W := W) (by show 2 * 0 + _ ≤ _; rw [hW]; exact Nat.le_of_eq (by simp)) hl
  exact own_st st2 (k T2 (P.move X2 e2))
theorem own_getF (P : own_S Z own nm bytes mx rt p l e R s m args below meth c T h locs cells slots) {idx : Nat} {O fn d : String} {a : Addr} {v : Value} (wf : (Cond.fieldLink own idx O fn d).before a0 Z = true) (F : Fld Z h a O fn d v) (hd : decode bytes pc = .ok (.getfield idx, 3)) (hp : pc + 3 = pc')
    (k : ∀ T' : State, own_S Z own nm bytes mx rt p l e R s m args below meth c T' h locs cells slots → own_Go p e below K (T'.setTop (mkF m pc' Ls (v :: rest)))) : own_Go p e below K (T.setTop (mkF m pc Ls (.ref a :: rest))) := by
  subst hp
  obtain ⟨T2, X2, e2, st2⟩ := getF P.st P.ex P.wz P.ow (host := "") (Or.inl wf) Via.refl P.hp F (g := mkF m pc Ls (.ref a :: rest)) rfl rfl (P.cd hd)
  exact own_st st2 (k T2 (P.move X2 e2))
theorem own_putF (P : own_S Z own nm bytes mx rt p l e R s m args below meth c T h locs cells slots) {idx kk : Nat} {C O fn d : String} {ty : FieldType} {a : Addr} {v old : Value} (wf : (Cond.fieldLink own idx O fn d).before a0 Z = true) (F : Fld Z h a O fn d old) (E : Exa Z h a C) (L : (Cond.lays C O fn d).before a0 Z = true ∨ ((Cond.laysFinal C O fn d).before a0 Z = true ∧ own = O ∧ nm = "<init>")) (wi : (Cond.instantiable C kk).before a0 Z = true) (hty : parseFieldDescriptor d = some ty) (hn : narrow ty v = v) (hf : fits ty v = true) (hd : decode bytes pc = .ok (.putfield idx, 3)) (hp : pc + 3 = pc')
    (k : ∀ (T' : State) (h' : Heap), Wr h h' a (Jvm.RoadKit.slotOf Z O fn d) v → own_S Z own nm bytes mx rt p l e R s m args below meth c T' h' (locs ++ [⟨a, Jvm.RoadKit.slotOf Z O fn d⟩]) cells slots → own_Go p e below K (T'.setTop (mkF m pc' Ls rest))) : own_Go p e below K (T.setTop (mkF m pc Ls (v :: .ref a :: rest))) := by
  subst hp
  obtain ⟨T2, h2, X2, e2, W2, st2⟩ := putF P.st P.ex P.wz P.ow (host := "") (Or.inl wf) Via.refl P.hp F E (L.imp id fun q => ⟨q.1, q.2.1, P.nmm.trans q.2.2⟩) wi hty hn hf (g := mkF m pc Ls (v :: .ref a :: rest)) rfl rfl (P.cd hd)
  exact own_st st2 (k T2 h2 W2 (P.move X2 e2))
theorem own_init (P : own_S Z own nm bytes mx rt p l e R s m args below meth c T h locs cells slots) {idx : Nat} {y : MethodName} {by' : ByteArray} {mx' : Nat} {rm : Room} {Q : Option Value → Heap → List Loc → Prop} {a : Addr} {argsL st : List Value} {ps : List FieldType} {rr : Option FieldType} (hy1 : y.name = "<init>")
    (wl : (Cond.methodLink own idx y).before a0 Z = true) (wm : (Cond.instanceMethod y).before a0 Z = true) (wi : (Cond.initialized y.cls).before a0 Z = true) (wc : (Cond.code y by' mx' none).before a0 Z = true) (hy : y.cls ≠ "java/lang/invoke/MethodHandle" ∧ y.cls ≠ "java/lang/invoke/VarHandle")
    (hM : own_Con l Z y by' mx' none [] rm (.ref a :: argsL).toArray h Q) (hd : decode bytes pc = .ok (.invokespecial idx, 3)) (hp : pc + 3 = pc') (hdes : parseMethodDescriptor y.desc = some ⟨ps, rr⟩) (hlen : argsL.length = ps.length) (hsz : Ls.size = mx) (hst : st = argsL.reverse ++ .ref a :: rest)
    (hf : rm.frames + 1 ≤ R.frames) (W : Nat) (hW : (rest.map fun v => v.category).sum = W) (hl : W + (mx' + 11) + rm.locals ≤ R.locals) (hc : cells + rm.cells ≤ R.cells) (hs : slots + rm.slots ≤ R.slots)
    (k : ∀ T' h' v L, Q v h' L → own_S Z own nm bytes mx rt p l e R s m args below meth c T' h' (locs ++ L) (cells + rm.cells) (slots + rm.slots) → own_Go p e below K (T'.setTop (mkF m pc' Ls (v.toList ++ rest)))) :
    own_Go p e below K (T.setTop (mkF m pc Ls st)) := by
  subst hp
  obtain ⟨v, _, ⟨T3, L3, k3, n3⟩, -, X3, ⟨Lc3, hQ3, l3, y3, z3⟩, st3⟩ := P.st.specialBack P.ex (y := y) hy1 P.ow (mvT P.wz wl) (mvT P.wz wm) (mvT P.wz wc) hy (backOf (W := W) hM P.wz wc wi hf hl) (g := (mkF m pc Ls st)) rfl (by rw [P.ml]; exact hsz) (Steps.refl _) (a := a) (argsL := argsL) (rest := rest) (lenOf hdes hlen) hst (by show 2 * 0 + _ ≤ _; rw [hW]; exact Nat.le_of_eq (by simp)) (P.cd hd) (fun _ _ => ⟨rfl, P.hp, hc, hs⟩)
  dsimp only [Pt.U, Pt.locs, Pt.cells, Pt.slots] at X3 l3 y3 z3 st3 hQ3
  subst l3 y3 z3
  exact own_st (fun t q => st3.trans q) (k T3 T3.heap v Lc3 hQ3 (P.move X3 rfl))
theorem own_virt (P : own_S Z own nm bytes mx rt p l e R s m args below meth c T h locs cells slots) {idx : Nat} {C : String} {y : MethodName} {by' : ByteArray} {mx' : Nat} {rt' : Option FieldType} {rm : Room} {Q : Option Value → Heap → List Loc → Prop} {a : Addr} {argsL st : List Value} {ps : List FieldType} {rr : Option FieldType}
    (wl : (Cond.methodLink own idx y).before a0 Z = true) (wd : (Cond.declares y).before a0 Z = true) (wsel : (Cond.selects C y y).before a0 Z = true) (wm : (Cond.instanceMethod y).before a0 Z = true) (wi : (Cond.initialized y.cls).before a0 Z = true) (wc : (Cond.code y by' mx' rt').before a0 Z = true) (hy : y.cls ≠ "java/lang/invoke/MethodHandle" ∧ y.cls ≠ "java/lang/invoke/VarHandle") (E : Exa Z h a C)
    (hM : own_Con l Z y by' mx' rt' [] rm (.ref a :: argsL).toArray h Q) (hd : decode bytes pc = .ok (.invokevirtual idx, 3)) (hp : pc + 3 = pc') (hdes : parseMethodDescriptor y.desc = some ⟨ps, rr⟩) (hlen : argsL.length = ps.length) (hsz : Ls.size = mx) (hst : st = argsL.reverse ++ .ref a :: rest)
    (hf : rm.frames + 1 ≤ R.frames) (W : Nat) (hW : (rest.map fun v => v.category).sum = W) (hl : W + (mx' + 11) + rm.locals ≤ R.locals) (hc : cells + rm.cells ≤ R.cells) (hs : slots + rm.slots ≤ R.slots)
    (k : ∀ T' h' v L, Q v h' L → own_S Z own nm bytes mx rt p l e R s m args below meth c T' h' (locs ++ L) (cells + rm.cells) (slots + rm.slots) → own_Go p e below K (T'.setTop (mkF m pc' Ls (v.toList ++ rest)))) :
    own_Go p e below K (T.setTop (mkF m pc Ls st)) := by
  subst hp
  obtain ⟨cq, kq, qa, qb, qc⟩ := isOf P.wz P.hp E
  obtain ⟨v, _, ⟨T3, L3, k3, n3⟩, -, X3, ⟨Lc3, hQ3, l3, y3, z3⟩, st3⟩ := P.st.virtualBack P.ex (y := y) (z := y) P.ow (mvT P.wz wl) (mvT P.wz wd) (notFace_of_selects (args := #[]) (mvT P.wz wsel)) (mvT P.wz wsel) (mvT P.wz wm) hy (backOf (W := W) hM P.wz wc wi hf hl) qa qc (g := (mkF m pc Ls st)) rfl (by rw [P.ml]; exact hsz) (Steps.refl _) (argsL := argsL) (rest := rest) (lenOf hdes hlen) hst (by show 2 * 0 + _ ≤ _; rw [hW]; exact Nat.le_of_eq (by simp)) (P.cd hd) (fun _ _ => ⟨rfl, P.hp, hc, hs⟩)
  dsimp only [Pt.U, Pt.locs, Pt.cells, Pt.slots] at X3 l3 y3 z3 st3 hQ3
  subst l3 y3 z3
  exact own_st (fun t q => st3.trans q) (k T3 T3.heap v Lc3 hQ3 (P.move X3 rfl))
theorem own_initP (P : own_S Z own nm bytes mx rt p l e R s m args below meth c T h locs cells slots) {idx : Nat} {y : MethodName} {by' : ByteArray} {mx' : Nat} {rm : Room} {v : Option Value} {a : Addr} {argsL st : List Value} {ps : List FieldType} {rr : Option FieldType} (hy1 : y.name = "<init>")
    (wl : (Cond.methodLink own idx y).before a0 Z = true) (wm : (Cond.instanceMethod y).before a0 Z = true) (wi : (Cond.initialized y.cls).before a0 Z = true) (wc : (Cond.code y by' mx' none).before a0 Z = true) (hy : y.cls ≠ "java/lang/invoke/MethodHandle" ∧ y.cls ≠ "java/lang/invoke/VarHandle")
    (hM : own_Con l Z y by' mx' none [] rm (.ref a :: argsL).toArray h (own_P v h)) (hd : decode bytes pc = .ok (.invokespecial idx, 3)) (hp : pc + 3 = pc') (hdes : parseMethodDescriptor y.desc = some ⟨ps, rr⟩) (hlen : argsL.length = ps.length) (hsz : Ls.size = mx) (hst : st = argsL.reverse ++ .ref a :: rest)
    (hf : rm.frames + 1 ≤ R.frames) (W : Nat) (hW : (rest.map fun v => v.category).sum = W) (hl : W + (mx' + 11) + rm.locals ≤ R.locals) (hc : rm.cells = 0) (hs : rm.slots = 0) (hcc : cells ≤ R.cells) (hss : slots ≤ R.slots)
    (k : ∀ T', own_S Z own nm bytes mx rt p l e R s m args below meth c T' h locs cells slots → own_Go p e below K (T'.setTop (mkF m pc' Ls (v.toList ++ rest)))) :
    own_Go p e below K (T.setTop (mkF m pc Ls st)) := by
  refine own_init P hy1 wl wm wi wc hy hM hd hp hdes hlen hsz hst hf W hW hl (by rw [hc]; exact hcc) (by rw [hs]; exact hss) fun T' h' v' L hQ P' => ?_
  obtain ⟨rfl, rfl, rfl⟩ := hQ
  rw [hc, hs, List.append_nil] at P'
  exact k T' P'
theorem own_virtP (P : own_S Z own nm bytes mx rt p l e R s m args below meth c T h locs cells slots) {idx : Nat} {C : String} {y : MethodName} {by' : ByteArray} {mx' : Nat} {rt' : Option FieldType} {rm : Room} {v : Option Value} {a : Addr} {argsL st : List Value} {ps : List FieldType} {rr : Option FieldType}
    (wl : (Cond.methodLink own idx y).before a0 Z = true) (wd : (Cond.declares y).before a0 Z = true) (wsel : (Cond.selects C y y).before a0 Z = true) (wm : (Cond.instanceMethod y).before a0 Z = true) (wi : (Cond.initialized y.cls).before a0 Z = true) (wc : (Cond.code y by' mx' rt').before a0 Z = true) (hy : y.cls ≠ "java/lang/invoke/MethodHandle" ∧ y.cls ≠ "java/lang/invoke/VarHandle") (E : Exa Z h a C)
    (hM : own_Con l Z y by' mx' rt' [] rm (.ref a :: argsL).toArray h (own_P v h)) (hd : decode bytes pc = .ok (.invokevirtual idx, 3)) (hp : pc + 3 = pc') (hdes : parseMethodDescriptor y.desc = some ⟨ps, rr⟩) (hlen : argsL.length = ps.length) (hsz : Ls.size = mx) (hst : st = argsL.reverse ++ .ref a :: rest)
    (hf : rm.frames + 1 ≤ R.frames) (W : Nat) (hW : (rest.map fun v => v.category).sum = W) (hl : W + (mx' + 11) + rm.locals ≤ R.locals) (hc : rm.cells = 0) (hs : rm.slots = 0) (hcc : cells ≤ R.cells) (hss : slots ≤ R.slots)
    (k : ∀ T', own_S Z own nm bytes mx rt p l e R s m args below meth c T' h locs cells slots → own_Go p e below K (T'.setTop (mkF m pc' Ls (v.toList ++ rest)))) :
    own_Go p e below K (T.setTop (mkF m pc Ls st)) := by
  refine own_virt P wl wd wsel wm wi wc hy E hM hd hp hdes hlen hsz hst hf W hW hl (by rw [hc]; exact hcc) (by rw [hs]; exact hss) fun T' h' v' L hQ P' => ?_
  obtain ⟨rfl, rfl, rfl⟩ := hQ
  rw [hc, hs, List.append_nil] at P'
  exact k T' P'
/-- an array of ints (chars, bytes) that holds just the list vs -/
def own_Ar (Z : State) (h : Heap) (a : Addr) (ty : FieldType) (vs : List Int32) : Prop := ∃ c : Cell, Arr Z h a c ty ∧ c.slots = (vs.map Value.int).toArray
theorem own_Ar.lt {a : Addr} {ty : FieldType} {vs : List Int32} (A : own_Ar Z h a ty vs) : a < h.size := by obtain ⟨c, q, -⟩ := A; exact q.lt
theorem own_Ar.ext {h' : Heap} {a : Addr} {ty : FieldType} {vs : List Int32} (A : own_Ar Z h a ty vs) (E : Ext h h') : own_Ar Z h' a ty vs := by obtain ⟨c, q, r⟩ := A; exact ⟨c, q.ext E, r⟩
theorem own_Ar.other {h' : Heap} {a b : Addr} {ty : FieldType} {vs : List Int32} {sl : Nat} {v : Value} (A : own_Ar Z h b ty vs) (W : Wr h h' a sl v) (ne : b ≠ a) : own_Ar Z h' b ty vs := by obtain ⟨c, q, r⟩ := A; exact ⟨c, q.other W ne, r⟩
theorem own_Ar.keep {h' : Heap} {a : Addr} {ty : FieldType} {vs : List Int32} {ws : List Addr} (A : own_Ar Z h a ty vs) (Kp : Keep h h' ws) (ne : a ∉ ws) : own_Ar Z h' a ty vs := by obtain ⟨c, q, r⟩ := A; exact ⟨c, ⟨Kp.2.1 a c q.1 ne, q.2⟩, r⟩
theorem own_Ar.set {h' : Heap} {a : Addr} {ty : FieldType} {vs : List Int32} {j : Nat} {x : Int32} (A : own_Ar Z h a ty vs) (W : Wr h h' a j (.int x)) : own_Ar Z h' a ty (vs.set j x) := by
  obtain ⟨c, q, r⟩ := A
  refine ⟨_, q.same W, ?_⟩
  simp only [Cell.setSlot]
  rw [r]
  simp
theorem own_arrNew (P : own_S Z own nm bytes mx rt p l e R s m args below meth c T h locs cells slots) {aty : ArrayType} {ty : FieldType} {n : Int32} (cap : Nat) (wa : (Cond.arrayClass ty).before a0 Z = true) (ht : newarray.typeOf aty = ty) (hdv : defaultValue ty = .int 0) (hd : decode bytes pc = .ok (.newarray aty, 2)) (hp : pc + 2 = pc') (hn : 0 ≤ n.toInt) (hcap : n.toInt.toNat ≤ cap) (hb : cap * 8 ≤ 536870912) (hc : cells + 1 ≤ R.cells) (hl : slots + cap ≤ R.slots)
    (k : ∀ (T' : State) (h' : Heap) (a : Addr), a = h.size → Ext h h' → own_Ar Z h' a ty (List.replicate n.toInt.toNat 0) → own_S Z own nm bytes mx rt p l e R s m args below meth c T' h' locs (cells + 1) (slots + cap) → own_Go p e below K (T'.setTop (mkF m pc' Ls (.ref a :: rest)))) :
    own_Go p e below K (T.setTop (mkF m pc Ls (.int n :: rest))) := by
  subst hp ht
  have hn' : ¬ n < 0 := by rw [Int32.lt_iff_toInt_lt]; exact Int.not_lt.mpr hn
  obtain ⟨T2, h2, cA, X2, e2, E2, A2, st2⟩ := newP P.st P.ex P.wz (aty := aty) wa P.hp (g := mkF m pc Ls (.int n :: rest)) rfl (P.cd hd) rfl hn' (cap := cap) hcap hb hc hl
  refine own_st st2 (k T2 h2 h.size rfl E2 ⟨_, A2, ?_⟩ (P.move X2 e2))
  show Array.replicate n.toNatClampNeg (defaultValue _) = _
  rw [hdv]
  show Array.replicate n.toInt.toNat (Value.int 0) = _
  simp
theorem own_arrIn {a : Addr} {ty : FieldType} {vs : List Int32} {c : Cell} {j : Int32} (r : c.slots = (vs.map Value.int).toArray) (h1 : 0 ≤ j.toInt) (h2 : j.toInt.toNat < vs.length) : ¬ (j < 0 ∨ c.slots.size ≤ j.toNatClampNeg) := by
  rintro (q | q)
  · rw [Int32.lt_iff_toInt_lt] at q
    have z : (0 : Int32).toInt = 0 := rfl
    omega
  · rw [r] at q
    simp only [List.size_toArray, List.length_map, Int32.toNatClampNeg] at q
    omega
theorem own_arrAt {vs : List Int32} {c : Cell} {j x : Int32} (r : c.slots = (vs.map Value.int).toArray) (h2 : j.toInt.toNat < vs.length) (hx : vs.getD j.toInt.toNat 0 = x) : c.slots[j.toNatClampNeg]? = some (.int x) := by
  subst hx
  rw [r]
  show (vs.map Value.int).toArray[j.toInt.toNat]? = _
  rw [List.getElem?_toArray, List.getElem?_map, List.getD_eq_getElem?_getD, List.getElem?_eq_getElem h2]
  rfl
theorem own_alen (P : own_S Z own nm bytes mx rt p l e R s m args below meth c T h locs cells slots) {a : Addr} {ty : FieldType} {vs : List Int32} {v : Int32} (A : own_Ar Z h a ty vs) (hd : decode bytes pc = .ok (.arraylength, 1)) (hp : pc + 1 = pc') (hv : Int32.ofNat vs.length = v)
    (k : own_Go p e below K (T.setTop (mkF m pc' Ls (.int v :: rest)))) : own_Go p e below K (T.setTop (mkF m pc Ls (.ref a :: rest))) := by
  subst hp hv
  obtain ⟨c, q, r⟩ := A
  have hsz : c.slots.size.toInt32 = Int32.ofNat vs.length := by rw [r]; simp
  refine own_st (fun t kk => P.st.arraylength P.ex (cell := c) (by rw [P.hp]; exact q.1) (State.isArrayOf_alike P.wz.alike q.2.1) (g := mkF m pc Ls (.ref a :: rest)) rfl (rest := rest) rfl (P.cd hd) t ?_) k
  rw [hsz]
  exact kk
theorem own_iaload (P : own_S Z own nm bytes mx rt p l e R s m args below meth c T h locs cells slots) {a : Addr} {vs : List Int32} {j x : Int32} (A : own_Ar Z h a .int vs) (hd : decode bytes pc = .ok (.iaload, 1)) (hp : pc + 1 = pc') (h1 : 0 ≤ j.toInt) (h2 : j.toInt.toNat < vs.length) (hx : vs.getD j.toInt.toNat 0 = x)
    (k : own_Go p e below K (T.setTop (mkF m pc' Ls (.int x :: rest)))) : own_Go p e below K (T.setTop (mkF m pc Ls (.int j :: .ref a :: rest))) := by
  subst hp
  obtain ⟨c, q, r⟩ := A
  exact own_st (fun t kk => P.st.iaload P.ex (j := j) (v := .int x) (by rw [P.hp]; exact q.1) (State.isArrayOf_alike P.wz.alike q.2.1) q.2.2 (own_arrIn (a := a) (ty := .int) r h1 h2) (own_arrAt r h2 hx) (g := mkF m pc Ls (.int j :: .ref a :: rest)) rfl rfl (P.cd hd) t kk) k
theorem own_caload (P : own_S Z own nm bytes mx rt p l e R s m args below meth c T h locs cells slots) {a : Addr} {vs : List Int32} {j x : Int32} (A : own_Ar Z h a .char vs) (hd : decode bytes pc = .ok (.caload, 1)) (hp : pc + 1 = pc') (h1 : 0 ≤ j.toInt) (h2 : j.toInt.toNat < vs.length) (hx : vs.getD j.toInt.toNat 0 = x)
    (k : own_Go p e below K (T.setTop (mkF m pc' Ls (.int x :: rest)))) : own_Go p e below K (T.setTop (mkF m pc Ls (.int j :: .ref a :: rest))) := by
  subst hp
  obtain ⟨c, q, r⟩ := A
  exact own_st (fun t kk => P.st.caload P.ex (j := j) (v := .int x) (by rw [P.hp]; exact q.1) (State.isArrayOf_alike P.wz.alike q.2.1) q.2.2 (own_arrIn (a := a) (ty := .char) r h1 h2) (own_arrAt r h2 hx) (g := mkF m pc Ls (.int j :: .ref a :: rest)) rfl rfl (P.cd hd) t kk) k
theorem own_baload (P : own_S Z own nm bytes mx rt p l e R s m args below meth c T h locs cells slots) {a : Addr} {vs : List Int32} {j x : Int32} (A : own_Ar Z h a .byte vs) (hd : decode bytes pc = .ok (.baload, 1)) (hp : pc + 1 = pc') (h1 : 0 ≤ j.toInt) (h2 : j.toInt.toNat < vs.length) (hx : vs.getD j.toInt.toNat 0 = x)
    (k : own_Go p e below K (T.setTop (mkF m pc' Ls (.int x :: rest)))) : own_Go p e below K (T.setTop (mkF m pc Ls (.int j :: .ref a :: rest))) := by
  subst hp
  obtain ⟨c, q, r⟩ := A
  exact own_st (fun t kk => P.st.baloadBytes P.ex (j := j) (v := .int x) (by rw [P.hp]; exact q.1) (State.isArrayOf_alike P.wz.alike q.2.1) q.2.2 (own_arrIn (a := a) (ty := .byte) r h1 h2) (own_arrAt r h2 hx) (g := mkF m pc Ls (.int j :: .ref a :: rest)) rfl rfl (P.cd hd) t kk) k
theorem own_iastore (P : own_S Z own nm bytes mx rt p l e R s m args below meth c T h locs cells slots) {a : Addr} {vs : List Int32} {j x z : Int32} (A : own_Ar Z h a .int vs) (hd : decode bytes pc = .ok (.iastore, 1)) (hp : pc + 1 = pc') (h1 : 0 ≤ j.toInt) (h2 : j.toInt.toNat < vs.length) (hz : x = z)
    (k : ∀ (T' : State) (h' : Heap), Wr h h' a j.toInt.toNat (.int z) → own_Ar Z h' a .int (vs.set j.toInt.toNat z) → own_S Z own nm bytes mx rt p l e R s m args below meth c T' h' (locs ++ [⟨a, j.toInt.toNat⟩]) cells slots → own_Go p e below K (T'.setTop (mkF m pc' Ls rest))) : own_Go p e below K (T.setTop (mkF m pc Ls (.int x :: .int j :: .ref a :: rest))) := by
  subst hp hz
  have A' := A
  obtain ⟨c, q, r⟩ := A'
  obtain ⟨T2, h2', X2, e2, W2, st2⟩ := stI P.st P.ex P.wz P.hp q (j := j) (own_arrIn (a := a) (ty := .int) r h1 h2) (g := mkF m pc Ls (.int x :: .int j :: .ref a :: rest)) rfl rfl (P.cd hd)
  exact own_st st2 (k T2 h2' W2 (A.set W2) (P.move X2 e2))
theorem own_castore (P : own_S Z own nm bytes mx rt p l e R s m args below meth c T h locs cells slots) {a : Addr} {vs : List Int32} {j x z : Int32} (A : own_Ar Z h a .char vs) (hd : decode bytes pc = .ok (.castore, 1)) (hp : pc + 1 = pc') (h1 : 0 ≤ j.toInt) (h2 : j.toInt.toNat < vs.length) (hz : nar .char x = z)
    (k : ∀ (T' : State) (h' : Heap), Wr h h' a j.toInt.toNat (.int z) → own_Ar Z h' a .char (vs.set j.toInt.toNat z) → own_S Z own nm bytes mx rt p l e R s m args below meth c T' h' (locs ++ [⟨a, j.toInt.toNat⟩]) cells slots → own_Go p e below K (T'.setTop (mkF m pc' Ls rest))) : own_Go p e below K (T.setTop (mkF m pc Ls (.int x :: .int j :: .ref a :: rest))) := by
  subst hp hz
  have A' := A
  obtain ⟨c, q, r⟩ := A'
  obtain ⟨T2, h2', X2, e2, W2, st2⟩ := stC P.st P.ex P.wz P.hp q (j := j) (own_arrIn (a := a) (ty := .char) r h1 h2) (g := mkF m pc Ls (.int x :: .int j :: .ref a :: rest)) rfl rfl (P.cd hd)
  exact own_st st2 (k T2 h2' W2 (A.set W2) (P.move X2 e2))
theorem own_bastore (P : own_S Z own nm bytes mx rt p l e R s m args below meth c T h locs cells slots) {a : Addr} {vs : List Int32} {j x z : Int32} (A : own_Ar Z h a .byte vs) (hd : decode bytes pc = .ok (.bastore, 1)) (hp : pc + 1 = pc') (h1 : 0 ≤ j.toInt) (h2 : j.toInt.toNat < vs.length) (hz : nar .byte x = z)
    (k : ∀ (T' : State) (h' : Heap), Wr h h' a j.toInt.toNat (.int z) → own_Ar Z h' a .byte (vs.set j.toInt.toNat z) → own_S Z own nm bytes mx rt p l e R s m args below meth c T' h' (locs ++ [⟨a, j.toInt.toNat⟩]) cells slots → own_Go p e below K (T'.setTop (mkF m pc' Ls rest))) : own_Go p e below K (T.setTop (mkF m pc Ls (.int x :: .int j :: .ref a :: rest))) := by
  subst hp hz
  have A' := A
  obtain ⟨c, q, r⟩ := A'
  obtain ⟨T2, h2', X2, e2, W2, st2⟩ := stB P.st P.ex P.wz P.hp q (j := j) (own_arrIn (a := a) (ty := .byte) r h1 h2) (g := mkF m pc Ls (.int x :: .int j :: .ref a :: rest)) rfl rfl (P.cd hd)
  exact own_st st2 (k T2 h2' W2 (A.set W2) (P.move X2 e2))
end OwnHeap

theorem d1_0 : decode prog_96_method_1_code 0 = .ok (.aload_n 0, 1) := by decide +kernel
theorem d1_1 : decode prog_96_method_1_code 1 = .ok (.invokespecial 1, 3) := by decide +kernel
theorem d1_4 : decode prog_96_method_1_code 4 = .ok (.lload_n 1, 1) := by decide +kernel
theorem d1_5 : decode prog_96_method_1_code 5 = .ok (.lconst 0, 1) := by decide +kernel
theorem d1_6 : decode prog_96_method_1_code 6 = .ok (.lcmp, 1) := by decide +kernel
theorem d1_7 : decode prog_96_method_1_code 7 = .ok (.ifCond .ge 17, 3) := by decide +kernel
theorem d1_24 : decode prog_96_method_1_code 24 = .ok (.aload_n 0, 1) := by decide +kernel
theorem d1_25 : decode prog_96_method_1_code 25 = .ok (.lload_n 1, 1) := by decide +kernel
theorem d1_26 : decode prog_96_method_1_code 26 = .ok (.putfield 16, 3) := by decide +kernel
theorem d1_29 : decode prog_96_method_1_code 29 = .ok (.return_, 1) := by decide +kernel
theorem own_pn0 : plainName "com/example/axioms_to_answers/axiomstoanswers/homomorphism/Tries" = true := by first | (simp [plainName, overriddenIn]; done) | decide +kernel
set_option maxRecDepth 65536 in
set_option maxHeartbeats 40000000 in
theorem rm1 (l : Launch) (Z : State) (a0 : Array Value) (hw : ∀ d ∈ tables_1, d.before a0 Z = true) (o0 : Addr) (j1 : Int64)  (h : Heap) (n0 : Nat) (Z0 : n0 ≤ h.size) (g_o0 : n0 ≤ o0) (E_o0 : Exa Z h o0 "com/example/axioms_to_answers/axiomstoanswers/homomorphism/Tries") (F1 : Fld Z h o0 "com/example/axioms_to_answers/axiomstoanswers/homomorphism/Tries" "left" "J" (.long (0 : Int64))) (hge : ¬ (j1 < (0 : Int64))) :
    own_Con l Z (⟨"com/example/axioms_to_answers/axiomstoanswers/homomorphism/Tries", "<init>", "(J)V"⟩ : MethodName) prog_96_method_1_code 3 none [] ({ frames := 1, cells := 0, slots := 0, locals := 12 } : Room) #[(.ref o0), (.long j1)] h (fun v h' L => v = none ∧ Fr n0 L ∧ Keep h h' [o0] ∧ Fld Z h' o0 "com/example/axioms_to_answers/axiomstoanswers/homomorphism/Tries" "left" "J" (.long j1)) := by
  refine own_enter (plainFor_of_name own_pn0) #[.val (.ref o0), .val (.long j1), .second] (fun m => by first | (simp [entryFrame, mkF, argsToLocals, Value.category]; done) | rfl) ?_
  intro p e s m below meth c T P
  replace P : own_S Z "com/example/axioms_to_answers/axiomstoanswers/homomorphism/Tries" "<init>" prog_96_method_1_code 3 none p l e ({ frames := 1, cells := 0, slots := 0, locals := 12 } : Room) s m #[(.ref o0), (.long j1)] below meth c T h [] 0 0 := P
  have N0 : Fr n0 [] := Fr.nil n0
  refine own_aloadN P d1_0 rfl rfl rfl ?_
  refine own_initO P (hw _ (List.mem_of_getElem? (i := 7) rfl)) (hw _ (List.mem_of_getElem? (i := 8) rfl)) (hw _ (List.mem_of_getElem? (i := 9) rfl)) d1_1 rfl rfl (by decide) 0 rfl (by decide) (fun T2 P1 => ?_)
  refine own_lloadN P1 d1_4 rfl rfl ?_
  refine own_lconst P1 d1_5 rfl (v := (0 : Int64)) rfl ?_
  refine own_lcY P1 (pc' := 24) d1_6 d1_7 hge (by decide) (by decide) ?_
  refine own_aloadN P1 d1_24 rfl rfl rfl ?_
  refine own_lloadN P1 d1_25 rfl rfl ?_
  refine own_putF P1 (hw _ (List.mem_of_getElem? (i := 10) rfl)) F1 E_o0 (Or.inl (hw _ (List.mem_of_getElem? (i := 11) rfl))) (hw _ (List.mem_of_getElem? (i := 2) rfl)) (ty := .long) (by decide) rfl rfl d1_26 rfl (fun T4 h5 W6 P3 => ?_)
  have f7 := F1.same W6
  have N8 := Fr.snoc P3.st N0 g_o0
  have K9 := (Keep.refl h [o0]).wr W6 (Or.inl (List.mem_of_getElem? (i := 0) rfl))
  have f10 := E_o0.wr W6
  exact own_retV P3 d1_29 (by decide) (by decide) ⟨rfl, N8, K9, f7⟩
def own_tl (f : Int64) : Int64 := if f < (0 : Int64) then f else (f - (1 : Int64))
def own_tv (f : Int64) : Int32 := if own_tl f < (0 : Int64) then (0 : Int32) else (1 : Int32)
theorem d3_0 : decode prog_96_method_2_code 0 = .ok (.aload_n 0, 1) := by decide +kernel
theorem d3_1 : decode prog_96_method_2_code 1 = .ok (.getfield 16, 3) := by decide +kernel
theorem d3_4 : decode prog_96_method_2_code 4 = .ok (.lconst 0, 1) := by decide +kernel
theorem d3_5 : decode prog_96_method_2_code 5 = .ok (.lcmp, 1) := by decide +kernel
theorem d3_6 : decode prog_96_method_2_code 6 = .ok (.ifCond .lt 13, 3) := by decide +kernel
theorem d3_19 : decode prog_96_method_2_code 19 = .ok (.aload_n 0, 1) := by decide +kernel
theorem d3_20 : decode prog_96_method_2_code 20 = .ok (.getfield 16, 3) := by decide +kernel
theorem d3_23 : decode prog_96_method_2_code 23 = .ok (.lconst 0, 1) := by decide +kernel
theorem d3_24 : decode prog_96_method_2_code 24 = .ok (.lcmp, 1) := by decide +kernel
theorem d3_25 : decode prog_96_method_2_code 25 = .ok (.ifCond .lt 7, 3) := by decide +kernel
theorem d3_32 : decode prog_96_method_2_code 32 = .ok (.iconst 0, 1) := by decide +kernel
theorem d3_33 : decode prog_96_method_2_code 33 = .ok (.ireturn, 1) := by decide +kernel
theorem d3_9 : decode prog_96_method_2_code 9 = .ok (.aload_n 0, 1) := by decide +kernel
theorem d3_10 : decode prog_96_method_2_code 10 = .ok (.dup, 1) := by decide +kernel
theorem d3_11 : decode prog_96_method_2_code 11 = .ok (.getfield 16, 3) := by decide +kernel
theorem d3_14 : decode prog_96_method_2_code 14 = .ok (.lconst 1, 1) := by decide +kernel
theorem d3_15 : decode prog_96_method_2_code 15 = .ok (.lsub, 1) := by decide +kernel
theorem d3_16 : decode prog_96_method_2_code 16 = .ok (.putfield 16, 3) := by decide +kernel
theorem d3_28 : decode prog_96_method_2_code 28 = .ok (.iconst 1, 1) := by decide +kernel
theorem d3_29 : decode prog_96_method_2_code 29 = .ok (.goto 4, 3) := by decide +kernel
set_option maxRecDepth 65536 in
set_option maxHeartbeats 40000000 in
theorem rm3 (l : Launch) (Z : State) (a0 : Array Value) (hw : ∀ d ∈ tables_1, d.before a0 Z = true) (o0 : Addr) (f : Int64) (h : Heap) (n0 : Nat) (Z0 : n0 ≤ h.size) (g_o0 : n0 ≤ o0) (E_o0 : Exa Z h o0 "com/example/axioms_to_answers/axiomstoanswers/homomorphism/Tries") (F1 : Fld Z h o0 "com/example/axioms_to_answers/axiomstoanswers/homomorphism/Tries" "left" "J" (.long f)) :
    own_Con l Z (⟨"com/example/axioms_to_answers/axiomstoanswers/homomorphism/Tries", "take", "()Z"⟩ : MethodName) prog_96_method_2_code 1 (some .boolean) [] ({ frames := 0, cells := 0, slots := 0, locals := 0 } : Room) #[(.ref o0)] h (fun v h' L => v = some (.int (own_tv f)) ∧ Fr n0 L ∧ Keep h h' [o0] ∧ Fld Z h' o0 "com/example/axioms_to_answers/axiomstoanswers/homomorphism/Tries" "left" "J" (.long (own_tl f))) := by
  refine own_enter (plainFor_of_name own_pn0) #[.val (.ref o0)] (fun m => by first | (simp [entryFrame, mkF, argsToLocals, Value.category]; done) | rfl) ?_
  intro p e s m below meth c T P
  replace P : own_S Z "com/example/axioms_to_answers/axiomstoanswers/homomorphism/Tries" "take" prog_96_method_2_code 1 (some .boolean) p l e ({ frames := 0, cells := 0, slots := 0, locals := 0 } : Room) s m #[(.ref o0)] below meth c T h [] 0 0 := P
  have N0 : Fr n0 [] := Fr.nil n0
  refine own_aloadN P d3_0 rfl rfl rfl ?_
  refine own_getF P (hw _ (List.mem_of_getElem? (i := 10) rfl)) F1 d3_1 rfl (fun T12 P11 => ?_)
  refine own_lconst P11 d3_4 rfl (v := (0 : Int64)) rfl ?_
  by_cases hc13 : f < (0 : Int64)
  · refine own_lcY P11 (pc' := 19) d3_5 d3_6 hc13 (by decide) (by decide) ?_
    refine own_aloadN P11 d3_19 rfl rfl rfl ?_
    refine own_getF P11 (hw _ (List.mem_of_getElem? (i := 10) rfl)) F1 d3_20 rfl (fun T15 P14 => ?_)
    refine own_lconst P14 d3_23 rfl (v := (0 : Int64)) rfl ?_
    refine own_lcY P14 (pc' := 32) d3_24 d3_25 hc13 (by decide) (by decide) ?_
    refine own_iconst P14 d3_32 rfl (v := (0 : Int32)) rfl ?_
    exact own_retZ P14 d3_33 (z := (0 : Int32)) rfl (by decide) (by decide) ⟨by simp [own_tv, own_tl, hc13], N0, (Keep.refl h [o0]), by unfold own_tl; rw [if_pos hc13]; exact F1⟩
  · refine own_lcN P11 (pc' := 9) d3_5 d3_6 hc13 rfl ?_
    refine own_aloadN P11 d3_9 rfl rfl rfl ?_
    refine own_dup P11 d3_10 rfl rfl ?_
    refine own_getF P11 (hw _ (List.mem_of_getElem? (i := 10) rfl)) F1 d3_11 rfl (fun T17 P16 => ?_)
    refine own_lconst P16 d3_14 rfl (v := (1 : Int64)) rfl ?_
    refine own_lsub P16 d3_15 rfl ?_
    refine own_putF P16 (hw _ (List.mem_of_getElem? (i := 10) rfl)) F1 E_o0 (Or.inl (hw _ (List.mem_of_getElem? (i := 11) rfl))) (hw _ (List.mem_of_getElem? (i := 2) rfl)) (ty := .long) (by decide) rfl rfl d3_16 rfl (fun T19 h20 W21 P18 => ?_)
    have f22 := F1.same W21
    have N23 := Fr.snoc P18.st N0 g_o0
    have K24 := (Keep.refl h [o0]).wr W21 (Or.inl (List.mem_of_getElem? (i := 0) rfl))
    have f25 := E_o0.wr W21
    refine own_aloadN P18 d3_19 rfl rfl rfl ?_
    refine own_getF P18 (hw _ (List.mem_of_getElem? (i := 10) rfl)) f22 d3_20 rfl (fun T27 P26 => ?_)
    refine own_lconst P26 d3_23 rfl (v := (0 : Int64)) rfl ?_
    by_cases hc28 : (f - (1 : Int64)) < (0 : Int64)
    · refine own_lcY P26 (pc' := 32) d3_24 d3_25 hc28 (by decide) (by decide) ?_
      refine own_iconst P26 d3_32 rfl (v := (0 : Int32)) rfl ?_
      exact own_retZ P26 d3_33 (z := (0 : Int32)) rfl (by decide) (by decide) ⟨by simp [own_tv, own_tl, hc13, hc28], N23, K24, by unfold own_tl; rw [if_neg hc13]; exact f22⟩
    · refine own_lcN P26 (pc' := 28) d3_24 d3_25 hc28 rfl ?_
      refine own_iconst P26 d3_28 rfl (v := (1 : Int32)) rfl ?_
      refine own_goto P26 (pc' := 33) d3_29 (by decide) (by decide) ?_
      exact own_retZ P26 d3_33 (z := (1 : Int32)) rfl (by decide) (by decide) ⟨by simp [own_tv, own_tl, hc13, hc28], N23, K24, by unfold own_tl; rw [if_neg hc13]; exact f22⟩
theorem d4_0 : decode prog_96_method_4_code 0 = .ok (.aload_n 0, 1) := by decide +kernel
theorem d4_1 : decode prog_96_method_4_code 1 = .ok (.getfield 16, 3) := by decide +kernel
theorem d4_4 : decode prog_96_method_4_code 4 = .ok (.lreturn, 1) := by decide +kernel
def F4_0 (f : Int64) : Int64 := f
set_option maxRecDepth 65536 in
set_option maxHeartbeats 40000000 in
theorem b4_0 {p : Program} {l : Launch} {e : Env} {s : State} {m : MethodId} {args : Array Value} {below : List Frame} {meth : Method} {c : Code} {T : State} {h : Heap} {Z : State} {a0 : Array Value} {Q : Option Value → Heap → List Loc → Prop} (hw : ∀ d ∈ tables_1, d.before a0 Z = true) (o0 : Addr) (f : Int64) (F1 : Fld Z h o0 "com/example/axioms_to_answers/axiomstoanswers/homomorphism/Tries" "left" "J" (.long f)) (P : own_S Z "com/example/axioms_to_answers/axiomstoanswers/homomorphism/Tries" "left" prog_96_method_4_code 1 (some .long) p l e ({ frames := 0, cells := 0, slots := 0, locals := 0 } : Room) s m args below meth c T h [] 0 0) (hQ : Q (some (.long (F4_0 f))) h []) :
    own_Go p e below (own_K s Q 0 0) (T.setTop (mkF m 0 #[.val (.ref o0)] [])) := by
  unfold F4_0 at hQ
  refine own_aloadN P d4_0 rfl rfl rfl ?_
  refine own_getF P (hw _ (List.mem_of_getElem? (i := 10) rfl)) F1 d4_1 rfl (fun T30 P29 => ?_)
  exact own_retL P29 d4_4 (by decide) (by decide) hQ
theorem rm4 (l : Launch) (Z : State) (a0 : Array Value) (hw : ∀ d ∈ tables_1, d.before a0 Z = true) (o0 : Addr) (f : Int64) (h : Heap) (F1 : Fld Z h o0 "com/example/axioms_to_answers/axiomstoanswers/homomorphism/Tries" "left" "J" (.long f)) :
    own_Con l Z (⟨"com/example/axioms_to_answers/axiomstoanswers/homomorphism/Tries", "left", "()J"⟩ : MethodName) prog_96_method_4_code 1 (some .long) [] ({ frames := 0, cells := 0, slots := 0, locals := 0 } : Room) #[(.ref o0)] h (own_P (some (.long (F4_0 f))) h) :=
  own_enter (plainFor_of_name own_pn0) #[.val (.ref o0)] (fun m => by first | (simp [entryFrame, mkF, argsToLocals, Value.category]; done) | rfl) (fun p e s m below meth c T P => b4_0 hw o0 f F1 P ⟨rfl, rfl, rfl⟩)
theorem d6_0 : decode prog_96_method_3_code 0 = .ok (.aload_n 0, 1) := by decide +kernel
theorem d6_1 : decode prog_96_method_3_code 1 = .ok (.getfield 16, 3) := by decide +kernel
theorem d6_4 : decode prog_96_method_3_code 4 = .ok (.lconst 0, 1) := by decide +kernel
theorem d6_5 : decode prog_96_method_3_code 5 = .ok (.lcmp, 1) := by decide +kernel
theorem d6_6 : decode prog_96_method_3_code 6 = .ok (.ifCond .ge 7, 3) := by decide +kernel
theorem d6_9 : decode prog_96_method_3_code 9 = .ok (.iconst 1, 1) := by decide +kernel
theorem d6_10 : decode prog_96_method_3_code 10 = .ok (.goto 4, 3) := by decide +kernel
theorem d6_14 : decode prog_96_method_3_code 14 = .ok (.ireturn, 1) := by decide +kernel
theorem d6_13 : decode prog_96_method_3_code 13 = .ok (.iconst 0, 1) := by decide +kernel
def F6_0 (f : Int64) : Int32 := (if f < (0 : Int64) then (1 : Int32) else (0 : Int32))
set_option maxRecDepth 65536 in
set_option maxHeartbeats 40000000 in
theorem b6_0 {p : Program} {l : Launch} {e : Env} {s : State} {m : MethodId} {args : Array Value} {below : List Frame} {meth : Method} {c : Code} {T : State} {h : Heap} {Z : State} {a0 : Array Value} {Q : Option Value → Heap → List Loc → Prop} (hw : ∀ d ∈ tables_1, d.before a0 Z = true) (o0 : Addr) (f : Int64) (F1 : Fld Z h o0 "com/example/axioms_to_answers/axiomstoanswers/homomorphism/Tries" "left" "J" (.long f)) (P : own_S Z "com/example/axioms_to_answers/axiomstoanswers/homomorphism/Tries" "areSpent" prog_96_method_3_code 1 (some .boolean) p l e ({ frames := 0, cells := 0, slots := 0, locals := 0 } : Room) s m args below meth c T h [] 0 0) (hQ : Q (some (.int (F6_0 f))) h []) :
    own_Go p e below (own_K s Q 0 0) (T.setTop (mkF m 0 #[.val (.ref o0)] [])) := by
  unfold F6_0 at hQ
  refine own_aloadN P d6_0 rfl rfl rfl ?_
  refine own_getF P (hw _ (List.mem_of_getElem? (i := 10) rfl)) F1 d6_1 rfl (fun T32 P31 => ?_)
  refine own_lconst P31 d6_4 rfl (v := (0 : Int64)) rfl ?_
  by_cases hc33 : f < (0 : Int64)
  · rw [if_pos hc33] at hQ
    refine own_lcN P31 (pc' := 9) d6_5 d6_6 (not_not_intro hc33) rfl ?_
    refine own_iconst P31 d6_9 rfl (v := (1 : Int32)) rfl ?_
    refine own_goto P31 (pc' := 14) d6_10 (by decide) (by decide) ?_
    exact own_retZ P31 d6_14 (z := (1 : Int32)) rfl (by decide) (by decide) hQ
  · rw [if_neg hc33] at hQ
    refine own_lcY P31 (pc' := 13) d6_5 d6_6 hc33 (by decide) (by decide) ?_
    refine own_iconst P31 d6_13 rfl (v := (0 : Int32)) rfl ?_
    exact own_retZ P31 d6_14 (z := (0 : Int32)) rfl (by decide) (by decide) hQ
theorem rm6 (l : Launch) (Z : State) (a0 : Array Value) (hw : ∀ d ∈ tables_1, d.before a0 Z = true) (o0 : Addr) (f : Int64) (h : Heap) (F1 : Fld Z h o0 "com/example/axioms_to_answers/axiomstoanswers/homomorphism/Tries" "left" "J" (.long f)) :
    own_Con l Z (⟨"com/example/axioms_to_answers/axiomstoanswers/homomorphism/Tries", "areSpent", "()Z"⟩ : MethodName) prog_96_method_3_code 1 (some .boolean) [] ({ frames := 0, cells := 0, slots := 0, locals := 0 } : Room) #[(.ref o0)] h (own_P (some (.int (F6_0 f))) h) :=
  own_enter (plainFor_of_name own_pn0) #[.val (.ref o0)] (fun m => by first | (simp [entryFrame, mkF, argsToLocals, Value.category]; done) | rfl) (fun p e s m below meth c T P => b6_0 hw o0 f F1 P ⟨rfl, rfl, rfl⟩)
theorem d5_0 : decode method_2_code 0 = .ok (.lload_n 0, 1) := by decide +kernel
theorem d5_1 : decode method_2_code 1 = .ok (.lconst 1, 1) := by decide +kernel
theorem d5_2 : decode method_2_code 2 = .ok (.lcmp, 1) := by decide +kernel
theorem d5_3 : decode method_2_code 3 = .ok (.ifCond .lt 7, 3) := by decide +kernel
theorem d5_10 : decode method_2_code 10 = .ok (.ldc2_w 7, 3) := by decide +kernel
theorem d5_13 : decode method_2_code 13 = .ok (.lreturn, 1) := by decide +kernel
theorem d5_6 : decode method_2_code 6 = .ok (.lload_n 0, 1) := by decide +kernel
theorem d5_7 : decode method_2_code 7 = .ok (.lconst 1, 1) := by decide +kernel
theorem d5_8 : decode method_2_code 8 = .ok (.lsub, 1) := by decide +kernel
theorem d5_9 : decode method_2_code 9 = .ok (.lreturn, 1) := by decide +kernel
def F5_0 (j0 : Int64) : Int64 := (if j0 < (1 : Int64) then (-1 : Int64) else (j0 - (1 : Int64)))
set_option maxRecDepth 65536 in
set_option maxHeartbeats 40000000 in
theorem b5_0 {p : Program} {l : Launch} {e : Env} {s : State} {m : MethodId} {args : Array Value} {below : List Frame} {meth : Method} {c : Code} {T : State} {h : Heap} {Z : State} {a0 : Array Value} {Q : Option Value → Heap → List Loc → Prop} (hw : ∀ d ∈ tables_1, d.before a0 Z = true) (j0 : Int64) (P : own_S Z "com/example/axioms_to_answers/axiomstoanswers/homomorphism/TriesTakePinLaw" "after" method_2_code 2 (some .long) p l e ({ frames := 0, cells := 0, slots := 0, locals := 0 } : Room) s m args below meth c T h [] 0 0) (hQ : Q (some (.long (F5_0 j0))) h []) :
    own_Go p e below (own_K s Q 0 0) (T.setTop (mkF m 0 #[.val (.long j0), .second] [])) := by
  unfold F5_0 at hQ
  refine own_lloadN P d5_0 rfl rfl ?_
  refine own_lconst P d5_1 rfl (v := (1 : Int64)) rfl ?_
  by_cases hc34 : j0 < (1 : Int64)
  · rw [if_pos hc34] at hQ
    refine own_lcY P (pc' := 10) d5_2 d5_3 hc34 (by decide) (by decide) ?_
    refine own_ldc2 P (v := (-1 : Int64)) (hw _ (List.mem_of_getElem? (i := 41) rfl)) d5_10 rfl ?_
    exact own_retL P d5_13 (by decide) (by decide) hQ
  · rw [if_neg hc34] at hQ
    refine own_lcN P (pc' := 6) d5_2 d5_3 hc34 rfl ?_
    refine own_lloadN P d5_6 rfl rfl ?_
    refine own_lconst P d5_7 rfl (v := (1 : Int64)) rfl ?_
    refine own_lsub P d5_8 rfl ?_
    exact own_retL P d5_9 (by decide) (by decide) hQ
theorem own_pn1 : plainName "com/example/axioms_to_answers/axiomstoanswers/homomorphism/TriesTakePinLaw" = true := by first | (simp [plainName, overriddenIn]; done) | decide +kernel
theorem rm5 (l : Launch) (Z : State) (a0 : Array Value) (hw : ∀ d ∈ tables_1, d.before a0 Z = true) (j0 : Int64) (h : Heap) :
    own_Con l Z (⟨"com/example/axioms_to_answers/axiomstoanswers/homomorphism/TriesTakePinLaw", "after", "(J)J"⟩ : MethodName) method_2_code 2 (some .long) [] ({ frames := 0, cells := 0, slots := 0, locals := 0 } : Room) #[(.long j0)] h (own_P (some (.long (F5_0 j0))) h) :=
  own_enter (plainFor_of_name own_pn1) #[.val (.long j0), .second] (fun m => by first | (simp [entryFrame, mkF, argsToLocals, Value.category]; done) | rfl) (fun p e s m below meth c T P => b5_0 hw j0 P ⟨rfl, rfl, rfl⟩)
theorem d8_0 : decode jdk_29_method_66_code 0 = .ok (.lload_n 0, 1) := by decide +kernel
theorem d8_1 : decode jdk_29_method_66_code 1 = .ok (.lload_n 2, 1) := by decide +kernel
theorem d8_2 : decode jdk_29_method_66_code 2 = .ok (.lcmp, 1) := by decide +kernel
theorem d8_3 : decode jdk_29_method_66_code 3 = .ok (.ifCond .lt 7, 3) := by decide +kernel
theorem d8_10 : decode jdk_29_method_66_code 10 = .ok (.lload_n 2, 1) := by decide +kernel
theorem d8_11 : decode jdk_29_method_66_code 11 = .ok (.lreturn, 1) := by decide +kernel
theorem d8_6 : decode jdk_29_method_66_code 6 = .ok (.lload_n 0, 1) := by decide +kernel
theorem d8_7 : decode jdk_29_method_66_code 7 = .ok (.goto 4, 3) := by decide +kernel
def F8_0 (j0 : Int64) (j2 : Int64) : Int64 := (if j0 < j2 then j2 else j0)
set_option maxRecDepth 65536 in
set_option maxHeartbeats 40000000 in
theorem b8_0 {p : Program} {l : Launch} {e : Env} {s : State} {m : MethodId} {args : Array Value} {below : List Frame} {meth : Method} {c : Code} {T : State} {h : Heap} {Z : State} {a0 : Array Value} {Q : Option Value → Heap → List Loc → Prop} (hw : ∀ d ∈ tables_1, d.before a0 Z = true) (j0 : Int64) (j2 : Int64) (P : own_S Z "java/lang/Math" "max" jdk_29_method_66_code 4 (some .long) p l e ({ frames := 0, cells := 0, slots := 0, locals := 0 } : Room) s m args below meth c T h [] 0 0) (hQ : Q (some (.long (F8_0 j0 j2))) h []) :
    own_Go p e below (own_K s Q 0 0) (T.setTop (mkF m 0 #[.val (.long j0), .second, .val (.long j2), .second] [])) := by
  unfold F8_0 at hQ
  refine own_lloadN P d8_0 rfl rfl ?_
  refine own_lloadN P d8_1 rfl rfl ?_
  by_cases hc35 : j0 < j2
  · rw [if_pos hc35] at hQ
    refine own_lcY P (pc' := 10) d8_2 d8_3 hc35 (by decide) (by decide) ?_
    refine own_lloadN P d8_10 rfl rfl ?_
    exact own_retL P d8_11 (by decide) (by decide) hQ
  · rw [if_neg hc35] at hQ
    refine own_lcN P (pc' := 6) d8_2 d8_3 hc35 rfl ?_
    refine own_lloadN P d8_6 rfl rfl ?_
    refine own_goto P (pc' := 11) d8_7 (by decide) (by decide) ?_
    exact own_retL P d8_11 (by decide) (by decide) hQ
theorem rm8 (l : Launch) (Z : State) (a0 : Array Value) (hw : ∀ d ∈ tables_1, d.before a0 Z = true) (j0 : Int64) (j2 : Int64) (h : Heap) :
    own_Con l Z (⟨"java/lang/Math", "max", "(JJ)J"⟩ : MethodName) jdk_29_method_66_code 4 (some .long) [] ({ frames := 0, cells := 0, slots := 0, locals := 0 } : Room) #[(.long j0), (.long j2)] h (own_P (some (.long (F8_0 j0 j2))) h) :=
  own_enter (Jvm.Free.JP.mathPlain rfl (by decide +kernel)) #[.val (.long j0), .second, .val (.long j2), .second] (fun m => by first | (simp [entryFrame, mkF, argsToLocals, Value.category]; done) | rfl) (fun p e s m below meth c T P => b8_0 hw j0 j2 P ⟨rfl, rfl, rfl⟩)
theorem d7_0 : decode prog_96_method_5_code 0 = .ok (.aload_n 0, 1) := by decide +kernel
theorem d7_1 : decode prog_96_method_5_code 1 = .ok (.lload_n 1, 1) := by decide +kernel
theorem d7_2 : decode prog_96_method_5_code 2 = .ok (.ldc2_w 22, 3) := by decide +kernel
theorem d7_5 : decode prog_96_method_5_code 5 = .ok (.invokestatic 24, 3) := by decide +kernel
theorem own_pd0 : parseMethodDescriptor "(JJ)J" = some ⟨[.long, .long], some .long⟩ := by decide +kernel
theorem d7_8 : decode prog_96_method_5_code 8 = .ok (.putfield 16, 3) := by decide +kernel
theorem d7_11 : decode prog_96_method_5_code 11 = .ok (.return_, 1) := by decide +kernel
set_option maxRecDepth 65536 in
set_option maxHeartbeats 40000000 in
theorem rm7 (l : Launch) (Z : State) (a0 : Array Value) (hw : ∀ d ∈ tables_1, d.before a0 Z = true) (o0 : Addr) (j1 : Int64) (f : Int64) (h : Heap) (n0 : Nat) (Z0 : n0 ≤ h.size) (g_o0 : n0 ≤ o0) (E_o0 : Exa Z h o0 "com/example/axioms_to_answers/axiomstoanswers/homomorphism/Tries") (F1 : Fld Z h o0 "com/example/axioms_to_answers/axiomstoanswers/homomorphism/Tries" "left" "J" (.long f)) :
    own_Con l Z (⟨"com/example/axioms_to_answers/axiomstoanswers/homomorphism/Tries", "leave", "(J)V"⟩ : MethodName) prog_96_method_5_code 3 none [] ({ frames := 1, cells := 0, slots := 0, locals := 16 } : Room) #[(.ref o0), (.long j1)] h (fun v h' L => v = none ∧ Fr n0 L ∧ Keep h h' [o0] ∧ Fld Z h' o0 "com/example/axioms_to_answers/axiomstoanswers/homomorphism/Tries" "left" "J" (.long (F8_0 j1 (-1 : Int64)))) := by
  refine own_enter (plainFor_of_name own_pn0) #[.val (.ref o0), .val (.long j1), .second] (fun m => by first | (simp [entryFrame, mkF, argsToLocals, Value.category]; done) | rfl) ?_
  intro p e s m below meth c T P
  replace P : own_S Z "com/example/axioms_to_answers/axiomstoanswers/homomorphism/Tries" "leave" prog_96_method_5_code 3 none p l e ({ frames := 1, cells := 0, slots := 0, locals := 16 } : Room) s m #[(.ref o0), (.long j1)] below meth c T h [] 0 0 := P
  have N0 : Fr n0 [] := Fr.nil n0
  refine own_aloadN P d7_0 rfl rfl rfl ?_
  refine own_lloadN P d7_1 rfl rfl ?_
  refine own_ldc2 P (v := (-1 : Int64)) (hw _ (List.mem_of_getElem? (i := 36) rfl)) d7_2 rfl ?_
  refine own_callP P (hw _ (List.mem_of_getElem? (i := 37) rfl)) (hw _ (List.mem_of_getElem? (i := 38) rfl)) (hw _ (List.mem_of_getElem? (i := 39) rfl)) (hw _ (List.mem_of_getElem? (i := 40) rfl)) (by decide) (argsL := [(.long j1), (.long (-1 : Int64))]) (rest := [(.ref o0)]) (rm8 l Z a0 hw j1 (-1 : Int64) h) d7_5 rfl own_pd0 rfl rfl rfl (by decide) 1 rfl (by decide) rfl rfl (by decide) (by decide) (fun T37 P36 => ?_)
  show own_Go p e below _ (T37.setTop (mkF m 8 #[.val (.ref o0), .val (.long j1), .second] [(.long (F8_0 j1 (-1 : Int64))), (.ref o0)]))
  refine own_putF P36 (hw _ (List.mem_of_getElem? (i := 10) rfl)) F1 E_o0 (Or.inl (hw _ (List.mem_of_getElem? (i := 11) rfl))) (hw _ (List.mem_of_getElem? (i := 2) rfl)) (ty := .long) (by decide) rfl rfl d7_8 rfl (fun T39 h40 W41 P38 => ?_)
  have f42 := F1.same W41
  have N43 := Fr.snoc P38.st N0 g_o0
  have K44 := (Keep.refl h [o0]).wr W41 (Or.inl (List.mem_of_getElem? (i := 0) rfl))
  have f45 := E_o0.wr W41
  exact own_retV P38 d7_11 (by decide) (by decide) ⟨rfl, N43, K44, f42⟩
theorem own_nn1 (j : Int64) : ¬ ((j &&& (3 : Int64)) < (0 : Int64)) := by
  have m0 : (j &&& (3 : Int64)).toInt = j.toInt % 2 ^ 2 := Jvm.Kit.i64_mask j _ (k := 2) (by decide) (by decide)
  rw [Int64.lt_iff_toInt_lt, m0]
  have z : (0 : Int64).toInt = 0 := by decide
  omega
theorem own_nn2 (j : Int64) : ¬ ((j &&& (9223372036854775807 : Int64)) < (0 : Int64)) := by
  have m0 : (j &&& (9223372036854775807 : Int64)).toInt = j.toInt % 2 ^ 63 := Jvm.Kit.i64_mask j _ (k := 63) (by decide) (by decide)
  rw [Int64.lt_iff_toInt_lt, m0]
  have z : (0 : Int64).toInt = 0 := by decide
  omega
theorem own_pd1 : parseMethodDescriptor "(J)V" = some ⟨[.long], none⟩ := by decide +kernel
theorem own_pd2 : parseMethodDescriptor "()Z" = some ⟨[], some .boolean⟩ := by decide +kernel
theorem own_pd3 : parseMethodDescriptor "()J" = some ⟨[], some .long⟩ := by decide +kernel
theorem own_pd4 : parseMethodDescriptor "(J)J" = some ⟨[.long], some .long⟩ := by decide +kernel
def F0_278 (i9 : Int32) (i17 : Int32) (si0 : Int32) : Int32 := (if i9 = (0 : Int32) then (0 : Int32) else (if i17 = (0 : Int32) then (0 : Int32) else (if si0 = (0 : Int32) then (0 : Int32) else (1 : Int32))))
set_option maxRecDepth 65536 in
set_option maxHeartbeats 40000000 in
theorem b0_278 {p : Program} {l : Launch} {e : Env} {s : State} {m : MethodId} {args : Array Value} {below : List Frame} {meth : Method} {c : Code} {T : State} {h : Heap} {locs : List Loc} {Z : State} {a0 : Array Value} {Q : Option Value → Heap → List Loc → Prop} (hw : ∀ d ∈ tables_1, d.before a0 Z = true) (j0 : Int64) (j2 : Int64) (i4 : Int32) (j5 : Int64) (o7 : Addr) (i8 : Int32) (i9 : Int32) (j10 : Int64) (j12 : Int64) (i14 : Int32) (j15 : Int64) (i17 : Int32) (i18 : Int32) (j19 : Int64) (si0 : Int32) (u7 : Int64) (n0 : Nat) (N : Fr n0 locs) (Z0 : n0 ≤ h.size) (g_o7 : n0 ≤ o7) (E_o7 : Exa Z h o7 "com/example/axioms_to_answers/axiomstoanswers/homomorphism/Tries") (F_left_o7 : Fld Z h o7 "com/example/axioms_to_answers/axiomstoanswers/homomorphism/Tries" "left" "J" (.long u7)) (P : own_S Z "com/example/axioms_to_answers/axiomstoanswers/homomorphism/TriesTakePinLaw" "law" code 22 (some .boolean) p l e room_1 s m args below meth c T h locs 1 1) (hQ : ∀ h' L', Fr n0 L' → Q (some (.int (F0_278 i9 i17 si0))) h' L') :
    own_Go p e below (own_K s Q room_1.cells room_1.slots) (T.setTop (mkF m 278 #[.val (.long j0), .second, .val (.long j2), .second, .val (.int i4), .val (.long j5), .second, .val (.ref o7), .val (.int i8), .val (.int i9), .val (.long j10), .second, .val (.long j12), .second, .val (.int i14), .val (.long j15), .second, .val (.int i17), .val (.int i18), .val (.long j19), .second, .unset] [(.int si0)])) := by
  unfold F0_278 at hQ
  refine own_istore P at_278 rfl (Ls' := #[.val (.long j0), .second, .val (.long j2), .second, .val (.int i4), .val (.long j5), .second, .val (.ref o7), .val (.int i8), .val (.int i9), .val (.long j10), .second, .val (.long j12), .second, .val (.int i14), .val (.long j15), .second, .val (.int i17), .val (.int i18), .val (.long j19), .second, .val (.int si0)]) rfl ?_
  refine own_iload P at_280 rfl rfl ?_
  by_cases hc171 : i9 = (0 : Int32)
  · rw [if_pos hc171] at hQ
    refine own_if0Y P (pc' := 299) at_282 hc171 (by decide) (by decide) ?_
    refine own_iconst P at_299 rfl (v := (0 : Int32)) rfl ?_
    exact own_retZ P at_300 (z := (0 : Int32)) rfl (by decide) (by decide) (hQ _ _ N)
  · rw [if_neg hc171] at hQ
    refine own_if0N P (pc' := 285) at_282 hc171 rfl ?_
    refine own_iload P at_285 rfl rfl ?_
    by_cases hc172 : i17 = (0 : Int32)
    · rw [if_pos hc172] at hQ
      refine own_if0Y P (pc' := 299) at_287 hc172 (by decide) (by decide) ?_
      refine own_iconst P at_299 rfl (v := (0 : Int32)) rfl ?_
      exact own_retZ P at_300 (z := (0 : Int32)) rfl (by decide) (by decide) (hQ _ _ N)
    · rw [if_neg hc172] at hQ
      refine own_if0N P (pc' := 290) at_287 hc172 rfl ?_
      refine own_iload P at_290 rfl rfl ?_
      by_cases hc173 : si0 = (0 : Int32)
      · rw [if_pos hc173] at hQ
        refine own_if0Y P (pc' := 299) at_292 hc173 (by decide) (by decide) ?_
        refine own_iconst P at_299 rfl (v := (0 : Int32)) rfl ?_
        exact own_retZ P at_300 (z := (0 : Int32)) rfl (by decide) (by decide) (hQ _ _ N)
      · rw [if_neg hc173] at hQ
        refine own_if0N P (pc' := 295) at_292 hc173 rfl ?_
        refine own_iconst P at_295 rfl (v := (1 : Int32)) rfl ?_
        refine own_goto P (pc' := 300) at_296 (by decide) (by decide) ?_
        exact own_retZ P at_300 (z := (1 : Int32)) rfl (by decide) (by decide) (hQ _ _ N)
def F0_277 (i9 : Int32) (i17 : Int32) : Int32 := (F0_278 i9 i17 (0 : Int32))
set_option maxRecDepth 65536 in
set_option maxHeartbeats 40000000 in
theorem b0_277 {p : Program} {l : Launch} {e : Env} {s : State} {m : MethodId} {args : Array Value} {below : List Frame} {meth : Method} {c : Code} {T : State} {h : Heap} {locs : List Loc} {Z : State} {a0 : Array Value} {Q : Option Value → Heap → List Loc → Prop} (hw : ∀ d ∈ tables_1, d.before a0 Z = true) (j0 : Int64) (j2 : Int64) (i4 : Int32) (j5 : Int64) (o7 : Addr) (i8 : Int32) (i9 : Int32) (j10 : Int64) (j12 : Int64) (i14 : Int32) (j15 : Int64) (i17 : Int32) (i18 : Int32) (j19 : Int64) (u7 : Int64) (n0 : Nat) (N : Fr n0 locs) (Z0 : n0 ≤ h.size) (g_o7 : n0 ≤ o7) (E_o7 : Exa Z h o7 "com/example/axioms_to_answers/axiomstoanswers/homomorphism/Tries") (F_left_o7 : Fld Z h o7 "com/example/axioms_to_answers/axiomstoanswers/homomorphism/Tries" "left" "J" (.long u7)) (P : own_S Z "com/example/axioms_to_answers/axiomstoanswers/homomorphism/TriesTakePinLaw" "law" code 22 (some .boolean) p l e room_1 s m args below meth c T h locs 1 1) (hQ : ∀ h' L', Fr n0 L' → Q (some (.int (F0_277 i9 i17))) h' L') :
    own_Go p e below (own_K s Q room_1.cells room_1.slots) (T.setTop (mkF m 277 #[.val (.long j0), .second, .val (.long j2), .second, .val (.int i4), .val (.long j5), .second, .val (.ref o7), .val (.int i8), .val (.int i9), .val (.long j10), .second, .val (.long j12), .second, .val (.int i14), .val (.long j15), .second, .val (.int i17), .val (.int i18), .val (.long j19), .second, .unset] [])) := by
  unfold F0_277 at hQ
  refine own_iconst P at_277 rfl (v := (0 : Int32)) rfl ?_
  exact b0_278 hw j0 j2 i4 j5 o7 i8 i9 j10 j12 i14 j15 i17 i18 j19 (0 : Int32) u7 n0 N Z0 g_o7 E_o7 F_left_o7  P hQ
def F0_270 (i9 : Int32) (i17 : Int32) (si0 : Int32) (si1 : Int32) : Int32 := (if si1 = si0 then (F0_278 i9 i17 (1 : Int32)) else (F0_277 i9 i17))
set_option maxRecDepth 65536 in
set_option maxHeartbeats 40000000 in
theorem b0_270 {p : Program} {l : Launch} {e : Env} {s : State} {m : MethodId} {args : Array Value} {below : List Frame} {meth : Method} {c : Code} {T : State} {h : Heap} {locs : List Loc} {Z : State} {a0 : Array Value} {Q : Option Value → Heap → List Loc → Prop} (hw : ∀ d ∈ tables_1, d.before a0 Z = true) (j0 : Int64) (j2 : Int64) (i4 : Int32) (j5 : Int64) (o7 : Addr) (i8 : Int32) (i9 : Int32) (j10 : Int64) (j12 : Int64) (i14 : Int32) (j15 : Int64) (i17 : Int32) (i18 : Int32) (j19 : Int64) (si0 : Int32) (si1 : Int32) (u7 : Int64) (n0 : Nat) (N : Fr n0 locs) (Z0 : n0 ≤ h.size) (g_o7 : n0 ≤ o7) (E_o7 : Exa Z h o7 "com/example/axioms_to_answers/axiomstoanswers/homomorphism/Tries") (F_left_o7 : Fld Z h o7 "com/example/axioms_to_answers/axiomstoanswers/homomorphism/Tries" "left" "J" (.long u7)) (P : own_S Z "com/example/axioms_to_answers/axiomstoanswers/homomorphism/TriesTakePinLaw" "law" code 22 (some .boolean) p l e room_1 s m args below meth c T h locs 1 1) (hQ : ∀ h' L', Fr n0 L' → Q (some (.int (F0_270 i9 i17 si0 si1))) h' L') :
    own_Go p e below (own_K s Q room_1.cells room_1.slots) (T.setTop (mkF m 270 #[.val (.long j0), .second, .val (.long j2), .second, .val (.int i4), .val (.long j5), .second, .val (.ref o7), .val (.int i8), .val (.int i9), .val (.long j10), .second, .val (.long j12), .second, .val (.int i14), .val (.long j15), .second, .val (.int i17), .val (.int i18), .val (.long j19), .second, .unset] [(.int si0), (.int si1)])) := by
  unfold F0_270 at hQ
  by_cases hc170 : si1 = si0
  · rw [if_pos hc170] at hQ
    refine own_icmpN P (pc' := 273) at_270 (not_not_intro hc170) rfl ?_
    refine own_iconst P at_273 rfl (v := (1 : Int32)) rfl ?_
    refine own_goto P (pc' := 278) at_274 (by decide) (by decide) ?_
    exact b0_278 hw j0 j2 i4 j5 o7 i8 i9 j10 j12 i14 j15 i17 i18 j19 (1 : Int32) u7 n0 N Z0 g_o7 E_o7 F_left_o7  P hQ
  · rw [if_neg hc170] at hQ
    refine own_icmpY P (pc' := 277) at_270 hc170 (by decide) (by decide) ?_
    exact b0_277 hw j0 j2 i4 j5 o7 i8 i9 j10 j12 i14 j15 i17 i18 j19 u7 n0 N Z0 g_o7 E_o7 F_left_o7  P hQ
def F0_239 (i9 : Int32) (i17 : Int32) (j19 : Int64) (si0 : Int32) (si1 : Int32) (u7 : Int64) : Int32 := (if si1 = si0 then (if (F4_0 u7) = j19 then (if j19 < (0 : Int64) then (F0_270 i9 i17 (1 : Int32) (F6_0 u7)) else (F0_270 i9 i17 (0 : Int32) (F6_0 u7))) else (F0_277 i9 i17)) else (F0_277 i9 i17))
set_option maxRecDepth 65536 in
set_option maxHeartbeats 40000000 in
theorem b0_239 {p : Program} {l : Launch} {e : Env} {s : State} {m : MethodId} {args : Array Value} {below : List Frame} {meth : Method} {c : Code} {T : State} {h : Heap} {locs : List Loc} {Z : State} {a0 : Array Value} {Q : Option Value → Heap → List Loc → Prop} (hw : ∀ d ∈ tables_1, d.before a0 Z = true) (j0 : Int64) (j2 : Int64) (i4 : Int32) (j5 : Int64) (o7 : Addr) (i8 : Int32) (i9 : Int32) (j10 : Int64) (j12 : Int64) (i14 : Int32) (j15 : Int64) (i17 : Int32) (i18 : Int32) (j19 : Int64) (si0 : Int32) (si1 : Int32) (u7 : Int64) (n0 : Nat) (N : Fr n0 locs) (Z0 : n0 ≤ h.size) (g_o7 : n0 ≤ o7) (E_o7 : Exa Z h o7 "com/example/axioms_to_answers/axiomstoanswers/homomorphism/Tries") (F_left_o7 : Fld Z h o7 "com/example/axioms_to_answers/axiomstoanswers/homomorphism/Tries" "left" "J" (.long u7)) (P : own_S Z "com/example/axioms_to_answers/axiomstoanswers/homomorphism/TriesTakePinLaw" "law" code 22 (some .boolean) p l e room_1 s m args below meth c T h locs 1 1) (hQ : ∀ h' L', Fr n0 L' → Q (some (.int (F0_239 i9 i17 j19 si0 si1 u7))) h' L') :
    own_Go p e below (own_K s Q room_1.cells room_1.slots) (T.setTop (mkF m 239 #[.val (.long j0), .second, .val (.long j2), .second, .val (.int i4), .val (.long j5), .second, .val (.ref o7), .val (.int i8), .val (.int i9), .val (.long j10), .second, .val (.long j12), .second, .val (.int i14), .val (.long j15), .second, .val (.int i17), .val (.int i18), .val (.long j19), .second, .unset] [(.int si0), (.int si1)])) := by
  unfold F0_239 at hQ
  by_cases hc155 : si1 = si0
  · rw [if_pos hc155] at hQ
    refine own_icmpN P (pc' := 242) at_239 (not_not_intro hc155) rfl ?_
    refine own_aload P at_242 rfl rfl rfl ?_
    refine own_virtP P (hw _ (List.mem_of_getElem? (i := 17) rfl)) (hw _ (List.mem_of_getElem? (i := 18) rfl)) (hw _ (List.mem_of_getElem? (i := 20) rfl)) (hw _ (List.mem_of_getElem? (i := 19) rfl)) (hw _ (List.mem_of_getElem? (i := 3) rfl)) (hw _ (List.mem_of_getElem? (i := 21) rfl)) (by decide) E_o7 (argsL := []) (rest := []) (rm4 l Z a0 hw o7 u7 h F_left_o7) at_244 rfl own_pd3 rfl rfl rfl (by decide) 0 rfl (by decide) rfl rfl (by decide) (by decide) (fun T157 P156 => ?_)
    show own_Go p e below _ (T157.setTop (mkF m 247 #[.val (.long j0), .second, .val (.long j2), .second, .val (.int i4), .val (.long j5), .second, .val (.ref o7), .val (.int i8), .val (.int i9), .val (.long j10), .second, .val (.long j12), .second, .val (.int i14), .val (.long j15), .second, .val (.int i17), .val (.int i18), .val (.long j19), .second, .unset] [(.long (F4_0 u7))]))
    refine own_lload P156 at_247 rfl rfl ?_
    by_cases hc162 : (F4_0 u7) = j19
    · rw [if_pos hc162] at hQ
      refine own_lcN P156 (pc' := 253) at_249 at_250 (not_not_intro hc162) rfl ?_
      refine own_aload P156 at_253 rfl rfl rfl ?_
      refine own_virtP P156 (hw _ (List.mem_of_getElem? (i := 26) rfl)) (hw _ (List.mem_of_getElem? (i := 27) rfl)) (hw _ (List.mem_of_getElem? (i := 29) rfl)) (hw _ (List.mem_of_getElem? (i := 28) rfl)) (hw _ (List.mem_of_getElem? (i := 3) rfl)) (hw _ (List.mem_of_getElem? (i := 30) rfl)) (by decide) E_o7 (argsL := []) (rest := []) (rm6 l Z a0 hw o7 u7 h F_left_o7) at_255 rfl own_pd2 rfl rfl rfl (by decide) 0 rfl (by decide) rfl rfl (by decide) (by decide) (fun T164 P163 => ?_)
      show own_Go p e below _ (T164.setTop (mkF m 258 #[.val (.long j0), .second, .val (.long j2), .second, .val (.int i4), .val (.long j5), .second, .val (.ref o7), .val (.int i8), .val (.int i9), .val (.long j10), .second, .val (.long j12), .second, .val (.int i14), .val (.long j15), .second, .val (.int i17), .val (.int i18), .val (.long j19), .second, .unset] [(.int (F6_0 u7))]))
      refine own_lload P163 at_258 rfl rfl ?_
      refine own_lconst P163 at_260 rfl (v := (0 : Int64)) rfl ?_
      by_cases hc169 : j19 < (0 : Int64)
      · rw [if_pos hc169] at hQ
        refine own_lcN P163 (pc' := 265) at_261 at_262 (not_not_intro hc169) rfl ?_
        refine own_iconst P163 at_265 rfl (v := (1 : Int32)) rfl ?_
        refine own_goto P163 (pc' := 270) at_266 (by decide) (by decide) ?_
        exact b0_270 hw j0 j2 i4 j5 o7 i8 i9 j10 j12 i14 j15 i17 i18 j19 (1 : Int32) (F6_0 u7) u7 n0 N Z0 g_o7 E_o7 F_left_o7  P163 hQ
      · rw [if_neg hc169] at hQ
        refine own_lcY P163 (pc' := 269) at_261 at_262 hc169 (by decide) (by decide) ?_
        refine own_iconst P163 at_269 rfl (v := (0 : Int32)) rfl ?_
        exact b0_270 hw j0 j2 i4 j5 o7 i8 i9 j10 j12 i14 j15 i17 i18 j19 (0 : Int32) (F6_0 u7) u7 n0 N Z0 g_o7 E_o7 F_left_o7  P163 hQ
    · rw [if_neg hc162] at hQ
      refine own_lcY P156 (pc' := 277) at_249 at_250 hc162 (by decide) (by decide) ?_
      exact b0_277 hw j0 j2 i4 j5 o7 i8 i9 j10 j12 i14 j15 i17 i18 j19 u7 n0 N Z0 g_o7 E_o7 F_left_o7  P156 hQ
  · rw [if_neg hc155] at hQ
    refine own_icmpY P (pc' := 277) at_239 hc155 (by decide) (by decide) ?_
    exact b0_277 hw j0 j2 i4 j5 o7 i8 i9 j10 j12 i14 j15 i17 i18 j19 u7 n0 N Z0 g_o7 E_o7 F_left_o7  P hQ
def F0_209 (i9 : Int32) (j15 : Int64) (si0 : Int32) (u7 : Int64) : Int32 := (if j15 < (1 : Int64) then (F0_239 i9 si0 (F5_0 j15) (0 : Int32) (own_tv u7) (own_tl u7)) else (F0_239 i9 si0 (F5_0 j15) (1 : Int32) (own_tv u7) (own_tl u7)))
set_option maxRecDepth 65536 in
set_option maxHeartbeats 40000000 in
theorem b0_209 {p : Program} {l : Launch} {e : Env} {s : State} {m : MethodId} {args : Array Value} {below : List Frame} {meth : Method} {c : Code} {T : State} {h : Heap} {locs : List Loc} {Z : State} {a0 : Array Value} {Q : Option Value → Heap → List Loc → Prop} (hw : ∀ d ∈ tables_1, d.before a0 Z = true) (j0 : Int64) (j2 : Int64) (i4 : Int32) (j5 : Int64) (o7 : Addr) (i8 : Int32) (i9 : Int32) (j10 : Int64) (j12 : Int64) (i14 : Int32) (j15 : Int64) (si0 : Int32) (u7 : Int64) (n0 : Nat) (N : Fr n0 locs) (Z0 : n0 ≤ h.size) (g_o7 : n0 ≤ o7) (E_o7 : Exa Z h o7 "com/example/axioms_to_answers/axiomstoanswers/homomorphism/Tries") (F_left_o7 : Fld Z h o7 "com/example/axioms_to_answers/axiomstoanswers/homomorphism/Tries" "left" "J" (.long u7)) (P : own_S Z "com/example/axioms_to_answers/axiomstoanswers/homomorphism/TriesTakePinLaw" "law" code 22 (some .boolean) p l e room_1 s m args below meth c T h locs 1 1) (hQ : ∀ h' L', Fr n0 L' → Q (some (.int (F0_209 i9 j15 si0 u7))) h' L') :
    own_Go p e below (own_K s Q room_1.cells room_1.slots) (T.setTop (mkF m 209 #[.val (.long j0), .second, .val (.long j2), .second, .val (.int i4), .val (.long j5), .second, .val (.ref o7), .val (.int i8), .val (.int i9), .val (.long j10), .second, .val (.long j12), .second, .val (.int i14), .val (.long j15), .second, .unset, .unset, .unset, .unset, .unset] [(.int si0)])) := by
  unfold F0_209 at hQ
  refine own_istore P at_209 rfl (Ls' := #[.val (.long j0), .second, .val (.long j2), .second, .val (.int i4), .val (.long j5), .second, .val (.ref o7), .val (.int i8), .val (.int i9), .val (.long j10), .second, .val (.long j12), .second, .val (.int i14), .val (.long j15), .second, .val (.int si0), .unset, .unset, .unset, .unset]) rfl ?_
  refine own_aload P at_211 rfl rfl rfl ?_
  refine own_virt P (hw _ (List.mem_of_getElem? (i := 12) rfl)) (hw _ (List.mem_of_getElem? (i := 13) rfl)) (hw _ (List.mem_of_getElem? (i := 15) rfl)) (hw _ (List.mem_of_getElem? (i := 14) rfl)) (hw _ (List.mem_of_getElem? (i := 3) rfl)) (hw _ (List.mem_of_getElem? (i := 16) rfl)) (by decide) E_o7 (argsL := []) (rest := []) (rm3 l Z a0 hw o7 u7 h n0 Z0 g_o7 E_o7 F_left_o7) at_213 rfl own_pd2 rfl rfl rfl (by decide) 0 rfl (by decide) (by decide) (by decide) (fun T142 h143 v144 L145 hq146 P141 => ?_)
  obtain ⟨rfl, n147, k148, f149⟩ := hq146
  have N150 := Fr.app N n147
  have f151 := E_o7.keep k148
  show own_Go p e below _ (T142.setTop (mkF m 216 #[.val (.long j0), .second, .val (.long j2), .second, .val (.int i4), .val (.long j5), .second, .val (.ref o7), .val (.int i8), .val (.int i9), .val (.long j10), .second, .val (.long j12), .second, .val (.int i14), .val (.long j15), .second, .val (.int si0), .unset, .unset, .unset, .unset] [(.int (own_tv u7))]))
  refine own_istore P141 at_216 rfl (Ls' := #[.val (.long j0), .second, .val (.long j2), .second, .val (.int i4), .val (.long j5), .second, .val (.ref o7), .val (.int i8), .val (.int i9), .val (.long j10), .second, .val (.long j12), .second, .val (.int i14), .val (.long j15), .second, .val (.int si0), .val (.int (own_tv u7)), .unset, .unset, .unset]) rfl ?_
  refine own_lload P141 at_218 rfl rfl ?_
  refine own_callP P141 (hw _ (List.mem_of_getElem? (i := 22) rfl)) (hw _ (List.mem_of_getElem? (i := 23) rfl)) (hw _ (List.mem_of_getElem? (i := 24) rfl)) (hw _ (List.mem_of_getElem? (i := 25) rfl)) (by decide) (argsL := [(.long j15)]) (rest := []) (rm5 l Z a0 hw j15 h143) at_220 rfl own_pd4 rfl rfl rfl (by decide) 0 rfl (by decide) rfl rfl (by decide) (by decide) (fun T153 P152 => ?_)
  show own_Go p e below _ (T153.setTop (mkF m 223 #[.val (.long j0), .second, .val (.long j2), .second, .val (.int i4), .val (.long j5), .second, .val (.ref o7), .val (.int i8), .val (.int i9), .val (.long j10), .second, .val (.long j12), .second, .val (.int i14), .val (.long j15), .second, .val (.int si0), .val (.int (own_tv u7)), .unset, .unset, .unset] [(.long (F5_0 j15))]))
  refine own_lstore P152 at_223 rfl (Ls' := #[.val (.long j0), .second, .val (.long j2), .second, .val (.int i4), .val (.long j5), .second, .val (.ref o7), .val (.int i8), .val (.int i9), .val (.long j10), .second, .val (.long j12), .second, .val (.int i14), .val (.long j15), .second, .val (.int si0), .val (.int (own_tv u7)), .val (.long (F5_0 j15)), .second, .unset]) rfl ?_
  refine own_iload P152 at_225 rfl rfl ?_
  refine own_lload P152 at_227 rfl rfl ?_
  refine own_lconst P152 at_229 rfl (v := (1 : Int64)) rfl ?_
  by_cases hc154 : j15 < (1 : Int64)
  · rw [if_pos hc154] at hQ
    refine own_lcY P152 (pc' := 238) at_230 at_231 hc154 (by decide) (by decide) ?_
    refine own_iconst P152 at_238 rfl (v := (0 : Int32)) rfl ?_
    exact b0_239 hw j0 j2 i4 j5 o7 i8 i9 j10 j12 i14 j15 si0 (own_tv u7) (F5_0 j15) (0 : Int32) (own_tv u7) (own_tl u7) n0 N150 (Nat.le_trans Z0 k148.1) g_o7 f151 f149  P152 hQ
  · rw [if_neg hc154] at hQ
    refine own_lcN P152 (pc' := 234) at_230 at_231 hc154 rfl ?_
    refine own_iconst P152 at_234 rfl (v := (1 : Int32)) rfl ?_
    refine own_goto P152 (pc' := 239) at_235 (by decide) (by decide) ?_
    exact b0_239 hw j0 j2 i4 j5 o7 i8 i9 j10 j12 i14 j15 si0 (own_tv u7) (F5_0 j15) (1 : Int32) (own_tv u7) (own_tl u7) n0 N150 (Nat.le_trans Z0 k148.1) g_o7 f151 f149  P152 hQ
def F0_208 (i9 : Int32) (j15 : Int64) (u7 : Int64) : Int32 := (F0_209 i9 j15 (0 : Int32) u7)
set_option maxRecDepth 65536 in
set_option maxHeartbeats 40000000 in
theorem b0_208 {p : Program} {l : Launch} {e : Env} {s : State} {m : MethodId} {args : Array Value} {below : List Frame} {meth : Method} {c : Code} {T : State} {h : Heap} {locs : List Loc} {Z : State} {a0 : Array Value} {Q : Option Value → Heap → List Loc → Prop} (hw : ∀ d ∈ tables_1, d.before a0 Z = true) (j0 : Int64) (j2 : Int64) (i4 : Int32) (j5 : Int64) (o7 : Addr) (i8 : Int32) (i9 : Int32) (j10 : Int64) (j12 : Int64) (i14 : Int32) (j15 : Int64) (u7 : Int64) (n0 : Nat) (N : Fr n0 locs) (Z0 : n0 ≤ h.size) (g_o7 : n0 ≤ o7) (E_o7 : Exa Z h o7 "com/example/axioms_to_answers/axiomstoanswers/homomorphism/Tries") (F_left_o7 : Fld Z h o7 "com/example/axioms_to_answers/axiomstoanswers/homomorphism/Tries" "left" "J" (.long u7)) (P : own_S Z "com/example/axioms_to_answers/axiomstoanswers/homomorphism/TriesTakePinLaw" "law" code 22 (some .boolean) p l e room_1 s m args below meth c T h locs 1 1) (hQ : ∀ h' L', Fr n0 L' → Q (some (.int (F0_208 i9 j15 u7))) h' L') :
    own_Go p e below (own_K s Q room_1.cells room_1.slots) (T.setTop (mkF m 208 #[.val (.long j0), .second, .val (.long j2), .second, .val (.int i4), .val (.long j5), .second, .val (.ref o7), .val (.int i8), .val (.int i9), .val (.long j10), .second, .val (.long j12), .second, .val (.int i14), .val (.long j15), .second, .unset, .unset, .unset, .unset, .unset] [])) := by
  unfold F0_208 at hQ
  refine own_iconst P at_208 rfl (v := (0 : Int32)) rfl ?_
  exact b0_209 hw j0 j2 i4 j5 o7 i8 i9 j10 j12 i14 j15 (0 : Int32) u7 n0 N Z0 g_o7 E_o7 F_left_o7  P hQ
def F0_201 (i9 : Int32) (j15 : Int64) (si0 : Int32) (si1 : Int32) (u7 : Int64) : Int32 := (if si1 = si0 then (F0_209 i9 j15 (1 : Int32) u7) else (F0_208 i9 j15 u7))
set_option maxRecDepth 65536 in
set_option maxHeartbeats 40000000 in
theorem b0_201 {p : Program} {l : Launch} {e : Env} {s : State} {m : MethodId} {args : Array Value} {below : List Frame} {meth : Method} {c : Code} {T : State} {h : Heap} {locs : List Loc} {Z : State} {a0 : Array Value} {Q : Option Value → Heap → List Loc → Prop} (hw : ∀ d ∈ tables_1, d.before a0 Z = true) (j0 : Int64) (j2 : Int64) (i4 : Int32) (j5 : Int64) (o7 : Addr) (i8 : Int32) (i9 : Int32) (j10 : Int64) (j12 : Int64) (i14 : Int32) (j15 : Int64) (si0 : Int32) (si1 : Int32) (u7 : Int64) (n0 : Nat) (N : Fr n0 locs) (Z0 : n0 ≤ h.size) (g_o7 : n0 ≤ o7) (E_o7 : Exa Z h o7 "com/example/axioms_to_answers/axiomstoanswers/homomorphism/Tries") (F_left_o7 : Fld Z h o7 "com/example/axioms_to_answers/axiomstoanswers/homomorphism/Tries" "left" "J" (.long u7)) (P : own_S Z "com/example/axioms_to_answers/axiomstoanswers/homomorphism/TriesTakePinLaw" "law" code 22 (some .boolean) p l e room_1 s m args below meth c T h locs 1 1) (hQ : ∀ h' L', Fr n0 L' → Q (some (.int (F0_201 i9 j15 si0 si1 u7))) h' L') :
    own_Go p e below (own_K s Q room_1.cells room_1.slots) (T.setTop (mkF m 201 #[.val (.long j0), .second, .val (.long j2), .second, .val (.int i4), .val (.long j5), .second, .val (.ref o7), .val (.int i8), .val (.int i9), .val (.long j10), .second, .val (.long j12), .second, .val (.int i14), .val (.long j15), .second, .unset, .unset, .unset, .unset, .unset] [(.int si0), (.int si1)])) := by
  unfold F0_201 at hQ
  by_cases hc140 : si1 = si0
  · rw [if_pos hc140] at hQ
    refine own_icmpN P (pc' := 204) at_201 (not_not_intro hc140) rfl ?_
    refine own_iconst P at_204 rfl (v := (1 : Int32)) rfl ?_
    refine own_goto P (pc' := 209) at_205 (by decide) (by decide) ?_
    exact b0_209 hw j0 j2 i4 j5 o7 i8 i9 j10 j12 i14 j15 (1 : Int32) u7 n0 N Z0 g_o7 E_o7 F_left_o7  P hQ
  · rw [if_neg hc140] at hQ
    refine own_icmpY P (pc' := 208) at_201 hc140 (by decide) (by decide) ?_
    exact b0_208 hw j0 j2 i4 j5 o7 i8 i9 j10 j12 i14 j15 u7 n0 N Z0 g_o7 E_o7 F_left_o7  P hQ
def F0_170 (i9 : Int32) (j15 : Int64) (si0 : Int32) (si1 : Int32) (u7 : Int64) : Int32 := (if si1 = si0 then (if (F4_0 u7) = j15 then (if j15 < (0 : Int64) then (F0_201 i9 j15 (1 : Int32) (F6_0 u7) u7) else (F0_201 i9 j15 (0 : Int32) (F6_0 u7) u7)) else (F0_208 i9 j15 u7)) else (F0_208 i9 j15 u7))
set_option maxRecDepth 65536 in
set_option maxHeartbeats 40000000 in
theorem b0_170 {p : Program} {l : Launch} {e : Env} {s : State} {m : MethodId} {args : Array Value} {below : List Frame} {meth : Method} {c : Code} {T : State} {h : Heap} {locs : List Loc} {Z : State} {a0 : Array Value} {Q : Option Value → Heap → List Loc → Prop} (hw : ∀ d ∈ tables_1, d.before a0 Z = true) (j0 : Int64) (j2 : Int64) (i4 : Int32) (j5 : Int64) (o7 : Addr) (i8 : Int32) (i9 : Int32) (j10 : Int64) (j12 : Int64) (i14 : Int32) (j15 : Int64) (si0 : Int32) (si1 : Int32) (u7 : Int64) (n0 : Nat) (N : Fr n0 locs) (Z0 : n0 ≤ h.size) (g_o7 : n0 ≤ o7) (E_o7 : Exa Z h o7 "com/example/axioms_to_answers/axiomstoanswers/homomorphism/Tries") (F_left_o7 : Fld Z h o7 "com/example/axioms_to_answers/axiomstoanswers/homomorphism/Tries" "left" "J" (.long u7)) (P : own_S Z "com/example/axioms_to_answers/axiomstoanswers/homomorphism/TriesTakePinLaw" "law" code 22 (some .boolean) p l e room_1 s m args below meth c T h locs 1 1) (hQ : ∀ h' L', Fr n0 L' → Q (some (.int (F0_170 i9 j15 si0 si1 u7))) h' L') :
    own_Go p e below (own_K s Q room_1.cells room_1.slots) (T.setTop (mkF m 170 #[.val (.long j0), .second, .val (.long j2), .second, .val (.int i4), .val (.long j5), .second, .val (.ref o7), .val (.int i8), .val (.int i9), .val (.long j10), .second, .val (.long j12), .second, .val (.int i14), .val (.long j15), .second, .unset, .unset, .unset, .unset, .unset] [(.int si0), (.int si1)])) := by
  unfold F0_170 at hQ
  by_cases hc125 : si1 = si0
  · rw [if_pos hc125] at hQ
    refine own_icmpN P (pc' := 173) at_170 (not_not_intro hc125) rfl ?_
    refine own_aload P at_173 rfl rfl rfl ?_
    refine own_virtP P (hw _ (List.mem_of_getElem? (i := 17) rfl)) (hw _ (List.mem_of_getElem? (i := 18) rfl)) (hw _ (List.mem_of_getElem? (i := 20) rfl)) (hw _ (List.mem_of_getElem? (i := 19) rfl)) (hw _ (List.mem_of_getElem? (i := 3) rfl)) (hw _ (List.mem_of_getElem? (i := 21) rfl)) (by decide) E_o7 (argsL := []) (rest := []) (rm4 l Z a0 hw o7 u7 h F_left_o7) at_175 rfl own_pd3 rfl rfl rfl (by decide) 0 rfl (by decide) rfl rfl (by decide) (by decide) (fun T127 P126 => ?_)
    show own_Go p e below _ (T127.setTop (mkF m 178 #[.val (.long j0), .second, .val (.long j2), .second, .val (.int i4), .val (.long j5), .second, .val (.ref o7), .val (.int i8), .val (.int i9), .val (.long j10), .second, .val (.long j12), .second, .val (.int i14), .val (.long j15), .second, .unset, .unset, .unset, .unset, .unset] [(.long (F4_0 u7))]))
    refine own_lload P126 at_178 rfl rfl ?_
    by_cases hc132 : (F4_0 u7) = j15
    · rw [if_pos hc132] at hQ
      refine own_lcN P126 (pc' := 184) at_180 at_181 (not_not_intro hc132) rfl ?_
      refine own_aload P126 at_184 rfl rfl rfl ?_
      refine own_virtP P126 (hw _ (List.mem_of_getElem? (i := 26) rfl)) (hw _ (List.mem_of_getElem? (i := 27) rfl)) (hw _ (List.mem_of_getElem? (i := 29) rfl)) (hw _ (List.mem_of_getElem? (i := 28) rfl)) (hw _ (List.mem_of_getElem? (i := 3) rfl)) (hw _ (List.mem_of_getElem? (i := 30) rfl)) (by decide) E_o7 (argsL := []) (rest := []) (rm6 l Z a0 hw o7 u7 h F_left_o7) at_186 rfl own_pd2 rfl rfl rfl (by decide) 0 rfl (by decide) rfl rfl (by decide) (by decide) (fun T134 P133 => ?_)
      show own_Go p e below _ (T134.setTop (mkF m 189 #[.val (.long j0), .second, .val (.long j2), .second, .val (.int i4), .val (.long j5), .second, .val (.ref o7), .val (.int i8), .val (.int i9), .val (.long j10), .second, .val (.long j12), .second, .val (.int i14), .val (.long j15), .second, .unset, .unset, .unset, .unset, .unset] [(.int (F6_0 u7))]))
      refine own_lload P133 at_189 rfl rfl ?_
      refine own_lconst P133 at_191 rfl (v := (0 : Int64)) rfl ?_
      by_cases hc139 : j15 < (0 : Int64)
      · rw [if_pos hc139] at hQ
        refine own_lcN P133 (pc' := 196) at_192 at_193 (not_not_intro hc139) rfl ?_
        refine own_iconst P133 at_196 rfl (v := (1 : Int32)) rfl ?_
        refine own_goto P133 (pc' := 201) at_197 (by decide) (by decide) ?_
        exact b0_201 hw j0 j2 i4 j5 o7 i8 i9 j10 j12 i14 j15 (1 : Int32) (F6_0 u7) u7 n0 N Z0 g_o7 E_o7 F_left_o7  P133 hQ
      · rw [if_neg hc139] at hQ
        refine own_lcY P133 (pc' := 200) at_192 at_193 hc139 (by decide) (by decide) ?_
        refine own_iconst P133 at_200 rfl (v := (0 : Int32)) rfl ?_
        exact b0_201 hw j0 j2 i4 j5 o7 i8 i9 j10 j12 i14 j15 (0 : Int32) (F6_0 u7) u7 n0 N Z0 g_o7 E_o7 F_left_o7  P133 hQ
    · rw [if_neg hc132] at hQ
      refine own_lcY P126 (pc' := 208) at_180 at_181 hc132 (by decide) (by decide) ?_
      exact b0_208 hw j0 j2 i4 j5 o7 i8 i9 j10 j12 i14 j15 u7 n0 N Z0 g_o7 E_o7 F_left_o7  P126 hQ
  · rw [if_neg hc125] at hQ
    refine own_icmpY P (pc' := 208) at_170 hc125 (by decide) (by decide) ?_
    exact b0_208 hw j0 j2 i4 j5 o7 i8 i9 j10 j12 i14 j15 u7 n0 N Z0 g_o7 E_o7 F_left_o7  P hQ
def F0_140 (i9 : Int32) (sj0 : Int64) (u7 : Int64) : Int32 := (if sj0 < (1 : Int64) then (F0_170 i9 (F5_0 sj0) (0 : Int32) (own_tv u7) (own_tl u7)) else (F0_170 i9 (F5_0 sj0) (1 : Int32) (own_tv u7) (own_tl u7)))
set_option maxRecDepth 65536 in
set_option maxHeartbeats 40000000 in
theorem b0_140 {p : Program} {l : Launch} {e : Env} {s : State} {m : MethodId} {args : Array Value} {below : List Frame} {meth : Method} {c : Code} {T : State} {h : Heap} {locs : List Loc} {Z : State} {a0 : Array Value} {Q : Option Value → Heap → List Loc → Prop} (hw : ∀ d ∈ tables_1, d.before a0 Z = true) (j0 : Int64) (j2 : Int64) (i4 : Int32) (j5 : Int64) (o7 : Addr) (i8 : Int32) (i9 : Int32) (j10 : Int64) (sj0 : Int64) (u7 : Int64) (n0 : Nat) (N : Fr n0 locs) (Z0 : n0 ≤ h.size) (g_o7 : n0 ≤ o7) (E_o7 : Exa Z h o7 "com/example/axioms_to_answers/axiomstoanswers/homomorphism/Tries") (F_left_o7 : Fld Z h o7 "com/example/axioms_to_answers/axiomstoanswers/homomorphism/Tries" "left" "J" (.long u7)) (P : own_S Z "com/example/axioms_to_answers/axiomstoanswers/homomorphism/TriesTakePinLaw" "law" code 22 (some .boolean) p l e room_1 s m args below meth c T h locs 1 1) (hQ : ∀ h' L', Fr n0 L' → Q (some (.int (F0_140 i9 sj0 u7))) h' L') :
    own_Go p e below (own_K s Q room_1.cells room_1.slots) (T.setTop (mkF m 140 #[.val (.long j0), .second, .val (.long j2), .second, .val (.int i4), .val (.long j5), .second, .val (.ref o7), .val (.int i8), .val (.int i9), .val (.long j10), .second, .unset, .unset, .unset, .unset, .unset, .unset, .unset, .unset, .unset, .unset] [(.long sj0)])) := by
  unfold F0_140 at hQ
  refine own_lstore P at_140 rfl (Ls' := #[.val (.long j0), .second, .val (.long j2), .second, .val (.int i4), .val (.long j5), .second, .val (.ref o7), .val (.int i8), .val (.int i9), .val (.long j10), .second, .val (.long sj0), .second, .unset, .unset, .unset, .unset, .unset, .unset, .unset, .unset]) rfl ?_
  refine own_aload P at_142 rfl rfl rfl ?_
  refine own_virt P (hw _ (List.mem_of_getElem? (i := 12) rfl)) (hw _ (List.mem_of_getElem? (i := 13) rfl)) (hw _ (List.mem_of_getElem? (i := 15) rfl)) (hw _ (List.mem_of_getElem? (i := 14) rfl)) (hw _ (List.mem_of_getElem? (i := 3) rfl)) (hw _ (List.mem_of_getElem? (i := 16) rfl)) (by decide) E_o7 (argsL := []) (rest := []) (rm3 l Z a0 hw o7 u7 h n0 Z0 g_o7 E_o7 F_left_o7) at_144 rfl own_pd2 rfl rfl rfl (by decide) 0 rfl (by decide) (by decide) (by decide) (fun T112 h113 v114 L115 hq116 P111 => ?_)
  obtain ⟨rfl, n117, k118, f119⟩ := hq116
  have N120 := Fr.app N n117
  have f121 := E_o7.keep k118
  show own_Go p e below _ (T112.setTop (mkF m 147 #[.val (.long j0), .second, .val (.long j2), .second, .val (.int i4), .val (.long j5), .second, .val (.ref o7), .val (.int i8), .val (.int i9), .val (.long j10), .second, .val (.long sj0), .second, .unset, .unset, .unset, .unset, .unset, .unset, .unset, .unset] [(.int (own_tv u7))]))
  refine own_istore P111 at_147 rfl (Ls' := #[.val (.long j0), .second, .val (.long j2), .second, .val (.int i4), .val (.long j5), .second, .val (.ref o7), .val (.int i8), .val (.int i9), .val (.long j10), .second, .val (.long sj0), .second, .val (.int (own_tv u7)), .unset, .unset, .unset, .unset, .unset, .unset, .unset]) rfl ?_
  refine own_lload P111 at_149 rfl rfl ?_
  refine own_callP P111 (hw _ (List.mem_of_getElem? (i := 22) rfl)) (hw _ (List.mem_of_getElem? (i := 23) rfl)) (hw _ (List.mem_of_getElem? (i := 24) rfl)) (hw _ (List.mem_of_getElem? (i := 25) rfl)) (by decide) (argsL := [(.long sj0)]) (rest := []) (rm5 l Z a0 hw sj0 h113) at_151 rfl own_pd4 rfl rfl rfl (by decide) 0 rfl (by decide) rfl rfl (by decide) (by decide) (fun T123 P122 => ?_)
  show own_Go p e below _ (T123.setTop (mkF m 154 #[.val (.long j0), .second, .val (.long j2), .second, .val (.int i4), .val (.long j5), .second, .val (.ref o7), .val (.int i8), .val (.int i9), .val (.long j10), .second, .val (.long sj0), .second, .val (.int (own_tv u7)), .unset, .unset, .unset, .unset, .unset, .unset, .unset] [(.long (F5_0 sj0))]))
  refine own_lstore P122 at_154 rfl (Ls' := #[.val (.long j0), .second, .val (.long j2), .second, .val (.int i4), .val (.long j5), .second, .val (.ref o7), .val (.int i8), .val (.int i9), .val (.long j10), .second, .val (.long sj0), .second, .val (.int (own_tv u7)), .val (.long (F5_0 sj0)), .second, .unset, .unset, .unset, .unset, .unset]) rfl ?_
  refine own_iload P122 at_156 rfl rfl ?_
  refine own_lload P122 at_158 rfl rfl ?_
  refine own_lconst P122 at_160 rfl (v := (1 : Int64)) rfl ?_
  by_cases hc124 : sj0 < (1 : Int64)
  · rw [if_pos hc124] at hQ
    refine own_lcY P122 (pc' := 169) at_161 at_162 hc124 (by decide) (by decide) ?_
    refine own_iconst P122 at_169 rfl (v := (0 : Int32)) rfl ?_
    exact b0_170 hw j0 j2 i4 j5 o7 i8 i9 j10 sj0 (own_tv u7) (F5_0 sj0) (0 : Int32) (own_tv u7) (own_tl u7) n0 N120 (Nat.le_trans Z0 k118.1) g_o7 f121 f119  P122 hQ
  · rw [if_neg hc124] at hQ
    refine own_lcN P122 (pc' := 165) at_161 at_162 hc124 rfl ?_
    refine own_iconst P122 at_165 rfl (v := (1 : Int32)) rfl ?_
    refine own_goto P122 (pc' := 170) at_166 (by decide) (by decide) ?_
    exact b0_170 hw j0 j2 i4 j5 o7 i8 i9 j10 sj0 (own_tv u7) (F5_0 sj0) (1 : Int32) (own_tv u7) (own_tl u7) n0 N120 (Nat.le_trans Z0 k118.1) g_o7 f121 f119  P122 hQ
def F0_114 (i9 : Int32) (sj0 : Int64) : Int32 := (if sj0 < (-1 : Int64) then (F0_140 i9 (-1 : Int64) (F8_0 sj0 (-1 : Int64))) else (F0_140 i9 sj0 (F8_0 sj0 (-1 : Int64))))
set_option maxRecDepth 65536 in
set_option maxHeartbeats 40000000 in
theorem b0_114 {p : Program} {l : Launch} {e : Env} {s : State} {m : MethodId} {args : Array Value} {below : List Frame} {meth : Method} {c : Code} {T : State} {h : Heap} {locs : List Loc} {Z : State} {a0 : Array Value} {Q : Option Value → Heap → List Loc → Prop} (hw : ∀ d ∈ tables_1, d.before a0 Z = true) (j0 : Int64) (j2 : Int64) (i4 : Int32) (j5 : Int64) (o7 : Addr) (i8 : Int32) (i9 : Int32) (sj0 : Int64) (u7 : Int64) (n0 : Nat) (N : Fr n0 locs) (Z0 : n0 ≤ h.size) (g_o7 : n0 ≤ o7) (E_o7 : Exa Z h o7 "com/example/axioms_to_answers/axiomstoanswers/homomorphism/Tries") (F_left_o7 : Fld Z h o7 "com/example/axioms_to_answers/axiomstoanswers/homomorphism/Tries" "left" "J" (.long u7)) (P : own_S Z "com/example/axioms_to_answers/axiomstoanswers/homomorphism/TriesTakePinLaw" "law" code 22 (some .boolean) p l e room_1 s m args below meth c T h locs 1 1) (hQ : ∀ h' L', Fr n0 L' → Q (some (.int (F0_114 i9 sj0))) h' L') :
    own_Go p e below (own_K s Q room_1.cells room_1.slots) (T.setTop (mkF m 114 #[.val (.long j0), .second, .val (.long j2), .second, .val (.int i4), .val (.long j5), .second, .val (.ref o7), .val (.int i8), .val (.int i9), .unset, .unset, .unset, .unset, .unset, .unset, .unset, .unset, .unset, .unset, .unset, .unset] [(.long sj0)])) := by
  unfold F0_114 at hQ
  refine own_lstore P at_114 rfl (Ls' := #[.val (.long j0), .second, .val (.long j2), .second, .val (.int i4), .val (.long j5), .second, .val (.ref o7), .val (.int i8), .val (.int i9), .val (.long sj0), .second, .unset, .unset, .unset, .unset, .unset, .unset, .unset, .unset, .unset, .unset]) rfl ?_
  refine own_aload P at_116 rfl rfl rfl ?_
  refine own_lload P at_118 rfl rfl ?_
  refine own_virt P (hw _ (List.mem_of_getElem? (i := 31) rfl)) (hw _ (List.mem_of_getElem? (i := 32) rfl)) (hw _ (List.mem_of_getElem? (i := 34) rfl)) (hw _ (List.mem_of_getElem? (i := 33) rfl)) (hw _ (List.mem_of_getElem? (i := 3) rfl)) (hw _ (List.mem_of_getElem? (i := 35) rfl)) (by decide) E_o7 (argsL := [(.long sj0)]) (rest := []) (rm7 l Z a0 hw o7 sj0 u7 h n0 Z0 g_o7 E_o7 F_left_o7) at_120 rfl own_pd1 rfl rfl rfl (by decide) 0 rfl (by decide) (by decide) (by decide) (fun T100 h101 v102 L103 hq104 P99 => ?_)
  obtain ⟨rfl, n105, k106, f107⟩ := hq104
  have N108 := Fr.app N n105
  have f109 := E_o7.keep k106
  show own_Go p e below _ (T100.setTop (mkF m 123 #[.val (.long j0), .second, .val (.long j2), .second, .val (.int i4), .val (.long j5), .second, .val (.ref o7), .val (.int i8), .val (.int i9), .val (.long sj0), .second, .unset, .unset, .unset, .unset, .unset, .unset, .unset, .unset, .unset, .unset] []))
  refine own_lload P99 at_123 rfl rfl ?_
  refine own_ldc2 P99 (v := (-1 : Int64)) (hw _ (List.mem_of_getElem? (i := 41) rfl)) at_125 rfl ?_
  by_cases hc110 : sj0 < (-1 : Int64)
  · rw [if_pos hc110] at hQ
    refine own_lcN P99 (pc' := 132) at_128 at_129 (not_not_intro hc110) rfl ?_
    refine own_ldc2 P99 (v := (-1 : Int64)) (hw _ (List.mem_of_getElem? (i := 41) rfl)) at_132 rfl ?_
    refine own_goto P99 (pc' := 140) at_135 (by decide) (by decide) ?_
    exact b0_140 hw j0 j2 i4 j5 o7 i8 i9 sj0 (-1 : Int64) (F8_0 sj0 (-1 : Int64)) n0 N108 (Nat.le_trans Z0 k106.1) g_o7 f109 f107  P99 hQ
  · rw [if_neg hc110] at hQ
    refine own_lcY P99 (pc' := 138) at_128 at_129 hc110 (by decide) (by decide) ?_
    refine own_lload P99 at_138 rfl rfl ?_
    exact b0_140 hw j0 j2 i4 j5 o7 i8 i9 sj0 sj0 (F8_0 sj0 (-1 : Int64)) n0 N108 (Nat.le_trans Z0 k106.1) g_o7 f109 f107  P99 hQ
def F0_96 (j2 : Int64) (i4 : Int32) (si0 : Int32) : Int32 := (if (i4 &&& (1 : Int32)) = (0 : Int32) then (F0_114 si0 j2) else (F0_114 si0 (j2 - j2 / (4 : Int64) * (4 : Int64))))
set_option maxRecDepth 65536 in
set_option maxHeartbeats 40000000 in
theorem b0_96 {p : Program} {l : Launch} {e : Env} {s : State} {m : MethodId} {args : Array Value} {below : List Frame} {meth : Method} {c : Code} {T : State} {h : Heap} {locs : List Loc} {Z : State} {a0 : Array Value} {Q : Option Value → Heap → List Loc → Prop} (hw : ∀ d ∈ tables_1, d.before a0 Z = true) (j0 : Int64) (j2 : Int64) (i4 : Int32) (j5 : Int64) (o7 : Addr) (i8 : Int32) (si0 : Int32) (u7 : Int64) (n0 : Nat) (N : Fr n0 locs) (Z0 : n0 ≤ h.size) (g_o7 : n0 ≤ o7) (E_o7 : Exa Z h o7 "com/example/axioms_to_answers/axiomstoanswers/homomorphism/Tries") (F_left_o7 : Fld Z h o7 "com/example/axioms_to_answers/axiomstoanswers/homomorphism/Tries" "left" "J" (.long u7)) (P : own_S Z "com/example/axioms_to_answers/axiomstoanswers/homomorphism/TriesTakePinLaw" "law" code 22 (some .boolean) p l e room_1 s m args below meth c T h locs 1 1) (hQ : ∀ h' L', Fr n0 L' → Q (some (.int (F0_96 j2 i4 si0))) h' L') :
    own_Go p e below (own_K s Q room_1.cells room_1.slots) (T.setTop (mkF m 96 #[.val (.long j0), .second, .val (.long j2), .second, .val (.int i4), .val (.long j5), .second, .val (.ref o7), .val (.int i8), .unset, .unset, .unset, .unset, .unset, .unset, .unset, .unset, .unset, .unset, .unset, .unset, .unset] [(.int si0)])) := by
  unfold F0_96 at hQ
  refine own_istore P at_96 rfl (Ls' := #[.val (.long j0), .second, .val (.long j2), .second, .val (.int i4), .val (.long j5), .second, .val (.ref o7), .val (.int i8), .val (.int si0), .unset, .unset, .unset, .unset, .unset, .unset, .unset, .unset, .unset, .unset, .unset, .unset]) rfl ?_
  refine own_iload P at_98 rfl rfl ?_
  refine own_iconst P at_100 rfl (v := (1 : Int32)) rfl ?_
  refine own_iand P at_101 rfl ?_
  by_cases hc98 : (i4 &&& (1 : Int32)) = (0 : Int32)
  · rw [if_pos hc98] at hQ
    refine own_if0Y P (pc' := 113) at_102 hc98 (by decide) (by decide) ?_
    refine own_lloadN P at_113 rfl rfl ?_
    exact b0_114 hw j0 j2 i4 j5 o7 i8 si0 j2 u7 n0 N Z0 g_o7 E_o7 F_left_o7  P hQ
  · rw [if_neg hc98] at hQ
    refine own_if0N P (pc' := 105) at_102 hc98 rfl ?_
    refine own_lloadN P at_105 rfl rfl ?_
    refine own_ldc2 P (v := (4 : Int64)) (hw _ (List.mem_of_getElem? (i := 43) rfl)) at_106 rfl ?_
    refine own_lrem P at_109 rfl (by decide) ?_
    refine own_goto P (pc' := 114) at_110 (by decide) (by decide) ?_
    exact b0_114 hw j0 j2 i4 j5 o7 i8 si0 (j2 - j2 / (4 : Int64) * (4 : Int64)) u7 n0 N Z0 g_o7 E_o7 F_left_o7  P hQ
def F0_95 (j2 : Int64) (i4 : Int32) : Int32 := (F0_96 j2 i4 (0 : Int32))
set_option maxRecDepth 65536 in
set_option maxHeartbeats 40000000 in
theorem b0_95 {p : Program} {l : Launch} {e : Env} {s : State} {m : MethodId} {args : Array Value} {below : List Frame} {meth : Method} {c : Code} {T : State} {h : Heap} {locs : List Loc} {Z : State} {a0 : Array Value} {Q : Option Value → Heap → List Loc → Prop} (hw : ∀ d ∈ tables_1, d.before a0 Z = true) (j0 : Int64) (j2 : Int64) (i4 : Int32) (j5 : Int64) (o7 : Addr) (i8 : Int32) (u7 : Int64) (n0 : Nat) (N : Fr n0 locs) (Z0 : n0 ≤ h.size) (g_o7 : n0 ≤ o7) (E_o7 : Exa Z h o7 "com/example/axioms_to_answers/axiomstoanswers/homomorphism/Tries") (F_left_o7 : Fld Z h o7 "com/example/axioms_to_answers/axiomstoanswers/homomorphism/Tries" "left" "J" (.long u7)) (P : own_S Z "com/example/axioms_to_answers/axiomstoanswers/homomorphism/TriesTakePinLaw" "law" code 22 (some .boolean) p l e room_1 s m args below meth c T h locs 1 1) (hQ : ∀ h' L', Fr n0 L' → Q (some (.int (F0_95 j2 i4))) h' L') :
    own_Go p e below (own_K s Q room_1.cells room_1.slots) (T.setTop (mkF m 95 #[.val (.long j0), .second, .val (.long j2), .second, .val (.int i4), .val (.long j5), .second, .val (.ref o7), .val (.int i8), .unset, .unset, .unset, .unset, .unset, .unset, .unset, .unset, .unset, .unset, .unset, .unset, .unset] [])) := by
  unfold F0_95 at hQ
  refine own_iconst P at_95 rfl (v := (0 : Int32)) rfl ?_
  exact b0_96 hw j0 j2 i4 j5 o7 i8 (0 : Int32) u7 n0 N Z0 g_o7 E_o7 F_left_o7  P hQ
def F0_88 (j2 : Int64) (i4 : Int32) (si0 : Int32) (si1 : Int32) : Int32 := (if si1 = si0 then (F0_96 j2 i4 (1 : Int32)) else (F0_95 j2 i4))
set_option maxRecDepth 65536 in
set_option maxHeartbeats 40000000 in
theorem b0_88 {p : Program} {l : Launch} {e : Env} {s : State} {m : MethodId} {args : Array Value} {below : List Frame} {meth : Method} {c : Code} {T : State} {h : Heap} {locs : List Loc} {Z : State} {a0 : Array Value} {Q : Option Value → Heap → List Loc → Prop} (hw : ∀ d ∈ tables_1, d.before a0 Z = true) (j0 : Int64) (j2 : Int64) (i4 : Int32) (j5 : Int64) (o7 : Addr) (i8 : Int32) (si0 : Int32) (si1 : Int32) (u7 : Int64) (n0 : Nat) (N : Fr n0 locs) (Z0 : n0 ≤ h.size) (g_o7 : n0 ≤ o7) (E_o7 : Exa Z h o7 "com/example/axioms_to_answers/axiomstoanswers/homomorphism/Tries") (F_left_o7 : Fld Z h o7 "com/example/axioms_to_answers/axiomstoanswers/homomorphism/Tries" "left" "J" (.long u7)) (P : own_S Z "com/example/axioms_to_answers/axiomstoanswers/homomorphism/TriesTakePinLaw" "law" code 22 (some .boolean) p l e room_1 s m args below meth c T h locs 1 1) (hQ : ∀ h' L', Fr n0 L' → Q (some (.int (F0_88 j2 i4 si0 si1))) h' L') :
    own_Go p e below (own_K s Q room_1.cells room_1.slots) (T.setTop (mkF m 88 #[.val (.long j0), .second, .val (.long j2), .second, .val (.int i4), .val (.long j5), .second, .val (.ref o7), .val (.int i8), .unset, .unset, .unset, .unset, .unset, .unset, .unset, .unset, .unset, .unset, .unset, .unset, .unset] [(.int si0), (.int si1)])) := by
  unfold F0_88 at hQ
  by_cases hc97 : si1 = si0
  · rw [if_pos hc97] at hQ
    refine own_icmpN P (pc' := 91) at_88 (not_not_intro hc97) rfl ?_
    refine own_iconst P at_91 rfl (v := (1 : Int32)) rfl ?_
    refine own_goto P (pc' := 96) at_92 (by decide) (by decide) ?_
    exact b0_96 hw j0 j2 i4 j5 o7 i8 (1 : Int32) u7 n0 N Z0 g_o7 E_o7 F_left_o7  P hQ
  · rw [if_neg hc97] at hQ
    refine own_icmpY P (pc' := 95) at_88 hc97 (by decide) (by decide) ?_
    exact b0_95 hw j0 j2 i4 j5 o7 i8 u7 n0 N Z0 g_o7 E_o7 F_left_o7  P hQ
def F0_54 (j2 : Int64) (i4 : Int32) (j5 : Int64) (si0 : Int32) (si1 : Int32) (u7 : Int64) : Int32 := (if si1 = si0 then (if (F4_0 u7) = (F5_0 j5) then (if j5 = (0 : Int64) then (F0_88 j2 i4 (1 : Int32) (F6_0 u7)) else (F0_88 j2 i4 (0 : Int32) (F6_0 u7))) else (F0_95 j2 i4)) else (F0_95 j2 i4))
set_option maxRecDepth 65536 in
set_option maxHeartbeats 40000000 in
theorem b0_54 {p : Program} {l : Launch} {e : Env} {s : State} {m : MethodId} {args : Array Value} {below : List Frame} {meth : Method} {c : Code} {T : State} {h : Heap} {locs : List Loc} {Z : State} {a0 : Array Value} {Q : Option Value → Heap → List Loc → Prop} (hw : ∀ d ∈ tables_1, d.before a0 Z = true) (j0 : Int64) (j2 : Int64) (i4 : Int32) (j5 : Int64) (o7 : Addr) (i8 : Int32) (si0 : Int32) (si1 : Int32) (u7 : Int64) (n0 : Nat) (N : Fr n0 locs) (Z0 : n0 ≤ h.size) (g_o7 : n0 ≤ o7) (E_o7 : Exa Z h o7 "com/example/axioms_to_answers/axiomstoanswers/homomorphism/Tries") (F_left_o7 : Fld Z h o7 "com/example/axioms_to_answers/axiomstoanswers/homomorphism/Tries" "left" "J" (.long u7)) (P : own_S Z "com/example/axioms_to_answers/axiomstoanswers/homomorphism/TriesTakePinLaw" "law" code 22 (some .boolean) p l e room_1 s m args below meth c T h locs 1 1) (hQ : ∀ h' L', Fr n0 L' → Q (some (.int (F0_54 j2 i4 j5 si0 si1 u7))) h' L') :
    own_Go p e below (own_K s Q room_1.cells room_1.slots) (T.setTop (mkF m 54 #[.val (.long j0), .second, .val (.long j2), .second, .val (.int i4), .val (.long j5), .second, .val (.ref o7), .val (.int i8), .unset, .unset, .unset, .unset, .unset, .unset, .unset, .unset, .unset, .unset, .unset, .unset, .unset] [(.int si0), (.int si1)])) := by
  unfold F0_54 at hQ
  by_cases hc80 : si1 = si0
  · rw [if_pos hc80] at hQ
    refine own_icmpN P (pc' := 57) at_54 (not_not_intro hc80) rfl ?_
    refine own_aload P at_57 rfl rfl rfl ?_
    refine own_virtP P (hw _ (List.mem_of_getElem? (i := 17) rfl)) (hw _ (List.mem_of_getElem? (i := 18) rfl)) (hw _ (List.mem_of_getElem? (i := 20) rfl)) (hw _ (List.mem_of_getElem? (i := 19) rfl)) (hw _ (List.mem_of_getElem? (i := 3) rfl)) (hw _ (List.mem_of_getElem? (i := 21) rfl)) (by decide) E_o7 (argsL := []) (rest := []) (rm4 l Z a0 hw o7 u7 h F_left_o7) at_59 rfl own_pd3 rfl rfl rfl (by decide) 0 rfl (by decide) rfl rfl (by decide) (by decide) (fun T82 P81 => ?_)
    show own_Go p e below _ (T82.setTop (mkF m 62 #[.val (.long j0), .second, .val (.long j2), .second, .val (.int i4), .val (.long j5), .second, .val (.ref o7), .val (.int i8), .unset, .unset, .unset, .unset, .unset, .unset, .unset, .unset, .unset, .unset, .unset, .unset, .unset] [(.long (F4_0 u7))]))
    refine own_lload P81 at_62 rfl rfl ?_
    refine own_callP P81 (hw _ (List.mem_of_getElem? (i := 22) rfl)) (hw _ (List.mem_of_getElem? (i := 23) rfl)) (hw _ (List.mem_of_getElem? (i := 24) rfl)) (hw _ (List.mem_of_getElem? (i := 25) rfl)) (by decide) (argsL := [(.long j5)]) (rest := [(.long (F4_0 u7))]) (rm5 l Z a0 hw j5 h) at_64 rfl own_pd4 rfl rfl rfl (by decide) 2 rfl (by decide) rfl rfl (by decide) (by decide) (fun T88 P87 => ?_)
    show own_Go p e below _ (T88.setTop (mkF m 67 #[.val (.long j0), .second, .val (.long j2), .second, .val (.int i4), .val (.long j5), .second, .val (.ref o7), .val (.int i8), .unset, .unset, .unset, .unset, .unset, .unset, .unset, .unset, .unset, .unset, .unset, .unset, .unset] [(.long (F5_0 j5)), (.long (F4_0 u7))]))
    by_cases hc89 : (F4_0 u7) = (F5_0 j5)
    · rw [if_pos hc89] at hQ
      refine own_lcN P87 (pc' := 71) at_67 at_68 (not_not_intro hc89) rfl ?_
      refine own_aload P87 at_71 rfl rfl rfl ?_
      refine own_virtP P87 (hw _ (List.mem_of_getElem? (i := 26) rfl)) (hw _ (List.mem_of_getElem? (i := 27) rfl)) (hw _ (List.mem_of_getElem? (i := 29) rfl)) (hw _ (List.mem_of_getElem? (i := 28) rfl)) (hw _ (List.mem_of_getElem? (i := 3) rfl)) (hw _ (List.mem_of_getElem? (i := 30) rfl)) (by decide) E_o7 (argsL := []) (rest := []) (rm6 l Z a0 hw o7 u7 h F_left_o7) at_73 rfl own_pd2 rfl rfl rfl (by decide) 0 rfl (by decide) rfl rfl (by decide) (by decide) (fun T91 P90 => ?_)
      show own_Go p e below _ (T91.setTop (mkF m 76 #[.val (.long j0), .second, .val (.long j2), .second, .val (.int i4), .val (.long j5), .second, .val (.ref o7), .val (.int i8), .unset, .unset, .unset, .unset, .unset, .unset, .unset, .unset, .unset, .unset, .unset, .unset, .unset] [(.int (F6_0 u7))]))
      refine own_lload P90 at_76 rfl rfl ?_
      refine own_lconst P90 at_78 rfl (v := (0 : Int64)) rfl ?_
      by_cases hc96 : j5 = (0 : Int64)
      · rw [if_pos hc96] at hQ
        refine own_lcN P90 (pc' := 83) at_79 at_80 (not_not_intro hc96) rfl ?_
        refine own_iconst P90 at_83 rfl (v := (1 : Int32)) rfl ?_
        refine own_goto P90 (pc' := 88) at_84 (by decide) (by decide) ?_
        exact b0_88 hw j0 j2 i4 j5 o7 i8 (1 : Int32) (F6_0 u7) u7 n0 N Z0 g_o7 E_o7 F_left_o7  P90 hQ
      · rw [if_neg hc96] at hQ
        refine own_lcY P90 (pc' := 87) at_79 at_80 hc96 (by decide) (by decide) ?_
        refine own_iconst P90 at_87 rfl (v := (0 : Int32)) rfl ?_
        exact b0_88 hw j0 j2 i4 j5 o7 i8 (0 : Int32) (F6_0 u7) u7 n0 N Z0 g_o7 E_o7 F_left_o7  P90 hQ
    · rw [if_neg hc89] at hQ
      refine own_lcY P87 (pc' := 95) at_67 at_68 hc89 (by decide) (by decide) ?_
      exact b0_95 hw j0 j2 i4 j5 o7 i8 u7 n0 N Z0 g_o7 E_o7 F_left_o7  P87 hQ
  · rw [if_neg hc80] at hQ
    refine own_icmpY P (pc' := 95) at_54 hc80 (by decide) (by decide) ?_
    exact b0_95 hw j0 j2 i4 j5 o7 i8 u7 n0 N Z0 g_o7 E_o7 F_left_o7  P hQ
def F0_20 (j2 : Int64) (i4 : Int32) (sj0 : Int64) : Int32 := (if sj0 < (1 : Int64) then (F0_54 j2 i4 sj0 (0 : Int32) (own_tv sj0) (own_tl sj0)) else (F0_54 j2 i4 sj0 (1 : Int32) (own_tv sj0) (own_tl sj0)))
set_option maxRecDepth 65536 in
set_option maxHeartbeats 40000000 in
theorem b0_20 {p : Program} {l : Launch} {e : Env} {s : State} {m : MethodId} {args : Array Value} {below : List Frame} {meth : Method} {c : Code} {T : State} {h : Heap} {locs : List Loc} {Z : State} {a0 : Array Value} {Q : Option Value → Heap → List Loc → Prop} (hw : ∀ d ∈ tables_1, d.before a0 Z = true) (j0 : Int64) (j2 : Int64) (i4 : Int32) (sj0 : Int64)  (n0 : Nat) (N : Fr n0 locs) (Z0 : n0 ≤ h.size) (hge : ¬ (sj0 < (0 : Int64))) (P : own_S Z "com/example/axioms_to_answers/axiomstoanswers/homomorphism/TriesTakePinLaw" "law" code 22 (some .boolean) p l e room_1 s m args below meth c T h locs 0 0) (hQ : ∀ h' L', Fr n0 L' → Q (some (.int (F0_20 j2 i4 sj0))) h' L') :
    own_Go p e below (own_K s Q room_1.cells room_1.slots) (T.setTop (mkF m 20 #[.val (.long j0), .second, .val (.long j2), .second, .val (.int i4), .unset, .unset, .unset, .unset, .unset, .unset, .unset, .unset, .unset, .unset, .unset, .unset, .unset, .unset, .unset, .unset, .unset] [(.long sj0)])) := by
  unfold F0_20 at hQ
  refine own_lstore P at_20 rfl (Ls' := #[.val (.long j0), .second, .val (.long j2), .second, .val (.int i4), .val (.long sj0), .second, .unset, .unset, .unset, .unset, .unset, .unset, .unset, .unset, .unset, .unset, .unset, .unset, .unset, .unset, .unset]) rfl ?_
  refine own_new P (hw _ (List.mem_of_getElem? (i := 1) rfl)) (hw _ (List.mem_of_getElem? (i := 2) rfl)) (hw _ (List.mem_of_getElem? (i := 3) rfl)) at_22 rfl (by decide) (by decide) (fun T53 h54 b47 ha48 E49 A50 D51 P52 => ?_)
  have g55 : n0 ≤ b47 := by rw [ha48]; exact Z0
  have f56 : Fld Z h54 b47 "com/example/axioms_to_answers/axiomstoanswers/homomorphism/Tries" "left" "J" (.long (0 : Int64)) := D51 (Or.inl (hw _ (List.mem_of_getElem? (i := 11) rfl))) (ty := .long) (by decide)
  refine own_dup P52 at_25 rfl rfl ?_
  refine own_lload P52 at_26 rfl rfl ?_
  refine own_init P52 rfl (hw _ (List.mem_of_getElem? (i := 4) rfl)) (hw _ (List.mem_of_getElem? (i := 5) rfl)) (hw _ (List.mem_of_getElem? (i := 3) rfl)) (hw _ (List.mem_of_getElem? (i := 6) rfl)) (by decide) (argsL := [(.long sj0)]) (rest := [(.ref b47)]) (rm1 l Z a0 hw b47 sj0  h54 n0 (Nat.le_trans Z0 E49.1) g55 A50 f56 hge) at_28 rfl own_pd1 rfl rfl rfl (by decide) 1 rfl (by decide) (by decide) (by decide) (fun T58 h59 v60 L61 hq62 P57 => ?_)
  obtain ⟨rfl, n63, k64, f65⟩ := hq62
  have N66 := Fr.app N n63
  have f67 := A50.keep k64
  show own_Go p e below _ (T58.setTop (mkF m 31 #[.val (.long j0), .second, .val (.long j2), .second, .val (.int i4), .val (.long sj0), .second, .unset, .unset, .unset, .unset, .unset, .unset, .unset, .unset, .unset, .unset, .unset, .unset, .unset, .unset, .unset] [(.ref b47)]))
  refine own_astore P57 at_31 rfl rfl (Ls' := #[.val (.long j0), .second, .val (.long j2), .second, .val (.int i4), .val (.long sj0), .second, .val (.ref b47), .unset, .unset, .unset, .unset, .unset, .unset, .unset, .unset, .unset, .unset, .unset, .unset, .unset, .unset]) rfl ?_
  refine own_aload P57 at_33 rfl rfl rfl ?_
  refine own_virt P57 (hw _ (List.mem_of_getElem? (i := 12) rfl)) (hw _ (List.mem_of_getElem? (i := 13) rfl)) (hw _ (List.mem_of_getElem? (i := 15) rfl)) (hw _ (List.mem_of_getElem? (i := 14) rfl)) (hw _ (List.mem_of_getElem? (i := 3) rfl)) (hw _ (List.mem_of_getElem? (i := 16) rfl)) (by decide) f67 (argsL := []) (rest := []) (rm3 l Z a0 hw b47 sj0 h59 n0 (Nat.le_trans (Nat.le_trans Z0 E49.1) k64.1) g55 f67 f65) at_35 rfl own_pd2 rfl rfl rfl (by decide) 0 rfl (by decide) (by decide) (by decide) (fun T69 h70 v71 L72 hq73 P68 => ?_)
  obtain ⟨rfl, n74, k75, f76⟩ := hq73
  have N77 := Fr.app N66 n74
  have f78 := f67.keep k75
  show own_Go p e below _ (T69.setTop (mkF m 38 #[.val (.long j0), .second, .val (.long j2), .second, .val (.int i4), .val (.long sj0), .second, .val (.ref b47), .unset, .unset, .unset, .unset, .unset, .unset, .unset, .unset, .unset, .unset, .unset, .unset, .unset, .unset] [(.int (own_tv sj0))]))
  refine own_istore P68 at_38 rfl (Ls' := #[.val (.long j0), .second, .val (.long j2), .second, .val (.int i4), .val (.long sj0), .second, .val (.ref b47), .val (.int (own_tv sj0)), .unset, .unset, .unset, .unset, .unset, .unset, .unset, .unset, .unset, .unset, .unset, .unset, .unset]) rfl ?_
  refine own_iload P68 at_40 rfl rfl ?_
  refine own_lload P68 at_42 rfl rfl ?_
  refine own_lconst P68 at_44 rfl (v := (1 : Int64)) rfl ?_
  by_cases hc79 : sj0 < (1 : Int64)
  · rw [if_pos hc79] at hQ
    refine own_lcY P68 (pc' := 53) at_45 at_46 hc79 (by decide) (by decide) ?_
    refine own_iconst P68 at_53 rfl (v := (0 : Int32)) rfl ?_
    exact b0_54 hw j0 j2 i4 sj0 b47 (own_tv sj0) (0 : Int32) (own_tv sj0) (own_tl sj0) n0 N77 (Nat.le_trans (Nat.le_trans (Nat.le_trans Z0 E49.1) k64.1) k75.1) g55 f78 f76  P68 hQ
  · rw [if_neg hc79] at hQ
    refine own_lcN P68 (pc' := 49) at_45 at_46 hc79 rfl ?_
    refine own_iconst P68 at_49 rfl (v := (1 : Int32)) rfl ?_
    refine own_goto P68 (pc' := 54) at_50 (by decide) (by decide) ?_
    exact b0_54 hw j0 j2 i4 sj0 b47 (own_tv sj0) (1 : Int32) (own_tv sj0) (own_tl sj0) n0 N77 (Nat.le_trans (Nat.le_trans (Nat.le_trans Z0 E49.1) k64.1) k75.1) g55 f78 f76  P68 hQ
def F0_0 (j0 : Int64) (j2 : Int64) (i4 : Int32) : Int32 := (if (i4 &&& (2 : Int32)) = (0 : Int32) then (F0_20 j2 i4 (j0 &&& (9223372036854775807 : Int64))) else (F0_20 j2 i4 (j0 &&& (3 : Int64))))
set_option maxRecDepth 65536 in
set_option maxHeartbeats 40000000 in
theorem b0_0 {p : Program} {l : Launch} {e : Env} {s : State} {m : MethodId} {args : Array Value} {below : List Frame} {meth : Method} {c : Code} {T : State} {h : Heap} {locs : List Loc} {Z : State} {a0 : Array Value} {Q : Option Value → Heap → List Loc → Prop} (hw : ∀ d ∈ tables_1, d.before a0 Z = true) (j0 : Int64) (j2 : Int64) (i4 : Int32)  (n0 : Nat) (N : Fr n0 locs) (Z0 : n0 ≤ h.size) (P : own_S Z "com/example/axioms_to_answers/axiomstoanswers/homomorphism/TriesTakePinLaw" "law" code 22 (some .boolean) p l e room_1 s m args below meth c T h locs 0 0) (hQ : ∀ h' L', Fr n0 L' → Q (some (.int (F0_0 j0 j2 i4))) h' L') :
    own_Go p e below (own_K s Q room_1.cells room_1.slots) (T.setTop (mkF m 0 #[.val (.long j0), .second, .val (.long j2), .second, .val (.int i4), .unset, .unset, .unset, .unset, .unset, .unset, .unset, .unset, .unset, .unset, .unset, .unset, .unset, .unset, .unset, .unset, .unset] [])) := by
  unfold F0_0 at hQ
  refine own_iload P at_0 rfl rfl ?_
  refine own_iconst P at_2 rfl (v := (2 : Int32)) rfl ?_
  refine own_iand P at_3 rfl ?_
  by_cases hc46 : (i4 &&& (2 : Int32)) = (0 : Int32)
  · rw [if_pos hc46] at hQ
    refine own_if0Y P (pc' := 15) at_4 hc46 (by decide) (by decide) ?_
    refine own_lloadN P at_15 rfl rfl ?_
    refine own_ldc2 P (v := (9223372036854775807 : Int64)) (hw _ (List.mem_of_getElem? (i := 0) rfl)) at_16 rfl ?_
    refine own_land P at_19 rfl ?_
    exact b0_20 hw j0 j2 i4 (j0 &&& (9223372036854775807 : Int64))  n0 N Z0    (by first | exact own_nn1 _ | exact own_nn2 _) P hQ
  · rw [if_neg hc46] at hQ
    refine own_if0N P (pc' := 7) at_4 hc46 rfl ?_
    refine own_lloadN P at_7 rfl rfl ?_
    refine own_ldc2 P (v := (3 : Int64)) (hw _ (List.mem_of_getElem? (i := 42) rfl)) at_8 rfl ?_
    refine own_land P at_11 rfl ?_
    refine own_goto P (pc' := 20) at_12 (by decide) (by decide) ?_
    exact b0_20 hw j0 j2 i4 (j0 &&& (3 : Int64))  n0 N Z0    (by first | exact own_nn1 _ | exact own_nn2 _) P hQ
theorem rm0 (l : Launch) (Z : State) (a0 : Array Value) (hw : ∀ d ∈ tables_1, d.before a0 Z = true) (j0 : Int64) (j2 : Int64) (i4 : Int32) (ws : List Jvm.Cond) (h : Heap) :
    own_Con l Z x code maxLocals ret ws room_1 #[(.long j0), (.long j2), (.int i4)] h (fun v _ L => v = some (.int (F0_0 j0 j2 i4)) ∧ Fr h.size L) :=
  own_enter (plainFor_of_name own_pn1) #[.val (.long j0), .second, .val (.long j2), .second, .val (.int i4), .unset, .unset, .unset, .unset, .unset, .unset, .unset, .unset, .unset, .unset, .unset, .unset, .unset, .unset, .unset, .unset, .unset] (fun m => by first | (simp [entryFrame, mkF, argsToLocals, Value.category, maxLocals]; done) | rfl) (fun p e s m below meth c T P => b0_0 hw j0 j2 i4 h.size (Fr.nil _) (Nat.le_refl _) P (fun _ _ q => ⟨rfl, q⟩))
theorem own_5 (s : Int64) (h : -1 ≤ s.toInt) : own_tl s = F5_0 s ∧ own_tv s = (if s < (1 : Int64) then (0 : Int32) else (1 : Int32)) ∧ -1 ≤ (F5_0 s).toInt := by
  have z0 : (0 : Int64).toInt = 0 := by decide
  have z1 : (1 : Int64).toInt = 1 := by decide
  have zm : (-1 : Int64).toInt = -1 := by decide
  have l := Int64.toInt_lt s
  have hs : (s - 1).toInt = s.toInt - 1 := by rw [Jvm.Kit.i64_sub (by rw [z1]; omega) (by rw [z1]; omega), z1]
  unfold own_tv own_tl F5_0
  by_cases h1 : s < (1 : Int64)
  · have h1' := h1
    rw [Int64.lt_iff_toInt_lt, z1] at h1'
    rw [if_pos h1, if_pos h1]
    by_cases h0 : s < (0 : Int64)
    · have h0' := h0
      rw [Int64.lt_iff_toInt_lt, z0] at h0'
      have e : s = -1 := Int64.toInt_inj.mp (by rw [zm]; omega)
      rw [if_pos h0, if_pos h0]
      exact ⟨e, rfl, by decide⟩
    · have h0' := h0
      rw [Int64.lt_iff_toInt_lt, z0] at h0'
      have e : s = 0 := Int64.toInt_inj.mp (by rw [z0]; omega)
      subst e
      decide
  · have h1' := h1
    rw [Int64.lt_iff_toInt_lt, z1] at h1'
    have h0 : ¬ (s < (0 : Int64)) := by rw [Int64.lt_iff_toInt_lt, z0]; omega
    have h2 : ¬ (s - 1 < (0 : Int64)) := by rw [Int64.lt_iff_toInt_lt, z0, hs]; omega
    rw [if_neg h1, if_neg h1, if_neg h0, if_neg h2, hs]
    exact ⟨rfl, rfl, by omega⟩
theorem own_239 (c : Int32) (w : Int64) : F0_239 1 1 w c c w = 1 := by
  unfold F0_239 F0_270 F0_277 F0_278 F4_0 F6_0
  by_cases h : w < (0 : Int64) <;> simp [h]
theorem own_209 (s : Int64) (h : -1 ≤ s.toInt) : F0_209 1 s 1 s = 1 := by
  obtain ⟨e1, e2, e3⟩ := own_5 s h
  unfold F0_209
  rw [e1, e2]
  by_cases q : s < (1 : Int64)
  · rw [if_pos q, if_pos q]; exact own_239 _ _
  · rw [if_neg q, if_neg q]; exact own_239 _ _
theorem own_170 (c : Int32) (w : Int64) (hw : -1 ≤ w.toInt) : F0_170 1 w c c w = 1 := by
  have k := own_209 w hw
  unfold F0_170 F0_201 F0_208 F4_0 F6_0
  by_cases h : w < (0 : Int64) <;> simp [h, k]
theorem own_140 (s : Int64) (h : -1 ≤ s.toInt) : F0_140 1 s s = 1 := by
  obtain ⟨e1, e2, e3⟩ := own_5 s h
  unfold F0_140
  rw [e1, e2]
  by_cases q : s < (1 : Int64)
  · rw [if_pos q, if_pos q]; exact own_170 _ _ e3
  · rw [if_neg q, if_neg q]; exact own_170 _ _ e3
theorem own_114 (y : Int64) : F0_114 1 y = 1 := by
  have zm : (-1 : Int64).toInt = -1 := by decide
  unfold F0_114 F8_0
  by_cases h : y < (-1 : Int64)
  · rw [if_pos h, if_pos h]
    exact own_140 _ (by decide)
  · rw [if_neg h, if_neg h]
    refine own_140 _ ?_
    rw [Int64.lt_iff_toInt_lt, zm] at h
    omega
theorem own_96 (j2 : Int64) (i4 : Int32) : F0_96 j2 i4 1 = 1 := by
  unfold F0_96
  split <;> exact own_114 _
theorem own_20 (j2 : Int64) (i4 : Int32) (f : Int64) (hf : 0 ≤ f.toInt) : F0_20 j2 i4 f = 1 := by
  have z0 : (0 : Int64).toInt = 0 := by decide
  have z1 : (1 : Int64).toInt = 1 := by decide
  have k := own_96 j2 i4
  obtain ⟨e1, e2, e3⟩ := own_5 f (by omega)
  have key : ∀ c : Int32, F0_54 j2 i4 f c c (F5_0 f) = 1 := fun c => by
    have l := Int64.toInt_lt f
    unfold F0_54 F0_88 F4_0 F6_0
    have iff1 : (F5_0 f < (0 : Int64)) ↔ f = 0 := by
      unfold F5_0
      by_cases h1 : f < (1 : Int64)
      · have h1' := h1
        rw [Int64.lt_iff_toInt_lt, z1] at h1'
        have e : f = 0 := Int64.toInt_inj.mp (by rw [z0]; omega)
        subst e
        decide
      · have h1' := h1
        rw [Int64.lt_iff_toInt_lt, z1] at h1'
        have hs : (f - 1).toInt = f.toInt - 1 := by rw [Jvm.Kit.i64_sub (by rw [z1]; omega) (by rw [z1]; omega), z1]
        rw [if_neg h1, Int64.lt_iff_toInt_lt, hs, z0]
        constructor
        · intro q; omega
        · intro q; rw [q, z0] at h1'; omega
    by_cases h : f = 0
    · have h' := iff1.mpr h
      simp only [if_pos h, if_pos h', if_true, k]
    · have h' : ¬ _ := fun q => h (iff1.mp q)
      simp only [if_neg h, if_neg h', if_true, k]
  unfold F0_20
  rw [e1, e2]
  by_cases q : f < (1 : Int64)
  · rw [if_pos q, if_pos q]; exact key _
  · rw [if_neg q, if_neg q]; exact key _
theorem own_law (j0 j2 : Int64) (i4 : Int32) : F0_0 j0 j2 i4 = 1 := by
  have m0 : (j0 &&& (3 : Int64)).toInt = j0.toInt % 2 ^ 2 := Jvm.Kit.i64_mask j0 _ (k := 2) (by decide) (by decide)
  have m2 : (j0 &&& (9223372036854775807 : Int64)).toInt = j0.toInt % 2 ^ 63 := Jvm.Kit.i64_mask j0 _ (k := 63) (by decide) (by decide)
  unfold F0_0
  split
  · exact own_20 _ _ _ (by rw [m2]; omega)
  · exact own_20 _ _ _ (by rw [m0]; omega)

theorem own_rm0 (l : Launch) (Z : State) (a0 : Array Value) (hw : ∀ d ∈ tables_1, d.before a0 Z = true) (j0 : Int64) (j2 : Int64) (i4 : Int32) (ws : List Jvm.Cond) (h : Heap) :
    own_Con l Z x code maxLocals ret ws room_1 #[(.long j0), (.long j2), (.int i4)] h (fun v _ L => v = some (.int 1) ∧ Fr h.size L) := by
  have q := rm0 l Z a0 hw j0 j2 i4 ws h
  rw [own_law j0 j2 i4] at q
  exact q
set_option maxRecDepth 65536 in
set_option maxHeartbeats 40000000 in
theorem comes_1 {Post : Tables → Env → Array Value → State → Outcome → State → Prop} (hpost : ∀ tb e args s v u, (limb_1_1.after args s (.returned v) u = true ∧ limb_1_2.after args s (.returned v) u = true ∧ True) → FrameEnd s (.returned v) u (Jvm.fieldLocs frame_1_writes args s ++ Jvm.arrayLocs frame_1_arrays args s ++ Jvm.staticLocs frame_1_statics s) 16 128 → Post tb e args s (.returned v) u) :
    ArmFor flags0 classFile x code maxLocals ret World_1 tables_1 room_1 Calls_1 rest_1 Pre_1 Post := by
  intro l hfl _ _ p e ha hc hk s m args below hf hA hF happ hP
  obtain ⟨hcalls, hrest, hpre⟩ := hP
  obtain ⟨-, -, -, hnamed, -, -, -, hat⟩ := (Spec.applies_iff hf).mp happ
  obtain ⟨hg, hn⟩ := and_e (Cond.before_iff.mp (show (Jvm.Cond.and given_1 narrow_1).before args s = true from hpre))
  obtain ⟨g0, hg1⟩ := and_e hg
  obtain ⟨k0, hg2⟩ := and_e hg1
  obtain ⟨k1, hg3⟩ := and_e hg2
  obtain ⟨w0, w1, w2, rfl⟩ : ∃ w0 w1 w2 : Value, args = #[w0, w1, w2] := by
    have hs : args.size = 3 := by simpa [Cond.value, given_1] using g0
    obtain ⟨L⟩ := args
    match L, hs with
    | [w0, w1, w2], _ => exact ⟨w0, w1, w2, rfl⟩
  have hw := fun d (hd : d ∈ tables_1) => atoms_spec (ws := Jvm.Cond.code x code maxLocals ret :: tables_1) hat d (List.mem_cons_of_mem _ hd)
  obtain ⟨i0, ei0⟩ := isL_v k0
  obtain rfl : w0 = (.long i0) := Option.some.inj ei0
  obtain ⟨i1, ei1⟩ := isL_v k1
  obtain rfl : w1 = (.long i1) := Option.some.inj ei1
  obtain ⟨i2, ei2⟩ := is_v hg3
  obtain rfl : w2 = (.int i2) := Option.some.inj ei2
  obtain ⟨n, o, h1, h2, h3, _, L, rfl, ⟨rfl, N⟩, hq⟩ := own_rm0 l s _ hw i0 i1 i2 tables_1 s.heap p e ha hc hk s m _ below hf ((Spec.applies_iff_loose hf).mp happ).1 ⟨rfl, State.Warmed39.refl s, rfl⟩ trivial
  refine ⟨n, _, h1, h2, h3, hpost _ _ _ _ _ _ ⟨Cond.after_iff.mpr rfl, Cond.after_iff.mpr (eq_i res_at (Term.int_eval (1)) rfl), trivial⟩ ⟨hq.1, hq.2.1, (hq.2.2.sift fun y hy => Or.inr (N y hy)).mono (by decide) (by decide)⟩⟩
theorem main_1_1 : Claimed_1_1 := comes_1 fun _ _ _ _ _ _ h hF => ⟨h.1, hF⟩
theorem main_1_2 : Claimed_1_2 := comes_1 fun _ _ _ _ _ _ h hF => ⟨h.2.1, hF⟩
end Jvm.Pilot.@@N@@
namespace Jvm.Pilot.@@N@@
open Jvm Jvm.ClassFile Sem Op Lib Jvm.Free Jvm.Stand Jvm.Pilot.@@N@@.Jvm.D
/-! MADE BY PROGRAM (witnessworld.py) out of the Statement's table words and the real class files: 10 classes; the members and pool entries that the words name. The judged class is class 1, her method 2. -/
namespace start1
open Jvm.ClassFile
def u (s : String) : CpInfo := .utf8 (stringToUtf16 s)
/-- a pool by its gaps: so many unusable entries, then the entry; so many at the end -/
def gap : Nat → List CpInfo → List CpInfo
  | 0, r => r
  | n + 1, r => .unusable :: gap n r
def poolList (es : List (Nat × CpInfo)) (last : Nat) : List CpInfo := es.foldr (fun e r => gap e.1 (e.2 :: r)) (gap last [])
def pool (es : List (Nat × CpInfo)) (last : Nat) : Array CpInfo := ⟨poolList es last⟩
def fileOf (pool : Array CpInfo) (this : Nat) (attrs : Array Attribute := #[]) (ms : Array MethodInfo := #[]) (fl : Nat := 33) (sup : Nat := 0) (ifs : Array Nat := #[]) (fds : Array FieldInfo := #[]) : ClassFile where
  minorVersion := 0
  majorVersion := 65
  constantPool := pool
  accessFlags := fl
  thisClass := this
  superClass := sup
  interfaces := ifs
  fields := fds
  methods := ms
  attributes := attrs
def plain (name : String) (sup : Option ClassId) : Class where
  name := name
  kind := .ordinary
  loader := none
  accessFlags := 33
  super := sup
  interfaces := #[]
  cf := none
  fields := #[]
  methods := #[]
  instanceTypes := #[]
  staticTypes := #[]
  resolved := #[]
  callSites := []
  init := .initialized
  statics := none
  mirror := none

def pool0 : Array CpInfo := pool [(5, u "<init>"), (0, u "()V"), (1, .class_ 10), (1, u "java/lang/Object")] 113

def k0c0 : Code := { maxStack := 0, maxLocals := 1, code := object_method_1_code, exceptionTable := #[], attributes := #[] }
def k0m0 : Method := { name := "<init>", desc := "()V", sig := { parameters := [], returnType := none }, accessFlags := 1, code := some k0c0 }
/-- java/lang/Object -/
def k0 : Class := { plain "java/lang/Object" none with
  accessFlags := 33
  interfaces := #[]
  cf := some (fileOf pool0 8 #[] #[{ accessFlags := 1, nameIndex := 5, descriptorIndex := 6, attributes := #[] }] 33 0 #[] #[])
  fields := #[]
  methods := #[k0m0]
  instanceTypes := #[]
  staticTypes := #[]
  resolved := Array.replicate 124 none
  statics := none }

def pool1 : Array CpInfo := pool [(2, .class_ 4), (1, u "java/lang/Object"), (0, u "<init>"), (0, u "()V"), (0, .long 18446744073709551615), (1, .long 3), (3, .long 9223372036854775807), (1, .class_ 16), (0, u "com/example/axioms_to_answers/axiomstoanswers/homomorphism/Tries"), (0, .methodref 15 18), (0, .nameAndType 5 19), (0, u "(J)V"), (0, .methodref 15 21), (0, .nameAndType 22 23), (0, u "take"), (0, u "()Z"), (0, .methodref 15 25), (0, .nameAndType 26 27), (0, u "left"), (0, u "()J"), (0, .methodref 29 30), (0, .class_ 31), (0, .nameAndType 32 33), (0, u "com/example/axioms_to_answers/axiomstoanswers/homomorphism/TriesTakePinLaw"), (0, u "after"), (0, u "(J)J"), (0, .methodref 15 35), (0, .nameAndType 36 23), (0, u "areSpent"), (0, .long 4), (1, .methodref 15 40), (0, .nameAndType 41 19), (0, u "leave"), (3, u "law"), (0, u "(JJI)Z")] 2

def k1m0 : Method := { name := "<init>", desc := "()V", sig := { parameters := [], returnType := none }, accessFlags := 1, code := none }
def k1c1 : Code := { maxStack := 4, maxLocals := 2, code := method_2_code, exceptionTable := #[], attributes := #[] }
def k1m1 : Method := { name := "after", desc := "(J)J", sig := { parameters := [.long], returnType := some .long }, accessFlags := 10, code := some k1c1 }
def k1c2 : Code := { maxStack := 5, maxLocals := 22, code := code, exceptionTable := #[], attributes := #[] }
def k1m2 : Method := { name := "law", desc := "(JJI)Z", sig := { parameters := [.long, .long, .int], returnType := some .boolean }, accessFlags := 9, code := some k1c2 }
/-- com/example/axioms_to_answers/axiomstoanswers/homomorphism/TriesTakePinLaw -/
def k1 : Class := { plain "com/example/axioms_to_answers/axiomstoanswers/homomorphism/TriesTakePinLaw" (some 0) with
  accessFlags := 49
  interfaces := #[]
  cf := some (fileOf pool1 29 #[] #[{ accessFlags := 1, nameIndex := 5, descriptorIndex := 6, attributes := #[] }, { accessFlags := 10, nameIndex := 32, descriptorIndex := 33, attributes := #[] }, { accessFlags := 9, nameIndex := 45, descriptorIndex := 46, attributes := #[] }] 49 2 #[] #[])
  fields := #[]
  methods := #[k1m0, k1m1, k1m2]
  instanceTypes := #[]
  staticTypes := #[]
  resolved := Array.replicate 49 none
  statics := none }

def pool2 : Array CpInfo := pool [(1, .methodref 2 3), (0, .class_ 4), (0, .nameAndType 5 6), (0, u "java/lang/Object"), (0, u "<init>"), (0, u "()V"), (9, .fieldref 17 18), (0, .class_ 19), (0, .nameAndType 20 21), (0, u "com/example/axioms_to_answers/axiomstoanswers/homomorphism/Tries"), (0, u "left"), (0, u "J"), (0, .long 18446744073709551615), (1, .methodref 25 26), (0, .class_ 27), (0, .nameAndType 28 29), (0, u "java/lang/Math"), (0, u "max"), (0, u "(JJ)J"), (0, u "(J)V"), (3, u "take"), (0, u "()Z"), (0, u "areSpent"), (0, u "()J"), (0, u "leave")] 17

def k2c0 : Code := { maxStack := 4, maxLocals := 3, code := prog_96_method_1_code, exceptionTable := #[], attributes := #[] }
def k2m0 : Method := { name := "<init>", desc := "(J)V", sig := { parameters := [.long], returnType := none }, accessFlags := 1, code := some k2c0 }
def k2c1 : Code := { maxStack := 5, maxLocals := 1, code := prog_96_method_2_code, exceptionTable := #[], attributes := #[] }
def k2m1 : Method := { name := "take", desc := "()Z", sig := { parameters := [], returnType := some .boolean }, accessFlags := 1, code := some k2c1 }
def k2c2 : Code := { maxStack := 4, maxLocals := 1, code := prog_96_method_3_code, exceptionTable := #[], attributes := #[] }
def k2m2 : Method := { name := "areSpent", desc := "()Z", sig := { parameters := [], returnType := some .boolean }, accessFlags := 0, code := some k2c2 }
def k2c3 : Code := { maxStack := 2, maxLocals := 1, code := prog_96_method_4_code, exceptionTable := #[], attributes := #[] }
def k2m3 : Method := { name := "left", desc := "()J", sig := { parameters := [], returnType := some .long }, accessFlags := 0, code := some k2c3 }
def k2c4 : Code := { maxStack := 5, maxLocals := 3, code := prog_96_method_5_code, exceptionTable := #[], attributes := #[] }
def k2m4 : Method := { name := "leave", desc := "(J)V", sig := { parameters := [.long], returnType := none }, accessFlags := 0, code := some k2c4 }
/-- com/example/axioms_to_answers/axiomstoanswers/homomorphism/Tries -/
def k2 : Class := { plain "com/example/axioms_to_answers/axiomstoanswers/homomorphism/Tries" (some 0) with
  accessFlags := 33
  interfaces := #[]
  cf := some (fileOf pool2 17 #[] #[{ accessFlags := 1, nameIndex := 5, descriptorIndex := 30, attributes := #[] }, { accessFlags := 1, nameIndex := 34, descriptorIndex := 35, attributes := #[] }, { accessFlags := 0, nameIndex := 36, descriptorIndex := 35, attributes := #[] }, { accessFlags := 0, nameIndex := 20, descriptorIndex := 37, attributes := #[] }, { accessFlags := 0, nameIndex := 38, descriptorIndex := 30, attributes := #[] }] 33 2 #[] #[{ accessFlags := 2, nameIndex := 20, descriptorIndex := 21, attributes := #[] }])
  fields := #[{ name := "left", type := .long, accessFlags := 2, slot := 0, constantValue := 0 }]
  methods := #[k2m0, k2m1, k2m2, k2m3, k2m4]
  instanceTypes := #[.long]
  staticTypes := #[]
  resolved := Array.replicate 56 none
  statics := none }

def pool3 : Array CpInfo := pool [(1, .class_ 2), (0, u "java/lang/Math"), (1, .class_ 6), (1, u "java/lang/Object"), (0, u "<init>"), (0, u "()V"), (89, .class_ 100), (1, u "java/lang/Math$RandomNumberGeneratorHolder"), (20, u "(JJ)J"), (50, u "negativeZeroFloatBits"), (0, u "J"), (2, u "negativeZeroDoubleBits"), (21, u "max"), (46, u "$assertionsDisabled"), (0, u "Z"), (91, u "twoToTheDoubleScaleDown"), (0, u "D"), (4, u "twoToTheDoubleScaleUp"), (9, u "E"), (3, u "PI"), (2, u "TAU"), (2, u "DEGREES_TO_RADIANS"), (0, u "RADIANS_TO_DEGREES")] 94

def k3m0 : Method := { name := "<init>", desc := "()V", sig := { parameters := [], returnType := none }, accessFlags := 2, code := none }
def k3c1 : Code := { maxStack := 4, maxLocals := 4, code := jdk_29_method_66_code, exceptionTable := #[], attributes := #[] }
def k3m1 : Method := { name := "max", desc := "(JJ)J", sig := { parameters := [.long, .long], returnType := some .long }, accessFlags := 9, code := some k3c1 }
/-- java/lang/Math -/
def k3 : Class := { plain "java/lang/Math" (some 0) with
  accessFlags := 49
  interfaces := #[]
  cf := some (fileOf pool3 1 #[.nestMembers #[98]] #[{ accessFlags := 2, nameIndex := 7, descriptorIndex := 8, attributes := #[] }, { accessFlags := 9, nameIndex := 198, descriptorIndex := 121, attributes := #[] }] 49 4 #[] #[{ accessFlags := 25, nameIndex := 354, descriptorIndex := 339, attributes := #[] }, { accessFlags := 25, nameIndex := 358, descriptorIndex := 339, attributes := #[] }, { accessFlags := 25, nameIndex := 361, descriptorIndex := 339, attributes := #[] }, { accessFlags := 26, nameIndex := 364, descriptorIndex := 339, attributes := #[] }, { accessFlags := 26, nameIndex := 365, descriptorIndex := 339, attributes := #[] }, { accessFlags := 26, nameIndex := 172, descriptorIndex := 173, attributes := #[] }, { accessFlags := 26, nameIndex := 176, descriptorIndex := 173, attributes := #[] }, { accessFlags := 8, nameIndex := 344, descriptorIndex := 339, attributes := #[] }, { accessFlags := 8, nameIndex := 338, descriptorIndex := 339, attributes := #[] }, { accessFlags := 4120, nameIndex := 245, descriptorIndex := 246, attributes := #[] }])
  fields := #[{ name := "E", type := .double, accessFlags := 25, slot := 0, constantValue := 0 }, { name := "PI", type := .double, accessFlags := 25, slot := 1, constantValue := 0 }, { name := "TAU", type := .double, accessFlags := 25, slot := 2, constantValue := 0 }, { name := "DEGREES_TO_RADIANS", type := .double, accessFlags := 26, slot := 3, constantValue := 0 }, { name := "RADIANS_TO_DEGREES", type := .double, accessFlags := 26, slot := 4, constantValue := 0 }, { name := "negativeZeroFloatBits", type := .long, accessFlags := 26, slot := 5, constantValue := 0 }, { name := "negativeZeroDoubleBits", type := .long, accessFlags := 26, slot := 6, constantValue := 0 }, { name := "twoToTheDoubleScaleUp", type := .double, accessFlags := 8, slot := 7, constantValue := 0 }, { name := "twoToTheDoubleScaleDown", type := .double, accessFlags := 8, slot := 8, constantValue := 0 }, { name := "$assertionsDisabled", type := .boolean, accessFlags := 4120, slot := 9, constantValue := 0 }]
  methods := #[k3m0, k3m1]
  instanceTypes := #[]
  staticTypes := #[.double, .double, .double, .double, .double, .long, .long, .double, .double, .boolean]
  resolved := Array.replicate 460 none
  statics := none }

def pool4 : Array CpInfo := pool [(1, u "java/lang/Cloneable"), (0, .class_ 1), (0, u "java/lang/Object"), (0, .class_ 3)] 3

/-- java/lang/Cloneable -/
def k4 : Class := { plain "java/lang/Cloneable" (some 0) with
  accessFlags := 1537
  interfaces := #[]
  cf := some (fileOf pool4 2 #[] #[] 1537 4 #[] #[])
  fields := #[]
  methods := #[]
  instanceTypes := #[]
  staticTypes := #[]
  resolved := Array.replicate 8 none
  statics := none }

def pool5 : Array CpInfo := pool [(1, u "java/io/Serializable"), (0, .class_ 1), (0, u "java/lang/Object"), (0, .class_ 3)] 3

/-- java/io/Serializable -/
def k5 : Class := { plain "java/io/Serializable" (some 0) with
  accessFlags := 1537
  interfaces := #[]
  cf := some (fileOf pool5 2 #[] #[] 1537 4 #[] #[])
  fields := #[]
  methods := #[]
  instanceTypes := #[]
  staticTypes := #[]
  resolved := Array.replicate 8 none
  statics := none }

/-- the primitive byte -/
def k6 : Class := { plain "byte" none with kind := .primitive 'B', accessFlags := 0x411 }
/-- [B -/
def k7 : Class := { plain "[B" (some 0) with kind := .array 6 .byte, interfaces := #[4, 5], accessFlags := 1041 }

/-- the primitive int -/
def k8 : Class := { plain "int" none with kind := .primitive 'I', accessFlags := 0x411 }
/-- [I -/
def k9 : Class := { plain "[I" (some 0) with kind := .array 8 .int, interfaces := #[4, 5], accessFlags := 1041 }

def heap : Heap := #[]
def classes : Array Class := #[k0, k1, k2, k3, k4, k5, k6, k7, k8, k9]
def interned : List (Array UInt16 × Addr) := []
def slotsUsed : Nat := 0
def theMethod : MethodId := ⟨1, 2⟩
def args0 : Array Value := #[.long 3, .long 7, .int 12]
def aboutOver (below : List Frame) : State where
  vm := { classes := classes, interned := interned.toArray }
  heap := heap
  slotsUsed := slotsUsed
  threads := #[{ frames := .invoking theMethod args0 :: below }]
def below0 : List Frame := [.native { method := ⟨0, 0⟩, args := #[] }]
def about1 : State := aboutOver below0
def p0 : Program := .bare "" "" ""
def e0 : Env := launch0.env 0 0 0
theorem w_frames : about1.frames = Frame.invoking theMethod args0 :: below0 := rfl
set_option maxRecDepth 65536 in
theorem w_args : argsFit about1.vm theMethod args0 = true := by decide +kernel
set_option maxRecDepth 65536 in
theorem w_heap : heapFits about1 = true := by decide +kernel
set_option maxRecDepth 65536 in
theorem w_runnable : about1.curStatus? = some .runnable := by decide +kernel
set_option maxRecDepth 65536 in
theorem w_alone : about1.alone = true := by decide +kernel
set_option maxRecDepth 65536 in
theorem w_named : about1.methodNamed? x = some theMethod := by decide +kernel
set_option maxRecDepth 65536 in
theorem w_hears : about1.hears theMethod below0 = true := by decide +kernel
set_option maxRecDepth 65536 in
theorem w_ripe : about1.ripe theMethod args0 below0 = true := by decide +kernel
theorem w_running : about1.status = .running := rfl
set_option maxRecDepth 65536 in
theorem w_room : about1.hasRoom e0.platform room_1 = true :=
  launch0.hasRoom_least _ room_1 (by decide +kernel) (by decide +kernel) (by decide +kernel) (by decide +kernel) (by decide +kernel) (by decide +kernel)
theorem allAtoms_all (ts : List Jvm.Cond) (a : Array Jvm.Value) (st : Jvm.State) : (allAtoms ts).before a st = ts.all (fun c => c.before a st) := by
  induction ts with
  | nil => rfl
  | cons c t ih =>
    show (Jvm.Cond.and c (allAtoms t)).before a st = _
    rw [Jvm.Cond.before_and, ih, List.all_cons]
def words1 : List Jvm.Cond := Jvm.Cond.code x code maxLocals ret :: tables_1
/-- a 'code' word, met by the world's own term for the bytes: nothing is compared byte by byte -/
theorem code_word {y : MethodName} {bytes : ByteArray} {mx : Nat} {rt : Option FieldType} {a : Array Value} {s : State} {m : MethodId} {meth : Method} {c : Code} (h1 : s.methodNamed? y = some m) (h2 : s.vm.method? m = some meth) (h3 : meth.code = some c) (h4 : c.code = bytes)
    (h5 : (c.maxLocals == mx && c.exceptionTable.isEmpty && decide (c.maxStack ≤ mostOperands) && decide (meth.sig.returnType = rt) && !meth.locks && decide (parseMethodDescriptor y.desc = some meth.sig)) = true) : (Jvm.Cond.code y bytes mx rt).before a s = true := by
  simp only [Bool.and_eq_true, beq_iff_eq, Bool.not_eq_true', decide_eq_true_eq] at h5
  obtain ⟨⟨⟨⟨⟨g1, g2⟩, g3⟩, g4⟩, g5⟩, g6⟩ := h5
  simp [Cond.before, Cond.holds, Cond.value, h1, h2, h3, h4, g1, g2, g3, g4, g5, g6]
def isCode : Jvm.Cond → Bool
  | .code _ _ _ _ => true
  | _ => false
theorem all_split {L : List Jvm.Cond} {P : Jvm.Cond → Bool} (h1 : L.all (fun c => isCode c || P c) = true) (h2 : ∀ c ∈ L.filter isCode, P c = true) : L.all P = true := by
  refine List.all_eq_true.mpr fun c hc => ?_
  have h := List.all_eq_true.mp h1 c hc
  rcases Bool.eq_false_or_eq_true (isCode c) with hi | hi
  · exact h2 c (List.mem_filter.mpr ⟨hc, hi⟩)
  · simpa [hi] using h
set_option maxRecDepth 65536 in
theorem w_c0 : (Jvm.Cond.code x code maxLocals ret).before args0 about1 = true := code_word (m := ⟨1, 2⟩) (meth := k1m2) (c := k1c2) (by decide +kernel) rfl rfl rfl (by decide +kernel)
set_option maxRecDepth 65536 in
theorem w_c1 : (Jvm.Cond.code ({ cls := "com/example/axioms_to_answers/axiomstoanswers/homomorphism/Tries", name := "<init>", desc := "(J)V" } : Jvm.MethodName) prog_96_method_1_code (3 : Nat) (Option.none : Option Jvm.ClassFile.FieldType)).before args0 about1 = true := code_word (m := ⟨2, 0⟩) (meth := k2m0) (c := k2c0) (by decide +kernel) rfl rfl rfl (by decide +kernel)
set_option maxRecDepth 65536 in
theorem w_c2 : (Jvm.Cond.code ({ cls := "java/lang/Object", name := "<init>", desc := "()V" } : Jvm.MethodName) object_method_1_code (1 : Nat) (Option.none : Option Jvm.ClassFile.FieldType)).before args0 about1 = true := code_word (m := ⟨0, 0⟩) (meth := k0m0) (c := k0c0) (by decide +kernel) rfl rfl rfl (by decide +kernel)
set_option maxRecDepth 65536 in
theorem w_c3 : (Jvm.Cond.code ({ cls := "com/example/axioms_to_answers/axiomstoanswers/homomorphism/Tries", name := "take", desc := "()Z" } : Jvm.MethodName) prog_96_method_2_code (1 : Nat) (Option.some Jvm.ClassFile.FieldType.boolean)).before args0 about1 = true := code_word (m := ⟨2, 1⟩) (meth := k2m1) (c := k2c1) (by decide +kernel) rfl rfl rfl (by decide +kernel)
set_option maxRecDepth 65536 in
theorem w_c4 : (Jvm.Cond.code ({ cls := "com/example/axioms_to_answers/axiomstoanswers/homomorphism/Tries", name := "left", desc := "()J" } : Jvm.MethodName) prog_96_method_4_code (1 : Nat) (Option.some Jvm.ClassFile.FieldType.long)).before args0 about1 = true := code_word (m := ⟨2, 3⟩) (meth := k2m3) (c := k2c3) (by decide +kernel) rfl rfl rfl (by decide +kernel)
set_option maxRecDepth 65536 in
theorem w_c5 : (Jvm.Cond.code ({ cls := "com/example/axioms_to_answers/axiomstoanswers/homomorphism/TriesTakePinLaw", name := "after", desc := "(J)J" } : Jvm.MethodName) method_2_code (2 : Nat) (Option.some Jvm.ClassFile.FieldType.long)).before args0 about1 = true := code_word (m := ⟨1, 1⟩) (meth := k1m1) (c := k1c1) (by decide +kernel) rfl rfl rfl (by decide +kernel)
set_option maxRecDepth 65536 in
theorem w_c6 : (Jvm.Cond.code ({ cls := "com/example/axioms_to_answers/axiomstoanswers/homomorphism/Tries", name := "areSpent", desc := "()Z" } : Jvm.MethodName) prog_96_method_3_code (1 : Nat) (Option.some Jvm.ClassFile.FieldType.boolean)).before args0 about1 = true := code_word (m := ⟨2, 2⟩) (meth := k2m2) (c := k2c2) (by decide +kernel) rfl rfl rfl (by decide +kernel)
set_option maxRecDepth 65536 in
theorem w_c7 : (Jvm.Cond.code ({ cls := "com/example/axioms_to_answers/axiomstoanswers/homomorphism/Tries", name := "leave", desc := "(J)V" } : Jvm.MethodName) prog_96_method_5_code (3 : Nat) (Option.none : Option Jvm.ClassFile.FieldType)).before args0 about1 = true := code_word (m := ⟨2, 4⟩) (meth := k2m4) (c := k2c4) (by decide +kernel) rfl rfl rfl (by decide +kernel)
set_option maxRecDepth 65536 in
theorem w_c8 : (Jvm.Cond.code ({ cls := "java/lang/Math", name := "max", desc := "(JJ)J" } : Jvm.MethodName) jdk_29_method_66_code (4 : Nat) (Option.some Jvm.ClassFile.FieldType.long)).before args0 about1 = true := code_word (m := ⟨3, 1⟩) (meth := k3m1) (c := k3c1) (by decide +kernel) rfl rfl rfl (by decide +kernel)
def codes1 : List Jvm.Cond := [Jvm.Cond.code x code maxLocals ret, Jvm.Cond.code ({ cls := "com/example/axioms_to_answers/axiomstoanswers/homomorphism/Tries", name := "<init>", desc := "(J)V" } : Jvm.MethodName) prog_96_method_1_code (3 : Nat) (Option.none : Option Jvm.ClassFile.FieldType), Jvm.Cond.code ({ cls := "java/lang/Object", name := "<init>", desc := "()V" } : Jvm.MethodName) object_method_1_code (1 : Nat) (Option.none : Option Jvm.ClassFile.FieldType), Jvm.Cond.code ({ cls := "com/example/axioms_to_answers/axiomstoanswers/homomorphism/Tries", name := "take", desc := "()Z" } : Jvm.MethodName) prog_96_method_2_code (1 : Nat) (Option.some Jvm.ClassFile.FieldType.boolean), Jvm.Cond.code ({ cls := "com/example/axioms_to_answers/axiomstoanswers/homomorphism/Tries", name := "left", desc := "()J" } : Jvm.MethodName) prog_96_method_4_code (1 : Nat) (Option.some Jvm.ClassFile.FieldType.long), Jvm.Cond.code ({ cls := "com/example/axioms_to_answers/axiomstoanswers/homomorphism/TriesTakePinLaw", name := "after", desc := "(J)J" } : Jvm.MethodName) method_2_code (2 : Nat) (Option.some Jvm.ClassFile.FieldType.long), Jvm.Cond.code ({ cls := "com/example/axioms_to_answers/axiomstoanswers/homomorphism/Tries", name := "areSpent", desc := "()Z" } : Jvm.MethodName) prog_96_method_3_code (1 : Nat) (Option.some Jvm.ClassFile.FieldType.boolean), Jvm.Cond.code ({ cls := "com/example/axioms_to_answers/axiomstoanswers/homomorphism/Tries", name := "leave", desc := "(J)V" } : Jvm.MethodName) prog_96_method_5_code (3 : Nat) (Option.none : Option Jvm.ClassFile.FieldType), Jvm.Cond.code ({ cls := "java/lang/Math", name := "max", desc := "(JJ)J" } : Jvm.MethodName) jdk_29_method_66_code (4 : Nat) (Option.some Jvm.ClassFile.FieldType.long)]
set_option maxRecDepth 65536 in
theorem codes_eq : words1.filter isCode = codes1 := rfl
theorem w_codes : ∀ c ∈ words1.filter isCode, c.before args0 about1 = true := by
  rw [codes_eq]
  intro c hc
  simp only [codes1, List.mem_cons, List.not_mem_nil, or_false] at hc
  rcases hc with rfl | rfl | rfl | rfl | rfl | rfl | rfl | rfl | rfl
  · exact w_c0
  · exact w_c1
  · exact w_c2
  · exact w_c3
  · exact w_c4
  · exact w_c5
  · exact w_c6
  · exact w_c7
  · exact w_c8
set_option maxRecDepth 65536 in
theorem w_t1 : (words1.take 24).all (fun c => isCode c || c.before args0 about1) = true := by decide +kernel
set_option maxRecDepth 65536 in
theorem w_t2 : (words1.drop 24).all (fun c => isCode c || c.before args0 about1) = true := by decide +kernel
theorem w_tables : (allAtoms (Jvm.Cond.code x code maxLocals ret :: tables_1)).before args0 about1 = true := by
  rw [allAtoms_all]
  show words1.all (fun c => c.before args0 about1) = true
  refine all_split ?_ w_codes
  rw [← List.take_append_drop 24 words1, List.all_append, w_t1, w_t2]
  rfl
set_option maxRecDepth 65536 in
theorem w_case : (Jvm.Cond.and given_1 narrow_1).before args0 about1 = true := by decide +kernel
theorem w_applies : (headSpec (Jvm.Cond.code x code maxLocals ret :: tables_1) room_1).applies x e0.platform about1 = true :=
  (Spec.applies_iff w_frames).mpr ⟨w_running, w_runnable, w_alone, w_named, w_hears, w_ripe, w_room, w_tables⟩
theorem atStart : AtStart classFile x code maxLocals ret World_1 tables_1 room_1 Calls_1 rest_1 Pre_1 launch0 p0 e0 about1 theMethod args0 below0 :=
  ⟨lists_1, trivial, launch0.admits_env _ _ _, launch0.least_env, fairChoices_fair.cas, fairChoices_fair.clock, w_frames, w_args, w_heap, w_applies, trivial, trivial, w_case⟩
end start1
theorem witness_1 : WitnessClaimed_1 := ⟨start1.p0, start1.e0, start1.about1, start1.theMethod, start1.args0, start1.below0, start1.atStart⟩
end Jvm.Pilot.@@N@@
