import JvmDerived
import JvmDerived.Pilot.@@N@@Statement
import JvmDerived.Pilot.@@N@@Code
set_option linter.unusedVariables false
set_option linter.unusedSimpArgs false
@@BLOCK:NumsL.lean.txt@@
namespace Jvm.RoadKit
open Sem ClassFile Op Lib Jvm.Stand Jvm.Free Jvm.LawKit
section New
variable {p : Program} {l : Launch} {e : Env} {R : Room} {s : State} {m : MethodId} {args : Array Value} {below : List Frame} {meth : Method} {c : Code} {T : State} {locs : List Loc} {cells slots : Nat}
theorem retI (X : Stand p l e R s m args below meth c T locs cells slots) (hx : p.tables.exec = Jvm.exec) {pc : Nat} {Ls : Array Slot} {z : Int32} {rest : List Value} (hret : meth.sig.returnType = some .int) (hd : decode c.code pc = .ok (.ireturn, 1)) {fs : List Frame}
    (hl : ∀ (f : JFrame) (acts : List Action), f.method = m → f.locked = none → f.entered = [] → (doReturn e (T.setTop f) acts (some (.int z))).1 = T.setFrames fs) : Steps p.tables e below (T.setTop (mkF m pc Ls (.int z :: rest))) (T.setFrames fs) := by
  have hm' : T.vm.method? m = some meth := X.method'
  have hn : narrow .int (.int z) = .int z := rfl
  show Steps p.tables e below (T.setTop { method := m, pc := pc, locals := Ls, stack := _ :: rest, locked := none }) _
  jvm_step X.here [X.here.top, hx, hd, hm', hret, hn]
  first | (intro acts; rw [hl _ acts rfl rfl rfl]) | rw [hl _ _ rfl rfl rfl]
  exact Steps.refl _
end New
end Jvm.RoadKit
namespace Jvm.Pilot.@@N@@
open Jvm Jvm.ClassFile Sem Op Lib Jvm.Free Jvm.Stand Jvm.LawKit Jvm.RoadKit Bundle Jvm.Pilot.@@N@@.Jvm.D
section OwnBase
variable {p : Program} {l : Launch} {e : Env} {R : Room} {s : State} {m : MethodId} {args : Array Value} {below : List Frame} {meth : Method} {c : Code} {T : State} {h : Heap} {locs : List Loc} {cells slots : Nat} {Z : State} {a0 : Array Value} {own nm : String} {bytes : ByteArray} {mx : Nat} {rt : Option FieldType} {K : State → Outcome → Prop} {pc pc' : Nat} {Ls : Array Slot} {rest : List Value}
/-- the run from S comes to an end that is as K says -/
def own_Go (p : Program) (e : Env) (below : List Frame) (K : State → Outcome → Prop) (S : State) : Prop :=
  ∃ t o, Steps p.tables e below S t ∧ t.status = .running ∧ Ended t below o ∧ K t o
def own_K (s : State) (Q : Option Value → Heap → List Loc → Prop) (kc ks : Nat) (t : State) (o : Outcome) : Prop :=
  ∃ v L, o = .returned v ∧ Q v t.heap L ∧ FrameEnd s o t L kc ks
/-- the walk stands: all that a step asks, in one word -/
def own_S (Z : State) (own nm : String) (bytes : ByteArray) (mx : Nat) (rt : Option FieldType) (p : Program) (l : Launch) (e : Env) (R : Room) (s : State) (m : MethodId) (args : Array Value) (below : List Frame) (meth : Method) (c : Code) (T : State) (h : Heap) (locs : List Loc) (cells slots : Nat) : Prop :=
  Stand p l e R s m args below meth c T locs cells slots ∧ p.tables.exec = Jvm.exec ∧ c.code = bytes ∧ c.maxLocals = mx ∧ s.vm.findClass own = some m.cls ∧ Z.Warmed39 s.vm ∧ meth.sig.returnType = rt ∧ meth.locks = false ∧ T.heap = h ∧ meth.name = nm
theorem own_S.st (P : own_S Z own nm bytes mx rt p l e R s m args below meth c T h locs cells slots) : Stand p l e R s m args below meth c T locs cells slots := P.1
theorem own_S.ex (P : own_S Z own nm bytes mx rt p l e R s m args below meth c T h locs cells slots) : p.tables.exec = Jvm.exec := P.2.1
theorem own_S.cd (P : own_S Z own nm bytes mx rt p l e R s m args below meth c T h locs cells slots) {pc : Nat} {r : Except ClassFile.DecodeError (ClassFile.Instr × Nat)} (hd : decode bytes pc = r) : decode c.code pc = r := hb P.2.2.1 hd
theorem own_S.ml (P : own_S Z own nm bytes mx rt p l e R s m args below meth c T h locs cells slots) : c.maxLocals = mx := P.2.2.2.1
theorem own_S.ow (P : own_S Z own nm bytes mx rt p l e R s m args below meth c T h locs cells slots) : s.vm.findClass own = some m.cls := P.2.2.2.2.1
theorem own_S.wz (P : own_S Z own nm bytes mx rt p l e R s m args below meth c T h locs cells slots) : Z.Warmed39 s.vm := P.2.2.2.2.2.1
theorem own_S.rty (P : own_S Z own nm bytes mx rt p l e R s m args below meth c T h locs cells slots) : meth.sig.returnType = rt := P.2.2.2.2.2.2.1
theorem own_S.lk (P : own_S Z own nm bytes mx rt p l e R s m args below meth c T h locs cells slots) : meth.locks = false := P.2.2.2.2.2.2.2.1
theorem own_S.hp (P : own_S Z own nm bytes mx rt p l e R s m args below meth c T h locs cells slots) : T.heap = h := P.2.2.2.2.2.2.2.2.1
theorem own_S.nmm (P : own_S Z own nm bytes mx rt p l e R s m args below meth c T h locs cells slots) : meth.name = nm := P.2.2.2.2.2.2.2.2.2
theorem own_S.move (P : own_S Z own nm bytes mx rt p l e R s m args below meth c T h locs cells slots) {T' : State} {h' : Heap} {locs' : List Loc} {cells' slots' : Nat} (X : Stand p l e R s m args below meth c T' locs' cells' slots') (eh : T'.heap = h') : own_S Z own nm bytes mx rt p l e R s m args below meth c T' h' locs' cells' slots' :=
  ⟨X, P.2.1, P.2.2.1, P.2.2.2.1, P.2.2.2.2.1, P.2.2.2.2.2.1, P.2.2.2.2.2.2.1, P.2.2.2.2.2.2.2.1, eh, P.2.2.2.2.2.2.2.2.2⟩
theorem own_st {S S' : State} (h : ∀ t, Steps p.tables e below S' t → Steps p.tables e below S t) (k : own_Go p e below K S') : own_Go p e below K S := by
  obtain ⟨t, o, h1, h2⟩ := k
  exact ⟨t, o, h t h1, h2⟩

theorem own_iadd (P : own_S Z own nm bytes mx rt p l e R s m args below meth c T h locs cells slots) {x y : Int32} (hd : decode bytes pc = .ok (.iadd, 1)) (hp : pc + 1 = pc')
    (k : own_Go p e below K (T.setTop (mkF m pc' Ls (.int (x + y) :: rest)))) : own_Go p e below K (T.setTop (mkF m pc Ls (.int y :: .int x :: rest))) := by
  subst hp
  exact own_st (fun t k => XS.iadd P.st.here P.ex rfl (P.cd hd) rfl k) k
theorem own_isub (P : own_S Z own nm bytes mx rt p l e R s m args below meth c T h locs cells slots) {x y : Int32} (hd : decode bytes pc = .ok (.isub, 1)) (hp : pc + 1 = pc')
    (k : own_Go p e below K (T.setTop (mkF m pc' Ls (.int (x - y) :: rest)))) : own_Go p e below K (T.setTop (mkF m pc Ls (.int y :: .int x :: rest))) := by
  subst hp
  exact own_st (fun t k => XS.isub P.st.here P.ex rfl (P.cd hd) rfl k) k
theorem own_imul (P : own_S Z own nm bytes mx rt p l e R s m args below meth c T h locs cells slots) {x y : Int32} (hd : decode bytes pc = .ok (.imul, 1)) (hp : pc + 1 = pc')
    (k : own_Go p e below K (T.setTop (mkF m pc' Ls (.int (x * y) :: rest)))) : own_Go p e below K (T.setTop (mkF m pc Ls (.int y :: .int x :: rest))) := by
  subst hp
  exact own_st (fun t k => XS.imul P.st.here P.ex rfl (P.cd hd) rfl k) k
theorem own_iand (P : own_S Z own nm bytes mx rt p l e R s m args below meth c T h locs cells slots) {x y : Int32} (hd : decode bytes pc = .ok (.iand, 1)) (hp : pc + 1 = pc')
    (k : own_Go p e below K (T.setTop (mkF m pc' Ls (.int (x &&& y) :: rest)))) : own_Go p e below K (T.setTop (mkF m pc Ls (.int y :: .int x :: rest))) := by
  subst hp
  exact own_st (fun t k => XS.iand P.st.here P.ex rfl (P.cd hd) rfl k) k
theorem own_ior (P : own_S Z own nm bytes mx rt p l e R s m args below meth c T h locs cells slots) {x y : Int32} (hd : decode bytes pc = .ok (.ior, 1)) (hp : pc + 1 = pc')
    (k : own_Go p e below K (T.setTop (mkF m pc' Ls (.int (x ||| y) :: rest)))) : own_Go p e below K (T.setTop (mkF m pc Ls (.int y :: .int x :: rest))) := by
  subst hp
  exact own_st (fun t k => XS.ior P.st.here P.ex rfl (P.cd hd) rfl k) k
theorem own_ixor (P : own_S Z own nm bytes mx rt p l e R s m args below meth c T h locs cells slots) {x y : Int32} (hd : decode bytes pc = .ok (.ixor, 1)) (hp : pc + 1 = pc')
    (k : own_Go p e below K (T.setTop (mkF m pc' Ls (.int (x ^^^ y) :: rest)))) : own_Go p e below K (T.setTop (mkF m pc Ls (.int y :: .int x :: rest))) := by
  subst hp
  exact own_st (fun t k => XS.ixor P.st.here P.ex rfl (P.cd hd) rfl k) k
theorem own_idiv (P : own_S Z own nm bytes mx rt p l e R s m args below meth c T h locs cells slots) {x y : Int32} (hd : decode bytes pc = .ok (.idiv, 1)) (hp : pc + 1 = pc') (hy : y ≠ 0)
    (k : own_Go p e below K (T.setTop (mkF m pc' Ls (.int (x / y) :: rest)))) : own_Go p e below K (T.setTop (mkF m pc Ls (.int y :: .int x :: rest))) := by
  subst hp
  exact own_st (fun t k => XS.idiv P.st.here P.ex rfl (P.cd hd) rfl hy k) k
theorem own_irem (P : own_S Z own nm bytes mx rt p l e R s m args below meth c T h locs cells slots) {x y : Int32} (hd : decode bytes pc = .ok (.irem, 1)) (hp : pc + 1 = pc') (hy : y ≠ 0)
    (k : own_Go p e below K (T.setTop (mkF m pc' Ls (.int (x - (x / y) * y) :: rest)))) : own_Go p e below K (T.setTop (mkF m pc Ls (.int y :: .int x :: rest))) := by
  subst hp
  exact own_st (fun t k => XS.irem P.st.here P.ex rfl (P.cd hd) rfl hy k) k
theorem own_ladd (P : own_S Z own nm bytes mx rt p l e R s m args below meth c T h locs cells slots) {x y : Int64} (hd : decode bytes pc = .ok (.ladd, 1)) (hp : pc + 1 = pc')
    (k : own_Go p e below K (T.setTop (mkF m pc' Ls (.long (x + y) :: rest)))) : own_Go p e below K (T.setTop (mkF m pc Ls (.long y :: .long x :: rest))) := by
  subst hp
  exact own_st (fun t k => XS.ladd P.st.here P.ex rfl (P.cd hd) rfl k) k
theorem own_lsub (P : own_S Z own nm bytes mx rt p l e R s m args below meth c T h locs cells slots) {x y : Int64} (hd : decode bytes pc = .ok (.lsub, 1)) (hp : pc + 1 = pc')
    (k : own_Go p e below K (T.setTop (mkF m pc' Ls (.long (x - y) :: rest)))) : own_Go p e below K (T.setTop (mkF m pc Ls (.long y :: .long x :: rest))) := by
  subst hp
  exact own_st (fun t k => XS.lsub P.st.here P.ex rfl (P.cd hd) rfl k) k
theorem own_lmul (P : own_S Z own nm bytes mx rt p l e R s m args below meth c T h locs cells slots) {x y : Int64} (hd : decode bytes pc = .ok (.lmul, 1)) (hp : pc + 1 = pc')
    (k : own_Go p e below K (T.setTop (mkF m pc' Ls (.long (x * y) :: rest)))) : own_Go p e below K (T.setTop (mkF m pc Ls (.long y :: .long x :: rest))) := by
  subst hp
  exact own_st (fun t k => XS.lmul P.st.here P.ex rfl (P.cd hd) rfl k) k
theorem own_land (P : own_S Z own nm bytes mx rt p l e R s m args below meth c T h locs cells slots) {x y : Int64} (hd : decode bytes pc = .ok (.land, 1)) (hp : pc + 1 = pc')
    (k : own_Go p e below K (T.setTop (mkF m pc' Ls (.long (x &&& y) :: rest)))) : own_Go p e below K (T.setTop (mkF m pc Ls (.long y :: .long x :: rest))) := by
  subst hp
  exact own_st (fun t k => XS.land P.st.here P.ex rfl (P.cd hd) rfl k) k
theorem own_lor (P : own_S Z own nm bytes mx rt p l e R s m args below meth c T h locs cells slots) {x y : Int64} (hd : decode bytes pc = .ok (.lor, 1)) (hp : pc + 1 = pc')
    (k : own_Go p e below K (T.setTop (mkF m pc' Ls (.long (x ||| y) :: rest)))) : own_Go p e below K (T.setTop (mkF m pc Ls (.long y :: .long x :: rest))) := by
  subst hp
  exact own_st (fun t k => XS.lor P.st.here P.ex rfl (P.cd hd) rfl k) k
theorem own_lxor (P : own_S Z own nm bytes mx rt p l e R s m args below meth c T h locs cells slots) {x y : Int64} (hd : decode bytes pc = .ok (.lxor, 1)) (hp : pc + 1 = pc')
    (k : own_Go p e below K (T.setTop (mkF m pc' Ls (.long (x ^^^ y) :: rest)))) : own_Go p e below K (T.setTop (mkF m pc Ls (.long y :: .long x :: rest))) := by
  subst hp
  exact own_st (fun t k => XS.lxor P.st.here P.ex rfl (P.cd hd) rfl k) k
theorem own_ldiv (P : own_S Z own nm bytes mx rt p l e R s m args below meth c T h locs cells slots) {x y : Int64} (hd : decode bytes pc = .ok (.ldiv, 1)) (hp : pc + 1 = pc') (hy : y ≠ 0)
    (k : own_Go p e below K (T.setTop (mkF m pc' Ls (.long (x / y) :: rest)))) : own_Go p e below K (T.setTop (mkF m pc Ls (.long y :: .long x :: rest))) := by
  subst hp
  exact own_st (fun t k => XS.ldiv P.st.here P.ex rfl (P.cd hd) rfl hy k) k
theorem own_lrem (P : own_S Z own nm bytes mx rt p l e R s m args below meth c T h locs cells slots) {x y : Int64} (hd : decode bytes pc = .ok (.lrem, 1)) (hp : pc + 1 = pc') (hy : y ≠ 0)
    (k : own_Go p e below K (T.setTop (mkF m pc' Ls (.long (x - (x / y) * y) :: rest)))) : own_Go p e below K (T.setTop (mkF m pc Ls (.long y :: .long x :: rest))) := by
  subst hp
  exact own_st (fun t k => XS.lrem P.st.here P.ex rfl (P.cd hd) rfl hy k) k
theorem own_ishl (P : own_S Z own nm bytes mx rt p l e R s m args below meth c T h locs cells slots) {x y : Int32} (hd : decode bytes pc = .ok (.ishl, 1)) (hp : pc + 1 = pc')
    (k : own_Go p e below K (T.setTop (mkF m pc' Ls (.int (x <<< (y &&& 31)) :: rest)))) : own_Go p e below K (T.setTop (mkF m pc Ls (.int y :: .int x :: rest))) := by
  subst hp
  exact own_st (fun t k => XS.ishl P.st.here P.ex rfl (P.cd hd) rfl k) k
theorem own_ishr (P : own_S Z own nm bytes mx rt p l e R s m args below meth c T h locs cells slots) {x y : Int32} (hd : decode bytes pc = .ok (.ishr, 1)) (hp : pc + 1 = pc')
    (k : own_Go p e below K (T.setTop (mkF m pc' Ls (.int (x >>> (y &&& 31)) :: rest)))) : own_Go p e below K (T.setTop (mkF m pc Ls (.int y :: .int x :: rest))) := by
  subst hp
  exact own_st (fun t k => XS.ishr P.st.here P.ex rfl (P.cd hd) rfl k) k
theorem own_iushr (P : own_S Z own nm bytes mx rt p l e R s m args below meth c T h locs cells slots) {x y : Int32} (hd : decode bytes pc = .ok (.iushr, 1)) (hp : pc + 1 = pc')
    (k : own_Go p e below K (T.setTop (mkF m pc' Ls (.int ((x.toUInt32 >>> (y &&& 31).toUInt32).toInt32) :: rest)))) : own_Go p e below K (T.setTop (mkF m pc Ls (.int y :: .int x :: rest))) := by
  subst hp
  exact own_st (fun t k => XS.iushr P.st.here P.ex rfl (P.cd hd) rfl k) k
theorem own_lshl (P : own_S Z own nm bytes mx rt p l e R s m args below meth c T h locs cells slots) {x : Int64} {y : Int32} (hd : decode bytes pc = .ok (.lshl, 1)) (hp : pc + 1 = pc')
    (k : own_Go p e below K (T.setTop (mkF m pc' Ls (.long (x <<< (y &&& 0x3f).toInt64) :: rest)))) : own_Go p e below K (T.setTop (mkF m pc Ls (.int y :: .long x :: rest))) := by
  subst hp
  exact own_st (fun t k => XS.lshl P.st.here P.ex rfl (P.cd hd) rfl k) k
theorem own_lshr (P : own_S Z own nm bytes mx rt p l e R s m args below meth c T h locs cells slots) {x : Int64} {y : Int32} (hd : decode bytes pc = .ok (.lshr, 1)) (hp : pc + 1 = pc')
    (k : own_Go p e below K (T.setTop (mkF m pc' Ls (.long (x >>> (y &&& 0x3f).toInt64) :: rest)))) : own_Go p e below K (T.setTop (mkF m pc Ls (.int y :: .long x :: rest))) := by
  subst hp
  exact own_st (fun t k => XS.lshr P.st.here P.ex rfl (P.cd hd) rfl k) k
theorem own_lushr (P : own_S Z own nm bytes mx rt p l e R s m args below meth c T h locs cells slots) {x : Int64} {y : Int32} (hd : decode bytes pc = .ok (.lushr, 1)) (hp : pc + 1 = pc')
    (k : own_Go p e below K (T.setTop (mkF m pc' Ls (.long ((x.toUInt64 >>> (y &&& 0x3f).toInt64.toUInt64).toInt64) :: rest)))) : own_Go p e below K (T.setTop (mkF m pc Ls (.int y :: .long x :: rest))) := by
  subst hp
  exact own_st (fun t k => XS.lushr P.st.here P.ex rfl (P.cd hd) rfl k) k
theorem own_i2l (P : own_S Z own nm bytes mx rt p l e R s m args below meth c T h locs cells slots) {x : Int32} (hd : decode bytes pc = .ok (.i2l, 1)) (hp : pc + 1 = pc')
    (k : own_Go p e below K (T.setTop (mkF m pc' Ls (.long (x.toInt64) :: rest)))) : own_Go p e below K (T.setTop (mkF m pc Ls (.int x :: rest))) := by
  subst hp
  exact own_st (fun t k => XS.i2l P.st.here P.ex rfl (P.cd hd) rfl k) k
theorem own_l2i (P : own_S Z own nm bytes mx rt p l e R s m args below meth c T h locs cells slots) {x : Int64} (hd : decode bytes pc = .ok (.l2i, 1)) (hp : pc + 1 = pc')
    (k : own_Go p e below K (T.setTop (mkF m pc' Ls (.int (x.toInt32) :: rest)))) : own_Go p e below K (T.setTop (mkF m pc Ls (.long x :: rest))) := by
  subst hp
  exact own_st (fun t k => XS.l2i P.st.here P.ex rfl (P.cd hd) rfl k) k
theorem own_i2b (P : own_S Z own nm bytes mx rt p l e R s m args below meth c T h locs cells slots) {x : Int32} (hd : decode bytes pc = .ok (.i2b, 1)) (hp : pc + 1 = pc')
    (k : own_Go p e below K (T.setTop (mkF m pc' Ls (.int (x.toInt8.toInt32) :: rest)))) : own_Go p e below K (T.setTop (mkF m pc Ls (.int x :: rest))) := by
  subst hp
  exact own_st (fun t k => XS.i2b P.st.here P.ex rfl (P.cd hd) rfl k) k
theorem own_i2c (P : own_S Z own nm bytes mx rt p l e R s m args below meth c T h locs cells slots) {x : Int32} (hd : decode bytes pc = .ok (.i2c, 1)) (hp : pc + 1 = pc')
    (k : own_Go p e below K (T.setTop (mkF m pc' Ls (.int (x.toUInt32.toUInt16.toUInt32.toInt32) :: rest)))) : own_Go p e below K (T.setTop (mkF m pc Ls (.int x :: rest))) := by
  subst hp
  exact own_st (fun t k => XS.i2c P.st.here P.ex rfl (P.cd hd) rfl k) k
theorem own_i2s (P : own_S Z own nm bytes mx rt p l e R s m args below meth c T h locs cells slots) {x : Int32} (hd : decode bytes pc = .ok (.i2s, 1)) (hp : pc + 1 = pc')
    (k : own_Go p e below K (T.setTop (mkF m pc' Ls (.int (x.toInt16.toInt32) :: rest)))) : own_Go p e below K (T.setTop (mkF m pc Ls (.int x :: rest))) := by
  subst hp
  exact own_st (fun t k => XS.i2s P.st.here P.ex rfl (P.cd hd) rfl k) k
theorem own_lneg (P : own_S Z own nm bytes mx rt p l e R s m args below meth c T h locs cells slots) {x : Int64} (hd : decode bytes pc = .ok (.lneg, 1)) (hp : pc + 1 = pc')
    (k : own_Go p e below K (T.setTop (mkF m pc' Ls (.long (-x) :: rest)))) : own_Go p e below K (T.setTop (mkF m pc Ls (.long x :: rest))) := by
  subst hp
  exact own_st (fun t k => XS.lneg P.st.here P.ex rfl (P.cd hd) rfl k) k
theorem own_ineg (P : own_S Z own nm bytes mx rt p l e R s m args below meth c T h locs cells slots) {x : Int32} (hd : decode bytes pc = .ok (.ineg, 1)) (hp : pc + 1 = pc')
    (k : own_Go p e below K (T.setTop (mkF m pc' Ls (.int (-x) :: rest)))) : own_Go p e below K (T.setTop (mkF m pc Ls (.int x :: rest))) := by
  subst hp
  exact own_st (fun t k => XS.ineg P.st.here P.ex rfl (P.cd hd) rfl k) k
theorem own_iloadN (P : own_S Z own nm bytes mx rt p l e R s m args below meth c T h locs cells slots) {j : Fin 4} {v : Int32} (hd : decode bytes pc = .ok (.iload_n j, 1)) (hp : pc + 1 = pc') (hl : Ls[j.val]? = some (.val (.int v)))
    (k : own_Go p e below K (T.setTop (mkF m pc' Ls (.int v :: rest)))) : own_Go p e below K (T.setTop (mkF m pc Ls rest)) := by
  subst hp
  exact own_st (fun t k => XS.iloadN P.st.here P.ex rfl (P.cd hd) hl k) k
theorem own_iload (P : own_S Z own nm bytes mx rt p l e R s m args below meth c T h locs cells slots) {j : Nat} {v : Int32} (hd : decode bytes pc = .ok (.iload j, 2)) (hp : pc + 2 = pc') (hl : Ls[j]? = some (.val (.int v)))
    (k : own_Go p e below K (T.setTop (mkF m pc' Ls (.int v :: rest)))) : own_Go p e below K (T.setTop (mkF m pc Ls rest)) := by
  subst hp
  exact own_st (fun t k => XS.iload P.st.here P.ex rfl (P.cd hd) hl k) k
theorem own_lloadN (P : own_S Z own nm bytes mx rt p l e R s m args below meth c T h locs cells slots) {j : Fin 4} {v : Int64} (hd : decode bytes pc = .ok (.lload_n j, 1)) (hp : pc + 1 = pc') (hl : Ls[j.val]? = some (.val (.long v)))
    (k : own_Go p e below K (T.setTop (mkF m pc' Ls (.long v :: rest)))) : own_Go p e below K (T.setTop (mkF m pc Ls rest)) := by
  subst hp
  exact own_st (fun t k => XS.lloadN P.st.here P.ex rfl (P.cd hd) hl k) k
theorem own_lload (P : own_S Z own nm bytes mx rt p l e R s m args below meth c T h locs cells slots) {j : Nat} {v : Int64} (hd : decode bytes pc = .ok (.lload j, 2)) (hp : pc + 2 = pc') (hl : Ls[j]? = some (.val (.long v)))
    (k : own_Go p e below K (T.setTop (mkF m pc' Ls (.long v :: rest)))) : own_Go p e below K (T.setTop (mkF m pc Ls rest)) := by
  subst hp
  exact own_st (fun t k => XS.lload P.st.here P.ex rfl (P.cd hd) hl k) k
theorem own_aloadN (P : own_S Z own nm bytes mx rt p l e R s m args below meth c T h locs cells slots) {j : Fin 4} {v : Value} (hd : decode bytes pc = .ok (.aload_n j, 1)) (hp : pc + 1 = pc') (hl : Ls[j.val]? = some (.val v)) (hv : v.isRef = true)
    (k : own_Go p e below K (T.setTop (mkF m pc' Ls (v :: rest)))) : own_Go p e below K (T.setTop (mkF m pc Ls rest)) := by
  subst hp
  exact own_st (fun t k => XS.aloadN P.st.here P.ex rfl (P.cd hd) hl hv k) k
theorem own_aload (P : own_S Z own nm bytes mx rt p l e R s m args below meth c T h locs cells slots) {j : Nat} {v : Value} (hd : decode bytes pc = .ok (.aload j, 2)) (hp : pc + 2 = pc') (hl : Ls[j]? = some (.val v)) (hv : v.isRef = true)
    (k : own_Go p e below K (T.setTop (mkF m pc' Ls (v :: rest)))) : own_Go p e below K (T.setTop (mkF m pc Ls rest)) := by
  subst hp
  exact own_st (fun t k => XS.aload P.st.here P.ex rfl (P.cd hd) hl hv k) k
theorem own_istoreN (P : own_S Z own nm bytes mx rt p l e R s m args below meth c T h locs cells slots) {j : Fin 4} {v : Int32} {Ls' : Array Slot} (hd : decode bytes pc = .ok (.istore_n j, 1)) (hp : pc + 1 = pc') (hl : storeLocals Ls j.val (.int v) = some Ls')
    (k : own_Go p e below K (T.setTop (mkF m pc' Ls' rest))) : own_Go p e below K (T.setTop (mkF m pc Ls (.int v :: rest))) := by
  subst hp
  exact own_st (fun t k => XS.istoreN P.st.here P.ex rfl (P.cd hd) rfl hl k) k
theorem own_istore (P : own_S Z own nm bytes mx rt p l e R s m args below meth c T h locs cells slots) {j : Nat} {v : Int32} {Ls' : Array Slot} (hd : decode bytes pc = .ok (.istore j, 2)) (hp : pc + 2 = pc') (hl : storeLocals Ls j (.int v) = some Ls')
    (k : own_Go p e below K (T.setTop (mkF m pc' Ls' rest))) : own_Go p e below K (T.setTop (mkF m pc Ls (.int v :: rest))) := by
  subst hp
  exact own_st (fun t k => XS.istore P.st.here P.ex rfl (P.cd hd) rfl hl k) k
theorem own_lstoreN (P : own_S Z own nm bytes mx rt p l e R s m args below meth c T h locs cells slots) {j : Fin 4} {v : Int64} {Ls' : Array Slot} (hd : decode bytes pc = .ok (.lstore_n j, 1)) (hp : pc + 1 = pc') (hl : storeLocals Ls j.val (.long v) = some Ls')
    (k : own_Go p e below K (T.setTop (mkF m pc' Ls' rest))) : own_Go p e below K (T.setTop (mkF m pc Ls (.long v :: rest))) := by
  subst hp
  exact own_st (fun t k => XS.lstoreN P.st.here P.ex rfl (P.cd hd) rfl hl k) k
theorem own_lstore (P : own_S Z own nm bytes mx rt p l e R s m args below meth c T h locs cells slots) {j : Nat} {v : Int64} {Ls' : Array Slot} (hd : decode bytes pc = .ok (.lstore j, 2)) (hp : pc + 2 = pc') (hl : storeLocals Ls j (.long v) = some Ls')
    (k : own_Go p e below K (T.setTop (mkF m pc' Ls' rest))) : own_Go p e below K (T.setTop (mkF m pc Ls (.long v :: rest))) := by
  subst hp
  exact own_st (fun t k => XS.lstore P.st.here P.ex rfl (P.cd hd) rfl hl k) k
theorem own_astoreN (P : own_S Z own nm bytes mx rt p l e R s m args below meth c T h locs cells slots) {j : Fin 4} {v : Value} {Ls' : Array Slot} (hd : decode bytes pc = .ok (.astore_n j, 1)) (hp : pc + 1 = pc') (hv : v.isRef = true) (hl : storeLocals Ls j.val v = some Ls')
    (k : own_Go p e below K (T.setTop (mkF m pc' Ls' rest))) : own_Go p e below K (T.setTop (mkF m pc Ls (v :: rest))) := by
  subst hp
  exact own_st (fun t k => XS.astoreN P.st.here P.ex rfl (P.cd hd) rfl hv hl k) k
theorem own_astore (P : own_S Z own nm bytes mx rt p l e R s m args below meth c T h locs cells slots) {j : Nat} {v : Value} {Ls' : Array Slot} (hd : decode bytes pc = .ok (.astore j, 2)) (hp : pc + 2 = pc') (hv : v.isRef = true) (hl : storeLocals Ls j v = some Ls')
    (k : own_Go p e below K (T.setTop (mkF m pc' Ls' rest))) : own_Go p e below K (T.setTop (mkF m pc Ls (v :: rest))) := by
  subst hp
  exact own_st (fun t k => XS.astore P.st.here P.ex rfl (P.cd hd) rfl hv hl k) k
theorem own_iconst (P : own_S Z own nm bytes mx rt p l e R s m args below meth c T h locs cells slots) {i : Int} {v : Int32} (hd : decode bytes pc = .ok (.iconst i, 1)) (hp : pc + 1 = pc') (hv : Int32.ofInt i = v)
    (k : own_Go p e below K (T.setTop (mkF m pc' Ls (.int v :: rest)))) : own_Go p e below K (T.setTop (mkF m pc Ls rest)) := by
  subst hp
  exact own_st (fun t k => XS.iconst P.st.here P.ex rfl (P.cd hd) (by rw [hv]; exact k)) k
theorem own_bipush (P : own_S Z own nm bytes mx rt p l e R s m args below meth c T h locs cells slots) {i : Int} {v : Int32} (hd : decode bytes pc = .ok (.bipush i, 2)) (hp : pc + 2 = pc') (hv : (Int8.ofInt i).toInt32 = v)
    (k : own_Go p e below K (T.setTop (mkF m pc' Ls (.int v :: rest)))) : own_Go p e below K (T.setTop (mkF m pc Ls rest)) := by
  subst hp
  exact own_st (fun t k => XS.bipush P.st.here P.ex rfl (P.cd hd) (by rw [hv]; exact k)) k
theorem own_sipush (P : own_S Z own nm bytes mx rt p l e R s m args below meth c T h locs cells slots) {i : Int} {v : Int32} (hd : decode bytes pc = .ok (.sipush i, 3)) (hp : pc + 3 = pc') (hv : (Int16.ofInt i).toInt32 = v)
    (k : own_Go p e below K (T.setTop (mkF m pc' Ls (.int v :: rest)))) : own_Go p e below K (T.setTop (mkF m pc Ls rest)) := by
  subst hp
  exact own_st (fun t k => XS.sipush P.st.here P.ex rfl (P.cd hd) (by rw [hv]; exact k)) k
theorem own_lconst (P : own_S Z own nm bytes mx rt p l e R s m args below meth c T h locs cells slots) {j : Fin 2} {v : Int64} (hd : decode bytes pc = .ok (.lconst j, 1)) (hp : pc + 1 = pc') (hv : Int64.ofNat j = v)
    (k : own_Go p e below K (T.setTop (mkF m pc' Ls (.long v :: rest)))) : own_Go p e below K (T.setTop (mkF m pc Ls rest)) := by
  subst hp
  exact own_st (fun t k => XS.lconst P.st.here P.ex rfl (P.cd hd) (by rw [hv]; exact k)) k
theorem own_aconstNull (P : own_S Z own nm bytes mx rt p l e R s m args below meth c T h locs cells slots)  (hd : decode bytes pc = .ok (.aconst_null, 1)) (hp : pc + 1 = pc')
    (k : own_Go p e below K (T.setTop (mkF m pc' Ls (.null :: rest)))) : own_Go p e below K (T.setTop (mkF m pc Ls rest)) := by
  subst hp
  exact own_st (fun t k => XS.aconstNull P.st.here P.ex rfl (P.cd hd) k) k
theorem own_iinc (P : own_S Z own nm bytes mx rt p l e R s m args below meth c T h locs cells slots) {j : Nat} {i : Int} {x v : Int32} {Ls' : Array Slot} (hd : decode bytes pc = .ok (.iinc j i, 3)) (hp : pc + 3 = pc') (hl : Ls[j]? = some (.val (.int x))) (hv : Int32.ofInt i = v) (hl' : storeLocals Ls j (.int (x + v)) = some Ls')
    (k : own_Go p e below K (T.setTop (mkF m pc' Ls' rest))) : own_Go p e below K (T.setTop (mkF m pc Ls rest)) := by
  subst hp
  exact own_st (fun t k => XS.iinc P.st.here P.ex rfl (P.cd hd) hl (by rw [hv]; exact hl') k) k
theorem own_dup (P : own_S Z own nm bytes mx rt p l e R s m args below meth c T h locs cells slots) {v : Value} (hd : decode bytes pc = .ok (.dup, 1)) (hp : pc + 1 = pc') (hc : v.category = 1)
    (k : own_Go p e below K (T.setTop (mkF m pc' Ls (v :: v :: rest)))) : own_Go p e below K (T.setTop (mkF m pc Ls (v :: rest))) := by
  subst hp
  exact own_st (fun t k => XS.dup P.st.here P.ex rfl (P.cd hd) rfl hc k) k
theorem own_dupX1 (P : own_S Z own nm bytes mx rt p l e R s m args below meth c T h locs cells slots) {v u : Value} (hd : decode bytes pc = .ok (.dup_x1, 1)) (hp : pc + 1 = pc') (hc : v.category = 1) (hc' : u.category = 1)
    (k : own_Go p e below K (T.setTop (mkF m pc' Ls (v :: u :: v :: rest)))) : own_Go p e below K (T.setTop (mkF m pc Ls (v :: u :: rest))) := by
  subst hp
  exact own_st (fun t k => XS.dupX1 P.st.here P.ex rfl (P.cd hd) rfl hc hc' k) k
theorem own_pop (P : own_S Z own nm bytes mx rt p l e R s m args below meth c T h locs cells slots) {v : Value} (hd : decode bytes pc = .ok (.pop, 1)) (hp : pc + 1 = pc') (hc : v.category = 1)
    (k : own_Go p e below K (T.setTop (mkF m pc' Ls rest))) : own_Go p e below K (T.setTop (mkF m pc Ls (v :: rest))) := by
  subst hp
  exact own_st (fun t k => XS.pop P.st.here P.ex rfl (P.cd hd) rfl hc k) k
theorem own_goto (P : own_S Z own nm bytes mx rt p l e R s m args below meth c T h locs cells slots) {o : Int} (hd : decode bytes pc = .ok (.goto o, 3)) (ho : 0 ≤ (pc : Int) + o) (hp : ((pc : Int) + o).toNat = pc')
    (k : own_Go p e below K (T.setTop (mkF m pc' Ls rest))) : own_Go p e below K (T.setTop (mkF m pc Ls rest)) := own_st (fun t k => XS.goto P.st.here P.ex rfl rfl (P.cd hd) ho hp k) k
/-- what a branch asks of two ints, of two longs -/
def own_ci (cd : ClassFile.Cond) (x y : Int32) : Prop := match cd with | .eq => x = y | .ne => ¬ x = y | .lt => x < y | .ge => ¬ x < y | .gt => y < x | .le => ¬ y < x
def own_cl (cd : ClassFile.Cond) (x y : Int64) : Prop := match cd with | .eq => x = y | .ne => ¬ x = y | .lt => x < y | .ge => ¬ x < y | .gt => y < x | .le => ¬ y < x
theorem own_ciY {cd : ClassFile.Cond} {x y : Int32} (q : own_ci cd x y) : if_icmp.holds cd x y = true := by
  cases cd
  · exact (teq q).1
  · exact (feq q).2
  · exact (tlt q).1
  · exact (flt q).2.1
  · exact (tlt q).2.2.1
  · exact (flt q).2.2.2
theorem own_ciN {cd : ClassFile.Cond} {x y : Int32} (q : ¬ own_ci cd x y) : if_icmp.holds cd x y = false := by
  cases cd
  · exact (feq q).1
  · exact (teq (Classical.not_not.mp q)).2
  · exact (flt q).1
  · exact (tlt (Classical.not_not.mp q)).2.1
  · exact (flt q).2.2.1
  · exact (tlt (Classical.not_not.mp q)).2.2.2
theorem own_clY {cd : ClassFile.Cond} {x y : Int64} (q : own_cl cd x y) : own_ci cd (lcmpW x y) 0 := by
  rw [lcW]
  cases cd
  · exact (lc_eq x y).mpr q
  · exact fun r => q ((lc_eq x y).mp r)
  · exact (lc_lt x y).mpr q
  · exact fun r => q ((lc_lt x y).mp r)
  · exact (lc_gt x y).mpr q
  · exact fun r => q ((lc_gt x y).mp r)
theorem own_clN {cd : ClassFile.Cond} {x y : Int64} (q : ¬ own_cl cd x y) : ¬ own_ci cd (lcmpW x y) 0 := by
  rw [lcW]
  cases cd
  · exact fun r => q ((lc_eq x y).mp r)
  · exact fun r => q fun z => r ((lc_eq x y).mpr z)
  · exact fun r => q ((lc_lt x y).mp r)
  · exact fun r => q fun z => r ((lc_lt x y).mpr z)
  · exact fun r => q ((lc_gt x y).mp r)
  · exact fun r => q fun z => r ((lc_gt x y).mpr z)
theorem own_icmpY (P : own_S Z own nm bytes mx rt p l e R s m args below meth c T h locs cells slots) {cd : ClassFile.Cond} {o : Int} {x y : Int32} (hd : decode bytes pc = .ok (.if_icmp cd o, 3)) (q : own_ci cd x y) (ho : 0 ≤ (pc : Int) + o) (hp : ((pc : Int) + o).toNat = pc')
    (k : own_Go p e below K (T.setTop (mkF m pc' Ls rest))) : own_Go p e below K (T.setTop (mkF m pc Ls (.int y :: .int x :: rest))) := own_st (fun t k => XS.icmpYes P.st.here P.ex rfl rfl (P.cd hd) rfl (own_ciY q) ho hp k) k
theorem own_icmpN (P : own_S Z own nm bytes mx rt p l e R s m args below meth c T h locs cells slots) {cd : ClassFile.Cond} {o : Int} {x y : Int32} (hd : decode bytes pc = .ok (.if_icmp cd o, 3)) (q : ¬ own_ci cd x y) (hp : pc + 3 = pc')
    (k : own_Go p e below K (T.setTop (mkF m pc' Ls rest))) : own_Go p e below K (T.setTop (mkF m pc Ls (.int y :: .int x :: rest))) := by
  subst hp
  exact own_st (fun t k => XS.icmpNo P.st.here P.ex rfl (P.cd hd) rfl (own_ciN q) k) k
theorem own_if0Y (P : own_S Z own nm bytes mx rt p l e R s m args below meth c T h locs cells slots) {cd : ClassFile.Cond} {o : Int} {x : Int32} (hd : decode bytes pc = .ok (.ifCond cd o, 3)) (q : own_ci cd x 0) (ho : 0 ≤ (pc : Int) + o) (hp : ((pc : Int) + o).toNat = pc')
    (k : own_Go p e below K (T.setTop (mkF m pc' Ls rest))) : own_Go p e below K (T.setTop (mkF m pc Ls (.int x :: rest))) := own_st (fun t k => XS.ifYes P.st.here P.ex rfl rfl (P.cd hd) rfl ((if0 _ _).trans (own_ciY q)) ho hp k) k
theorem own_if0N (P : own_S Z own nm bytes mx rt p l e R s m args below meth c T h locs cells slots) {cd : ClassFile.Cond} {o : Int} {x : Int32} (hd : decode bytes pc = .ok (.ifCond cd o, 3)) (q : ¬ own_ci cd x 0) (hp : pc + 3 = pc')
    (k : own_Go p e below K (T.setTop (mkF m pc' Ls rest))) : own_Go p e below K (T.setTop (mkF m pc Ls (.int x :: rest))) := by
  subst hp
  exact own_st (fun t k => XS.ifNo P.st.here P.ex rfl (P.cd hd) rfl ((if0 _ _).trans (own_ciN q)) k) k
theorem own_lcmp (P : own_S Z own nm bytes mx rt p l e R s m args below meth c T h locs cells slots) {x y : Int64} (hd : decode bytes pc = .ok (.lcmp, 1)) (hp : pc + 1 = pc')
    (k : own_Go p e below K (T.setTop (mkF m pc' Ls (.int (lcmpW x y) :: rest)))) : own_Go p e below K (T.setTop (mkF m pc Ls (.long y :: .long x :: rest))) := by
  subst hp
  exact own_st (fun t k => XS.lcmp P.st.here P.ex rfl (P.cd hd) rfl k) k
theorem own_lcY (P : own_S Z own nm bytes mx rt p l e R s m args below meth c T h locs cells slots) {cd : ClassFile.Cond} {o : Int} {x y : Int64} (hd : decode bytes pc = .ok (.lcmp, 1)) (hd2 : decode bytes (pc + 1) = .ok (.ifCond cd o, 3)) (q : own_cl cd x y) (ho : 0 ≤ ((pc + 1 : Nat) : Int) + o) (hp : (((pc + 1 : Nat) : Int) + o).toNat = pc')
    (k : own_Go p e below K (T.setTop (mkF m pc' Ls rest))) : own_Go p e below K (T.setTop (mkF m pc Ls (.long y :: .long x :: rest))) :=
  own_lcmp P hd rfl (own_if0Y P hd2 (own_clY q) ho hp k)
theorem own_lcN (P : own_S Z own nm bytes mx rt p l e R s m args below meth c T h locs cells slots) {cd : ClassFile.Cond} {o : Int} {x y : Int64} (hd : decode bytes pc = .ok (.lcmp, 1)) (hd2 : decode bytes (pc + 1) = .ok (.ifCond cd o, 3)) (q : ¬ own_cl cd x y) (hp : pc + 1 + 3 = pc')
    (k : own_Go p e below K (T.setTop (mkF m pc' Ls rest))) : own_Go p e below K (T.setTop (mkF m pc Ls (.long y :: .long x :: rest))) :=
  own_lcmp P hd rfl (own_if0N P hd2 (own_clN q) hp k)

theorem own_ldc (P : own_S Z own nm bytes mx rt p l e R s m args below meth c T h locs cells slots) {idx : Nat} {v : Int32} (wc : (Cond.constant own idx v).before a0 Z = true) (hd : decode bytes pc = .ok (.ldc idx, 2)) (hp : pc + 2 = pc')
    (k : own_Go p e below K (T.setTop (mkF m pc' Ls (.int v :: rest)))) : own_Go p e below K (T.setTop (mkF m pc Ls rest)) := by
  subst hp
  exact own_st (fun t k => P.st.ldcInt P.ex P.ow (mvT P.wz wc) (g := mkF m pc Ls rest) rfl (P.cd hd) t k) k
theorem own_ldcw (P : own_S Z own nm bytes mx rt p l e R s m args below meth c T h locs cells slots) {idx : Nat} {v : Int32} (wc : (Cond.constant own idx v).before a0 Z = true) (hd : decode bytes pc = .ok (.ldc_w idx, 3)) (hp : pc + 3 = pc')
    (k : own_Go p e below K (T.setTop (mkF m pc' Ls (.int v :: rest)))) : own_Go p e below K (T.setTop (mkF m pc Ls rest)) := by
  subst hp
  exact own_st (fun t k => P.st.ldcwInt P.ex P.ow (mvT P.wz wc) (g := mkF m pc Ls rest) rfl (P.cd hd) t k) k
theorem own_ldc2 (P : own_S Z own nm bytes mx rt p l e R s m args below meth c T h locs cells slots) {idx : Nat} {v : Int64} (wc : (Cond.constantLong own idx v).before a0 Z = true) (hd : decode bytes pc = .ok (.ldc2_w idx, 3)) (hp : pc + 3 = pc')
    (k : own_Go p e below K (T.setTop (mkF m pc' Ls (.long v :: rest)))) : own_Go p e below K (T.setTop (mkF m pc Ls rest)) := by
  subst hp
  exact own_st (fun t k => P.st.ldc2Long P.ex P.ow (mvT P.wz wc) (g := mkF m pc Ls rest) rfl (P.cd hd) t k) k

theorem own_retL {Q : Option Value → Heap → List Loc → Prop} {kc ks : Nat} (P : own_S Z own nm bytes mx (some .long) p l e R s m args below meth c T h locs cells slots) {v : Int64} (hd : decode bytes pc = .ok (.lreturn, 1)) (hc : cells ≤ kc) (hs : slots ≤ ks) (hq : Q (some (.long v)) h locs) :
    own_Go p e below (own_K s Q kc ks) (T.setTop (mkF m pc Ls [(.long v)])) := by
  obtain ⟨X, hx, hby, hml, hown, hZ, hr0, hlk, hh, -⟩ := P
  obtain ⟨fs, hr, hrun, hended, hW, hsame⟩ := X.leave (v := some (.long v)) (fun h => by rw [hr0] at h; cases h) hlk
  refine ⟨_, _, X.lreturnOut hx hr0 (hb hby hd) hr, hrun, hended, _, _, rfl, ?_, ⟨_, rfl⟩, hW, hsame.mono hc hs⟩
  rw [← hh] at hq
  exact hq
theorem own_retI {Q : Option Value → Heap → List Loc → Prop} {kc ks : Nat} (P : own_S Z own nm bytes mx (some .int) p l e R s m args below meth c T h locs cells slots) {v : Int32} (hd : decode bytes pc = .ok (.ireturn, 1)) (hc : cells ≤ kc) (hs : slots ≤ ks) (hq : Q (some (.int v)) h locs) :
    own_Go p e below (own_K s Q kc ks) (T.setTop (mkF m pc Ls [(.int v)])) := by
  obtain ⟨X, hx, hby, hml, hown, hZ, hr0, hlk, hh, -⟩ := P
  obtain ⟨fs, hr, hrun, hended, hW, hsame⟩ := X.leave (v := some (.int v)) (fun h => by rw [hr0] at h; cases h) hlk
  refine ⟨_, _, retI X hx hr0 (hb hby hd) hr, hrun, hended, _, _, rfl, ?_, ⟨_, rfl⟩, hW, hsame.mono hc hs⟩
  rw [← hh] at hq
  exact hq
theorem own_retZ {Q : Option Value → Heap → List Loc → Prop} {kc ks : Nat} (P : own_S Z own nm bytes mx (some .boolean) p l e R s m args below meth c T h locs cells slots) {v z : Int32} (hd : decode bytes pc = .ok (.ireturn, 1)) (hz : nar .boolean v = z) (hc : cells ≤ kc) (hs : slots ≤ ks) (hq : Q (some (.int z)) h locs) :
    own_Go p e below (own_K s Q kc ks) (T.setTop (mkF m pc Ls [(.int v)])) := by
  obtain ⟨X, hx, hby, hml, hown, hZ, hr0, hlk, hh, -⟩ := P
  obtain ⟨fs, hr, hrun, hended, hW, hsame⟩ := X.leave (v := some (.int z)) (fun h => by rw [hr0] at h; cases h) hlk
  refine ⟨_, _, retN X hx (t := .boolean) hr0 (by simp) (hb hby hd) (by rw [hz]; exact hr), hrun, hended, _, _, rfl, ?_, ⟨_, rfl⟩, hW, hsame.mono hc hs⟩
  rw [← hh] at hq
  exact hq
theorem own_retV {Q : Option Value → Heap → List Loc → Prop} {kc ks : Nat} (P : own_S Z own nm bytes mx none p l e R s m args below meth c T h locs cells slots) (hd : decode bytes pc = .ok (.return_, 1)) (hc : cells ≤ kc) (hs : slots ≤ ks) (hq : Q none h locs) :
    own_Go p e below (own_K s Q kc ks) (T.setTop (mkF m pc Ls [])) := by
  obtain ⟨X, hx, hby, hml, hown, hZ, hr0, hlk, hh, -⟩ := P
  obtain ⟨fs, hr, hrun, hended, hW, hsame⟩ := X.leave (v := none) (fun _ => rfl) hlk
  refine ⟨_, _, X.returnOut hx hr0 (hb hby hd) hr, hrun, hended, _, _, rfl, ?_, ⟨_, rfl⟩, hW, hsame.mono hc hs⟩
  rw [← hh] at hq
  exact hq
/-- a method's contract: from these arguments and this heap it returns as Q says -/
def own_Con (l : Launch) (Z : State) (y : MethodName) (bytes : ByteArray) (mx : Nat) (rt : Option FieldType) (ws : List Jvm.Cond) (rm : Room) (as' : Array Value) (h : Heap) (Q : Option Value → Heap → List Loc → Prop) : Prop :=
  MetFree l y (head1 (Jvm.Cond.code y bytes mx rt :: ws) rm) (fun a U => a = as' ∧ Z.Warmed39 U.vm ∧ U.heap = h) (fun _ _ _ _ _ => True) (fun _ U o U' => ∃ v L, o = .returned v ∧ Q v U'.heap L ∧ FrameEnd U o U' L rm.cells rm.slots)
/-- it returned v, wrote nothing and made nothing -/
def own_P (v : Option Value) (h : Heap) (v' : Option Value) (h' : Heap) (L : List Loc) : Prop := v' = v ∧ L = [] ∧ h' = h
theorem own_enter {y : MethodName} {ws : List Jvm.Cond} {rm : Room} {as' : Array Value} {Q : Option Value → Heap → List Loc → Prop} (hpl : plainFor y = true) (Ls : Array Slot) (hef : ∀ m, entryFrame m as' mx = mkF m 0 Ls [])
    (body : ∀ (p : Program) (e : Env) (s : State) (m : MethodId) (below : List Frame) (meth : Method) (c : Code) (T : State), own_S Z y.cls y.name bytes mx rt p l e rm s m as' below meth c T h [] 0 0 → own_Go p e below (own_K s Q rm.cells rm.slots) (T.setTop (mkF m 0 Ls []))) :
    own_Con l Z y bytes mx rt ws rm as' h Q := by
  refine MetFree.of_bodySF hpl hisR ?_
  intro p e s m args below meth c s₁ Bd hml0 hP hK
  obtain ⟨rfl, hZ, hh⟩ := hP
  have e0 : s₁.heap = h := by rw [← hh, Bd.state]; rfl
  obtain ⟨t, o, h1, h2, h3, v, L, ho, hq, hf⟩ := body p e s m below meth c s₁ ⟨Stand.of_body Bd, Bd.exec, Bd.bytes, hml0, findClass_of_methodNamed Bd.named, hZ, Bd.returns, BodyLoose.notSynchronized Bd, e0, (name_of_methodNamed Bd.named Bd.method).1⟩
  exact ⟨t, o, castTop (hef m) h1, h2, h3, v, L, ho, hq, hf⟩
theorem own_callQ (P : own_S Z own nm bytes mx rt p l e R s m args below meth c T h locs cells slots) {idx : Nat} {y : MethodName} {by' : ByteArray} {mx' : Nat} {rt' : Option FieldType} {rm : Room} {Q : Option Value → Heap → List Loc → Prop} {argsL st : List Value} {ps : List FieldType} {rr : Option FieldType}
    (wl : (Cond.methodLink own idx y).before a0 Z = true) (wt : (Cond.static y).before a0 Z = true) (wi : (Cond.initialized y.cls).before a0 Z = true) (wc : (Cond.code y by' mx' rt').before a0 Z = true) (hy : y.cls ≠ "java/lang/invoke/MethodHandle" ∧ y.cls ≠ "java/lang/invoke/VarHandle")
    (hM : own_Con l Z y by' mx' rt' [] rm argsL.toArray h Q) (hd : decode bytes pc = .ok (.invokestatic idx, 3)) (hp : pc + 3 = pc') (hdes : parseMethodDescriptor y.desc = some ⟨ps, rr⟩) (hlen : argsL.length = ps.length) (hsz : Ls.size = mx) (hst : st = argsL.reverse ++ rest)
    (hf : rm.frames + 1 ≤ R.frames) (W : Nat) (hW : (rest.map fun v => v.category).sum = W) (hl : W + (mx' + 11) + rm.locals ≤ R.locals) (hc : cells + rm.cells ≤ R.cells) (hs : slots + rm.slots ≤ R.slots)
    (k : ∀ T' h' v L, Q v h' L → own_S Z own nm bytes mx rt p l e R s m args below meth c T' h' (locs ++ L) (cells + rm.cells) (slots + rm.slots) → own_Go p e below K (T'.setTop (mkF m pc' Ls (v.toList ++ rest)))) :
    own_Go p e below K (T.setTop (mkF m pc Ls st)) := by
  subst hp
  obtain ⟨v, _, ⟨T3, L3, k3, n3⟩, -, X3, ⟨Lc3, hQ3, l3, y3, z3⟩, st3⟩ := Jvm.LawKit.callS P.st P.ex (y := y) P.ow (mvT P.wz wl) (mvT P.wz wt) (mvT P.wz wi) (mvT P.wz wc) hy (backOf (W := W) hM P.wz wc wi hf hl) (g := (mkF m pc Ls st)) rfl (by rw [P.ml]; exact hsz) (argsL := argsL) (rest := rest) (lenOf hdes hlen) hst (by show 2 * 0 + _ ≤ _; rw [hW]; exact Nat.le_of_eq (by simp)) (P.cd hd) (fun _ _ => ⟨rfl, P.hp, hc, hs⟩)
  dsimp only [Pt.U, Pt.locs, Pt.cells, Pt.slots] at X3 l3 y3 z3 st3 hQ3
  subst l3 y3 z3
  exact own_st st3 (k T3 T3.heap v Lc3 hQ3 (P.move X3 rfl))
theorem own_callP (P : own_S Z own nm bytes mx rt p l e R s m args below meth c T h locs cells slots) {idx : Nat} {y : MethodName} {by' : ByteArray} {mx' : Nat} {rt' : Option FieldType} {rm : Room} {v : Option Value} {argsL st : List Value} {ps : List FieldType} {rr : Option FieldType}
    (wl : (Cond.methodLink own idx y).before a0 Z = true) (wt : (Cond.static y).before a0 Z = true) (wi : (Cond.initialized y.cls).before a0 Z = true) (wc : (Cond.code y by' mx' rt').before a0 Z = true) (hy : y.cls ≠ "java/lang/invoke/MethodHandle" ∧ y.cls ≠ "java/lang/invoke/VarHandle")
    (hM : own_Con l Z y by' mx' rt' [] rm argsL.toArray h (own_P v h)) (hd : decode bytes pc = .ok (.invokestatic idx, 3)) (hp : pc + 3 = pc') (hdes : parseMethodDescriptor y.desc = some ⟨ps, rr⟩) (hlen : argsL.length = ps.length) (hsz : Ls.size = mx) (hst : st = argsL.reverse ++ rest)
    (hf : rm.frames + 1 ≤ R.frames) (W : Nat) (hW : (rest.map fun v => v.category).sum = W) (hl : W + (mx' + 11) + rm.locals ≤ R.locals) (hc : rm.cells = 0) (hs : rm.slots = 0) (hcc : cells ≤ R.cells) (hss : slots ≤ R.slots)
    (k : ∀ T', own_S Z own nm bytes mx rt p l e R s m args below meth c T' h locs cells slots → own_Go p e below K (T'.setTop (mkF m pc' Ls (v.toList ++ rest)))) :
    own_Go p e below K (T.setTop (mkF m pc Ls st)) := by
  refine own_callQ P wl wt wi wc hy hM hd hp hdes hlen hsz hst hf W hW hl (by rw [hc]; exact hcc) (by rw [hs]; exact hss) fun T' h' v' L hQ P' => ?_
  obtain ⟨rfl, rfl, rfl⟩ := hQ
  rw [hc, hs, List.append_nil] at P'
  exact k T' P'
def own_One (s : Slot) : Prop := s = .unset ∨ ∃ w : Value, s = .val w ∧ w.category = 1
theorem own_conMono {y : MethodName} {ws : List Jvm.Cond} {rm : Room} {as' : Array Value} {Q Q' : Option Value → Heap → List Loc → Prop} (q : own_Con l Z y bytes mx rt ws rm as' h Q) (f : ∀ v h' L, Q v h' L → Q' v h' L) : own_Con l Z y bytes mx rt ws rm as' h Q' := by
  intro p e ha hc hk s m args below hf happ hP hK
  obtain ⟨n, o, h1, h2, h3, v, L, h4, h5, h6⟩ := q p e ha hc hk s m args below hf happ hP hK
  exact ⟨n, o, h1, h2, h3, v, L, h4, f _ _ _ h5, h6⟩
theorem own_S.mono (P : own_S Z own nm bytes mx rt p l e R s m args below meth c T h locs cells slots) {cells' slots' : Nat} (hc : cells ≤ cells') (hs : slots ≤ slots') : own_S Z own nm bytes mx rt p l e R s m args below meth c T h locs cells' slots' :=
  P.move { P.st with same := P.st.same.mono hc hs } P.hp
end OwnBase

theorem d1_0 : decode method_2_code 0 = .ok (.lload_n 0, 1) := by decide +kernel
theorem d1_1 : decode method_2_code 1 = .ok (.lconst 1, 1) := by decide +kernel
theorem d1_2 : decode method_2_code 2 = .ok (.lsub, 1) := by decide +kernel
theorem d1_3 : decode method_2_code 3 = .ok (.lstore_n 2, 1) := by decide +kernel
theorem d1_4 : decode method_2_code 4 = .ok (.ldc2_w 7, 3) := by decide +kernel
theorem d1_7 : decode method_2_code 7 = .ok (.lload_n 2, 1) := by decide +kernel
theorem d1_8 : decode method_2_code 8 = .ok (.lmul, 1) := by decide +kernel
theorem d1_9 : decode method_2_code 9 = .ok (.lload_n 2, 1) := by decide +kernel
theorem d1_10 : decode method_2_code 10 = .ok (.ldc2_w 9, 3) := by decide +kernel
theorem d1_13 : decode method_2_code 13 = .ok (.ldiv, 1) := by decide +kernel
theorem d1_14 : decode method_2_code 14 = .ok (.ladd, 1) := by decide +kernel
theorem d1_15 : decode method_2_code 15 = .ok (.lload_n 2, 1) := by decide +kernel
theorem d1_16 : decode method_2_code 16 = .ok (.ldc2_w 11, 3) := by decide +kernel
theorem d1_19 : decode method_2_code 19 = .ok (.ldiv, 1) := by decide +kernel
theorem d1_20 : decode method_2_code 20 = .ok (.lsub, 1) := by decide +kernel
theorem d1_21 : decode method_2_code 21 = .ok (.lload_n 2, 1) := by decide +kernel
theorem d1_22 : decode method_2_code 22 = .ok (.ldc2_w 13, 3) := by decide +kernel
theorem d1_25 : decode method_2_code 25 = .ok (.ldiv, 1) := by decide +kernel
theorem d1_26 : decode method_2_code 26 = .ok (.ladd, 1) := by decide +kernel
theorem d1_27 : decode method_2_code 27 = .ok (.lreturn, 1) := by decide +kernel
def F1_0 (j0 : Int64) : Int64 := (((((365 : Int64) * (j0 - (1 : Int64))) + ((j0 - (1 : Int64)) / (4 : Int64))) - ((j0 - (1 : Int64)) / (100 : Int64))) + ((j0 - (1 : Int64)) / (400 : Int64)))
set_option maxRecDepth 65536 in
set_option maxHeartbeats 40000000 in
theorem b1_0 {p : Program} {l : Launch} {e : Env} {s : State} {m : MethodId} {args : Array Value} {below : List Frame} {meth : Method} {c : Code} {T : State} {h : Heap} {Z : State} {a0 : Array Value} {Q : Option Value → Heap → List Loc → Prop} (hw : ∀ d ∈ tables_1, d.before a0 Z = true) (j0 : Int64) (P : own_S Z "com/example/tidemark/tidemark/EventTimeIsValidPinLaw" "daysBeforeYear" method_2_code 4 (some .long) p l e ({ frames := 0, cells := 0, slots := 0, locals := 0 } : Room) s m args below meth c T h [] 0 0) (hQ : Q (some (.long (F1_0 j0))) h []) :
    own_Go p e below (own_K s Q 0 0) (T.setTop (mkF m 0 #[.val (.long j0), .second, .unset, .unset] [])) := by
  unfold F1_0 at hQ
  refine own_lloadN P d1_0 rfl rfl ?_
  refine own_lconst P d1_1 rfl (v := (1 : Int64)) rfl ?_
  refine own_lsub P d1_2 rfl ?_
  refine own_lstoreN P d1_3 rfl (Ls' := #[.val (.long j0), .second, .val (.long (j0 - (1 : Int64))), .second]) rfl ?_
  refine own_ldc2 P (v := (365 : Int64)) (hw _ (List.mem_of_getElem? (i := 6) rfl)) d1_4 rfl ?_
  refine own_lloadN P d1_7 rfl rfl ?_
  refine own_lmul P d1_8 rfl ?_
  refine own_lloadN P d1_9 rfl rfl ?_
  refine own_ldc2 P (v := (4 : Int64)) (hw _ (List.mem_of_getElem? (i := 7) rfl)) d1_10 rfl ?_
  refine own_ldiv P d1_13 rfl (by decide) ?_
  refine own_ladd P d1_14 rfl ?_
  refine own_lloadN P d1_15 rfl rfl ?_
  refine own_ldc2 P (v := (100 : Int64)) (hw _ (List.mem_of_getElem? (i := 8) rfl)) d1_16 rfl ?_
  refine own_ldiv P d1_19 rfl (by decide) ?_
  refine own_lsub P d1_20 rfl ?_
  refine own_lloadN P d1_21 rfl rfl ?_
  refine own_ldc2 P (v := (400 : Int64)) (hw _ (List.mem_of_getElem? (i := 9) rfl)) d1_22 rfl ?_
  refine own_ldiv P d1_25 rfl (by decide) ?_
  refine own_ladd P d1_26 rfl ?_
  exact own_retL P d1_27 (by decide) (by decide) hQ
theorem own_pn0 : plainName "com/example/tidemark/tidemark/EventTimeIsValidPinLaw" = true := by first | (simp [plainName, overriddenIn]; done) | decide +kernel
theorem rm1 (l : Launch) (Z : State) (a0 : Array Value) (hw : ∀ d ∈ tables_1, d.before a0 Z = true) (j0 : Int64) (h : Heap) :
    own_Con l Z (⟨"com/example/tidemark/tidemark/EventTimeIsValidPinLaw", "daysBeforeYear", "(J)J"⟩ : MethodName) method_2_code 4 (some .long) [] ({ frames := 0, cells := 0, slots := 0, locals := 0 } : Room) #[(.long j0)] h (own_P (some (.long (F1_0 j0))) h) :=
  own_enter (plainFor_of_name own_pn0) #[.val (.long j0), .second, .unset, .unset] (fun m => by first | (simp [entryFrame, mkF, argsToLocals, Value.category]; done) | rfl) (fun p e s m below meth c T P => b1_0 hw j0 P ⟨rfl, rfl, rfl⟩)
theorem d2_0 : decode prog_9_method_2_code 0 = .ok (.lload_n 0, 1) := by decide +kernel
theorem d2_1 : decode prog_9_method_2_code 1 = .ok (.ldc2_w 9, 3) := by decide +kernel
theorem d2_4 : decode prog_9_method_2_code 4 = .ok (.lcmp, 1) := by decide +kernel
theorem d2_5 : decode prog_9_method_2_code 5 = .ok (.ifCond .lt 15, 3) := by decide +kernel
theorem d2_20 : decode prog_9_method_2_code 20 = .ok (.iconst 0, 1) := by decide +kernel
theorem d2_21 : decode prog_9_method_2_code 21 = .ok (.ireturn, 1) := by decide +kernel
theorem d2_8 : decode prog_9_method_2_code 8 = .ok (.lload_n 0, 1) := by decide +kernel
theorem d2_9 : decode prog_9_method_2_code 9 = .ok (.ldc2_w 11, 3) := by decide +kernel
theorem d2_12 : decode prog_9_method_2_code 12 = .ok (.lcmp, 1) := by decide +kernel
theorem d2_13 : decode prog_9_method_2_code 13 = .ok (.ifCond .gt 7, 3) := by decide +kernel
theorem d2_16 : decode prog_9_method_2_code 16 = .ok (.iconst 1, 1) := by decide +kernel
theorem d2_17 : decode prog_9_method_2_code 17 = .ok (.goto 4, 3) := by decide +kernel
def F2_0 (j0 : Int64) : Int32 := (if j0 < (-62135596800000 : Int64) then (0 : Int32) else (if (253402300799999 : Int64) < j0 then (0 : Int32) else (1 : Int32)))
set_option maxRecDepth 65536 in
set_option maxHeartbeats 40000000 in
theorem b2_0 {p : Program} {l : Launch} {e : Env} {s : State} {m : MethodId} {args : Array Value} {below : List Frame} {meth : Method} {c : Code} {T : State} {h : Heap} {Z : State} {a0 : Array Value} {Q : Option Value → Heap → List Loc → Prop} (hw : ∀ d ∈ tables_1, d.before a0 Z = true) (j0 : Int64) (P : own_S Z "com/example/tidemark/tidemark/EventTime" "isValid" prog_9_method_2_code 2 (some .boolean) p l e ({ frames := 0, cells := 0, slots := 0, locals := 0 } : Room) s m args below meth c T h [] 0 0) (hQ : Q (some (.int (F2_0 j0))) h []) :
    own_Go p e below (own_K s Q 0 0) (T.setTop (mkF m 0 #[.val (.long j0), .second] [])) := by
  unfold F2_0 at hQ
  refine own_lloadN P d2_0 rfl rfl ?_
  refine own_ldc2 P (v := (-62135596800000 : Int64)) (hw _ (List.mem_of_getElem? (i := 15) rfl)) d2_1 rfl ?_
  by_cases hc1 : j0 < (-62135596800000 : Int64)
  · rw [if_pos hc1] at hQ
    refine own_lcY P (pc' := 20) d2_4 d2_5 hc1 (by decide) (by decide) ?_
    refine own_iconst P d2_20 rfl (v := (0 : Int32)) rfl ?_
    exact own_retZ P d2_21 (z := (0 : Int32)) rfl (by decide) (by decide) hQ
  · rw [if_neg hc1] at hQ
    refine own_lcN P (pc' := 8) d2_4 d2_5 hc1 rfl ?_
    refine own_lloadN P d2_8 rfl rfl ?_
    refine own_ldc2 P (v := (253402300799999 : Int64)) (hw _ (List.mem_of_getElem? (i := 16) rfl)) d2_9 rfl ?_
    by_cases hc2 : (253402300799999 : Int64) < j0
    · rw [if_pos hc2] at hQ
      refine own_lcY P (pc' := 20) d2_12 d2_13 hc2 (by decide) (by decide) ?_
      refine own_iconst P d2_20 rfl (v := (0 : Int32)) rfl ?_
      exact own_retZ P d2_21 (z := (0 : Int32)) rfl (by decide) (by decide) hQ
    · rw [if_neg hc2] at hQ
      refine own_lcN P (pc' := 16) d2_12 d2_13 hc2 rfl ?_
      refine own_iconst P d2_16 rfl (v := (1 : Int32)) rfl ?_
      refine own_goto P (pc' := 21) d2_17 (by decide) (by decide) ?_
      exact own_retZ P d2_21 (z := (1 : Int32)) rfl (by decide) (by decide) hQ
theorem own_pn1 : plainName "com/example/tidemark/tidemark/EventTime" = true := by first | (simp [plainName, overriddenIn]; done) | decide +kernel
theorem rm2 (l : Launch) (Z : State) (a0 : Array Value) (hw : ∀ d ∈ tables_1, d.before a0 Z = true) (j0 : Int64) (h : Heap) :
    own_Con l Z (⟨"com/example/tidemark/tidemark/EventTime", "isValid", "(J)Z"⟩ : MethodName) prog_9_method_2_code 2 (some .boolean) [] ({ frames := 0, cells := 0, slots := 0, locals := 0 } : Room) #[(.long j0)] h (own_P (some (.int (F2_0 j0))) h) :=
  own_enter (plainFor_of_name own_pn1) #[.val (.long j0), .second] (fun m => by first | (simp [entryFrame, mkF, argsToLocals, Value.category]; done) | rfl) (fun p e s m below meth c T P => b2_0 hw j0 P ⟨rfl, rfl, rfl⟩)
theorem own_pd0 : parseMethodDescriptor "(J)J" = some ⟨[.long], some .long⟩ := by decide +kernel
theorem own_pd1 : parseMethodDescriptor "(J)Z" = some ⟨[.long], some .boolean⟩ := by decide +kernel
def F0_115 (j13 : Int64) (si0 : Int32) : Int32 := (if (F2_0 j13) = si0 then (1 : Int32) else (0 : Int32))
set_option maxRecDepth 65536 in
set_option maxHeartbeats 40000000 in
theorem b0_115 {p : Program} {l : Launch} {e : Env} {s : State} {m : MethodId} {args : Array Value} {below : List Frame} {meth : Method} {c : Code} {T : State} {h : Heap} {Z : State} {a0 : Array Value} {Q : Option Value → Heap → List Loc → Prop} (hw : ∀ d ∈ tables_1, d.before a0 Z = true) (j0 : Int64) (i2 : Int32) (i3 : Int32) (j4 : Int64) (j6 : Int64) (j8 : Int64) (j10 : Int64) (i12 : Int32) (j13 : Int64) (si0 : Int32) (P : own_S Z "com/example/tidemark/tidemark/EventTimeIsValidPinLaw" "law" code 16 (some .boolean) p l e room_1 s m args below meth c T h [] 0 0) (hQ : Q (some (.int (F0_115 j13 si0))) h []) :
    own_Go p e below (own_K s Q room_1.cells room_1.slots) (T.setTop (mkF m 115 #[.val (.long j0), .second, .val (.int i2), .val (.int i3), .val (.long j4), .second, .val (.long j6), .second, .val (.long j8), .second, .val (.long j10), .second, .val (.int i12), .val (.long j13), .second, .unset] [(.int si0)])) := by
  unfold F0_115 at hQ
  refine own_istore P at_115 rfl (Ls' := #[.val (.long j0), .second, .val (.int i2), .val (.int i3), .val (.long j4), .second, .val (.long j6), .second, .val (.long j8), .second, .val (.long j10), .second, .val (.int i12), .val (.long j13), .second, .val (.int si0)]) rfl ?_
  refine own_lload P at_117 rfl rfl ?_
  refine own_callP P (hw _ (List.mem_of_getElem? (i := 11) rfl)) (hw _ (List.mem_of_getElem? (i := 12) rfl)) (hw _ (List.mem_of_getElem? (i := 13) rfl)) (hw _ (List.mem_of_getElem? (i := 14) rfl)) (by decide) (argsL := [(.long j13)]) (rest := []) (rm2 l Z a0 hw j13 h) at_119 rfl own_pd1 rfl rfl rfl (by decide) 0 rfl (by decide) rfl rfl (by decide) (by decide) (fun T12 P11 => ?_)
  show own_Go p e below _ (T12.setTop (mkF m 122 #[.val (.long j0), .second, .val (.int i2), .val (.int i3), .val (.long j4), .second, .val (.long j6), .second, .val (.long j8), .second, .val (.long j10), .second, .val (.int i12), .val (.long j13), .second, .val (.int si0)] [(.int (F2_0 j13))]))
  refine own_iload P11 at_122 rfl rfl ?_
  by_cases hc13 : (F2_0 j13) = si0
  · rw [if_pos hc13] at hQ
    refine own_icmpN P11 (pc' := 127) at_124 (not_not_intro hc13) rfl ?_
    refine own_iconst P11 at_127 rfl (v := (1 : Int32)) rfl ?_
    refine own_goto P11 (pc' := 132) at_128 (by decide) (by decide) ?_
    exact own_retZ P11 at_132 (z := (1 : Int32)) rfl (by decide) (by decide) hQ
  · rw [if_neg hc13] at hQ
    refine own_icmpY P11 (pc' := 131) at_124 hc13 (by decide) (by decide) ?_
    refine own_iconst P11 at_131 rfl (v := (0 : Int32)) rfl ?_
    exact own_retZ P11 at_132 (z := (0 : Int32)) rfl (by decide) (by decide) hQ
def F0_114 (j13 : Int64) : Int32 := (F0_115 j13 (0 : Int32))
set_option maxRecDepth 65536 in
set_option maxHeartbeats 40000000 in
theorem b0_114 {p : Program} {l : Launch} {e : Env} {s : State} {m : MethodId} {args : Array Value} {below : List Frame} {meth : Method} {c : Code} {T : State} {h : Heap} {Z : State} {a0 : Array Value} {Q : Option Value → Heap → List Loc → Prop} (hw : ∀ d ∈ tables_1, d.before a0 Z = true) (j0 : Int64) (i2 : Int32) (i3 : Int32) (j4 : Int64) (j6 : Int64) (j8 : Int64) (j10 : Int64) (i12 : Int32) (j13 : Int64) (P : own_S Z "com/example/tidemark/tidemark/EventTimeIsValidPinLaw" "law" code 16 (some .boolean) p l e room_1 s m args below meth c T h [] 0 0) (hQ : Q (some (.int (F0_114 j13))) h []) :
    own_Go p e below (own_K s Q room_1.cells room_1.slots) (T.setTop (mkF m 114 #[.val (.long j0), .second, .val (.int i2), .val (.int i3), .val (.long j4), .second, .val (.long j6), .second, .val (.long j8), .second, .val (.long j10), .second, .val (.int i12), .val (.long j13), .second, .unset] [])) := by
  unfold F0_114 at hQ
  refine own_iconst P at_114 rfl (v := (0 : Int32)) rfl ?_
  exact b0_115 hw j0 i2 i3 j4 j6 j8 j10 i12 j13 (0 : Int32) P hQ
def F0_94 (j8 : Int64) (j10 : Int64) (j13 : Int64) : Int32 := (if j13 < j8 then (F0_114 j13) else (if j10 < j13 then (F0_114 j13) else (F0_115 j13 (1 : Int32))))
set_option maxRecDepth 65536 in
set_option maxHeartbeats 40000000 in
theorem b0_94 {p : Program} {l : Launch} {e : Env} {s : State} {m : MethodId} {args : Array Value} {below : List Frame} {meth : Method} {c : Code} {T : State} {h : Heap} {Z : State} {a0 : Array Value} {Q : Option Value → Heap → List Loc → Prop} (hw : ∀ d ∈ tables_1, d.before a0 Z = true) (j0 : Int64) (i2 : Int32) (i3 : Int32) (j4 : Int64) (j6 : Int64) (j8 : Int64) (j10 : Int64) (i12 : Int32) (j13 : Int64) (P : own_S Z "com/example/tidemark/tidemark/EventTimeIsValidPinLaw" "law" code 16 (some .boolean) p l e room_1 s m args below meth c T h [] 0 0) (hQ : Q (some (.int (F0_94 j8 j10 j13))) h []) :
    own_Go p e below (own_K s Q room_1.cells room_1.slots) (T.setTop (mkF m 94 #[.val (.long j0), .second, .val (.int i2), .val (.int i3), .val (.long j4), .second, .val (.long j6), .second, .val (.long j8), .second, .val (.long j10), .second, .val (.int i12), .val (.long j13), .second, .unset] [])) := by
  unfold F0_94 at hQ
  refine own_lload P at_94 rfl rfl ?_
  refine own_lload P at_96 rfl rfl ?_
  by_cases hc10 : j13 < j8
  · rw [if_pos hc10] at hQ
    refine own_lcY P (pc' := 114) at_98 at_99 hc10 (by decide) (by decide) ?_
    exact b0_114 hw j0 i2 i3 j4 j6 j8 j10 i12 j13 P hQ
  · rw [if_neg hc10] at hQ
    refine own_lcN P (pc' := 102) at_98 at_99 hc10 rfl ?_
    refine own_lload P at_102 rfl rfl ?_
    refine own_lload P at_104 rfl rfl ?_
    by_cases hc14 : j10 < j13
    · rw [if_pos hc14] at hQ
      refine own_lcY P (pc' := 114) at_106 at_107 hc14 (by decide) (by decide) ?_
      exact b0_114 hw j0 i2 i3 j4 j6 j8 j10 i12 j13 P hQ
    · rw [if_neg hc14] at hQ
      refine own_lcN P (pc' := 110) at_106 at_107 hc14 rfl ?_
      refine own_iconst P at_110 rfl (v := (1 : Int32)) rfl ?_
      refine own_goto P (pc' := 115) at_111 (by decide) (by decide) ?_
      exact b0_115 hw j0 i2 i3 j4 j6 j8 j10 i12 j13 (1 : Int32) P hQ
def F0_41 (j0 : Int64) (i2 : Int32) (i3 : Int32) (j8 : Int64) (j10 : Int64) : Int32 := (if (i2 &&& (3 : Int32)) = (1 : Int32) then (F0_94 j8 j10 (j8 + (i3.toInt64))) else (if (i2 &&& (3 : Int32)) = (2 : Int32) then (F0_94 j8 j10 (j10 + (i3.toInt64))) else (if (i2 &&& (3 : Int32)) = (3 : Int32) then (F0_94 j8 j10 (i3.toInt64)) else (F0_94 j8 j10 j0))))
set_option maxRecDepth 65536 in
set_option maxHeartbeats 40000000 in
theorem b0_41 {p : Program} {l : Launch} {e : Env} {s : State} {m : MethodId} {args : Array Value} {below : List Frame} {meth : Method} {c : Code} {T : State} {h : Heap} {Z : State} {a0 : Array Value} {Q : Option Value → Heap → List Loc → Prop} (hw : ∀ d ∈ tables_1, d.before a0 Z = true) (j0 : Int64) (i2 : Int32) (i3 : Int32) (j4 : Int64) (j6 : Int64) (j8 : Int64) (j10 : Int64) (P : own_S Z "com/example/tidemark/tidemark/EventTimeIsValidPinLaw" "law" code 16 (some .boolean) p l e room_1 s m args below meth c T h [] 0 0) (hQ : Q (some (.int (F0_41 j0 i2 i3 j8 j10))) h []) :
    own_Go p e below (own_K s Q room_1.cells room_1.slots) (T.setTop (mkF m 41 #[.val (.long j0), .second, .val (.int i2), .val (.int i3), .val (.long j4), .second, .val (.long j6), .second, .val (.long j8), .second, .val (.long j10), .second, .unset, .unset, .unset, .unset] [])) := by
  unfold F0_41 at hQ
  refine own_iloadN P at_41 rfl rfl ?_
  refine own_iconst P at_42 rfl (v := (3 : Int32)) rfl ?_
  refine own_iand P at_43 rfl ?_
  refine own_istore P at_44 rfl (Ls' := #[.val (.long j0), .second, .val (.int i2), .val (.int i3), .val (.long j4), .second, .val (.long j6), .second, .val (.long j8), .second, .val (.long j10), .second, .val (.int (i2 &&& (3 : Int32))), .unset, .unset, .unset]) rfl ?_
  refine own_iload P at_46 rfl rfl ?_
  refine own_iconst P at_48 rfl (v := (1 : Int32)) rfl ?_
  by_cases hc9 : (i2 &&& (3 : Int32)) = (1 : Int32)
  · rw [if_pos hc9] at hQ
    refine own_icmpN P (pc' := 52) at_49 (not_not_intro hc9) rfl ?_
    refine own_lload P at_52 rfl rfl ?_
    refine own_iloadN P at_54 rfl rfl ?_
    refine own_i2l P at_55 rfl ?_
    refine own_ladd P at_56 rfl ?_
    refine own_lstore P at_57 rfl (Ls' := #[.val (.long j0), .second, .val (.int i2), .val (.int i3), .val (.long j4), .second, .val (.long j6), .second, .val (.long j8), .second, .val (.long j10), .second, .val (.int (i2 &&& (3 : Int32))), .val (.long (j8 + (i3.toInt64))), .second, .unset]) rfl ?_
    refine own_goto P (pc' := 94) at_59 (by decide) (by decide) ?_
    exact b0_94 hw j0 i2 i3 j4 j6 j8 j10 (i2 &&& (3 : Int32)) (j8 + (i3.toInt64)) P hQ
  · rw [if_neg hc9] at hQ
    refine own_icmpY P (pc' := 62) at_49 hc9 (by decide) (by decide) ?_
    refine own_iload P at_62 rfl rfl ?_
    refine own_iconst P at_64 rfl (v := (2 : Int32)) rfl ?_
    by_cases hc15 : (i2 &&& (3 : Int32)) = (2 : Int32)
    · rw [if_pos hc15] at hQ
      refine own_icmpN P (pc' := 68) at_65 (not_not_intro hc15) rfl ?_
      refine own_lload P at_68 rfl rfl ?_
      refine own_iloadN P at_70 rfl rfl ?_
      refine own_i2l P at_71 rfl ?_
      refine own_ladd P at_72 rfl ?_
      refine own_lstore P at_73 rfl (Ls' := #[.val (.long j0), .second, .val (.int i2), .val (.int i3), .val (.long j4), .second, .val (.long j6), .second, .val (.long j8), .second, .val (.long j10), .second, .val (.int (i2 &&& (3 : Int32))), .val (.long (j10 + (i3.toInt64))), .second, .unset]) rfl ?_
      refine own_goto P (pc' := 94) at_75 (by decide) (by decide) ?_
      exact b0_94 hw j0 i2 i3 j4 j6 j8 j10 (i2 &&& (3 : Int32)) (j10 + (i3.toInt64)) P hQ
    · rw [if_neg hc15] at hQ
      refine own_icmpY P (pc' := 78) at_65 hc15 (by decide) (by decide) ?_
      refine own_iload P at_78 rfl rfl ?_
      refine own_iconst P at_80 rfl (v := (3 : Int32)) rfl ?_
      by_cases hc16 : (i2 &&& (3 : Int32)) = (3 : Int32)
      · rw [if_pos hc16] at hQ
        refine own_icmpN P (pc' := 84) at_81 (not_not_intro hc16) rfl ?_
        refine own_iloadN P at_84 rfl rfl ?_
        refine own_i2l P at_85 rfl ?_
        refine own_lstore P at_86 rfl (Ls' := #[.val (.long j0), .second, .val (.int i2), .val (.int i3), .val (.long j4), .second, .val (.long j6), .second, .val (.long j8), .second, .val (.long j10), .second, .val (.int (i2 &&& (3 : Int32))), .val (.long (i3.toInt64)), .second, .unset]) rfl ?_
        refine own_goto P (pc' := 94) at_88 (by decide) (by decide) ?_
        exact b0_94 hw j0 i2 i3 j4 j6 j8 j10 (i2 &&& (3 : Int32)) (i3.toInt64) P hQ
      · rw [if_neg hc16] at hQ
        refine own_icmpY P (pc' := 91) at_81 hc16 (by decide) (by decide) ?_
        refine own_lloadN P at_91 rfl rfl ?_
        refine own_lstore P at_92 rfl (Ls' := #[.val (.long j0), .second, .val (.int i2), .val (.int i3), .val (.long j4), .second, .val (.long j6), .second, .val (.long j8), .second, .val (.long j10), .second, .val (.int (i2 &&& (3 : Int32))), .val (.long j0), .second, .unset]) rfl ?_
        exact b0_94 hw j0 i2 i3 j4 j6 j8 j10 (i2 &&& (3 : Int32)) j0 P hQ
def F0_0 (j0 : Int64) (i2 : Int32) (i3 : Int32) : Int32 := (F0_41 j0 i2 i3 (((F1_0 (1 : Int64)) - (F1_0 (1970 : Int64))) * (86400000 : Int64)) ((((F1_0 (10000 : Int64)) - (F1_0 (1970 : Int64))) * (86400000 : Int64)) - (1 : Int64)))
set_option maxRecDepth 65536 in
set_option maxHeartbeats 40000000 in
theorem b0_0 {p : Program} {l : Launch} {e : Env} {s : State} {m : MethodId} {args : Array Value} {below : List Frame} {meth : Method} {c : Code} {T : State} {h : Heap} {Z : State} {a0 : Array Value} {Q : Option Value → Heap → List Loc → Prop} (hw : ∀ d ∈ tables_1, d.before a0 Z = true) (j0 : Int64) (i2 : Int32) (i3 : Int32) (P : own_S Z "com/example/tidemark/tidemark/EventTimeIsValidPinLaw" "law" code 16 (some .boolean) p l e room_1 s m args below meth c T h [] 0 0) (hQ : Q (some (.int (F0_0 j0 i2 i3))) h []) :
    own_Go p e below (own_K s Q room_1.cells room_1.slots) (T.setTop (mkF m 0 #[.val (.long j0), .second, .val (.int i2), .val (.int i3), .unset, .unset, .unset, .unset, .unset, .unset, .unset, .unset, .unset, .unset, .unset, .unset] [])) := by
  unfold F0_0 at hQ
  refine own_ldc2 P (v := (86400000 : Int64)) (hw _ (List.mem_of_getElem? (i := 0) rfl)) at_0 rfl ?_
  refine own_lstore P at_3 rfl (Ls' := #[.val (.long j0), .second, .val (.int i2), .val (.int i3), .val (.long (86400000 : Int64)), .second, .unset, .unset, .unset, .unset, .unset, .unset, .unset, .unset, .unset, .unset]) rfl ?_
  refine own_ldc2 P (v := (1970 : Int64)) (hw _ (List.mem_of_getElem? (i := 1) rfl)) at_5 rfl ?_
  refine own_callP P (hw _ (List.mem_of_getElem? (i := 2) rfl)) (hw _ (List.mem_of_getElem? (i := 3) rfl)) (hw _ (List.mem_of_getElem? (i := 4) rfl)) (hw _ (List.mem_of_getElem? (i := 5) rfl)) (by decide) (argsL := [(.long (1970 : Int64))]) (rest := []) (rm1 l Z a0 hw (1970 : Int64) h) at_8 rfl own_pd0 rfl rfl rfl (by decide) 0 rfl (by decide) rfl rfl (by decide) (by decide) (fun T4 P3 => ?_)
  show own_Go p e below _ (T4.setTop (mkF m 11 #[.val (.long j0), .second, .val (.int i2), .val (.int i3), .val (.long (86400000 : Int64)), .second, .unset, .unset, .unset, .unset, .unset, .unset, .unset, .unset, .unset, .unset] [(.long (F1_0 (1970 : Int64)))]))
  refine own_lstore P3 at_11 rfl (Ls' := #[.val (.long j0), .second, .val (.int i2), .val (.int i3), .val (.long (86400000 : Int64)), .second, .val (.long (F1_0 (1970 : Int64))), .second, .unset, .unset, .unset, .unset, .unset, .unset, .unset, .unset]) rfl ?_
  refine own_lconst P3 at_13 rfl (v := (1 : Int64)) rfl ?_
  refine own_callP P3 (hw _ (List.mem_of_getElem? (i := 2) rfl)) (hw _ (List.mem_of_getElem? (i := 3) rfl)) (hw _ (List.mem_of_getElem? (i := 4) rfl)) (hw _ (List.mem_of_getElem? (i := 5) rfl)) (by decide) (argsL := [(.long (1 : Int64))]) (rest := []) (rm1 l Z a0 hw (1 : Int64) h) at_14 rfl own_pd0 rfl rfl rfl (by decide) 0 rfl (by decide) rfl rfl (by decide) (by decide) (fun T6 P5 => ?_)
  show own_Go p e below _ (T6.setTop (mkF m 17 #[.val (.long j0), .second, .val (.int i2), .val (.int i3), .val (.long (86400000 : Int64)), .second, .val (.long (F1_0 (1970 : Int64))), .second, .unset, .unset, .unset, .unset, .unset, .unset, .unset, .unset] [(.long (F1_0 (1 : Int64)))]))
  refine own_lload P5 at_17 rfl rfl ?_
  refine own_lsub P5 at_19 rfl ?_
  refine own_lload P5 at_20 rfl rfl ?_
  refine own_lmul P5 at_22 rfl ?_
  refine own_lstore P5 at_23 rfl (Ls' := #[.val (.long j0), .second, .val (.int i2), .val (.int i3), .val (.long (86400000 : Int64)), .second, .val (.long (F1_0 (1970 : Int64))), .second, .val (.long (((F1_0 (1 : Int64)) - (F1_0 (1970 : Int64))) * (86400000 : Int64))), .second, .unset, .unset, .unset, .unset, .unset, .unset]) rfl ?_
  refine own_ldc2 P5 (v := (10000 : Int64)) (hw _ (List.mem_of_getElem? (i := 10) rfl)) at_25 rfl ?_
  refine own_callP P5 (hw _ (List.mem_of_getElem? (i := 2) rfl)) (hw _ (List.mem_of_getElem? (i := 3) rfl)) (hw _ (List.mem_of_getElem? (i := 4) rfl)) (hw _ (List.mem_of_getElem? (i := 5) rfl)) (by decide) (argsL := [(.long (10000 : Int64))]) (rest := []) (rm1 l Z a0 hw (10000 : Int64) h) at_28 rfl own_pd0 rfl rfl rfl (by decide) 0 rfl (by decide) rfl rfl (by decide) (by decide) (fun T8 P7 => ?_)
  show own_Go p e below _ (T8.setTop (mkF m 31 #[.val (.long j0), .second, .val (.int i2), .val (.int i3), .val (.long (86400000 : Int64)), .second, .val (.long (F1_0 (1970 : Int64))), .second, .val (.long (((F1_0 (1 : Int64)) - (F1_0 (1970 : Int64))) * (86400000 : Int64))), .second, .unset, .unset, .unset, .unset, .unset, .unset] [(.long (F1_0 (10000 : Int64)))]))
  refine own_lload P7 at_31 rfl rfl ?_
  refine own_lsub P7 at_33 rfl ?_
  refine own_lload P7 at_34 rfl rfl ?_
  refine own_lmul P7 at_36 rfl ?_
  refine own_lconst P7 at_37 rfl (v := (1 : Int64)) rfl ?_
  refine own_lsub P7 at_38 rfl ?_
  refine own_lstore P7 at_39 rfl (Ls' := #[.val (.long j0), .second, .val (.int i2), .val (.int i3), .val (.long (86400000 : Int64)), .second, .val (.long (F1_0 (1970 : Int64))), .second, .val (.long (((F1_0 (1 : Int64)) - (F1_0 (1970 : Int64))) * (86400000 : Int64))), .second, .val (.long ((((F1_0 (10000 : Int64)) - (F1_0 (1970 : Int64))) * (86400000 : Int64)) - (1 : Int64))), .second, .unset, .unset, .unset, .unset]) rfl ?_
  exact b0_41 hw j0 i2 i3 (86400000 : Int64) (F1_0 (1970 : Int64)) (((F1_0 (1 : Int64)) - (F1_0 (1970 : Int64))) * (86400000 : Int64)) ((((F1_0 (10000 : Int64)) - (F1_0 (1970 : Int64))) * (86400000 : Int64)) - (1 : Int64)) P7 hQ
theorem rm0 (l : Launch) (Z : State) (a0 : Array Value) (hw : ∀ d ∈ tables_1, d.before a0 Z = true) (j0 : Int64) (i2 : Int32) (i3 : Int32) (ws : List Jvm.Cond) (h : Heap) :
    own_Con l Z x code maxLocals ret ws room_1 #[(.long j0), (.int i2), (.int i3)] h (own_P (some (.int (F0_0 j0 i2 i3))) h) :=
  own_enter (plainFor_of_name own_pn0) #[.val (.long j0), .second, .val (.int i2), .val (.int i3), .unset, .unset, .unset, .unset, .unset, .unset, .unset, .unset, .unset, .unset, .unset, .unset] (fun m => by first | (simp [entryFrame, mkF, argsToLocals, Value.category, maxLocals]; done) | rfl) (fun p e s m below meth c T P => b0_0 hw j0 i2 i3 P ⟨rfl, rfl, rfl⟩)
theorem own_94 (x : Int64) : F0_94 (-62135596800000 : Int64) (253402300799999 : Int64) x = 1 := by
  unfold F0_94 F0_114 F0_115 F2_0
  by_cases h1 : x < (-62135596800000 : Int64)
  · simp [h1]
  · by_cases h2 : (253402300799999 : Int64) < x
    · simp [h1, h2]
    · simp [h1, h2]
theorem own_law (j0 : Int64) (i2 i3 : Int32) : F0_0 j0 i2 i3 = 1 := by
  have e1 : ((F1_0 (1 : Int64)) - (F1_0 (1970 : Int64))) * (86400000 : Int64) = (-62135596800000 : Int64) := by decide +kernel
  have e2 : (((F1_0 (10000 : Int64)) - (F1_0 (1970 : Int64))) * (86400000 : Int64)) - (1 : Int64) = (253402300799999 : Int64) := by decide +kernel
  unfold F0_0
  rw [e1, e2]
  unfold F0_41
  split
  · exact own_94 _
  · split
    · exact own_94 _
    · split <;> exact own_94 _

theorem own_rm0 (l : Launch) (Z : State) (a0 : Array Value) (hw : ∀ d ∈ tables_1, d.before a0 Z = true) (j0 : Int64) (i2 : Int32) (i3 : Int32) (ws : List Jvm.Cond) (h : Heap) :
    own_Con l Z x code maxLocals ret ws room_1 #[(.long j0), (.int i2), (.int i3)] h (fun v _ L => v = some (.int 1) ∧ Fr h.size L) := by
  have q := rm0 l Z a0 hw j0 i2 i3 ws h
  rw [own_law j0 i2 i3] at q
  refine own_conMono q fun v h' L w => ?_
  obtain ⟨rfl, rfl, rfl⟩ := w
  exact ⟨rfl, Fr.nil _⟩
set_option maxRecDepth 65536 in
set_option maxHeartbeats 40000000 in
theorem comes_1 {Post : Tables → Env → Array Value → State → Outcome → State → Prop} (hpost : ∀ tb e args s v u, (limb_1_1.after args s (.returned v) u = true ∧ limb_1_2.after args s (.returned v) u = true ∧ True) → FrameEnd s (.returned v) u (Jvm.fieldLocs frame_1_writes args s ++ Jvm.arrayLocs frame_1_arrays args s ++ Jvm.staticLocs frame_1_statics s) 0 0 → Post tb e args s (.returned v) u) :
    ArmFor flags0 classFile x code maxLocals ret World_1 tables_1 room_1 Calls_1 rest_1 Pre_1 Post := by
  intro l hfl _ _ p e ha hc hk s m args below hf hA hF happ hP
  obtain ⟨hcalls, hrest, hpre⟩ := hP
  obtain ⟨-, -, -, hnamed, -, -, -, hat⟩ := (Spec.applies_iff hf).mp happ
  obtain ⟨hg, hn⟩ := and_e (Cond.before_iff.mp (show (Jvm.Cond.and given_1 narrow_1).before args s = true from hpre))
  obtain ⟨g0, hg1⟩ := and_e hg
  obtain ⟨k0, hg2⟩ := and_e hg1
  obtain ⟨k1, hg3⟩ := and_e hg2
  obtain ⟨w0, w1, w2, rfl⟩ : ∃ w0 w1 w2 : Value, args = #[w0, w1, w2] := by
    have hs : args.size = 3 := by simpa [Cond.value, given_1] using g0
    obtain ⟨L⟩ := args
    match L, hs with
    | [w0, w1, w2], _ => exact ⟨w0, w1, w2, rfl⟩
  have hw := fun d (hd : d ∈ tables_1) => atoms_spec (ws := Jvm.Cond.code x code maxLocals ret :: tables_1) hat d (List.mem_cons_of_mem _ hd)
  obtain ⟨i0, ei0⟩ := isL_v k0
  obtain rfl : w0 = (.long i0) := Option.some.inj ei0
  obtain ⟨i1, ei1⟩ := is_v k1
  obtain rfl : w1 = (.int i1) := Option.some.inj ei1
  obtain ⟨i2, ei2⟩ := is_v hg3
  obtain rfl : w2 = (.int i2) := Option.some.inj ei2
  obtain ⟨n, o, h1, h2, h3, _, L, rfl, ⟨rfl, N⟩, hq⟩ := own_rm0 l s _ hw i0 i1 i2 tables_1 s.heap p e ha hc hk s m _ below hf ((Spec.applies_iff_loose hf).mp happ).1 ⟨rfl, State.Warmed39.refl s, rfl⟩ trivial
  refine ⟨n, _, h1, h2, h3, hpost _ _ _ _ _ _ ⟨Cond.after_iff.mpr rfl, Cond.after_iff.mpr (eq_i res_at (Term.int_eval (1)) rfl), trivial⟩ ⟨hq.1, hq.2.1, (hq.2.2.sift fun y hy => Or.inr (N y hy)).mono (by decide) (by decide)⟩⟩
theorem main_1_1 : Claimed_1_1 := comes_1 fun _ _ _ _ _ _ h hF => ⟨h.1, hF⟩
theorem main_1_2 : Claimed_1_2 := comes_1 fun _ _ _ _ _ _ h hF => ⟨h.2.1, hF⟩
end Jvm.Pilot.@@N@@
namespace Jvm.Pilot.@@N@@
open Jvm Jvm.ClassFile Sem Op Lib Jvm.Free Jvm.Stand Jvm.Pilot.@@N@@.Jvm.D
/-! MADE BY PROGRAM (witnessworld.py) out of the Statement's table words and the real class files: 9 classes; the members and pool entries that the words name. The judged class is class 1, her method 2. -/
namespace start1
open Jvm.ClassFile
def u (s : String) : CpInfo := .utf8 (stringToUtf16 s)
/-- a pool by its gaps: so many unusable entries, then the entry; so many at the end -/
def gap : Nat → List CpInfo → List CpInfo
  | 0, r => r
  | n + 1, r => .unusable :: gap n r
def poolList (es : List (Nat × CpInfo)) (last : Nat) : List CpInfo := es.foldr (fun e r => gap e.1 (e.2 :: r)) (gap last [])
def pool (es : List (Nat × CpInfo)) (last : Nat) : Array CpInfo := ⟨poolList es last⟩
def fileOf (pool : Array CpInfo) (this : Nat) (attrs : Array Attribute := #[]) (ms : Array MethodInfo := #[]) (fl : Nat := 33) (sup : Nat := 0) (ifs : Array Nat := #[]) (fds : Array FieldInfo := #[]) : ClassFile where
  minorVersion := 0
  majorVersion := 65
  constantPool := pool
  accessFlags := fl
  thisClass := this
  superClass := sup
  interfaces := ifs
  fields := fds
  methods := ms
  attributes := attrs
def plain (name : String) (sup : Option ClassId) : Class where
  name := name
  kind := .ordinary
  loader := none
  accessFlags := 33
  super := sup
  interfaces := #[]
  cf := none
  fields := #[]
  methods := #[]
  instanceTypes := #[]
  staticTypes := #[]
  resolved := #[]
  callSites := []
  init := .initialized
  statics := none
  mirror := none

def pool0 : Array CpInfo := pool [(5, u "<init>"), (0, u "()V"), (1, .class_ 10), (1, u "java/lang/Object")] 113

def k0m0 : Method := { name := "<init>", desc := "()V", sig := { parameters := [], returnType := none }, accessFlags := 1, code := none }
/-- java/lang/Object -/
def k0 : Class := { plain "java/lang/Object" none with
  accessFlags := 33
  interfaces := #[]
  cf := some (fileOf pool0 8 #[] #[{ accessFlags := 1, nameIndex := 5, descriptorIndex := 6, attributes := #[] }] 33 0 #[] #[])
  fields := #[]
  methods := #[k0m0]
  instanceTypes := #[]
  staticTypes := #[]
  resolved := Array.replicate 124 none
  statics := none }

def pool1 : Array CpInfo := pool [(2, .class_ 4), (1, u "java/lang/Object"), (0, u "<init>"), (0, u "()V"), (0, .long 365), (1, .long 4), (1, .long 100), (1, .long 400), (1, .long 86400000), (1, .long 1970), (1, .methodref 20 21), (0, .class_ 22), (0, .nameAndType 23 24), (0, u "com/example/tidemark/tidemark/EventTimeIsValidPinLaw"), (0, u "daysBeforeYear"), (0, u "(J)J"), (0, .long 10000), (1, .methodref 28 29), (0, .class_ 30), (0, .nameAndType 31 32), (0, u "com/example/tidemark/tidemark/EventTime"), (0, u "isValid"), (0, u "(J)Z"), (2, u "law"), (0, u "(JII)Z")] 3

def k1m0 : Method := { name := "<init>", desc := "()V", sig := { parameters := [], returnType := none }, accessFlags := 1, code := none }
def k1c1 : Code := { maxStack := 6, maxLocals := 4, code := method_2_code, exceptionTable := #[], attributes := #[] }
def k1m1 : Method := { name := "daysBeforeYear", desc := "(J)J", sig := { parameters := [.long], returnType := some .long }, accessFlags := 10, code := some k1c1 }
def k1c2 : Code := { maxStack := 4, maxLocals := 16, code := code, exceptionTable := #[], attributes := #[] }
def k1m2 : Method := { name := "law", desc := "(JII)Z", sig := { parameters := [.long, .int, .int], returnType := some .boolean }, accessFlags := 9, code := some k1c2 }
/-- com/example/tidemark/tidemark/EventTimeIsValidPinLaw -/
def k1 : Class := { plain "com/example/tidemark/tidemark/EventTimeIsValidPinLaw" (some 0) with
  accessFlags := 49
  interfaces := #[]
  cf := some (fileOf pool1 20 #[] #[{ accessFlags := 1, nameIndex := 5, descriptorIndex := 6, attributes := #[] }, { accessFlags := 10, nameIndex := 23, descriptorIndex := 24, attributes := #[] }, { accessFlags := 9, nameIndex := 35, descriptorIndex := 36, attributes := #[] }] 49 2 #[] #[])
  fields := #[]
  methods := #[k1m0, k1m1, k1m2]
  instanceTypes := #[]
  staticTypes := #[]
  resolved := Array.replicate 40 none
  statics := none }

def pool2 : Array CpInfo := pool [(2, .class_ 4), (1, u "java/lang/Object"), (0, u "<init>"), (0, u "()V"), (0, .class_ 8), (0, u "com/example/tidemark/tidemark/EventTime"), (0, .long 18446681938112751616), (1, .long 253402300799999), (3, u "isValid"), (0, u "(J)Z"), (17, u "UTC"), (0, u "Ljava/time/format/DateTimeFormatter;"), (30, u "DATE_OR_TIME"), (90, u "MIN"), (0, u "J"), (1, u "MAX")] 42

def k2m0 : Method := { name := "<init>", desc := "()V", sig := { parameters := [], returnType := none }, accessFlags := 2, code := none }
def k2c1 : Code := { maxStack := 4, maxLocals := 2, code := prog_9_method_2_code, exceptionTable := #[], attributes := #[] }
def k2m1 : Method := { name := "isValid", desc := "(J)Z", sig := { parameters := [.long], returnType := some .boolean }, accessFlags := 9, code := some k2c1 }
/-- com/example/tidemark/tidemark/EventTime -/
def k2 : Class := { plain "com/example/tidemark/tidemark/EventTime" (some 0) with
  accessFlags := 49
  interfaces := #[]
  cf := some (fileOf pool2 7 #[] #[{ accessFlags := 2, nameIndex := 5, descriptorIndex := 6, attributes := #[] }, { accessFlags := 9, nameIndex := 15, descriptorIndex := 16, attributes := #[] }] 49 2 #[] #[{ accessFlags := 25, nameIndex := 157, descriptorIndex := 158, attributes := #[] }, { accessFlags := 25, nameIndex := 160, descriptorIndex := 158, attributes := #[] }, { accessFlags := 26, nameIndex := 34, descriptorIndex := 35, attributes := #[] }, { accessFlags := 26, nameIndex := 66, descriptorIndex := 35, attributes := #[] }])
  fields := #[{ name := "MIN", type := .long, accessFlags := 25, slot := 0, constantValue := 0 }, { name := "MAX", type := .long, accessFlags := 25, slot := 1, constantValue := 0 }, { name := "UTC", type := (.object "java/time/format/DateTimeFormatter"), accessFlags := 26, slot := 2, constantValue := 0 }, { name := "DATE_OR_TIME", type := (.object "java/time/format/DateTimeFormatter"), accessFlags := 26, slot := 3, constantValue := 0 }]
  methods := #[k2m0, k2m1]
  instanceTypes := #[]
  staticTypes := #[.long, .long, (.object "java/time/format/DateTimeFormatter"), (.object "java/time/format/DateTimeFormatter")]
  resolved := Array.replicate 203 none
  statics := none }

def pool3 : Array CpInfo := pool [(1, u "java/lang/Cloneable"), (0, .class_ 1), (0, u "java/lang/Object"), (0, .class_ 3)] 3

/-- java/lang/Cloneable -/
def k3 : Class := { plain "java/lang/Cloneable" (some 0) with
  accessFlags := 1537
  interfaces := #[]
  cf := some (fileOf pool3 2 #[] #[] 1537 4 #[] #[])
  fields := #[]
  methods := #[]
  instanceTypes := #[]
  staticTypes := #[]
  resolved := Array.replicate 8 none
  statics := none }

def pool4 : Array CpInfo := pool [(1, u "java/io/Serializable"), (0, .class_ 1), (0, u "java/lang/Object"), (0, .class_ 3)] 3

/-- java/io/Serializable -/
def k4 : Class := { plain "java/io/Serializable" (some 0) with
  accessFlags := 1537
  interfaces := #[]
  cf := some (fileOf pool4 2 #[] #[] 1537 4 #[] #[])
  fields := #[]
  methods := #[]
  instanceTypes := #[]
  staticTypes := #[]
  resolved := Array.replicate 8 none
  statics := none }

/-- the primitive byte -/
def k5 : Class := { plain "byte" none with kind := .primitive 'B', accessFlags := 0x411 }
/-- [B -/
def k6 : Class := { plain "[B" (some 0) with kind := .array 5 .byte, interfaces := #[3, 4], accessFlags := 1041 }

/-- the primitive int -/
def k7 : Class := { plain "int" none with kind := .primitive 'I', accessFlags := 0x411 }
/-- [I -/
def k8 : Class := { plain "[I" (some 0) with kind := .array 7 .int, interfaces := #[3, 4], accessFlags := 1041 }

def heap : Heap := #[]
def classes : Array Class := #[k0, k1, k2, k3, k4, k5, k6, k7, k8]
def interned : List (Array UInt16 × Addr) := []
def slotsUsed : Nat := 0
def theMethod : MethodId := ⟨1, 2⟩
def args0 : Array Value := #[.long 12345678, .int 1, .int 5]
def aboutOver (below : List Frame) : State where
  vm := { classes := classes, interned := interned.toArray }
  heap := heap
  slotsUsed := slotsUsed
  threads := #[{ frames := .invoking theMethod args0 :: below }]
def below0 : List Frame := [.native { method := ⟨0, 0⟩, args := #[] }]
def about1 : State := aboutOver below0
def p0 : Program := .bare "" "" ""
def e0 : Env := launch0.env 0 0 0
theorem w_frames : about1.frames = Frame.invoking theMethod args0 :: below0 := rfl
set_option maxRecDepth 65536 in
theorem w_args : argsFit about1.vm theMethod args0 = true := by decide +kernel
set_option maxRecDepth 65536 in
theorem w_heap : heapFits about1 = true := by decide +kernel
set_option maxRecDepth 65536 in
theorem w_runnable : about1.curStatus? = some .runnable := by decide +kernel
set_option maxRecDepth 65536 in
theorem w_alone : about1.alone = true := by decide +kernel
set_option maxRecDepth 65536 in
theorem w_named : about1.methodNamed? x = some theMethod := by decide +kernel
set_option maxRecDepth 65536 in
theorem w_hears : about1.hears theMethod below0 = true := by decide +kernel
set_option maxRecDepth 65536 in
theorem w_ripe : about1.ripe theMethod args0 below0 = true := by decide +kernel
theorem w_running : about1.status = .running := rfl
set_option maxRecDepth 65536 in
theorem w_room : about1.hasRoom e0.platform room_1 = true :=
  launch0.hasRoom_least _ room_1 (by decide +kernel) (by decide +kernel) (by decide +kernel) (by decide +kernel) (by decide +kernel) (by decide +kernel)
theorem allAtoms_all (ts : List Jvm.Cond) (a : Array Jvm.Value) (st : Jvm.State) : (allAtoms ts).before a st = ts.all (fun c => c.before a st) := by
  induction ts with
  | nil => rfl
  | cons c t ih =>
    show (Jvm.Cond.and c (allAtoms t)).before a st = _
    rw [Jvm.Cond.before_and, ih, List.all_cons]
def words1 : List Jvm.Cond := Jvm.Cond.code x code maxLocals ret :: tables_1
/-- a 'code' word, met by the world's own term for the bytes: nothing is compared byte by byte -/
theorem code_word {y : MethodName} {bytes : ByteArray} {mx : Nat} {rt : Option FieldType} {a : Array Value} {s : State} {m : MethodId} {meth : Method} {c : Code} (h1 : s.methodNamed? y = some m) (h2 : s.vm.method? m = some meth) (h3 : meth.code = some c) (h4 : c.code = bytes)
    (h5 : (c.maxLocals == mx && c.exceptionTable.isEmpty && decide (c.maxStack ≤ mostOperands) && decide (meth.sig.returnType = rt) && !meth.locks && decide (parseMethodDescriptor y.desc = some meth.sig)) = true) : (Jvm.Cond.code y bytes mx rt).before a s = true := by
  simp only [Bool.and_eq_true, beq_iff_eq, Bool.not_eq_true', decide_eq_true_eq] at h5
  obtain ⟨⟨⟨⟨⟨g1, g2⟩, g3⟩, g4⟩, g5⟩, g6⟩ := h5
  simp [Cond.before, Cond.holds, Cond.value, h1, h2, h3, h4, g1, g2, g3, g4, g5, g6]
def isCode : Jvm.Cond → Bool
  | .code _ _ _ _ => true
  | _ => false
theorem all_split {L : List Jvm.Cond} {P : Jvm.Cond → Bool} (h1 : L.all (fun c => isCode c || P c) = true) (h2 : ∀ c ∈ L.filter isCode, P c = true) : L.all P = true := by
  refine List.all_eq_true.mpr fun c hc => ?_
  have h := List.all_eq_true.mp h1 c hc
  rcases Bool.eq_false_or_eq_true (isCode c) with hi | hi
  · exact h2 c (List.mem_filter.mpr ⟨hc, hi⟩)
  · simpa [hi] using h
set_option maxRecDepth 65536 in
theorem w_c0 : (Jvm.Cond.code x code maxLocals ret).before args0 about1 = true := code_word (m := ⟨1, 2⟩) (meth := k1m2) (c := k1c2) (by decide +kernel) rfl rfl rfl (by decide +kernel)
set_option maxRecDepth 65536 in
theorem w_c1 : (Jvm.Cond.code ({ cls := "com/example/tidemark/tidemark/EventTimeIsValidPinLaw", name := "daysBeforeYear", desc := "(J)J" } : Jvm.MethodName) method_2_code (4 : Nat) (Option.some Jvm.ClassFile.FieldType.long)).before args0 about1 = true := code_word (m := ⟨1, 1⟩) (meth := k1m1) (c := k1c1) (by decide +kernel) rfl rfl rfl (by decide +kernel)
set_option maxRecDepth 65536 in
theorem w_c2 : (Jvm.Cond.code ({ cls := "com/example/tidemark/tidemark/EventTime", name := "isValid", desc := "(J)Z" } : Jvm.MethodName) prog_9_method_2_code (2 : Nat) (Option.some Jvm.ClassFile.FieldType.boolean)).before args0 about1 = true := code_word (m := ⟨2, 1⟩) (meth := k2m1) (c := k2c1) (by decide +kernel) rfl rfl rfl (by decide +kernel)
def codes1 : List Jvm.Cond := [Jvm.Cond.code x code maxLocals ret, Jvm.Cond.code ({ cls := "com/example/tidemark/tidemark/EventTimeIsValidPinLaw", name := "daysBeforeYear", desc := "(J)J" } : Jvm.MethodName) method_2_code (4 : Nat) (Option.some Jvm.ClassFile.FieldType.long), Jvm.Cond.code ({ cls := "com/example/tidemark/tidemark/EventTime", name := "isValid", desc := "(J)Z" } : Jvm.MethodName) prog_9_method_2_code (2 : Nat) (Option.some Jvm.ClassFile.FieldType.boolean)]
set_option maxRecDepth 65536 in
theorem codes_eq : words1.filter isCode = codes1 := rfl
theorem w_codes : ∀ c ∈ words1.filter isCode, c.before args0 about1 = true := by
  rw [codes_eq]
  intro c hc
  simp only [codes1, List.mem_cons, List.not_mem_nil, or_false] at hc
  rcases hc with rfl | rfl | rfl
  · exact w_c0
  · exact w_c1
  · exact w_c2
set_option maxRecDepth 65536 in
theorem w_t1 : words1.all (fun c => isCode c || c.before args0 about1) = true := by decide +kernel
theorem w_tables : (allAtoms (Jvm.Cond.code x code maxLocals ret :: tables_1)).before args0 about1 = true := by
  rw [allAtoms_all]
  show words1.all (fun c => c.before args0 about1) = true
  refine all_split ?_ w_codes
  rw [w_t1]
set_option maxRecDepth 65536 in
theorem w_case : (Jvm.Cond.and given_1 narrow_1).before args0 about1 = true := by decide +kernel
theorem w_applies : (headSpec (Jvm.Cond.code x code maxLocals ret :: tables_1) room_1).applies x e0.platform about1 = true :=
  (Spec.applies_iff w_frames).mpr ⟨w_running, w_runnable, w_alone, w_named, w_hears, w_ripe, w_room, w_tables⟩
theorem atStart : AtStart classFile x code maxLocals ret World_1 tables_1 room_1 Calls_1 rest_1 Pre_1 launch0 p0 e0 about1 theMethod args0 below0 :=
  ⟨lists_1, trivial, launch0.admits_env _ _ _, launch0.least_env, fairChoices_fair.cas, fairChoices_fair.clock, w_frames, w_args, w_heap, w_applies, trivial, trivial, w_case⟩
end start1
theorem witness_1 : WitnessClaimed_1 := ⟨start1.p0, start1.e0, start1.about1, start1.theMethod, start1.args0, start1.below0, start1.atStart⟩
end Jvm.Pilot.@@N@@
