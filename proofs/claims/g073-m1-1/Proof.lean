import JvmDerived
import JvmDerived.Pilot.@@N@@Statement
import JvmDerived.Pilot.@@N@@Code
set_option linter.unusedVariables false
set_option linter.unusedSimpArgs false
@@BLOCK:NumsL.lean.txt@@
namespace Jvm.RoadKit
open Sem ClassFile Op Lib Jvm.Stand Jvm.Free Jvm.LawKit
section New
variable {p : Program} {l : Launch} {e : Env} {R : Room} {s : State} {m : MethodId} {args : Array Value} {below : List Frame} {meth : Method} {c : Code} {T : State} {locs : List Loc} {cells slots : Nat}
theorem retI (X : Stand p l e R s m args below meth c T locs cells slots) (hx : p.tables.exec = Jvm.exec) {pc : Nat} {Ls : Array Slot} {z : Int32} {rest : List Value} (hret : meth.sig.returnType = some .int) (hd : decode c.code pc = .ok (.ireturn, 1)) {fs : List Frame}
    (hl : ∀ (f : JFrame) (acts : List Action), f.method = m → f.locked = none → f.entered = [] → (doReturn e (T.setTop f) acts (some (.int z))).1 = T.setFrames fs) : Steps p.tables e below (T.setTop (mkF m pc Ls (.int z :: rest))) (T.setFrames fs) := by
  have hm' : T.vm.method? m = some meth := X.method'
  have hn : narrow .int (.int z) = .int z := rfl
  show Steps p.tables e below (T.setTop { method := m, pc := pc, locals := Ls, stack := _ :: rest, locked := none }) _
  jvm_step X.here [X.here.top, hx, hd, hm', hret, hn]
  first | (intro acts; rw [hl _ acts rfl rfl rfl]) | rw [hl _ _ rfl rfl rfl]
  exact Steps.refl _
end New
end Jvm.RoadKit
namespace Jvm.Pilot.@@N@@
open Jvm Jvm.ClassFile Sem Op Lib Jvm.Free Jvm.Stand Jvm.LawKit Jvm.RoadKit Bundle Jvm.Pilot.@@N@@.Jvm.D
section OwnBase
variable {p : Program} {l : Launch} {e : Env} {R : Room} {s : State} {m : MethodId} {args : Array Value} {below : List Frame} {meth : Method} {c : Code} {T : State} {h : Heap} {locs : List Loc} {cells slots : Nat} {Z : State} {a0 : Array Value} {own nm : String} {bytes : ByteArray} {mx : Nat} {rt : Option FieldType} {K : State → Outcome → Prop} {pc pc' : Nat} {Ls : Array Slot} {rest : List Value}
/-- the run from S comes to an end that is as K says -/
def own_Go (p : Program) (e : Env) (below : List Frame) (K : State → Outcome → Prop) (S : State) : Prop :=
  ∃ t o, Steps p.tables e below S t ∧ t.status = .running ∧ Ended t below o ∧ K t o
def own_K (s : State) (Q : Option Value → Heap → List Loc → Prop) (kc ks : Nat) (t : State) (o : Outcome) : Prop :=
  ∃ v L, o = .returned v ∧ Q v t.heap L ∧ FrameEnd s o t L kc ks
/-- the walk stands: all that a step asks, in one word -/
def own_S (Z : State) (own nm : String) (bytes : ByteArray) (mx : Nat) (rt : Option FieldType) (p : Program) (l : Launch) (e : Env) (R : Room) (s : State) (m : MethodId) (args : Array Value) (below : List Frame) (meth : Method) (c : Code) (T : State) (h : Heap) (locs : List Loc) (cells slots : Nat) : Prop :=
  Stand p l e R s m args below meth c T locs cells slots ∧ p.tables.exec = Jvm.exec ∧ c.code = bytes ∧ c.maxLocals = mx ∧ s.vm.findClass own = some m.cls ∧ Z.Warmed39 s.vm ∧ meth.sig.returnType = rt ∧ meth.locks = false ∧ T.heap = h ∧ meth.name = nm
theorem own_S.st (P : own_S Z own nm bytes mx rt p l e R s m args below meth c T h locs cells slots) : Stand p l e R s m args below meth c T locs cells slots := P.1
theorem own_S.ex (P : own_S Z own nm bytes mx rt p l e R s m args below meth c T h locs cells slots) : p.tables.exec = Jvm.exec := P.2.1
theorem own_S.cd (P : own_S Z own nm bytes mx rt p l e R s m args below meth c T h locs cells slots) {pc : Nat} {r : Except ClassFile.DecodeError (ClassFile.Instr × Nat)} (hd : decode bytes pc = r) : decode c.code pc = r := hb P.2.2.1 hd
theorem own_S.ml (P : own_S Z own nm bytes mx rt p l e R s m args below meth c T h locs cells slots) : c.maxLocals = mx := P.2.2.2.1
theorem own_S.ow (P : own_S Z own nm bytes mx rt p l e R s m args below meth c T h locs cells slots) : s.vm.findClass own = some m.cls := P.2.2.2.2.1
theorem own_S.wz (P : own_S Z own nm bytes mx rt p l e R s m args below meth c T h locs cells slots) : Z.Warmed39 s.vm := P.2.2.2.2.2.1
theorem own_S.rty (P : own_S Z own nm bytes mx rt p l e R s m args below meth c T h locs cells slots) : meth.sig.returnType = rt := P.2.2.2.2.2.2.1
theorem own_S.lk (P : own_S Z own nm bytes mx rt p l e R s m args below meth c T h locs cells slots) : meth.locks = false := P.2.2.2.2.2.2.2.1
theorem own_S.hp (P : own_S Z own nm bytes mx rt p l e R s m args below meth c T h locs cells slots) : T.heap = h := P.2.2.2.2.2.2.2.2.1
theorem own_S.nmm (P : own_S Z own nm bytes mx rt p l e R s m args below meth c T h locs cells slots) : meth.name = nm := P.2.2.2.2.2.2.2.2.2
theorem own_S.move (P : own_S Z own nm bytes mx rt p l e R s m args below meth c T h locs cells slots) {T' : State} {h' : Heap} {locs' : List Loc} {cells' slots' : Nat} (X : Stand p l e R s m args below meth c T' locs' cells' slots') (eh : T'.heap = h') : own_S Z own nm bytes mx rt p l e R s m args below meth c T' h' locs' cells' slots' :=
  ⟨X, P.2.1, P.2.2.1, P.2.2.2.1, P.2.2.2.2.1, P.2.2.2.2.2.1, P.2.2.2.2.2.2.1, P.2.2.2.2.2.2.2.1, eh, P.2.2.2.2.2.2.2.2.2⟩
theorem own_st {S S' : State} (h : ∀ t, Steps p.tables e below S' t → Steps p.tables e below S t) (k : own_Go p e below K S') : own_Go p e below K S := by
  obtain ⟨t, o, h1, h2⟩ := k
  exact ⟨t, o, h t h1, h2⟩

theorem own_iadd (P : own_S Z own nm bytes mx rt p l e R s m args below meth c T h locs cells slots) {x y : Int32} (hd : decode bytes pc = .ok (.iadd, 1)) (hp : pc + 1 = pc')
    (k : own_Go p e below K (T.setTop (mkF m pc' Ls (.int (x + y) :: rest)))) : own_Go p e below K (T.setTop (mkF m pc Ls (.int y :: .int x :: rest))) := by
  subst hp
  exact own_st (fun t k => XS.iadd P.st.here P.ex rfl (P.cd hd) rfl k) k
theorem own_isub (P : own_S Z own nm bytes mx rt p l e R s m args below meth c T h locs cells slots) {x y : Int32} (hd : decode bytes pc = .ok (.isub, 1)) (hp : pc + 1 = pc')
    (k : own_Go p e below K (T.setTop (mkF m pc' Ls (.int (x - y) :: rest)))) : own_Go p e below K (T.setTop (mkF m pc Ls (.int y :: .int x :: rest))) := by
  subst hp
  exact own_st (fun t k => XS.isub P.st.here P.ex rfl (P.cd hd) rfl k) k
theorem own_imul (P : own_S Z own nm bytes mx rt p l e R s m args below meth c T h locs cells slots) {x y : Int32} (hd : decode bytes pc = .ok (.imul, 1)) (hp : pc + 1 = pc')
    (k : own_Go p e below K (T.setTop (mkF m pc' Ls (.int (x * y) :: rest)))) : own_Go p e below K (T.setTop (mkF m pc Ls (.int y :: .int x :: rest))) := by
  subst hp
  exact own_st (fun t k => XS.imul P.st.here P.ex rfl (P.cd hd) rfl k) k
theorem own_iand (P : own_S Z own nm bytes mx rt p l e R s m args below meth c T h locs cells slots) {x y : Int32} (hd : decode bytes pc = .ok (.iand, 1)) (hp : pc + 1 = pc')
    (k : own_Go p e below K (T.setTop (mkF m pc' Ls (.int (x &&& y) :: rest)))) : own_Go p e below K (T.setTop (mkF m pc Ls (.int y :: .int x :: rest))) := by
  subst hp
  exact own_st (fun t k => XS.iand P.st.here P.ex rfl (P.cd hd) rfl k) k
theorem own_ior (P : own_S Z own nm bytes mx rt p l e R s m args below meth c T h locs cells slots) {x y : Int32} (hd : decode bytes pc = .ok (.ior, 1)) (hp : pc + 1 = pc')
    (k : own_Go p e below K (T.setTop (mkF m pc' Ls (.int (x ||| y) :: rest)))) : own_Go p e below K (T.setTop (mkF m pc Ls (.int y :: .int x :: rest))) := by
  subst hp
  exact own_st (fun t k => XS.ior P.st.here P.ex rfl (P.cd hd) rfl k) k
theorem own_ixor (P : own_S Z own nm bytes mx rt p l e R s m args below meth c T h locs cells slots) {x y : Int32} (hd : decode bytes pc = .ok (.ixor, 1)) (hp : pc + 1 = pc')
    (k : own_Go p e below K (T.setTop (mkF m pc' Ls (.int (x ^^^ y) :: rest)))) : own_Go p e below K (T.setTop (mkF m pc Ls (.int y :: .int x :: rest))) := by
  subst hp
  exact own_st (fun t k => XS.ixor P.st.here P.ex rfl (P.cd hd) rfl k) k
theorem own_idiv (P : own_S Z own nm bytes mx rt p l e R s m args below meth c T h locs cells slots) {x y : Int32} (hd : decode bytes pc = .ok (.idiv, 1)) (hp : pc + 1 = pc') (hy : y ≠ 0)
    (k : own_Go p e below K (T.setTop (mkF m pc' Ls (.int (x / y) :: rest)))) : own_Go p e below K (T.setTop (mkF m pc Ls (.int y :: .int x :: rest))) := by
  subst hp
  exact own_st (fun t k => XS.idiv P.st.here P.ex rfl (P.cd hd) rfl hy k) k
theorem own_irem (P : own_S Z own nm bytes mx rt p l e R s m args below meth c T h locs cells slots) {x y : Int32} (hd : decode bytes pc = .ok (.irem, 1)) (hp : pc + 1 = pc') (hy : y ≠ 0)
    (k : own_Go p e below K (T.setTop (mkF m pc' Ls (.int (x - (x / y) * y) :: rest)))) : own_Go p e below K (T.setTop (mkF m pc Ls (.int y :: .int x :: rest))) := by
  subst hp
  exact own_st (fun t k => XS.irem P.st.here P.ex rfl (P.cd hd) rfl hy k) k
theorem own_ladd (P : own_S Z own nm bytes mx rt p l e R s m args below meth c T h locs cells slots) {x y : Int64} (hd : decode bytes pc = .ok (.ladd, 1)) (hp : pc + 1 = pc')
    (k : own_Go p e below K (T.setTop (mkF m pc' Ls (.long (x + y) :: rest)))) : own_Go p e below K (T.setTop (mkF m pc Ls (.long y :: .long x :: rest))) := by
  subst hp
  exact own_st (fun t k => XS.ladd P.st.here P.ex rfl (P.cd hd) rfl k) k
theorem own_lsub (P : own_S Z own nm bytes mx rt p l e R s m args below meth c T h locs cells slots) {x y : Int64} (hd : decode bytes pc = .ok (.lsub, 1)) (hp : pc + 1 = pc')
    (k : own_Go p e below K (T.setTop (mkF m pc' Ls (.long (x - y) :: rest)))) : own_Go p e below K (T.setTop (mkF m pc Ls (.long y :: .long x :: rest))) := by
  subst hp
  exact own_st (fun t k => XS.lsub P.st.here P.ex rfl (P.cd hd) rfl k) k
theorem own_lmul (P : own_S Z own nm bytes mx rt p l e R s m args below meth c T h locs cells slots) {x y : Int64} (hd : decode bytes pc = .ok (.lmul, 1)) (hp : pc + 1 = pc')
    (k : own_Go p e below K (T.setTop (mkF m pc' Ls (.long (x * y) :: rest)))) : own_Go p e below K (T.setTop (mkF m pc Ls (.long y :: .long x :: rest))) := by
  subst hp
  exact own_st (fun t k => XS.lmul P.st.here P.ex rfl (P.cd hd) rfl k) k
theorem own_land (P : own_S Z own nm bytes mx rt p l e R s m args below meth c T h locs cells slots) {x y : Int64} (hd : decode bytes pc = .ok (.land, 1)) (hp : pc + 1 = pc')
    (k : own_Go p e below K (T.setTop (mkF m pc' Ls (.long (x &&& y) :: rest)))) : own_Go p e below K (T.setTop (mkF m pc Ls (.long y :: .long x :: rest))) := by
  subst hp
  exact own_st (fun t k => XS.land P.st.here P.ex rfl (P.cd hd) rfl k) k
theorem own_lor (P : own_S Z own nm bytes mx rt p l e R s m args below meth c T h locs cells slots) {x y : Int64} (hd : decode bytes pc = .ok (.lor, 1)) (hp : pc + 1 = pc')
    (k : own_Go p e below K (T.setTop (mkF m pc' Ls (.long (x ||| y) :: rest)))) : own_Go p e below K (T.setTop (mkF m pc Ls (.long y :: .long x :: rest))) := by
  subst hp
  exact own_st (fun t k => XS.lor P.st.here P.ex rfl (P.cd hd) rfl k) k
theorem own_lxor (P : own_S Z own nm bytes mx rt p l e R s m args below meth c T h locs cells slots) {x y : Int64} (hd : decode bytes pc = .ok (.lxor, 1)) (hp : pc + 1 = pc')
    (k : own_Go p e below K (T.setTop (mkF m pc' Ls (.long (x ^^^ y) :: rest)))) : own_Go p e below K (T.setTop (mkF m pc Ls (.long y :: .long x :: rest))) := by
  subst hp
  exact own_st (fun t k => XS.lxor P.st.here P.ex rfl (P.cd hd) rfl k) k
theorem own_ldiv (P : own_S Z own nm bytes mx rt p l e R s m args below meth c T h locs cells slots) {x y : Int64} (hd : decode bytes pc = .ok (.ldiv, 1)) (hp : pc + 1 = pc') (hy : y ≠ 0)
    (k : own_Go p e below K (T.setTop (mkF m pc' Ls (.long (x / y) :: rest)))) : own_Go p e below K (T.setTop (mkF m pc Ls (.long y :: .long x :: rest))) := by
  subst hp
  exact own_st (fun t k => XS.ldiv P.st.here P.ex rfl (P.cd hd) rfl hy k) k
theorem own_lrem (P : own_S Z own nm bytes mx rt p l e R s m args below meth c T h locs cells slots) {x y : Int64} (hd : decode bytes pc = .ok (.lrem, 1)) (hp : pc + 1 = pc') (hy : y ≠ 0)
    (k : own_Go p e below K (T.setTop (mkF m pc' Ls (.long (x - (x / y) * y) :: rest)))) : own_Go p e below K (T.setTop (mkF m pc Ls (.long y :: .long x :: rest))) := by
  subst hp
  exact own_st (fun t k => XS.lrem P.st.here P.ex rfl (P.cd hd) rfl hy k) k
theorem own_ishl (P : own_S Z own nm bytes mx rt p l e R s m args below meth c T h locs cells slots) {x y : Int32} (hd : decode bytes pc = .ok (.ishl, 1)) (hp : pc + 1 = pc')
    (k : own_Go p e below K (T.setTop (mkF m pc' Ls (.int (x <<< (y &&& 31)) :: rest)))) : own_Go p e below K (T.setTop (mkF m pc Ls (.int y :: .int x :: rest))) := by
  subst hp
  exact own_st (fun t k => XS.ishl P.st.here P.ex rfl (P.cd hd) rfl k) k
theorem own_ishr (P : own_S Z own nm bytes mx rt p l e R s m args below meth c T h locs cells slots) {x y : Int32} (hd : decode bytes pc = .ok (.ishr, 1)) (hp : pc + 1 = pc')
    (k : own_Go p e below K (T.setTop (mkF m pc' Ls (.int (x >>> (y &&& 31)) :: rest)))) : own_Go p e below K (T.setTop (mkF m pc Ls (.int y :: .int x :: rest))) := by
  subst hp
  exact own_st (fun t k => XS.ishr P.st.here P.ex rfl (P.cd hd) rfl k) k
theorem own_iushr (P : own_S Z own nm bytes mx rt p l e R s m args below meth c T h locs cells slots) {x y : Int32} (hd : decode bytes pc = .ok (.iushr, 1)) (hp : pc + 1 = pc')
    (k : own_Go p e below K (T.setTop (mkF m pc' Ls (.int ((x.toUInt32 >>> (y &&& 31).toUInt32).toInt32) :: rest)))) : own_Go p e below K (T.setTop (mkF m pc Ls (.int y :: .int x :: rest))) := by
  subst hp
  exact own_st (fun t k => XS.iushr P.st.here P.ex rfl (P.cd hd) rfl k) k
theorem own_lshl (P : own_S Z own nm bytes mx rt p l e R s m args below meth c T h locs cells slots) {x : Int64} {y : Int32} (hd : decode bytes pc = .ok (.lshl, 1)) (hp : pc + 1 = pc')
    (k : own_Go p e below K (T.setTop (mkF m pc' Ls (.long (x <<< (y &&& 0x3f).toInt64) :: rest)))) : own_Go p e below K (T.setTop (mkF m pc Ls (.int y :: .long x :: rest))) := by
  subst hp
  exact own_st (fun t k => XS.lshl P.st.here P.ex rfl (P.cd hd) rfl k) k
theorem own_lshr (P : own_S Z own nm bytes mx rt p l e R s m args below meth c T h locs cells slots) {x : Int64} {y : Int32} (hd : decode bytes pc = .ok (.lshr, 1)) (hp : pc + 1 = pc')
    (k : own_Go p e below K (T.setTop (mkF m pc' Ls (.long (x >>> (y &&& 0x3f).toInt64) :: rest)))) : own_Go p e below K (T.setTop (mkF m pc Ls (.int y :: .long x :: rest))) := by
  subst hp
  exact own_st (fun t k => XS.lshr P.st.here P.ex rfl (P.cd hd) rfl k) k
theorem own_lushr (P : own_S Z own nm bytes mx rt p l e R s m args below meth c T h locs cells slots) {x : Int64} {y : Int32} (hd : decode bytes pc = .ok (.lushr, 1)) (hp : pc + 1 = pc')
    (k : own_Go p e below K (T.setTop (mkF m pc' Ls (.long ((x.toUInt64 >>> (y &&& 0x3f).toInt64.toUInt64).toInt64) :: rest)))) : own_Go p e below K (T.setTop (mkF m pc Ls (.int y :: .long x :: rest))) := by
  subst hp
  exact own_st (fun t k => XS.lushr P.st.here P.ex rfl (P.cd hd) rfl k) k
theorem own_i2l (P : own_S Z own nm bytes mx rt p l e R s m args below meth c T h locs cells slots) {x : Int32} (hd : decode bytes pc = .ok (.i2l, 1)) (hp : pc + 1 = pc')
    (k : own_Go p e below K (T.setTop (mkF m pc' Ls (.long (x.toInt64) :: rest)))) : own_Go p e below K (T.setTop (mkF m pc Ls (.int x :: rest))) := by
  subst hp
  exact own_st (fun t k => XS.i2l P.st.here P.ex rfl (P.cd hd) rfl k) k
theorem own_l2i (P : own_S Z own nm bytes mx rt p l e R s m args below meth c T h locs cells slots) {x : Int64} (hd : decode bytes pc = .ok (.l2i, 1)) (hp : pc + 1 = pc')
    (k : own_Go p e below K (T.setTop (mkF m pc' Ls (.int (x.toInt32) :: rest)))) : own_Go p e below K (T.setTop (mkF m pc Ls (.long x :: rest))) := by
  subst hp
  exact own_st (fun t k => XS.l2i P.st.here P.ex rfl (P.cd hd) rfl k) k
theorem own_i2b (P : own_S Z own nm bytes mx rt p l e R s m args below meth c T h locs cells slots) {x : Int32} (hd : decode bytes pc = .ok (.i2b, 1)) (hp : pc + 1 = pc')
    (k : own_Go p e below K (T.setTop (mkF m pc' Ls (.int (x.toInt8.toInt32) :: rest)))) : own_Go p e below K (T.setTop (mkF m pc Ls (.int x :: rest))) := by
  subst hp
  exact own_st (fun t k => XS.i2b P.st.here P.ex rfl (P.cd hd) rfl k) k
theorem own_i2c (P : own_S Z own nm bytes mx rt p l e R s m args below meth c T h locs cells slots) {x : Int32} (hd : decode bytes pc = .ok (.i2c, 1)) (hp : pc + 1 = pc')
    (k : own_Go p e below K (T.setTop (mkF m pc' Ls (.int (x.toUInt32.toUInt16.toUInt32.toInt32) :: rest)))) : own_Go p e below K (T.setTop (mkF m pc Ls (.int x :: rest))) := by
  subst hp
  exact own_st (fun t k => XS.i2c P.st.here P.ex rfl (P.cd hd) rfl k) k
theorem own_i2s (P : own_S Z own nm bytes mx rt p l e R s m args below meth c T h locs cells slots) {x : Int32} (hd : decode bytes pc = .ok (.i2s, 1)) (hp : pc + 1 = pc')
    (k : own_Go p e below K (T.setTop (mkF m pc' Ls (.int (x.toInt16.toInt32) :: rest)))) : own_Go p e below K (T.setTop (mkF m pc Ls (.int x :: rest))) := by
  subst hp
  exact own_st (fun t k => XS.i2s P.st.here P.ex rfl (P.cd hd) rfl k) k
theorem own_lneg (P : own_S Z own nm bytes mx rt p l e R s m args below meth c T h locs cells slots) {x : Int64} (hd : decode bytes pc = .ok (.lneg, 1)) (hp : pc + 1 = pc')
    (k : own_Go p e below K (T.setTop (mkF m pc' Ls (.long (-x) :: rest)))) : own_Go p e below K (T.setTop (mkF m pc Ls (.long x :: rest))) := by
  subst hp
  exact own_st (fun t k => XS.lneg P.st.here P.ex rfl (P.cd hd) rfl k) k
theorem own_ineg (P : own_S Z own nm bytes mx rt p l e R s m args below meth c T h locs cells slots) {x : Int32} (hd : decode bytes pc = .ok (.ineg, 1)) (hp : pc + 1 = pc')
    (k : own_Go p e below K (T.setTop (mkF m pc' Ls (.int (-x) :: rest)))) : own_Go p e below K (T.setTop (mkF m pc Ls (.int x :: rest))) := by
  subst hp
  exact own_st (fun t k => XS.ineg P.st.here P.ex rfl (P.cd hd) rfl k) k
theorem own_iloadN (P : own_S Z own nm bytes mx rt p l e R s m args below meth c T h locs cells slots) {j : Fin 4} {v : Int32} (hd : decode bytes pc = .ok (.iload_n j, 1)) (hp : pc + 1 = pc') (hl : Ls[j.val]? = some (.val (.int v)))
    (k : own_Go p e below K (T.setTop (mkF m pc' Ls (.int v :: rest)))) : own_Go p e below K (T.setTop (mkF m pc Ls rest)) := by
  subst hp
  exact own_st (fun t k => XS.iloadN P.st.here P.ex rfl (P.cd hd) hl k) k
theorem own_iload (P : own_S Z own nm bytes mx rt p l e R s m args below meth c T h locs cells slots) {j : Nat} {v : Int32} (hd : decode bytes pc = .ok (.iload j, 2)) (hp : pc + 2 = pc') (hl : Ls[j]? = some (.val (.int v)))
    (k : own_Go p e below K (T.setTop (mkF m pc' Ls (.int v :: rest)))) : own_Go p e below K (T.setTop (mkF m pc Ls rest)) := by
  subst hp
  exact own_st (fun t k => XS.iload P.st.here P.ex rfl (P.cd hd) hl k) k
theorem own_lloadN (P : own_S Z own nm bytes mx rt p l e R s m args below meth c T h locs cells slots) {j : Fin 4} {v : Int64} (hd : decode bytes pc = .ok (.lload_n j, 1)) (hp : pc + 1 = pc') (hl : Ls[j.val]? = some (.val (.long v)))
    (k : own_Go p e below K (T.setTop (mkF m pc' Ls (.long v :: rest)))) : own_Go p e below K (T.setTop (mkF m pc Ls rest)) := by
  subst hp
  exact own_st (fun t k => XS.lloadN P.st.here P.ex rfl (P.cd hd) hl k) k
theorem own_lload (P : own_S Z own nm bytes mx rt p l e R s m args below meth c T h locs cells slots) {j : Nat} {v : Int64} (hd : decode bytes pc = .ok (.lload j, 2)) (hp : pc + 2 = pc') (hl : Ls[j]? = some (.val (.long v)))
    (k : own_Go p e below K (T.setTop (mkF m pc' Ls (.long v :: rest)))) : own_Go p e below K (T.setTop (mkF m pc Ls rest)) := by
  subst hp
  exact own_st (fun t k => XS.lload P.st.here P.ex rfl (P.cd hd) hl k) k
theorem own_aloadN (P : own_S Z own nm bytes mx rt p l e R s m args below meth c T h locs cells slots) {j : Fin 4} {v : Value} (hd : decode bytes pc = .ok (.aload_n j, 1)) (hp : pc + 1 = pc') (hl : Ls[j.val]? = some (.val v)) (hv : v.isRef = true)
    (k : own_Go p e below K (T.setTop (mkF m pc' Ls (v :: rest)))) : own_Go p e below K (T.setTop (mkF m pc Ls rest)) := by
  subst hp
  exact own_st (fun t k => XS.aloadN P.st.here P.ex rfl (P.cd hd) hl hv k) k
theorem own_aload (P : own_S Z own nm bytes mx rt p l e R s m args below meth c T h locs cells slots) {j : Nat} {v : Value} (hd : decode bytes pc = .ok (.aload j, 2)) (hp : pc + 2 = pc') (hl : Ls[j]? = some (.val v)) (hv : v.isRef = true)
    (k : own_Go p e below K (T.setTop (mkF m pc' Ls (v :: rest)))) : own_Go p e below K (T.setTop (mkF m pc Ls rest)) := by
  subst hp
  exact own_st (fun t k => XS.aload P.st.here P.ex rfl (P.cd hd) hl hv k) k
theorem own_istoreN (P : own_S Z own nm bytes mx rt p l e R s m args below meth c T h locs cells slots) {j : Fin 4} {v : Int32} {Ls' : Array Slot} (hd : decode bytes pc = .ok (.istore_n j, 1)) (hp : pc + 1 = pc') (hl : storeLocals Ls j.val (.int v) = some Ls')
    (k : own_Go p e below K (T.setTop (mkF m pc' Ls' rest))) : own_Go p e below K (T.setTop (mkF m pc Ls (.int v :: rest))) := by
  subst hp
  exact own_st (fun t k => XS.istoreN P.st.here P.ex rfl (P.cd hd) rfl hl k) k
theorem own_istore (P : own_S Z own nm bytes mx rt p l e R s m args below meth c T h locs cells slots) {j : Nat} {v : Int32} {Ls' : Array Slot} (hd : decode bytes pc = .ok (.istore j, 2)) (hp : pc + 2 = pc') (hl : storeLocals Ls j (.int v) = some Ls')
    (k : own_Go p e below K (T.setTop (mkF m pc' Ls' rest))) : own_Go p e below K (T.setTop (mkF m pc Ls (.int v :: rest))) := by
  subst hp
  exact own_st (fun t k => XS.istore P.st.here P.ex rfl (P.cd hd) rfl hl k) k
theorem own_lstoreN (P : own_S Z own nm bytes mx rt p l e R s m args below meth c T h locs cells slots) {j : Fin 4} {v : Int64} {Ls' : Array Slot} (hd : decode bytes pc = .ok (.lstore_n j, 1)) (hp : pc + 1 = pc') (hl : storeLocals Ls j.val (.long v) = some Ls')
    (k : own_Go p e below K (T.setTop (mkF m pc' Ls' rest))) : own_Go p e below K (T.setTop (mkF m pc Ls (.long v :: rest))) := by
  subst hp
  exact own_st (fun t k => XS.lstoreN P.st.here P.ex rfl (P.cd hd) rfl hl k) k
theorem own_lstore (P : own_S Z own nm bytes mx rt p l e R s m args below meth c T h locs cells slots) {j : Nat} {v : Int64} {Ls' : Array Slot} (hd : decode bytes pc = .ok (.lstore j, 2)) (hp : pc + 2 = pc') (hl : storeLocals Ls j (.long v) = some Ls')
    (k : own_Go p e below K (T.setTop (mkF m pc' Ls' rest))) : own_Go p e below K (T.setTop (mkF m pc Ls (.long v :: rest))) := by
  subst hp
  exact own_st (fun t k => XS.lstore P.st.here P.ex rfl (P.cd hd) rfl hl k) k
theorem own_astoreN (P : own_S Z own nm bytes mx rt p l e R s m args below meth c T h locs cells slots) {j : Fin 4} {v : Value} {Ls' : Array Slot} (hd : decode bytes pc = .ok (.astore_n j, 1)) (hp : pc + 1 = pc') (hv : v.isRef = true) (hl : storeLocals Ls j.val v = some Ls')
    (k : own_Go p e below K (T.setTop (mkF m pc' Ls' rest))) : own_Go p e below K (T.setTop (mkF m pc Ls (v :: rest))) := by
  subst hp
  exact own_st (fun t k => XS.astoreN P.st.here P.ex rfl (P.cd hd) rfl hv hl k) k
theorem own_astore (P : own_S Z own nm bytes mx rt p l e R s m args below meth c T h locs cells slots) {j : Nat} {v : Value} {Ls' : Array Slot} (hd : decode bytes pc = .ok (.astore j, 2)) (hp : pc + 2 = pc') (hv : v.isRef = true) (hl : storeLocals Ls j v = some Ls')
    (k : own_Go p e below K (T.setTop (mkF m pc' Ls' rest))) : own_Go p e below K (T.setTop (mkF m pc Ls (v :: rest))) := by
  subst hp
  exact own_st (fun t k => XS.astore P.st.here P.ex rfl (P.cd hd) rfl hv hl k) k
theorem own_iconst (P : own_S Z own nm bytes mx rt p l e R s m args below meth c T h locs cells slots) {i : Int} {v : Int32} (hd : decode bytes pc = .ok (.iconst i, 1)) (hp : pc + 1 = pc') (hv : Int32.ofInt i = v)
    (k : own_Go p e below K (T.setTop (mkF m pc' Ls (.int v :: rest)))) : own_Go p e below K (T.setTop (mkF m pc Ls rest)) := by
  subst hp
  exact own_st (fun t k => XS.iconst P.st.here P.ex rfl (P.cd hd) (by rw [hv]; exact k)) k
theorem own_bipush (P : own_S Z own nm bytes mx rt p l e R s m args below meth c T h locs cells slots) {i : Int} {v : Int32} (hd : decode bytes pc = .ok (.bipush i, 2)) (hp : pc + 2 = pc') (hv : (Int8.ofInt i).toInt32 = v)
    (k : own_Go p e below K (T.setTop (mkF m pc' Ls (.int v :: rest)))) : own_Go p e below K (T.setTop (mkF m pc Ls rest)) := by
  subst hp
  exact own_st (fun t k => XS.bipush P.st.here P.ex rfl (P.cd hd) (by rw [hv]; exact k)) k
theorem own_sipush (P : own_S Z own nm bytes mx rt p l e R s m args below meth c T h locs cells slots) {i : Int} {v : Int32} (hd : decode bytes pc = .ok (.sipush i, 3)) (hp : pc + 3 = pc') (hv : (Int16.ofInt i).toInt32 = v)
    (k : own_Go p e below K (T.setTop (mkF m pc' Ls (.int v :: rest)))) : own_Go p e below K (T.setTop (mkF m pc Ls rest)) := by
  subst hp
  exact own_st (fun t k => XS.sipush P.st.here P.ex rfl (P.cd hd) (by rw [hv]; exact k)) k
theorem own_lconst (P : own_S Z own nm bytes mx rt p l e R s m args below meth c T h locs cells slots) {j : Fin 2} {v : Int64} (hd : decode bytes pc = .ok (.lconst j, 1)) (hp : pc + 1 = pc') (hv : Int64.ofNat j = v)
    (k : own_Go p e below K (T.setTop (mkF m pc' Ls (.long v :: rest)))) : own_Go p e below K (T.setTop (mkF m pc Ls rest)) := by
  subst hp
  exact own_st (fun t k => XS.lconst P.st.here P.ex rfl (P.cd hd) (by rw [hv]; exact k)) k
theorem own_aconstNull (P : own_S Z own nm bytes mx rt p l e R s m args below meth c T h locs cells slots)  (hd : decode bytes pc = .ok (.aconst_null, 1)) (hp : pc + 1 = pc')
    (k : own_Go p e below K (T.setTop (mkF m pc' Ls (.null :: rest)))) : own_Go p e below K (T.setTop (mkF m pc Ls rest)) := by
  subst hp
  exact own_st (fun t k => XS.aconstNull P.st.here P.ex rfl (P.cd hd) k) k
theorem own_iinc (P : own_S Z own nm bytes mx rt p l e R s m args below meth c T h locs cells slots) {j : Nat} {i : Int} {x v : Int32} {Ls' : Array Slot} (hd : decode bytes pc = .ok (.iinc j i, 3)) (hp : pc + 3 = pc') (hl : Ls[j]? = some (.val (.int x))) (hv : Int32.ofInt i = v) (hl' : storeLocals Ls j (.int (x + v)) = some Ls')
    (k : own_Go p e below K (T.setTop (mkF m pc' Ls' rest))) : own_Go p e below K (T.setTop (mkF m pc Ls rest)) := by
  subst hp
  exact own_st (fun t k => XS.iinc P.st.here P.ex rfl (P.cd hd) hl (by rw [hv]; exact hl') k) k
theorem own_dup (P : own_S Z own nm bytes mx rt p l e R s m args below meth c T h locs cells slots) {v : Value} (hd : decode bytes pc = .ok (.dup, 1)) (hp : pc + 1 = pc') (hc : v.category = 1)
    (k : own_Go p e below K (T.setTop (mkF m pc' Ls (v :: v :: rest)))) : own_Go p e below K (T.setTop (mkF m pc Ls (v :: rest))) := by
  subst hp
  exact own_st (fun t k => XS.dup P.st.here P.ex rfl (P.cd hd) rfl hc k) k
theorem own_dupX1 (P : own_S Z own nm bytes mx rt p l e R s m args below meth c T h locs cells slots) {v u : Value} (hd : decode bytes pc = .ok (.dup_x1, 1)) (hp : pc + 1 = pc') (hc : v.category = 1) (hc' : u.category = 1)
    (k : own_Go p e below K (T.setTop (mkF m pc' Ls (v :: u :: v :: rest)))) : own_Go p e below K (T.setTop (mkF m pc Ls (v :: u :: rest))) := by
  subst hp
  exact own_st (fun t k => XS.dupX1 P.st.here P.ex rfl (P.cd hd) rfl hc hc' k) k
theorem own_pop (P : own_S Z own nm bytes mx rt p l e R s m args below meth c T h locs cells slots) {v : Value} (hd : decode bytes pc = .ok (.pop, 1)) (hp : pc + 1 = pc') (hc : v.category = 1)
    (k : own_Go p e below K (T.setTop (mkF m pc' Ls rest))) : own_Go p e below K (T.setTop (mkF m pc Ls (v :: rest))) := by
  subst hp
  exact own_st (fun t k => XS.pop P.st.here P.ex rfl (P.cd hd) rfl hc k) k
theorem own_goto (P : own_S Z own nm bytes mx rt p l e R s m args below meth c T h locs cells slots) {o : Int} (hd : decode bytes pc = .ok (.goto o, 3)) (ho : 0 ≤ (pc : Int) + o) (hp : ((pc : Int) + o).toNat = pc')
    (k : own_Go p e below K (T.setTop (mkF m pc' Ls rest))) : own_Go p e below K (T.setTop (mkF m pc Ls rest)) := own_st (fun t k => XS.goto P.st.here P.ex rfl rfl (P.cd hd) ho hp k) k
/-- what a branch asks of two ints, of two longs -/
def own_ci (cd : ClassFile.Cond) (x y : Int32) : Prop := match cd with | .eq => x = y | .ne => ¬ x = y | .lt => x < y | .ge => ¬ x < y | .gt => y < x | .le => ¬ y < x
def own_cl (cd : ClassFile.Cond) (x y : Int64) : Prop := match cd with | .eq => x = y | .ne => ¬ x = y | .lt => x < y | .ge => ¬ x < y | .gt => y < x | .le => ¬ y < x
theorem own_ciY {cd : ClassFile.Cond} {x y : Int32} (q : own_ci cd x y) : if_icmp.holds cd x y = true := by
  cases cd
  · exact (teq q).1
  · exact (feq q).2
  · exact (tlt q).1
  · exact (flt q).2.1
  · exact (tlt q).2.2.1
  · exact (flt q).2.2.2
theorem own_ciN {cd : ClassFile.Cond} {x y : Int32} (q : ¬ own_ci cd x y) : if_icmp.holds cd x y = false := by
  cases cd
  · exact (feq q).1
  · exact (teq (Classical.not_not.mp q)).2
  · exact (flt q).1
  · exact (tlt (Classical.not_not.mp q)).2.1
  · exact (flt q).2.2.1
  · exact (tlt (Classical.not_not.mp q)).2.2.2
theorem own_clY {cd : ClassFile.Cond} {x y : Int64} (q : own_cl cd x y) : own_ci cd (lcmpW x y) 0 := by
  rw [lcW]
  cases cd
  · exact (lc_eq x y).mpr q
  · exact fun r => q ((lc_eq x y).mp r)
  · exact (lc_lt x y).mpr q
  · exact fun r => q ((lc_lt x y).mp r)
  · exact (lc_gt x y).mpr q
  · exact fun r => q ((lc_gt x y).mp r)
theorem own_clN {cd : ClassFile.Cond} {x y : Int64} (q : ¬ own_cl cd x y) : ¬ own_ci cd (lcmpW x y) 0 := by
  rw [lcW]
  cases cd
  · exact fun r => q ((lc_eq x y).mp r)
  · exact fun r => q fun z => r ((lc_eq x y).mpr z)
  · exact fun r => q ((lc_lt x y).mp r)
  · exact fun r => q fun z => r ((lc_lt x y).mpr z)
  · exact fun r => q ((lc_gt x y).mp r)
  · exact fun r => q fun z => r ((lc_gt x y).mpr z)
theorem own_icmpY (P : own_S Z own nm bytes mx rt p l e R s m args below meth c T h locs cells slots) {cd : ClassFile.Cond} {o : Int} {x y : Int32} (hd : decode bytes pc = .ok (.if_icmp cd o, 3)) (q : own_ci cd x y) (ho : 0 ≤ (pc : Int) + o) (hp : ((pc : Int) + o).toNat = pc')
    (k : own_Go p e below K (T.setTop (mkF m pc' Ls rest))) : own_Go p e below K (T.setTop (mkF m pc Ls (.int y :: .int x :: rest))) := own_st (fun t k => XS.icmpYes P.st.here P.ex rfl rfl (P.cd hd) rfl (own_ciY q) ho hp k) k
theorem own_icmpN (P : own_S Z own nm bytes mx rt p l e R s m args below meth c T h locs cells slots) {cd : ClassFile.Cond} {o : Int} {x y : Int32} (hd : decode bytes pc = .ok (.if_icmp cd o, 3)) (q : ¬ own_ci cd x y) (hp : pc + 3 = pc')
    (k : own_Go p e below K (T.setTop (mkF m pc' Ls rest))) : own_Go p e below K (T.setTop (mkF m pc Ls (.int y :: .int x :: rest))) := by
  subst hp
  exact own_st (fun t k => XS.icmpNo P.st.here P.ex rfl (P.cd hd) rfl (own_ciN q) k) k
theorem own_if0Y (P : own_S Z own nm bytes mx rt p l e R s m args below meth c T h locs cells slots) {cd : ClassFile.Cond} {o : Int} {x : Int32} (hd : decode bytes pc = .ok (.ifCond cd o, 3)) (q : own_ci cd x 0) (ho : 0 ≤ (pc : Int) + o) (hp : ((pc : Int) + o).toNat = pc')
    (k : own_Go p e below K (T.setTop (mkF m pc' Ls rest))) : own_Go p e below K (T.setTop (mkF m pc Ls (.int x :: rest))) := own_st (fun t k => XS.ifYes P.st.here P.ex rfl rfl (P.cd hd) rfl ((if0 _ _).trans (own_ciY q)) ho hp k) k
theorem own_if0N (P : own_S Z own nm bytes mx rt p l e R s m args below meth c T h locs cells slots) {cd : ClassFile.Cond} {o : Int} {x : Int32} (hd : decode bytes pc = .ok (.ifCond cd o, 3)) (q : ¬ own_ci cd x 0) (hp : pc + 3 = pc')
    (k : own_Go p e below K (T.setTop (mkF m pc' Ls rest))) : own_Go p e below K (T.setTop (mkF m pc Ls (.int x :: rest))) := by
  subst hp
  exact own_st (fun t k => XS.ifNo P.st.here P.ex rfl (P.cd hd) rfl ((if0 _ _).trans (own_ciN q)) k) k
theorem own_lcmp (P : own_S Z own nm bytes mx rt p l e R s m args below meth c T h locs cells slots) {x y : Int64} (hd : decode bytes pc = .ok (.lcmp, 1)) (hp : pc + 1 = pc')
    (k : own_Go p e below K (T.setTop (mkF m pc' Ls (.int (lcmpW x y) :: rest)))) : own_Go p e below K (T.setTop (mkF m pc Ls (.long y :: .long x :: rest))) := by
  subst hp
  exact own_st (fun t k => XS.lcmp P.st.here P.ex rfl (P.cd hd) rfl k) k
theorem own_lcY (P : own_S Z own nm bytes mx rt p l e R s m args below meth c T h locs cells slots) {cd : ClassFile.Cond} {o : Int} {x y : Int64} (hd : decode bytes pc = .ok (.lcmp, 1)) (hd2 : decode bytes (pc + 1) = .ok (.ifCond cd o, 3)) (q : own_cl cd x y) (ho : 0 ≤ ((pc + 1 : Nat) : Int) + o) (hp : (((pc + 1 : Nat) : Int) + o).toNat = pc')
    (k : own_Go p e below K (T.setTop (mkF m pc' Ls rest))) : own_Go p e below K (T.setTop (mkF m pc Ls (.long y :: .long x :: rest))) :=
  own_lcmp P hd rfl (own_if0Y P hd2 (own_clY q) ho hp k)
theorem own_lcN (P : own_S Z own nm bytes mx rt p l e R s m args below meth c T h locs cells slots) {cd : ClassFile.Cond} {o : Int} {x y : Int64} (hd : decode bytes pc = .ok (.lcmp, 1)) (hd2 : decode bytes (pc + 1) = .ok (.ifCond cd o, 3)) (q : ¬ own_cl cd x y) (hp : pc + 1 + 3 = pc')
    (k : own_Go p e below K (T.setTop (mkF m pc' Ls rest))) : own_Go p e below K (T.setTop (mkF m pc Ls (.long y :: .long x :: rest))) :=
  own_lcmp P hd rfl (own_if0N P hd2 (own_clN q) hp k)

theorem own_ldc (P : own_S Z own nm bytes mx rt p l e R s m args below meth c T h locs cells slots) {idx : Nat} {v : Int32} (wc : (Cond.constant own idx v).before a0 Z = true) (hd : decode bytes pc = .ok (.ldc idx, 2)) (hp : pc + 2 = pc')
    (k : own_Go p e below K (T.setTop (mkF m pc' Ls (.int v :: rest)))) : own_Go p e below K (T.setTop (mkF m pc Ls rest)) := by
  subst hp
  exact own_st (fun t k => P.st.ldcInt P.ex P.ow (mvT P.wz wc) (g := mkF m pc Ls rest) rfl (P.cd hd) t k) k
theorem own_ldcw (P : own_S Z own nm bytes mx rt p l e R s m args below meth c T h locs cells slots) {idx : Nat} {v : Int32} (wc : (Cond.constant own idx v).before a0 Z = true) (hd : decode bytes pc = .ok (.ldc_w idx, 3)) (hp : pc + 3 = pc')
    (k : own_Go p e below K (T.setTop (mkF m pc' Ls (.int v :: rest)))) : own_Go p e below K (T.setTop (mkF m pc Ls rest)) := by
  subst hp
  exact own_st (fun t k => P.st.ldcwInt P.ex P.ow (mvT P.wz wc) (g := mkF m pc Ls rest) rfl (P.cd hd) t k) k
theorem own_ldc2 (P : own_S Z own nm bytes mx rt p l e R s m args below meth c T h locs cells slots) {idx : Nat} {v : Int64} (wc : (Cond.constantLong own idx v).before a0 Z = true) (hd : decode bytes pc = .ok (.ldc2_w idx, 3)) (hp : pc + 3 = pc')
    (k : own_Go p e below K (T.setTop (mkF m pc' Ls (.long v :: rest)))) : own_Go p e below K (T.setTop (mkF m pc Ls rest)) := by
  subst hp
  exact own_st (fun t k => P.st.ldc2Long P.ex P.ow (mvT P.wz wc) (g := mkF m pc Ls rest) rfl (P.cd hd) t k) k

theorem own_retL {Q : Option Value → Heap → List Loc → Prop} {kc ks : Nat} (P : own_S Z own nm bytes mx (some .long) p l e R s m args below meth c T h locs cells slots) {v : Int64} (hd : decode bytes pc = .ok (.lreturn, 1)) (hc : cells ≤ kc) (hs : slots ≤ ks) (hq : Q (some (.long v)) h locs) :
    own_Go p e below (own_K s Q kc ks) (T.setTop (mkF m pc Ls [(.long v)])) := by
  obtain ⟨X, hx, hby, hml, hown, hZ, hr0, hlk, hh, -⟩ := P
  obtain ⟨fs, hr, hrun, hended, hW, hsame⟩ := X.leave (v := some (.long v)) (fun h => by rw [hr0] at h; cases h) hlk
  refine ⟨_, _, X.lreturnOut hx hr0 (hb hby hd) hr, hrun, hended, _, _, rfl, ?_, ⟨_, rfl⟩, hW, hsame.mono hc hs⟩
  rw [← hh] at hq
  exact hq
theorem own_retI {Q : Option Value → Heap → List Loc → Prop} {kc ks : Nat} (P : own_S Z own nm bytes mx (some .int) p l e R s m args below meth c T h locs cells slots) {v : Int32} (hd : decode bytes pc = .ok (.ireturn, 1)) (hc : cells ≤ kc) (hs : slots ≤ ks) (hq : Q (some (.int v)) h locs) :
    own_Go p e below (own_K s Q kc ks) (T.setTop (mkF m pc Ls [(.int v)])) := by
  obtain ⟨X, hx, hby, hml, hown, hZ, hr0, hlk, hh, -⟩ := P
  obtain ⟨fs, hr, hrun, hended, hW, hsame⟩ := X.leave (v := some (.int v)) (fun h => by rw [hr0] at h; cases h) hlk
  refine ⟨_, _, retI X hx hr0 (hb hby hd) hr, hrun, hended, _, _, rfl, ?_, ⟨_, rfl⟩, hW, hsame.mono hc hs⟩
  rw [← hh] at hq
  exact hq
theorem own_retZ {Q : Option Value → Heap → List Loc → Prop} {kc ks : Nat} (P : own_S Z own nm bytes mx (some .boolean) p l e R s m args below meth c T h locs cells slots) {v z : Int32} (hd : decode bytes pc = .ok (.ireturn, 1)) (hz : nar .boolean v = z) (hc : cells ≤ kc) (hs : slots ≤ ks) (hq : Q (some (.int z)) h locs) :
    own_Go p e below (own_K s Q kc ks) (T.setTop (mkF m pc Ls [(.int v)])) := by
  obtain ⟨X, hx, hby, hml, hown, hZ, hr0, hlk, hh, -⟩ := P
  obtain ⟨fs, hr, hrun, hended, hW, hsame⟩ := X.leave (v := some (.int z)) (fun h => by rw [hr0] at h; cases h) hlk
  refine ⟨_, _, retN X hx (t := .boolean) hr0 (by simp) (hb hby hd) (by rw [hz]; exact hr), hrun, hended, _, _, rfl, ?_, ⟨_, rfl⟩, hW, hsame.mono hc hs⟩
  rw [← hh] at hq
  exact hq
theorem own_retV {Q : Option Value → Heap → List Loc → Prop} {kc ks : Nat} (P : own_S Z own nm bytes mx none p l e R s m args below meth c T h locs cells slots) (hd : decode bytes pc = .ok (.return_, 1)) (hc : cells ≤ kc) (hs : slots ≤ ks) (hq : Q none h locs) :
    own_Go p e below (own_K s Q kc ks) (T.setTop (mkF m pc Ls [])) := by
  obtain ⟨X, hx, hby, hml, hown, hZ, hr0, hlk, hh, -⟩ := P
  obtain ⟨fs, hr, hrun, hended, hW, hsame⟩ := X.leave (v := none) (fun _ => rfl) hlk
  refine ⟨_, _, X.returnOut hx hr0 (hb hby hd) hr, hrun, hended, _, _, rfl, ?_, ⟨_, rfl⟩, hW, hsame.mono hc hs⟩
  rw [← hh] at hq
  exact hq
/-- a method's contract: from these arguments and this heap it returns as Q says -/
def own_Con (l : Launch) (Z : State) (y : MethodName) (bytes : ByteArray) (mx : Nat) (rt : Option FieldType) (ws : List Jvm.Cond) (rm : Room) (as' : Array Value) (h : Heap) (Q : Option Value → Heap → List Loc → Prop) : Prop :=
  MetFree l y (head1 (Jvm.Cond.code y bytes mx rt :: ws) rm) (fun a U => a = as' ∧ Z.Warmed39 U.vm ∧ U.heap = h) (fun _ _ _ _ _ => True) (fun _ U o U' => ∃ v L, o = .returned v ∧ Q v U'.heap L ∧ FrameEnd U o U' L rm.cells rm.slots)
/-- it returned v, wrote nothing and made nothing -/
def own_P (v : Option Value) (h : Heap) (v' : Option Value) (h' : Heap) (L : List Loc) : Prop := v' = v ∧ L = [] ∧ h' = h
theorem own_enter {y : MethodName} {ws : List Jvm.Cond} {rm : Room} {as' : Array Value} {Q : Option Value → Heap → List Loc → Prop} (hpl : plainFor y = true) (Ls : Array Slot) (hef : ∀ m, entryFrame m as' mx = mkF m 0 Ls [])
    (body : ∀ (p : Program) (e : Env) (s : State) (m : MethodId) (below : List Frame) (meth : Method) (c : Code) (T : State), own_S Z y.cls y.name bytes mx rt p l e rm s m as' below meth c T h [] 0 0 → own_Go p e below (own_K s Q rm.cells rm.slots) (T.setTop (mkF m 0 Ls []))) :
    own_Con l Z y bytes mx rt ws rm as' h Q := by
  refine MetFree.of_bodySF hpl hisR ?_
  intro p e s m args below meth c s₁ Bd hml0 hP hK
  obtain ⟨rfl, hZ, hh⟩ := hP
  have e0 : s₁.heap = h := by rw [← hh, Bd.state]; rfl
  obtain ⟨t, o, h1, h2, h3, v, L, ho, hq, hf⟩ := body p e s m below meth c s₁ ⟨Stand.of_body Bd, Bd.exec, Bd.bytes, hml0, findClass_of_methodNamed Bd.named, hZ, Bd.returns, BodyLoose.notSynchronized Bd, e0, (name_of_methodNamed Bd.named Bd.method).1⟩
  exact ⟨t, o, castTop (hef m) h1, h2, h3, v, L, ho, hq, hf⟩
theorem own_callQ (P : own_S Z own nm bytes mx rt p l e R s m args below meth c T h locs cells slots) {idx : Nat} {y : MethodName} {by' : ByteArray} {mx' : Nat} {rt' : Option FieldType} {rm : Room} {Q : Option Value → Heap → List Loc → Prop} {argsL st : List Value} {ps : List FieldType} {rr : Option FieldType}
    (wl : (Cond.methodLink own idx y).before a0 Z = true) (wt : (Cond.static y).before a0 Z = true) (wi : (Cond.initialized y.cls).before a0 Z = true) (wc : (Cond.code y by' mx' rt').before a0 Z = true) (hy : y.cls ≠ "java/lang/invoke/MethodHandle" ∧ y.cls ≠ "java/lang/invoke/VarHandle")
    (hM : own_Con l Z y by' mx' rt' [] rm argsL.toArray h Q) (hd : decode bytes pc = .ok (.invokestatic idx, 3)) (hp : pc + 3 = pc') (hdes : parseMethodDescriptor y.desc = some ⟨ps, rr⟩) (hlen : argsL.length = ps.length) (hsz : Ls.size = mx) (hst : st = argsL.reverse ++ rest)
    (hf : rm.frames + 1 ≤ R.frames) (W : Nat) (hW : (rest.map fun v => v.category).sum = W) (hl : W + (mx' + 11) + rm.locals ≤ R.locals) (hc : cells + rm.cells ≤ R.cells) (hs : slots + rm.slots ≤ R.slots)
    (k : ∀ T' h' v L, Q v h' L → own_S Z own nm bytes mx rt p l e R s m args below meth c T' h' (locs ++ L) (cells + rm.cells) (slots + rm.slots) → own_Go p e below K (T'.setTop (mkF m pc' Ls (v.toList ++ rest)))) :
    own_Go p e below K (T.setTop (mkF m pc Ls st)) := by
  subst hp
  obtain ⟨v, _, ⟨T3, L3, k3, n3⟩, -, X3, ⟨Lc3, hQ3, l3, y3, z3⟩, st3⟩ := Jvm.LawKit.callS P.st P.ex (y := y) P.ow (mvT P.wz wl) (mvT P.wz wt) (mvT P.wz wi) (mvT P.wz wc) hy (backOf (W := W) hM P.wz wc wi hf hl) (g := (mkF m pc Ls st)) rfl (by rw [P.ml]; exact hsz) (argsL := argsL) (rest := rest) (lenOf hdes hlen) hst (by show 2 * 0 + _ ≤ _; rw [hW]; exact Nat.le_of_eq (by simp)) (P.cd hd) (fun _ _ => ⟨rfl, P.hp, hc, hs⟩)
  dsimp only [Pt.U, Pt.locs, Pt.cells, Pt.slots] at X3 l3 y3 z3 st3 hQ3
  subst l3 y3 z3
  exact own_st st3 (k T3 T3.heap v Lc3 hQ3 (P.move X3 rfl))
theorem own_callP (P : own_S Z own nm bytes mx rt p l e R s m args below meth c T h locs cells slots) {idx : Nat} {y : MethodName} {by' : ByteArray} {mx' : Nat} {rt' : Option FieldType} {rm : Room} {v : Option Value} {argsL st : List Value} {ps : List FieldType} {rr : Option FieldType}
    (wl : (Cond.methodLink own idx y).before a0 Z = true) (wt : (Cond.static y).before a0 Z = true) (wi : (Cond.initialized y.cls).before a0 Z = true) (wc : (Cond.code y by' mx' rt').before a0 Z = true) (hy : y.cls ≠ "java/lang/invoke/MethodHandle" ∧ y.cls ≠ "java/lang/invoke/VarHandle")
    (hM : own_Con l Z y by' mx' rt' [] rm argsL.toArray h (own_P v h)) (hd : decode bytes pc = .ok (.invokestatic idx, 3)) (hp : pc + 3 = pc') (hdes : parseMethodDescriptor y.desc = some ⟨ps, rr⟩) (hlen : argsL.length = ps.length) (hsz : Ls.size = mx) (hst : st = argsL.reverse ++ rest)
    (hf : rm.frames + 1 ≤ R.frames) (W : Nat) (hW : (rest.map fun v => v.category).sum = W) (hl : W + (mx' + 11) + rm.locals ≤ R.locals) (hc : rm.cells = 0) (hs : rm.slots = 0) (hcc : cells ≤ R.cells) (hss : slots ≤ R.slots)
    (k : ∀ T', own_S Z own nm bytes mx rt p l e R s m args below meth c T' h locs cells slots → own_Go p e below K (T'.setTop (mkF m pc' Ls (v.toList ++ rest)))) :
    own_Go p e below K (T.setTop (mkF m pc Ls st)) := by
  refine own_callQ P wl wt wi wc hy hM hd hp hdes hlen hsz hst hf W hW hl (by rw [hc]; exact hcc) (by rw [hs]; exact hss) fun T' h' v' L hQ P' => ?_
  obtain ⟨rfl, rfl, rfl⟩ := hQ
  rw [hc, hs, List.append_nil] at P'
  exact k T' P'
def own_One (s : Slot) : Prop := s = .unset ∨ ∃ w : Value, s = .val w ∧ w.category = 1
theorem own_conMono {y : MethodName} {ws : List Jvm.Cond} {rm : Room} {as' : Array Value} {Q Q' : Option Value → Heap → List Loc → Prop} (q : own_Con l Z y bytes mx rt ws rm as' h Q) (f : ∀ v h' L, Q v h' L → Q' v h' L) : own_Con l Z y bytes mx rt ws rm as' h Q' := by
  intro p e ha hc hk s m args below hf happ hP hK
  obtain ⟨n, o, h1, h2, h3, v, L, h4, h5, h6⟩ := q p e ha hc hk s m args below hf happ hP hK
  exact ⟨n, o, h1, h2, h3, v, L, h4, f _ _ _ h5, h6⟩
theorem own_S.mono (P : own_S Z own nm bytes mx rt p l e R s m args below meth c T h locs cells slots) {cells' slots' : Nat} (hc : cells ≤ cells') (hs : slots ≤ slots') : own_S Z own nm bytes mx rt p l e R s m args below meth c T h locs cells' slots' :=
  P.move { P.st with same := P.st.same.mono hc hs } P.hp
end OwnBase
section OwnHeap
variable {p : Program} {l : Launch} {e : Env} {R : Room} {s : State} {m : MethodId} {args : Array Value} {below : List Frame} {meth : Method} {c : Code} {T : State} {h : Heap} {locs : List Loc} {cells slots : Nat} {Z : State} {a0 : Array Value} {own nm : String} {bytes : ByteArray} {mx : Nat} {rt : Option FieldType} {K : State → Outcome → Prop} {pc pc' : Nat} {Ls : Array Slot} {rest : List Value}
theorem own_new (P : own_S Z own nm bytes mx rt p l e R s m args below meth c T h locs cells slots) {C : String} {idx n : Nat} (wl : (Cond.classLink own idx C).before a0 Z = true) (wi : (Cond.instantiable C n).before a0 Z = true) (wz : (Cond.initialized C).before a0 Z = true) (hd : decode bytes pc = .ok (.new idx, 3)) (hp : pc + 3 = pc') (hc : cells + 1 ≤ R.cells) (hl : slots + n ≤ R.slots)
    (k : ∀ (T' : State) (h' : Heap) (a : Addr), a = h.size → Ext h h' → Exa Z h' a C → (∀ {O fn d : String} {ty : FieldType}, Laid Z a0 C O fn d → parseFieldDescriptor d = some ty → Fld Z h' a O fn d (defaultValue ty)) → own_S Z own nm bytes mx rt p l e R s m args below meth c T' h' locs (cells + 1) (slots + n) → own_Go p e below K (T'.setTop (mkF m pc' Ls (.ref a :: rest)))) :
    own_Go p e below K (T.setTop (mkF m pc Ls rest)) := by
  subst hp
  obtain ⟨T2, h2, X2, e2, E2, A2, D2, -, st2⟩ := newO P.st P.ex P.wz P.ow wl wi wz P.hp (g := mkF m pc Ls rest) rfl (P.cd hd) hc hl
  exact own_st st2 (k T2 h2 h.size rfl E2 A2 D2 (P.move X2 e2))
theorem own_initO (P : own_S Z own nm bytes mx rt p l e R s m args below meth c T h locs cells slots) {idx : Nat} {a : Addr} (w1 : (Cond.methodLink own idx Lib.objectInit).before a0 Z = true) (w2 : (Cond.instanceMethod Lib.objectInit).before a0 Z = true) (w3 : (Cond.code Lib.objectInit ⟨#[0xb1]⟩ 1 none).before a0 Z = true) (hd : decode bytes pc = .ok (.invokespecial idx, 3)) (hp : pc + 3 = pc') (hsz : Ls.size = mx) (hf : 1 ≤ R.frames) (W : Nat) (hW : (rest.map fun v => v.category).sum = W) (hl : W + 12 ≤ R.locals)
    (k : ∀ T' : State, own_S Z own nm bytes mx rt p l e R s m args below meth c T' h locs cells slots → own_Go p e below K (T'.setTop (mkF m pc' Ls rest))) : own_Go p e below K (T.setTop (mkF m pc Ls (.ref a :: rest))) := by
  subst hp
  obtain ⟨T2, X2, e2, st2⟩ := initO P.st P.ex P.wz P.ow w1 w2 w3 P.hp (g := mkF m pc Ls (.ref a :: rest)) rfl (by rw [P.ml]; exact hsz) rfl (P.cd hd) hf (W := W) (by show 2 * 0 + _ ≤ _; rw [hW]; exact Nat.le_of_eq (by simp)) hl
  exact own_st st2 (k T2 (P.move X2 e2))
theorem own_getF (P : own_S Z own nm bytes mx rt p l e R s m args below meth c T h locs cells slots) {idx : Nat} {O fn d : String} {a : Addr} {v : Value} (wf : (Cond.fieldLink own idx O fn d).before a0 Z = true) (F : Fld Z h a O fn d v) (hd : decode bytes pc = .ok (.getfield idx, 3)) (hp : pc + 3 = pc')
    (k : ∀ T' : State, own_S Z own nm bytes mx rt p l e R s m args below meth c T' h locs cells slots → own_Go p e below K (T'.setTop (mkF m pc' Ls (v :: rest)))) : own_Go p e below K (T.setTop (mkF m pc Ls (.ref a :: rest))) := by
  subst hp
  obtain ⟨T2, X2, e2, st2⟩ := getF P.st P.ex P.wz P.ow (host := "") (Or.inl wf) Via.refl P.hp F (g := mkF m pc Ls (.ref a :: rest)) rfl rfl (P.cd hd)
  exact own_st st2 (k T2 (P.move X2 e2))
theorem own_putF (P : own_S Z own nm bytes mx rt p l e R s m args below meth c T h locs cells slots) {idx kk : Nat} {C O fn d : String} {ty : FieldType} {a : Addr} {v old : Value} (wf : (Cond.fieldLink own idx O fn d).before a0 Z = true) (F : Fld Z h a O fn d old) (E : Exa Z h a C) (L : (Cond.lays C O fn d).before a0 Z = true ∨ ((Cond.laysFinal C O fn d).before a0 Z = true ∧ own = O ∧ nm = "<init>")) (wi : (Cond.instantiable C kk).before a0 Z = true) (hty : parseFieldDescriptor d = some ty) (hn : narrow ty v = v) (hf : fits ty v = true) (hd : decode bytes pc = .ok (.putfield idx, 3)) (hp : pc + 3 = pc')
    (k : ∀ (T' : State) (h' : Heap), Wr h h' a (Jvm.RoadKit.slotOf Z O fn d) v → own_S Z own nm bytes mx rt p l e R s m args below meth c T' h' (locs ++ [⟨a, Jvm.RoadKit.slotOf Z O fn d⟩]) cells slots → own_Go p e below K (T'.setTop (mkF m pc' Ls rest))) : own_Go p e below K (T.setTop (mkF m pc Ls (v :: .ref a :: rest))) := by
  subst hp
  obtain ⟨T2, h2, X2, e2, W2, st2⟩ := putF P.st P.ex P.wz P.ow (host := "") (Or.inl wf) Via.refl P.hp F E (L.imp id fun q => ⟨q.1, q.2.1, P.nmm.trans q.2.2⟩) wi hty hn hf (g := mkF m pc Ls (v :: .ref a :: rest)) rfl rfl (P.cd hd)
  exact own_st st2 (k T2 h2 W2 (P.move X2 e2))
theorem own_init (P : own_S Z own nm bytes mx rt p l e R s m args below meth c T h locs cells slots) {idx : Nat} {y : MethodName} {by' : ByteArray} {mx' : Nat} {rm : Room} {Q : Option Value → Heap → List Loc → Prop} {a : Addr} {argsL st : List Value} {ps : List FieldType} {rr : Option FieldType} (hy1 : y.name = "<init>")
    (wl : (Cond.methodLink own idx y).before a0 Z = true) (wm : (Cond.instanceMethod y).before a0 Z = true) (wi : (Cond.initialized y.cls).before a0 Z = true) (wc : (Cond.code y by' mx' none).before a0 Z = true) (hy : y.cls ≠ "java/lang/invoke/MethodHandle" ∧ y.cls ≠ "java/lang/invoke/VarHandle")
    (hM : own_Con l Z y by' mx' none [] rm (.ref a :: argsL).toArray h Q) (hd : decode bytes pc = .ok (.invokespecial idx, 3)) (hp : pc + 3 = pc') (hdes : parseMethodDescriptor y.desc = some ⟨ps, rr⟩) (hlen : argsL.length = ps.length) (hsz : Ls.size = mx) (hst : st = argsL.reverse ++ .ref a :: rest)
    (hf : rm.frames + 1 ≤ R.frames) (W : Nat) (hW : (rest.map fun v => v.category).sum = W) (hl : W + (mx' + 11) + rm.locals ≤ R.locals) (hc : cells + rm.cells ≤ R.cells) (hs : slots + rm.slots ≤ R.slots)
    (k : ∀ T' h' v L, Q v h' L → own_S Z own nm bytes mx rt p l e R s m args below meth c T' h' (locs ++ L) (cells + rm.cells) (slots + rm.slots) → own_Go p e below K (T'.setTop (mkF m pc' Ls (v.toList ++ rest)))) :
    own_Go p e below K (T.setTop (mkF m pc Ls st)) := by
  subst hp
  obtain ⟨v, _, ⟨T3, L3, k3, n3⟩, -, X3, ⟨Lc3, hQ3, l3, y3, z3⟩, st3⟩ := P.st.specialBack P.ex (y := y) hy1 P.ow (mvT P.wz wl) (mvT P.wz wm) (mvT P.wz wc) hy (backOf (W := W) hM P.wz wc wi hf hl) (g := (mkF m pc Ls st)) rfl (by rw [P.ml]; exact hsz) (Steps.refl _) (a := a) (argsL := argsL) (rest := rest) (lenOf hdes hlen) hst (by show 2 * 0 + _ ≤ _; rw [hW]; exact Nat.le_of_eq (by simp)) (P.cd hd) (fun _ _ => ⟨rfl, P.hp, hc, hs⟩)
  dsimp only [Pt.U, Pt.locs, Pt.cells, Pt.slots] at X3 l3 y3 z3 st3 hQ3
  subst l3 y3 z3
  exact own_st (fun t q => st3.trans q) (k T3 T3.heap v Lc3 hQ3 (P.move X3 rfl))
theorem own_virt (P : own_S Z own nm bytes mx rt p l e R s m args below meth c T h locs cells slots) {idx : Nat} {C : String} {y : MethodName} {by' : ByteArray} {mx' : Nat} {rt' : Option FieldType} {rm : Room} {Q : Option Value → Heap → List Loc → Prop} {a : Addr} {argsL st : List Value} {ps : List FieldType} {rr : Option FieldType}
    (wl : (Cond.methodLink own idx y).before a0 Z = true) (wd : (Cond.declares y).before a0 Z = true) (wsel : (Cond.selects C y y).before a0 Z = true) (wm : (Cond.instanceMethod y).before a0 Z = true) (wi : (Cond.initialized y.cls).before a0 Z = true) (wc : (Cond.code y by' mx' rt').before a0 Z = true) (hy : y.cls ≠ "java/lang/invoke/MethodHandle" ∧ y.cls ≠ "java/lang/invoke/VarHandle") (E : Exa Z h a C)
    (hM : own_Con l Z y by' mx' rt' [] rm (.ref a :: argsL).toArray h Q) (hd : decode bytes pc = .ok (.invokevirtual idx, 3)) (hp : pc + 3 = pc') (hdes : parseMethodDescriptor y.desc = some ⟨ps, rr⟩) (hlen : argsL.length = ps.length) (hsz : Ls.size = mx) (hst : st = argsL.reverse ++ .ref a :: rest)
    (hf : rm.frames + 1 ≤ R.frames) (W : Nat) (hW : (rest.map fun v => v.category).sum = W) (hl : W + (mx' + 11) + rm.locals ≤ R.locals) (hc : cells + rm.cells ≤ R.cells) (hs : slots + rm.slots ≤ R.slots)
    (k : ∀ T' h' v L, Q v h' L → own_S Z own nm bytes mx rt p l e R s m args below meth c T' h' (locs ++ L) (cells + rm.cells) (slots + rm.slots) → own_Go p e below K (T'.setTop (mkF m pc' Ls (v.toList ++ rest)))) :
    own_Go p e below K (T.setTop (mkF m pc Ls st)) := by
  subst hp
  obtain ⟨cq, kq, qa, qb, qc⟩ := isOf P.wz P.hp E
  obtain ⟨v, _, ⟨T3, L3, k3, n3⟩, -, X3, ⟨Lc3, hQ3, l3, y3, z3⟩, st3⟩ := P.st.virtualBack P.ex (y := y) (z := y) P.ow (mvT P.wz wl) (mvT P.wz wd) (notFace_of_selects (args := #[]) (mvT P.wz wsel)) (mvT P.wz wsel) (mvT P.wz wm) hy (backOf (W := W) hM P.wz wc wi hf hl) qa qc (g := (mkF m pc Ls st)) rfl (by rw [P.ml]; exact hsz) (Steps.refl _) (argsL := argsL) (rest := rest) (lenOf hdes hlen) hst (by show 2 * 0 + _ ≤ _; rw [hW]; exact Nat.le_of_eq (by simp)) (P.cd hd) (fun _ _ => ⟨rfl, P.hp, hc, hs⟩)
  dsimp only [Pt.U, Pt.locs, Pt.cells, Pt.slots] at X3 l3 y3 z3 st3 hQ3
  subst l3 y3 z3
  exact own_st (fun t q => st3.trans q) (k T3 T3.heap v Lc3 hQ3 (P.move X3 rfl))
theorem own_initP (P : own_S Z own nm bytes mx rt p l e R s m args below meth c T h locs cells slots) {idx : Nat} {y : MethodName} {by' : ByteArray} {mx' : Nat} {rm : Room} {v : Option Value} {a : Addr} {argsL st : List Value} {ps : List FieldType} {rr : Option FieldType} (hy1 : y.name = "<init>")
    (wl : (Cond.methodLink own idx y).before a0 Z = true) (wm : (Cond.instanceMethod y).before a0 Z = true) (wi : (Cond.initialized y.cls).before a0 Z = true) (wc : (Cond.code y by' mx' none).before a0 Z = true) (hy : y.cls ≠ "java/lang/invoke/MethodHandle" ∧ y.cls ≠ "java/lang/invoke/VarHandle")
    (hM : own_Con l Z y by' mx' none [] rm (.ref a :: argsL).toArray h (own_P v h)) (hd : decode bytes pc = .ok (.invokespecial idx, 3)) (hp : pc + 3 = pc') (hdes : parseMethodDescriptor y.desc = some ⟨ps, rr⟩) (hlen : argsL.length = ps.length) (hsz : Ls.size = mx) (hst : st = argsL.reverse ++ .ref a :: rest)
    (hf : rm.frames + 1 ≤ R.frames) (W : Nat) (hW : (rest.map fun v => v.category).sum = W) (hl : W + (mx' + 11) + rm.locals ≤ R.locals) (hc : rm.cells = 0) (hs : rm.slots = 0) (hcc : cells ≤ R.cells) (hss : slots ≤ R.slots)
    (k : ∀ T', own_S Z own nm bytes mx rt p l e R s m args below meth c T' h locs cells slots → own_Go p e below K (T'.setTop (mkF m pc' Ls (v.toList ++ rest)))) :
    own_Go p e below K (T.setTop (mkF m pc Ls st)) := by
  refine own_init P hy1 wl wm wi wc hy hM hd hp hdes hlen hsz hst hf W hW hl (by rw [hc]; exact hcc) (by rw [hs]; exact hss) fun T' h' v' L hQ P' => ?_
  obtain ⟨rfl, rfl, rfl⟩ := hQ
  rw [hc, hs, List.append_nil] at P'
  exact k T' P'
theorem own_virtP (P : own_S Z own nm bytes mx rt p l e R s m args below meth c T h locs cells slots) {idx : Nat} {C : String} {y : MethodName} {by' : ByteArray} {mx' : Nat} {rt' : Option FieldType} {rm : Room} {v : Option Value} {a : Addr} {argsL st : List Value} {ps : List FieldType} {rr : Option FieldType}
    (wl : (Cond.methodLink own idx y).before a0 Z = true) (wd : (Cond.declares y).before a0 Z = true) (wsel : (Cond.selects C y y).before a0 Z = true) (wm : (Cond.instanceMethod y).before a0 Z = true) (wi : (Cond.initialized y.cls).before a0 Z = true) (wc : (Cond.code y by' mx' rt').before a0 Z = true) (hy : y.cls ≠ "java/lang/invoke/MethodHandle" ∧ y.cls ≠ "java/lang/invoke/VarHandle") (E : Exa Z h a C)
    (hM : own_Con l Z y by' mx' rt' [] rm (.ref a :: argsL).toArray h (own_P v h)) (hd : decode bytes pc = .ok (.invokevirtual idx, 3)) (hp : pc + 3 = pc') (hdes : parseMethodDescriptor y.desc = some ⟨ps, rr⟩) (hlen : argsL.length = ps.length) (hsz : Ls.size = mx) (hst : st = argsL.reverse ++ .ref a :: rest)
    (hf : rm.frames + 1 ≤ R.frames) (W : Nat) (hW : (rest.map fun v => v.category).sum = W) (hl : W + (mx' + 11) + rm.locals ≤ R.locals) (hc : rm.cells = 0) (hs : rm.slots = 0) (hcc : cells ≤ R.cells) (hss : slots ≤ R.slots)
    (k : ∀ T', own_S Z own nm bytes mx rt p l e R s m args below meth c T' h locs cells slots → own_Go p e below K (T'.setTop (mkF m pc' Ls (v.toList ++ rest)))) :
    own_Go p e below K (T.setTop (mkF m pc Ls st)) := by
  refine own_virt P wl wd wsel wm wi wc hy E hM hd hp hdes hlen hsz hst hf W hW hl (by rw [hc]; exact hcc) (by rw [hs]; exact hss) fun T' h' v' L hQ P' => ?_
  obtain ⟨rfl, rfl, rfl⟩ := hQ
  rw [hc, hs, List.append_nil] at P'
  exact k T' P'
/-- an array of ints (chars, bytes) that holds just the list vs -/
def own_Ar (Z : State) (h : Heap) (a : Addr) (ty : FieldType) (vs : List Int32) : Prop := ∃ c : Cell, Arr Z h a c ty ∧ c.slots = (vs.map Value.int).toArray
theorem own_Ar.lt {a : Addr} {ty : FieldType} {vs : List Int32} (A : own_Ar Z h a ty vs) : a < h.size := by obtain ⟨c, q, -⟩ := A; exact q.lt
theorem own_Ar.ext {h' : Heap} {a : Addr} {ty : FieldType} {vs : List Int32} (A : own_Ar Z h a ty vs) (E : Ext h h') : own_Ar Z h' a ty vs := by obtain ⟨c, q, r⟩ := A; exact ⟨c, q.ext E, r⟩
theorem own_Ar.other {h' : Heap} {a b : Addr} {ty : FieldType} {vs : List Int32} {sl : Nat} {v : Value} (A : own_Ar Z h b ty vs) (W : Wr h h' a sl v) (ne : b ≠ a) : own_Ar Z h' b ty vs := by obtain ⟨c, q, r⟩ := A; exact ⟨c, q.other W ne, r⟩
theorem own_Ar.keep {h' : Heap} {a : Addr} {ty : FieldType} {vs : List Int32} {ws : List Addr} (A : own_Ar Z h a ty vs) (Kp : Keep h h' ws) (ne : a ∉ ws) : own_Ar Z h' a ty vs := by obtain ⟨c, q, r⟩ := A; exact ⟨c, ⟨Kp.2.1 a c q.1 ne, q.2⟩, r⟩
theorem own_Ar.set {h' : Heap} {a : Addr} {ty : FieldType} {vs : List Int32} {j : Nat} {x : Int32} (A : own_Ar Z h a ty vs) (W : Wr h h' a j (.int x)) : own_Ar Z h' a ty (vs.set j x) := by
  obtain ⟨c, q, r⟩ := A
  refine ⟨_, q.same W, ?_⟩
  simp only [Cell.setSlot]
  rw [r]
  simp
theorem own_arrNew (P : own_S Z own nm bytes mx rt p l e R s m args below meth c T h locs cells slots) {aty : ArrayType} {ty : FieldType} {n : Int32} (cap : Nat) (wa : (Cond.arrayClass ty).before a0 Z = true) (ht : newarray.typeOf aty = ty) (hdv : defaultValue ty = .int 0) (hd : decode bytes pc = .ok (.newarray aty, 2)) (hp : pc + 2 = pc') (hn : 0 ≤ n.toInt) (hcap : n.toInt.toNat ≤ cap) (hb : cap * 8 ≤ 536870912) (hc : cells + 1 ≤ R.cells) (hl : slots + cap ≤ R.slots)
    (k : ∀ (T' : State) (h' : Heap) (a : Addr), a = h.size → Ext h h' → own_Ar Z h' a ty (List.replicate n.toInt.toNat 0) → own_S Z own nm bytes mx rt p l e R s m args below meth c T' h' locs (cells + 1) (slots + cap) → own_Go p e below K (T'.setTop (mkF m pc' Ls (.ref a :: rest)))) :
    own_Go p e below K (T.setTop (mkF m pc Ls (.int n :: rest))) := by
  subst hp ht
  have hn' : ¬ n < 0 := by rw [Int32.lt_iff_toInt_lt]; exact Int.not_lt.mpr hn
  obtain ⟨T2, h2, cA, X2, e2, E2, A2, st2⟩ := newP P.st P.ex P.wz (aty := aty) wa P.hp (g := mkF m pc Ls (.int n :: rest)) rfl (P.cd hd) rfl hn' (cap := cap) hcap hb hc hl
  refine own_st st2 (k T2 h2 h.size rfl E2 ⟨_, A2, ?_⟩ (P.move X2 e2))
  show Array.replicate n.toNatClampNeg (defaultValue _) = _
  rw [hdv]
  show Array.replicate n.toInt.toNat (Value.int 0) = _
  simp
theorem own_arrIn {a : Addr} {ty : FieldType} {vs : List Int32} {c : Cell} {j : Int32} (r : c.slots = (vs.map Value.int).toArray) (h1 : 0 ≤ j.toInt) (h2 : j.toInt.toNat < vs.length) : ¬ (j < 0 ∨ c.slots.size ≤ j.toNatClampNeg) := by
  rintro (q | q)
  · rw [Int32.lt_iff_toInt_lt] at q
    have z : (0 : Int32).toInt = 0 := rfl
    omega
  · rw [r] at q
    simp only [List.size_toArray, List.length_map, Int32.toNatClampNeg] at q
    omega
theorem own_arrAt {vs : List Int32} {c : Cell} {j x : Int32} (r : c.slots = (vs.map Value.int).toArray) (h2 : j.toInt.toNat < vs.length) (hx : vs.getD j.toInt.toNat 0 = x) : c.slots[j.toNatClampNeg]? = some (.int x) := by
  subst hx
  rw [r]
  show (vs.map Value.int).toArray[j.toInt.toNat]? = _
  rw [List.getElem?_toArray, List.getElem?_map, List.getD_eq_getElem?_getD, List.getElem?_eq_getElem h2]
  rfl
theorem own_alen (P : own_S Z own nm bytes mx rt p l e R s m args below meth c T h locs cells slots) {a : Addr} {ty : FieldType} {vs : List Int32} {v : Int32} (A : own_Ar Z h a ty vs) (hd : decode bytes pc = .ok (.arraylength, 1)) (hp : pc + 1 = pc') (hv : Int32.ofNat vs.length = v)
    (k : own_Go p e below K (T.setTop (mkF m pc' Ls (.int v :: rest)))) : own_Go p e below K (T.setTop (mkF m pc Ls (.ref a :: rest))) := by
  subst hp hv
  obtain ⟨c, q, r⟩ := A
  have hsz : c.slots.size.toInt32 = Int32.ofNat vs.length := by rw [r]; simp
  refine own_st (fun t kk => P.st.arraylength P.ex (cell := c) (by rw [P.hp]; exact q.1) (State.isArrayOf_alike P.wz.alike q.2.1) (g := mkF m pc Ls (.ref a :: rest)) rfl (rest := rest) rfl (P.cd hd) t ?_) k
  rw [hsz]
  exact kk
theorem own_iaload (P : own_S Z own nm bytes mx rt p l e R s m args below meth c T h locs cells slots) {a : Addr} {vs : List Int32} {j x : Int32} (A : own_Ar Z h a .int vs) (hd : decode bytes pc = .ok (.iaload, 1)) (hp : pc + 1 = pc') (h1 : 0 ≤ j.toInt) (h2 : j.toInt.toNat < vs.length) (hx : vs.getD j.toInt.toNat 0 = x)
    (k : own_Go p e below K (T.setTop (mkF m pc' Ls (.int x :: rest)))) : own_Go p e below K (T.setTop (mkF m pc Ls (.int j :: .ref a :: rest))) := by
  subst hp
  obtain ⟨c, q, r⟩ := A
  exact own_st (fun t kk => P.st.iaload P.ex (j := j) (v := .int x) (by rw [P.hp]; exact q.1) (State.isArrayOf_alike P.wz.alike q.2.1) q.2.2 (own_arrIn (a := a) (ty := .int) r h1 h2) (own_arrAt r h2 hx) (g := mkF m pc Ls (.int j :: .ref a :: rest)) rfl rfl (P.cd hd) t kk) k
theorem own_caload (P : own_S Z own nm bytes mx rt p l e R s m args below meth c T h locs cells slots) {a : Addr} {vs : List Int32} {j x : Int32} (A : own_Ar Z h a .char vs) (hd : decode bytes pc = .ok (.caload, 1)) (hp : pc + 1 = pc') (h1 : 0 ≤ j.toInt) (h2 : j.toInt.toNat < vs.length) (hx : vs.getD j.toInt.toNat 0 = x)
    (k : own_Go p e below K (T.setTop (mkF m pc' Ls (.int x :: rest)))) : own_Go p e below K (T.setTop (mkF m pc Ls (.int j :: .ref a :: rest))) := by
  subst hp
  obtain ⟨c, q, r⟩ := A
  exact own_st (fun t kk => P.st.caload P.ex (j := j) (v := .int x) (by rw [P.hp]; exact q.1) (State.isArrayOf_alike P.wz.alike q.2.1) q.2.2 (own_arrIn (a := a) (ty := .char) r h1 h2) (own_arrAt r h2 hx) (g := mkF m pc Ls (.int j :: .ref a :: rest)) rfl rfl (P.cd hd) t kk) k
theorem own_baload (P : own_S Z own nm bytes mx rt p l e R s m args below meth c T h locs cells slots) {a : Addr} {vs : List Int32} {j x : Int32} (A : own_Ar Z h a .byte vs) (hd : decode bytes pc = .ok (.baload, 1)) (hp : pc + 1 = pc') (h1 : 0 ≤ j.toInt) (h2 : j.toInt.toNat < vs.length) (hx : vs.getD j.toInt.toNat 0 = x)
    (k : own_Go p e below K (T.setTop (mkF m pc' Ls (.int x :: rest)))) : own_Go p e below K (T.setTop (mkF m pc Ls (.int j :: .ref a :: rest))) := by
  subst hp
  obtain ⟨c, q, r⟩ := A
  exact own_st (fun t kk => P.st.baloadBytes P.ex (j := j) (v := .int x) (by rw [P.hp]; exact q.1) (State.isArrayOf_alike P.wz.alike q.2.1) q.2.2 (own_arrIn (a := a) (ty := .byte) r h1 h2) (own_arrAt r h2 hx) (g := mkF m pc Ls (.int j :: .ref a :: rest)) rfl rfl (P.cd hd) t kk) k
theorem own_iastore (P : own_S Z own nm bytes mx rt p l e R s m args below meth c T h locs cells slots) {a : Addr} {vs : List Int32} {j x z : Int32} (A : own_Ar Z h a .int vs) (hd : decode bytes pc = .ok (.iastore, 1)) (hp : pc + 1 = pc') (h1 : 0 ≤ j.toInt) (h2 : j.toInt.toNat < vs.length) (hz : x = z)
    (k : ∀ (T' : State) (h' : Heap), Wr h h' a j.toInt.toNat (.int z) → own_Ar Z h' a .int (vs.set j.toInt.toNat z) → own_S Z own nm bytes mx rt p l e R s m args below meth c T' h' (locs ++ [⟨a, j.toInt.toNat⟩]) cells slots → own_Go p e below K (T'.setTop (mkF m pc' Ls rest))) : own_Go p e below K (T.setTop (mkF m pc Ls (.int x :: .int j :: .ref a :: rest))) := by
  subst hp hz
  have A' := A
  obtain ⟨c, q, r⟩ := A'
  obtain ⟨T2, h2', X2, e2, W2, st2⟩ := stI P.st P.ex P.wz P.hp q (j := j) (own_arrIn (a := a) (ty := .int) r h1 h2) (g := mkF m pc Ls (.int x :: .int j :: .ref a :: rest)) rfl rfl (P.cd hd)
  exact own_st st2 (k T2 h2' W2 (A.set W2) (P.move X2 e2))
theorem own_castore (P : own_S Z own nm bytes mx rt p l e R s m args below meth c T h locs cells slots) {a : Addr} {vs : List Int32} {j x z : Int32} (A : own_Ar Z h a .char vs) (hd : decode bytes pc = .ok (.castore, 1)) (hp : pc + 1 = pc') (h1 : 0 ≤ j.toInt) (h2 : j.toInt.toNat < vs.length) (hz : nar .char x = z)
    (k : ∀ (T' : State) (h' : Heap), Wr h h' a j.toInt.toNat (.int z) → own_Ar Z h' a .char (vs.set j.toInt.toNat z) → own_S Z own nm bytes mx rt p l e R s m args below meth c T' h' (locs ++ [⟨a, j.toInt.toNat⟩]) cells slots → own_Go p e below K (T'.setTop (mkF m pc' Ls rest))) : own_Go p e below K (T.setTop (mkF m pc Ls (.int x :: .int j :: .ref a :: rest))) := by
  subst hp hz
  have A' := A
  obtain ⟨c, q, r⟩ := A'
  obtain ⟨T2, h2', X2, e2, W2, st2⟩ := stC P.st P.ex P.wz P.hp q (j := j) (own_arrIn (a := a) (ty := .char) r h1 h2) (g := mkF m pc Ls (.int x :: .int j :: .ref a :: rest)) rfl rfl (P.cd hd)
  exact own_st st2 (k T2 h2' W2 (A.set W2) (P.move X2 e2))
theorem own_bastore (P : own_S Z own nm bytes mx rt p l e R s m args below meth c T h locs cells slots) {a : Addr} {vs : List Int32} {j x z : Int32} (A : own_Ar Z h a .byte vs) (hd : decode bytes pc = .ok (.bastore, 1)) (hp : pc + 1 = pc') (h1 : 0 ≤ j.toInt) (h2 : j.toInt.toNat < vs.length) (hz : nar .byte x = z)
    (k : ∀ (T' : State) (h' : Heap), Wr h h' a j.toInt.toNat (.int z) → own_Ar Z h' a .byte (vs.set j.toInt.toNat z) → own_S Z own nm bytes mx rt p l e R s m args below meth c T' h' (locs ++ [⟨a, j.toInt.toNat⟩]) cells slots → own_Go p e below K (T'.setTop (mkF m pc' Ls rest))) : own_Go p e below K (T.setTop (mkF m pc Ls (.int x :: .int j :: .ref a :: rest))) := by
  subst hp hz
  have A' := A
  obtain ⟨c, q, r⟩ := A'
  obtain ⟨T2, h2', X2, e2, W2, st2⟩ := stB P.st P.ex P.wz P.hp q (j := j) (own_arrIn (a := a) (ty := .byte) r h1 h2) (g := mkF m pc Ls (.int x :: .int j :: .ref a :: rest)) rfl rfl (P.cd hd)
  exact own_st st2 (k T2 h2' W2 (A.set W2) (P.move X2 e2))
end OwnHeap

theorem own_on {n : Nat} (h : n < 2147483648) : (Int32.ofNat n).toInt = n := Int32.toInt_ofNat_of_lt (by omega)
theorem own_one (i : Nat) : Int32.ofNat i + (1 : Int32) = Int32.ofNat (i + 1) := (Int32.ofNat_add i 1).symm
def own_fnvG (f : Int64 → Int32 → Int64) (vs : List Int32) : Nat → Nat → Int64 → Int64
  | 0, _, j => j
  | k + 1, i, j => own_fnvG f vs k (i + 1) (f j (vs.getD i 0))
theorem own_fGz (f : Int64 → Int32 → Int64) (vs : List Int32) (i : Nat) (j : Int64) : own_fnvG f vs 0 i j = j := rfl
theorem own_fGs (f : Int64 → Int32 → Int64) (vs : List Int32) (k i : Nat) (j : Int64) : own_fnvG f vs (k + 1) i j = own_fnvG f vs k (i + 1) (f j (vs.getD i 0)) := rfl
def own_stp (j : Int64) (x : Int32) : Int64 := ((j ^^^ ((x &&& (255 : Int32)).toInt64)) * (1099511628211 : Int64))
def own_fnv (vs : List Int32) (k i : Nat) (j : Int64) : Int64 := own_fnvG own_stp vs k i j
theorem own_fz (vs : List Int32) (i : Nat) (j : Int64) : own_fnv vs 0 i j = j := by
  unfold own_fnv
  exact own_fGz own_stp vs i j
theorem own_fs (vs : List Int32) (k i : Nat) (j : Int64) : own_fnv vs (k + 1) i j = own_fnv vs k (i + 1) (own_stp j (vs.getD i 0)) := by
  unfold own_fnv
  exact own_fGs own_stp vs k i j
theorem d1_13 : decode prog_8_method_4_code 13 = .ok (.iload 5, 2) := by decide +kernel
theorem d1_15 : decode prog_8_method_4_code 15 = .ok (.iload 4, 2) := by decide +kernel
theorem d1_17 : decode prog_8_method_4_code 17 = .ok (.if_icmp .ge 31, 3) := by decide +kernel
theorem d1_48 : decode prog_8_method_4_code 48 = .ok (.lload_n 1, 1) := by decide +kernel
theorem d1_49 : decode prog_8_method_4_code 49 = .ok (.lload_n 1, 1) := by decide +kernel
theorem d1_50 : decode prog_8_method_4_code 50 = .ok (.bipush 30, 2) := by decide +kernel
theorem d1_52 : decode prog_8_method_4_code 52 = .ok (.lushr, 1) := by decide +kernel
theorem d1_53 : decode prog_8_method_4_code 53 = .ok (.lxor, 1) := by decide +kernel
theorem d1_54 : decode prog_8_method_4_code 54 = .ok (.ldc2_w 35, 3) := by decide +kernel
theorem d1_57 : decode prog_8_method_4_code 57 = .ok (.lmul, 1) := by decide +kernel
theorem d1_58 : decode prog_8_method_4_code 58 = .ok (.lstore_n 1, 1) := by decide +kernel
theorem d1_59 : decode prog_8_method_4_code 59 = .ok (.lload_n 1, 1) := by decide +kernel
theorem d1_60 : decode prog_8_method_4_code 60 = .ok (.lload_n 1, 1) := by decide +kernel
theorem d1_61 : decode prog_8_method_4_code 61 = .ok (.bipush 27, 2) := by decide +kernel
theorem d1_63 : decode prog_8_method_4_code 63 = .ok (.lushr, 1) := by decide +kernel
theorem d1_64 : decode prog_8_method_4_code 64 = .ok (.lxor, 1) := by decide +kernel
theorem d1_65 : decode prog_8_method_4_code 65 = .ok (.ldc2_w 37, 3) := by decide +kernel
theorem d1_68 : decode prog_8_method_4_code 68 = .ok (.lmul, 1) := by decide +kernel
theorem d1_69 : decode prog_8_method_4_code 69 = .ok (.lstore_n 1, 1) := by decide +kernel
theorem d1_70 : decode prog_8_method_4_code 70 = .ok (.lload_n 1, 1) := by decide +kernel
theorem d1_71 : decode prog_8_method_4_code 71 = .ok (.lload_n 1, 1) := by decide +kernel
theorem d1_72 : decode prog_8_method_4_code 72 = .ok (.bipush 31, 2) := by decide +kernel
theorem d1_74 : decode prog_8_method_4_code 74 = .ok (.lushr, 1) := by decide +kernel
theorem d1_75 : decode prog_8_method_4_code 75 = .ok (.lxor, 1) := by decide +kernel
theorem d1_76 : decode prog_8_method_4_code 76 = .ok (.lreturn, 1) := by decide +kernel
theorem d1_20 : decode prog_8_method_4_code 20 = .ok (.aload_n 3, 1) := by decide +kernel
theorem d1_21 : decode prog_8_method_4_code 21 = .ok (.iload 5, 2) := by decide +kernel
theorem d1_23 : decode prog_8_method_4_code 23 = .ok (.baload, 1) := by decide +kernel
theorem d1_24 : decode prog_8_method_4_code 24 = .ok (.istore 6, 2) := by decide +kernel
theorem d1_26 : decode prog_8_method_4_code 26 = .ok (.lload_n 1, 1) := by decide +kernel
theorem d1_27 : decode prog_8_method_4_code 27 = .ok (.iload 6, 2) := by decide +kernel
theorem d1_29 : decode prog_8_method_4_code 29 = .ok (.sipush 255, 3) := by decide +kernel
theorem d1_32 : decode prog_8_method_4_code 32 = .ok (.iand, 1) := by decide +kernel
theorem d1_33 : decode prog_8_method_4_code 33 = .ok (.i2l, 1) := by decide +kernel
theorem d1_34 : decode prog_8_method_4_code 34 = .ok (.lxor, 1) := by decide +kernel
theorem d1_35 : decode prog_8_method_4_code 35 = .ok (.lstore_n 1, 1) := by decide +kernel
theorem d1_36 : decode prog_8_method_4_code 36 = .ok (.lload_n 1, 1) := by decide +kernel
theorem d1_37 : decode prog_8_method_4_code 37 = .ok (.ldc2_w 33, 3) := by decide +kernel
theorem d1_40 : decode prog_8_method_4_code 40 = .ok (.lmul, 1) := by decide +kernel
theorem d1_41 : decode prog_8_method_4_code 41 = .ok (.lstore_n 1, 1) := by decide +kernel
theorem d1_42 : decode prog_8_method_4_code 42 = .ok (.iinc 5 1, 3) := by decide +kernel
theorem d1_45 : decode prog_8_method_4_code 45 = .ok (.goto (-32), 3) := by decide +kernel
theorem d1_0 : decode prog_8_method_4_code 0 = .ok (.ldc2_w 31, 3) := by decide +kernel
theorem d1_3 : decode prog_8_method_4_code 3 = .ok (.lstore_n 1, 1) := by decide +kernel
theorem d1_4 : decode prog_8_method_4_code 4 = .ok (.aload_n 0, 1) := by decide +kernel
theorem d1_5 : decode prog_8_method_4_code 5 = .ok (.astore_n 3, 1) := by decide +kernel
theorem d1_6 : decode prog_8_method_4_code 6 = .ok (.aload_n 3, 1) := by decide +kernel
theorem d1_7 : decode prog_8_method_4_code 7 = .ok (.arraylength, 1) := by decide +kernel
theorem d1_8 : decode prog_8_method_4_code 8 = .ok (.istore 4, 2) := by decide +kernel
theorem d1_10 : decode prog_8_method_4_code 10 = .ok (.iconst 0, 1) := by decide +kernel
theorem d1_11 : decode prog_8_method_4_code 11 = .ok (.istore 5, 2) := by decide +kernel
def F1_48 (j1 : Int64) : Int64 := (((((j1 ^^^ ((j1.toUInt64 >>> ((30 : Int32) &&& 0x3f).toInt64.toUInt64).toInt64)) * (-4658895280553007687 : Int64)) ^^^ ((((j1 ^^^ ((j1.toUInt64 >>> ((30 : Int32) &&& 0x3f).toInt64.toUInt64).toInt64)) * (-4658895280553007687 : Int64)).toUInt64 >>> ((27 : Int32) &&& 0x3f).toInt64.toUInt64).toInt64)) * (-7723592293110705685 : Int64)) ^^^ ((((((j1 ^^^ ((j1.toUInt64 >>> ((30 : Int32) &&& 0x3f).toInt64.toUInt64).toInt64)) * (-4658895280553007687 : Int64)) ^^^ ((((j1 ^^^ ((j1.toUInt64 >>> ((30 : Int32) &&& 0x3f).toInt64.toUInt64).toInt64)) * (-4658895280553007687 : Int64)).toUInt64 >>> ((27 : Int32) &&& 0x3f).toInt64.toUInt64).toInt64)) * (-7723592293110705685 : Int64)).toUInt64 >>> ((31 : Int32) &&& 0x3f).toInt64.toUInt64).toInt64))
set_option maxRecDepth 65536 in
set_option maxHeartbeats 40000000 in
theorem b1_48 {p : Program} {l : Launch} {e : Env} {s : State} {m : MethodId} {args : Array Value} {below : List Frame} {meth : Method} {c : Code} {T : State} {h : Heap} {Z : State} {a0 : Array Value} {Q : Option Value → Heap → List Loc → Prop} (hw : ∀ d ∈ tables_1, d.before a0 Z = true) (o0 : Addr) (j1 : Int64) (i4 : Int32) (i5 : Int32) (s6 : Slot) (h_s6 : own_One s6) (vs : List Int32) (A_o0 : own_Ar Z h o0 .byte vs) (hlen : vs.length < 2147483648) (P : own_S Z "com/example/fair_shard/fairshard/capacity/Placement" "hash" prog_8_method_4_code 7 (some .long) p l e ({ frames := 0, cells := 0, slots := 0, locals := 0 } : Room) s m args below meth c T h [] 0 0) (hQ : Q (some (.long (F1_48 j1))) h []) :
    own_Go p e below (own_K s Q 0 0) (T.setTop (mkF m 48 #[.val (.ref o0), .val (.long j1), .second, .val (.ref o0), .val (.int i4), .val (.int i5), s6] [])) := by
  unfold F1_48 at hQ
  refine own_lloadN P d1_48 rfl rfl ?_
  refine own_lloadN P d1_49 rfl rfl ?_
  refine own_bipush P d1_50 rfl (v := (30 : Int32)) rfl ?_
  refine own_lushr P d1_52 rfl ?_
  refine own_lxor P d1_53 rfl ?_
  refine own_ldc2 P (v := (-4658895280553007687 : Int64)) (hw _ (List.mem_of_getElem? (i := 8) rfl)) d1_54 rfl ?_
  refine own_lmul P d1_57 rfl ?_
  refine own_lstoreN P d1_58 rfl (Ls' := #[.val (.ref o0), .val (.long ((j1 ^^^ ((j1.toUInt64 >>> ((30 : Int32) &&& 0x3f).toInt64.toUInt64).toInt64)) * (-4658895280553007687 : Int64))), .second, .val (.ref o0), .val (.int i4), .val (.int i5), s6]) rfl ?_
  refine own_lloadN P d1_59 rfl rfl ?_
  refine own_lloadN P d1_60 rfl rfl ?_
  refine own_bipush P d1_61 rfl (v := (27 : Int32)) rfl ?_
  refine own_lushr P d1_63 rfl ?_
  refine own_lxor P d1_64 rfl ?_
  refine own_ldc2 P (v := (-7723592293110705685 : Int64)) (hw _ (List.mem_of_getElem? (i := 9) rfl)) d1_65 rfl ?_
  refine own_lmul P d1_68 rfl ?_
  refine own_lstoreN P d1_69 rfl (Ls' := #[.val (.ref o0), .val (.long ((((j1 ^^^ ((j1.toUInt64 >>> ((30 : Int32) &&& 0x3f).toInt64.toUInt64).toInt64)) * (-4658895280553007687 : Int64)) ^^^ ((((j1 ^^^ ((j1.toUInt64 >>> ((30 : Int32) &&& 0x3f).toInt64.toUInt64).toInt64)) * (-4658895280553007687 : Int64)).toUInt64 >>> ((27 : Int32) &&& 0x3f).toInt64.toUInt64).toInt64)) * (-7723592293110705685 : Int64))), .second, .val (.ref o0), .val (.int i4), .val (.int i5), s6]) rfl ?_
  refine own_lloadN P d1_70 rfl rfl ?_
  refine own_lloadN P d1_71 rfl rfl ?_
  refine own_bipush P d1_72 rfl (v := (31 : Int32)) rfl ?_
  refine own_lushr P d1_74 rfl ?_
  refine own_lxor P d1_75 rfl ?_
  exact own_retL P d1_76 (by decide) (by decide) hQ
set_option maxRecDepth 65536 in
set_option maxHeartbeats 40000000 in
theorem b1_13 {p : Program} {l : Launch} {e : Env} {s : State} {m : MethodId} {args : Array Value} {below : List Frame} {meth : Method} {c : Code}  {h : Heap} {Z : State} {a0 : Array Value} {Q : Option Value → Heap → List Loc → Prop} (hw : ∀ d ∈ tables_1, d.before a0 Z = true) (o0 : Addr) (vs : List Int32) (A_o0 : own_Ar Z h o0 .byte vs) (hlen : vs.length < 2147483648) : ∀ (k i : Nat) (j1 : Int64) (s6 : Slot), own_One s6 → ∀ (T : State), i + k = vs.length → own_S Z "com/example/fair_shard/fairshard/capacity/Placement" "hash" prog_8_method_4_code 7 (some .long) p l e ({ frames := 0, cells := 0, slots := 0, locals := 0 } : Room) s m args below meth c T h [] 0 0 → Q (some (.long (F1_48 (own_fnv vs k i j1)))) h [] →
    own_Go p e below (own_K s Q 0 0) (T.setTop (mkF m 13 #[.val (.ref o0), .val (.long j1), .second, .val (.ref o0), .val (.int (Int32.ofNat vs.length)), .val (.int (Int32.ofNat i)), s6] [])) := by
  intro k
  induction k with
  | zero =>
    intro i j1 s6 h_s6 T hi P hQ
    rw [own_fz] at hQ
    have hc : ¬ ((Int32.ofNat i) < (Int32.ofNat vs.length)) := by rw [Int32.lt_iff_toInt_lt, own_on (by omega), own_on (by omega)]; omega
    refine own_iload P d1_13 rfl rfl ?_
    refine own_iload P d1_15 rfl rfl ?_
    refine own_icmpY P (pc' := 48) d1_17 hc (by decide) (by decide) ?_
    exact b1_48 hw o0 j1 (Int32.ofNat vs.length) (Int32.ofNat i) (s6) h_s6 vs A_o0 hlen P hQ
  | succ k ih =>
    intro i j1 s6 h_s6 T hi P hQ
    rw [own_fs] at hQ
    unfold own_stp at hQ
    have hc : (Int32.ofNat i) < (Int32.ofNat vs.length) := by rw [Int32.lt_iff_toInt_lt, own_on (by omega), own_on (by omega)]; omega
    refine own_iload P d1_13 rfl rfl ?_
    refine own_iload P d1_15 rfl rfl ?_
    refine own_icmpN P (pc' := 20) d1_17 (not_not_intro hc) rfl ?_
    refine own_aloadN P d1_20 rfl rfl rfl ?_
    refine own_iload P d1_21 rfl rfl ?_
    refine own_baload P A_o0 d1_23 rfl (by rw [own_on (by omega)]; omega) (by rw [own_on (by omega)]; omega) (x := (vs.getD i 0)) (by rw [own_on (by omega)]; rfl) ?_
    refine own_istore P d1_24 rfl (Ls' := #[.val (.ref o0), .val (.long j1), .second, .val (.ref o0), .val (.int (Int32.ofNat vs.length)), .val (.int (Int32.ofNat i)), .val (.int (vs.getD i 0))]) (by rcases h_s6 with rfl | ⟨w, rfl, hw⟩; rfl; cases w <;> first | rfl | (simp [Value.category] at hw)) ?_
    refine own_lloadN P d1_26 rfl rfl ?_
    refine own_iload P d1_27 rfl rfl ?_
    refine own_sipush P d1_29 rfl (v := (255 : Int32)) rfl ?_
    refine own_iand P d1_32 rfl ?_
    refine own_i2l P d1_33 rfl ?_
    refine own_lxor P d1_34 rfl ?_
    refine own_lstoreN P d1_35 rfl (Ls' := #[.val (.ref o0), .val (.long (j1 ^^^ (((vs.getD i 0) &&& (255 : Int32)).toInt64))), .second, .val (.ref o0), .val (.int (Int32.ofNat vs.length)), .val (.int (Int32.ofNat i)), .val (.int (vs.getD i 0))]) rfl ?_
    refine own_lloadN P d1_36 rfl rfl ?_
    refine own_ldc2 P (v := (1099511628211 : Int64)) (hw _ (List.mem_of_getElem? (i := 20) rfl)) d1_37 rfl ?_
    refine own_lmul P d1_40 rfl ?_
    refine own_lstoreN P d1_41 rfl (Ls' := #[.val (.ref o0), .val (.long ((j1 ^^^ (((vs.getD i 0) &&& (255 : Int32)).toInt64)) * (1099511628211 : Int64))), .second, .val (.ref o0), .val (.int (Int32.ofNat vs.length)), .val (.int (Int32.ofNat i)), .val (.int (vs.getD i 0))]) rfl ?_
    refine own_iinc P d1_42 rfl rfl (v := (1 : Int32)) rfl (Ls' := #[.val (.ref o0), .val (.long ((j1 ^^^ (((vs.getD i 0) &&& (255 : Int32)).toInt64)) * (1099511628211 : Int64))), .second, .val (.ref o0), .val (.int (Int32.ofNat vs.length)), .val (.int ((Int32.ofNat i) + (1 : Int32))), .val (.int (vs.getD i 0))]) rfl ?_
    refine own_goto P (pc' := 13) d1_45 (by decide) (by decide) ?_
    rw [own_one i]
    exact ih (i + 1) _ _ (Or.inr ⟨_, rfl, rfl⟩) _ (by omega) P hQ
def F1_0 (vs : List Int32) : Int64 := (F1_48 (own_fnv vs vs.length 0 (-3750763034362895579 : Int64)))
set_option maxRecDepth 65536 in
set_option maxHeartbeats 40000000 in
theorem b1_0 {p : Program} {l : Launch} {e : Env} {s : State} {m : MethodId} {args : Array Value} {below : List Frame} {meth : Method} {c : Code} {T : State} {h : Heap} {Z : State} {a0 : Array Value} {Q : Option Value → Heap → List Loc → Prop} (hw : ∀ d ∈ tables_1, d.before a0 Z = true) (o0 : Addr) (vs : List Int32) (A_o0 : own_Ar Z h o0 .byte vs) (hlen : vs.length < 2147483648) (P : own_S Z "com/example/fair_shard/fairshard/capacity/Placement" "hash" prog_8_method_4_code 7 (some .long) p l e ({ frames := 0, cells := 0, slots := 0, locals := 0 } : Room) s m args below meth c T h [] 0 0) (hQ : Q (some (.long (F1_0 vs))) h []) :
    own_Go p e below (own_K s Q 0 0) (T.setTop (mkF m 0 #[.val (.ref o0), .unset, .unset, .unset, .unset, .unset, .unset] [])) := by
  unfold F1_0 at hQ
  refine own_ldc2 P (v := (-3750763034362895579 : Int64)) (hw _ (List.mem_of_getElem? (i := 7) rfl)) d1_0 rfl ?_
  refine own_lstoreN P d1_3 rfl (Ls' := #[.val (.ref o0), .val (.long (-3750763034362895579 : Int64)), .second, .unset, .unset, .unset, .unset]) rfl ?_
  refine own_aloadN P d1_4 rfl rfl rfl ?_
  refine own_astoreN P d1_5 rfl rfl (Ls' := #[.val (.ref o0), .val (.long (-3750763034362895579 : Int64)), .second, .val (.ref o0), .unset, .unset, .unset]) rfl ?_
  refine own_aloadN P d1_6 rfl rfl rfl ?_
  refine own_alen P A_o0 d1_7 rfl (v := (Int32.ofNat vs.length)) rfl ?_
  refine own_istore P d1_8 rfl (Ls' := #[.val (.ref o0), .val (.long (-3750763034362895579 : Int64)), .second, .val (.ref o0), .val (.int (Int32.ofNat vs.length)), .unset, .unset]) rfl ?_
  refine own_iconst P d1_10 rfl (v := (0 : Int32)) rfl ?_
  refine own_istore P d1_11 rfl (Ls' := #[.val (.ref o0), .val (.long (-3750763034362895579 : Int64)), .second, .val (.ref o0), .val (.int (Int32.ofNat vs.length)), .val (.int (0 : Int32)), .unset]) rfl ?_
  exact b1_13 hw o0 vs A_o0 hlen vs.length 0 (-3750763034362895579 : Int64) .unset (Or.inl rfl) _ (Nat.zero_add _) P hQ
theorem own_pn0 : plainName "com/example/fair_shard/fairshard/capacity/Placement" = true := by first | (simp [plainName, overriddenIn]; done) | decide +kernel
theorem rm1 (l : Launch) (Z : State) (a0 : Array Value) (hw : ∀ d ∈ tables_1, d.before a0 Z = true) (o0 : Addr) (vs : List Int32) (h : Heap) (A_o0 : own_Ar Z h o0 .byte vs) (hlen : vs.length < 2147483648) :
    own_Con l Z (⟨"com/example/fair_shard/fairshard/capacity/Placement", "hash", "([B)J"⟩ : MethodName) prog_8_method_4_code 7 (some .long) [] ({ frames := 0, cells := 0, slots := 0, locals := 0 } : Room) #[(.ref o0)] h (own_P (some (.long (F1_0 vs))) h) :=
  own_enter (plainFor_of_name own_pn0) #[.val (.ref o0), .unset, .unset, .unset, .unset, .unset, .unset] (fun m => by first | (simp [entryFrame, mkF, argsToLocals, Value.category]; done) | rfl) (fun p e s m below meth c T P => b1_0 hw o0 vs A_o0 hlen P ⟨rfl, rfl, rfl⟩)
theorem d2_0 : decode method_3_code 0 = .ok (.lload_n 0, 1) := by decide +kernel
theorem d2_1 : decode method_3_code 1 = .ok (.lload_n 0, 1) := by decide +kernel
theorem d2_2 : decode method_3_code 2 = .ok (.bipush 30, 2) := by decide +kernel
theorem d2_4 : decode method_3_code 4 = .ok (.lushr, 1) := by decide +kernel
theorem d2_5 : decode method_3_code 5 = .ok (.lxor, 1) := by decide +kernel
theorem d2_6 : decode method_3_code 6 = .ok (.ldc2_w 9, 3) := by decide +kernel
theorem d2_9 : decode method_3_code 9 = .ok (.lmul, 1) := by decide +kernel
theorem d2_10 : decode method_3_code 10 = .ok (.lstore_n 2, 1) := by decide +kernel
theorem d2_11 : decode method_3_code 11 = .ok (.lload_n 2, 1) := by decide +kernel
theorem d2_12 : decode method_3_code 12 = .ok (.lload_n 2, 1) := by decide +kernel
theorem d2_13 : decode method_3_code 13 = .ok (.bipush 27, 2) := by decide +kernel
theorem d2_15 : decode method_3_code 15 = .ok (.lushr, 1) := by decide +kernel
theorem d2_16 : decode method_3_code 16 = .ok (.lxor, 1) := by decide +kernel
theorem d2_17 : decode method_3_code 17 = .ok (.ldc2_w 11, 3) := by decide +kernel
theorem d2_20 : decode method_3_code 20 = .ok (.lmul, 1) := by decide +kernel
theorem d2_21 : decode method_3_code 21 = .ok (.lstore 4, 2) := by decide +kernel
theorem d2_23 : decode method_3_code 23 = .ok (.lload 4, 2) := by decide +kernel
theorem d2_25 : decode method_3_code 25 = .ok (.lload 4, 2) := by decide +kernel
theorem d2_27 : decode method_3_code 27 = .ok (.bipush 31, 2) := by decide +kernel
theorem d2_29 : decode method_3_code 29 = .ok (.lushr, 1) := by decide +kernel
theorem d2_30 : decode method_3_code 30 = .ok (.lxor, 1) := by decide +kernel
theorem d2_31 : decode method_3_code 31 = .ok (.lreturn, 1) := by decide +kernel
def F2_0 (j0 : Int64) : Int64 := (((((j0 ^^^ ((j0.toUInt64 >>> ((30 : Int32) &&& 0x3f).toInt64.toUInt64).toInt64)) * (-4658895280553007687 : Int64)) ^^^ ((((j0 ^^^ ((j0.toUInt64 >>> ((30 : Int32) &&& 0x3f).toInt64.toUInt64).toInt64)) * (-4658895280553007687 : Int64)).toUInt64 >>> ((27 : Int32) &&& 0x3f).toInt64.toUInt64).toInt64)) * (-7723592293110705685 : Int64)) ^^^ ((((((j0 ^^^ ((j0.toUInt64 >>> ((30 : Int32) &&& 0x3f).toInt64.toUInt64).toInt64)) * (-4658895280553007687 : Int64)) ^^^ ((((j0 ^^^ ((j0.toUInt64 >>> ((30 : Int32) &&& 0x3f).toInt64.toUInt64).toInt64)) * (-4658895280553007687 : Int64)).toUInt64 >>> ((27 : Int32) &&& 0x3f).toInt64.toUInt64).toInt64)) * (-7723592293110705685 : Int64)).toUInt64 >>> ((31 : Int32) &&& 0x3f).toInt64.toUInt64).toInt64))
set_option maxRecDepth 65536 in
set_option maxHeartbeats 40000000 in
theorem b2_0 {p : Program} {l : Launch} {e : Env} {s : State} {m : MethodId} {args : Array Value} {below : List Frame} {meth : Method} {c : Code} {T : State} {h : Heap} {Z : State} {a0 : Array Value} {Q : Option Value → Heap → List Loc → Prop} (hw : ∀ d ∈ tables_1, d.before a0 Z = true) (j0 : Int64) (P : own_S Z "com/example/fair_shard/fairshard/capacity/PlacementHashPinLaw" "splitMix64Finalizer" method_3_code 6 (some .long) p l e ({ frames := 0, cells := 0, slots := 0, locals := 0 } : Room) s m args below meth c T h [] 0 0) (hQ : Q (some (.long (F2_0 j0))) h []) :
    own_Go p e below (own_K s Q 0 0) (T.setTop (mkF m 0 #[.val (.long j0), .second, .unset, .unset, .unset, .unset] [])) := by
  unfold F2_0 at hQ
  refine own_lloadN P d2_0 rfl rfl ?_
  refine own_lloadN P d2_1 rfl rfl ?_
  refine own_bipush P d2_2 rfl (v := (30 : Int32)) rfl ?_
  refine own_lushr P d2_4 rfl ?_
  refine own_lxor P d2_5 rfl ?_
  refine own_ldc2 P (v := (-4658895280553007687 : Int64)) (hw _ (List.mem_of_getElem? (i := 14) rfl)) d2_6 rfl ?_
  refine own_lmul P d2_9 rfl ?_
  refine own_lstoreN P d2_10 rfl (Ls' := #[.val (.long j0), .second, .val (.long ((j0 ^^^ ((j0.toUInt64 >>> ((30 : Int32) &&& 0x3f).toInt64.toUInt64).toInt64)) * (-4658895280553007687 : Int64))), .second, .unset, .unset]) rfl ?_
  refine own_lloadN P d2_11 rfl rfl ?_
  refine own_lloadN P d2_12 rfl rfl ?_
  refine own_bipush P d2_13 rfl (v := (27 : Int32)) rfl ?_
  refine own_lushr P d2_15 rfl ?_
  refine own_lxor P d2_16 rfl ?_
  refine own_ldc2 P (v := (-7723592293110705685 : Int64)) (hw _ (List.mem_of_getElem? (i := 15) rfl)) d2_17 rfl ?_
  refine own_lmul P d2_20 rfl ?_
  refine own_lstore P d2_21 rfl (Ls' := #[.val (.long j0), .second, .val (.long ((j0 ^^^ ((j0.toUInt64 >>> ((30 : Int32) &&& 0x3f).toInt64.toUInt64).toInt64)) * (-4658895280553007687 : Int64))), .second, .val (.long ((((j0 ^^^ ((j0.toUInt64 >>> ((30 : Int32) &&& 0x3f).toInt64.toUInt64).toInt64)) * (-4658895280553007687 : Int64)) ^^^ ((((j0 ^^^ ((j0.toUInt64 >>> ((30 : Int32) &&& 0x3f).toInt64.toUInt64).toInt64)) * (-4658895280553007687 : Int64)).toUInt64 >>> ((27 : Int32) &&& 0x3f).toInt64.toUInt64).toInt64)) * (-7723592293110705685 : Int64))), .second]) rfl ?_
  refine own_lload P d2_23 rfl rfl ?_
  refine own_lload P d2_25 rfl rfl ?_
  refine own_bipush P d2_27 rfl (v := (31 : Int32)) rfl ?_
  refine own_lushr P d2_29 rfl ?_
  refine own_lxor P d2_30 rfl ?_
  exact own_retL P d2_31 (by decide) (by decide) hQ
theorem own_pn1 : plainName "com/example/fair_shard/fairshard/capacity/PlacementHashPinLaw" = true := by first | (simp [plainName, overriddenIn]; done) | decide +kernel
theorem rm2 (l : Launch) (Z : State) (a0 : Array Value) (hw : ∀ d ∈ tables_1, d.before a0 Z = true) (j0 : Int64) (h : Heap) :
    own_Con l Z (⟨"com/example/fair_shard/fairshard/capacity/PlacementHashPinLaw", "splitMix64Finalizer", "(J)J"⟩ : MethodName) method_3_code 6 (some .long) [] ({ frames := 0, cells := 0, slots := 0, locals := 0 } : Room) #[(.long j0)] h (own_P (some (.long (F2_0 j0))) h) :=
  own_enter (plainFor_of_name own_pn1) #[.val (.long j0), .second, .unset, .unset, .unset, .unset] (fun m => by first | (simp [entryFrame, mkF, argsToLocals, Value.category]; done) | rfl) (fun p e s m below meth c T P => b2_0 hw j0 P ⟨rfl, rfl, rfl⟩)
theorem d3_0 : decode method_2_code 0 = .ok (.lload_n 0, 1) := by decide +kernel
theorem d3_1 : decode method_2_code 1 = .ok (.iload_n 2, 1) := by decide +kernel
theorem d3_2 : decode method_2_code 2 = .ok (.i2l, 1) := by decide +kernel
theorem d3_3 : decode method_2_code 3 = .ok (.lxor, 1) := by decide +kernel
theorem d3_4 : decode method_2_code 4 = .ok (.ldc2_w 7, 3) := by decide +kernel
theorem d3_7 : decode method_2_code 7 = .ok (.lmul, 1) := by decide +kernel
theorem d3_8 : decode method_2_code 8 = .ok (.lreturn, 1) := by decide +kernel
def F3_0 (j0 : Int64) (i2 : Int32) : Int64 := ((j0 ^^^ (i2.toInt64)) * (1099511628211 : Int64))
set_option maxRecDepth 65536 in
set_option maxHeartbeats 40000000 in
theorem b3_0 {p : Program} {l : Launch} {e : Env} {s : State} {m : MethodId} {args : Array Value} {below : List Frame} {meth : Method} {c : Code} {T : State} {h : Heap} {Z : State} {a0 : Array Value} {Q : Option Value → Heap → List Loc → Prop} (hw : ∀ d ∈ tables_1, d.before a0 Z = true) (j0 : Int64) (i2 : Int32) (P : own_S Z "com/example/fair_shard/fairshard/capacity/PlacementHashPinLaw" "fnv1aStep" method_2_code 3 (some .long) p l e ({ frames := 0, cells := 0, slots := 0, locals := 0 } : Room) s m args below meth c T h [] 0 0) (hQ : Q (some (.long (F3_0 j0 i2))) h []) :
    own_Go p e below (own_K s Q 0 0) (T.setTop (mkF m 0 #[.val (.long j0), .second, .val (.int i2)] [])) := by
  unfold F3_0 at hQ
  refine own_lloadN P d3_0 rfl rfl ?_
  refine own_iloadN P d3_1 rfl rfl ?_
  refine own_i2l P d3_2 rfl ?_
  refine own_lxor P d3_3 rfl ?_
  refine own_ldc2 P (v := (1099511628211 : Int64)) (hw _ (List.mem_of_getElem? (i := 19) rfl)) d3_4 rfl ?_
  refine own_lmul P d3_7 rfl ?_
  exact own_retL P d3_8 (by decide) (by decide) hQ
theorem rm3 (l : Launch) (Z : State) (a0 : Array Value) (hw : ∀ d ∈ tables_1, d.before a0 Z = true) (j0 : Int64) (i2 : Int32) (h : Heap) :
    own_Con l Z (⟨"com/example/fair_shard/fairshard/capacity/PlacementHashPinLaw", "fnv1aStep", "(JI)J"⟩ : MethodName) method_2_code 3 (some .long) [] ({ frames := 0, cells := 0, slots := 0, locals := 0 } : Room) #[(.long j0), (.int i2)] h (own_P (some (.long (F3_0 j0 i2))) h) :=
  own_enter (plainFor_of_name own_pn1) #[.val (.long j0), .second, .val (.int i2)] (fun m => by first | (simp [entryFrame, mkF, argsToLocals, Value.category]; done) | rfl) (fun p e s m below meth c T P => b3_0 hw j0 i2 P ⟨rfl, rfl, rfl⟩)
theorem own_and7 (x : Int32) : (x &&& (7 : Int32)) = (0 : Int32) ∨ (x &&& (7 : Int32)) = (1 : Int32) ∨ (x &&& (7 : Int32)) = (2 : Int32) ∨ (x &&& (7 : Int32)) = (3 : Int32) ∨ (x &&& (7 : Int32)) = (4 : Int32) ∨ (x &&& (7 : Int32)) = (5 : Int32) ∨ (x &&& (7 : Int32)) = (6 : Int32) ∨ (x &&& (7 : Int32)) = (7 : Int32) := by
  have m : (x &&& (7 : Int32)).toInt = x.toInt % 2 ^ 3 := Jvm.Kit.i32_mask x _ (k := 3) (by decide) (by decide)
  generalize (x &&& (7 : Int32)) = y at *
  have q : y.toInt = 0 ∨ y.toInt = 1 ∨ y.toInt = 2 ∨ y.toInt = 3 ∨ y.toInt = 4 ∨ y.toInt = 5 ∨ y.toInt = 6 ∨ y.toInt = 7 := by omega
  rcases q with q | q | q | q | q | q | q | q
  · exact Or.inl (Int32.toInt_inj.mp (q.trans (by decide)))
  · exact Or.inr (Or.inl (Int32.toInt_inj.mp (q.trans (by decide))))
  · exact Or.inr (Or.inr (Or.inl (Int32.toInt_inj.mp (q.trans (by decide)))))
  · exact Or.inr (Or.inr (Or.inr (Or.inl (Int32.toInt_inj.mp (q.trans (by decide))))))
  · exact Or.inr (Or.inr (Or.inr (Or.inr (Or.inl (Int32.toInt_inj.mp (q.trans (by decide)))))))
  · exact Or.inr (Or.inr (Or.inr (Or.inr (Or.inr (Or.inl (Int32.toInt_inj.mp (q.trans (by decide))))))))
  · exact Or.inr (Or.inr (Or.inr (Or.inr (Or.inr (Or.inr (Or.inl (Int32.toInt_inj.mp (q.trans (by decide)))))))))
  · exact Or.inr (Or.inr (Or.inr (Or.inr (Or.inr (Or.inr (Or.inr ((Int32.toInt_inj.mp (q.trans (by decide))))))))))
theorem own_pd0 : parseMethodDescriptor "([B)J" = some ⟨[(.array .byte)], some .long⟩ := by decide +kernel
theorem own_pd1 : parseMethodDescriptor "(J)J" = some ⟨[.long], some .long⟩ := by decide +kernel
theorem own_pd2 : parseMethodDescriptor "(JI)J" = some ⟨[.long, .int], some .long⟩ := by decide +kernel
def F0_79 (i3 : Int32) (i4 : Int32) (i5 : Int32) (i6 : Int32) (i7 : Int32) (i8 : Int32) (i9 : Int32) (i10 : Int32) : Int32 := (if i3 = (0 : Int32) then (if (F1_0 []) = (F2_0 (-3750763034362895579 : Int64)) then (1 : Int32) else (0 : Int32)) else (if i3 = (1 : Int32) then (if (F1_0 [(nar .byte (i4.toInt8.toInt32))]) = (F2_0 (F3_0 (-3750763034362895579 : Int64) i4)) then (1 : Int32) else (0 : Int32)) else (if i3 = (2 : Int32) then (if (F1_0 [(nar .byte (i4.toInt8.toInt32)), (nar .byte (i5.toInt8.toInt32))]) = (F2_0 (F3_0 (F3_0 (-3750763034362895579 : Int64) i4) i5)) then (1 : Int32) else (0 : Int32)) else (if i3 = (3 : Int32) then (if (F1_0 [(nar .byte (i4.toInt8.toInt32)), (nar .byte (i5.toInt8.toInt32)), (nar .byte (i6.toInt8.toInt32))]) = (F2_0 (F3_0 (F3_0 (F3_0 (-3750763034362895579 : Int64) i4) i5) i6)) then (1 : Int32) else (0 : Int32)) else (if i3 = (4 : Int32) then (if (F1_0 [(nar .byte (i4.toInt8.toInt32)), (nar .byte (i5.toInt8.toInt32)), (nar .byte (i6.toInt8.toInt32)), (nar .byte (i7.toInt8.toInt32))]) = (F2_0 (F3_0 (F3_0 (F3_0 (F3_0 (-3750763034362895579 : Int64) i4) i5) i6) i7)) then (1 : Int32) else (0 : Int32)) else (if i3 = (5 : Int32) then (if (F1_0 [(nar .byte (i4.toInt8.toInt32)), (nar .byte (i5.toInt8.toInt32)), (nar .byte (i6.toInt8.toInt32)), (nar .byte (i7.toInt8.toInt32)), (nar .byte (i8.toInt8.toInt32))]) = (F2_0 (F3_0 (F3_0 (F3_0 (F3_0 (F3_0 (-3750763034362895579 : Int64) i4) i5) i6) i7) i8)) then (1 : Int32) else (0 : Int32)) else (if i3 = (6 : Int32) then (if (F1_0 [(nar .byte (i4.toInt8.toInt32)), (nar .byte (i5.toInt8.toInt32)), (nar .byte (i6.toInt8.toInt32)), (nar .byte (i7.toInt8.toInt32)), (nar .byte (i8.toInt8.toInt32)), (nar .byte (i9.toInt8.toInt32))]) = (F2_0 (F3_0 (F3_0 (F3_0 (F3_0 (F3_0 (F3_0 (-3750763034362895579 : Int64) i4) i5) i6) i7) i8) i9)) then (1 : Int32) else (0 : Int32)) else (if (F1_0 [(nar .byte (i4.toInt8.toInt32)), (nar .byte (i5.toInt8.toInt32)), (nar .byte (i6.toInt8.toInt32)), (nar .byte (i7.toInt8.toInt32)), (nar .byte (i8.toInt8.toInt32)), (nar .byte (i9.toInt8.toInt32)), (nar .byte (i10.toInt8.toInt32))]) = (F2_0 (F3_0 (F3_0 (F3_0 (F3_0 (F3_0 (F3_0 (F3_0 (-3750763034362895579 : Int64) i4) i5) i6) i7) i8) i9) i10)) then (1 : Int32) else (0 : Int32)))))))))
set_option maxRecDepth 65536 in
set_option maxHeartbeats 40000000 in
theorem b0_79 {p : Program} {l : Launch} {e : Env} {s : State} {m : MethodId} {args : Array Value} {below : List Frame} {meth : Method} {c : Code} {T : State} {h : Heap} {locs : List Loc} {Z : State} {a0 : Array Value} {Q : Option Value → Heap → List Loc → Prop} (hw : ∀ d ∈ tables_1, d.before a0 Z = true) (i0 : Int32) (j1 : Int64) (i3 : Int32) (i4 : Int32) (i5 : Int32) (i6 : Int32) (i7 : Int32) (i8 : Int32) (i9 : Int32) (i10 : Int32)  (n0 : Nat) (N : Fr n0 locs) (Z0 : n0 ≤ h.size) (hsp : i3 = (0 : Int32) ∨ i3 = (1 : Int32) ∨ i3 = (2 : Int32) ∨ i3 = (3 : Int32) ∨ i3 = (4 : Int32) ∨ i3 = (5 : Int32) ∨ i3 = (6 : Int32) ∨ i3 = (7 : Int32)) (P : own_S Z "com/example/fair_shard/fairshard/capacity/PlacementHashPinLaw" "law" code 14 (some .boolean) p l e room_1 s m args below meth c T h locs 0 0) (hQ : ∀ h' L', Fr n0 L' → Q (some (.int (F0_79 i3 i4 i5 i6 i7 i8 i9 i10))) h' L') :
    own_Go p e below (own_K s Q room_1.cells room_1.slots) (T.setTop (mkF m 79 #[.val (.int i0), .val (.long j1), .second, .val (.int i3), .val (.int i4), .val (.int i5), .val (.int i6), .val (.int i7), .val (.int i8), .val (.int i9), .val (.int i10), .unset, .unset, .unset] [])) := by
  unfold F0_79 at hQ
  rcases hsp with rfl | rfl | rfl | rfl | rfl | rfl | rfl | rfl
  · rw [if_pos rfl] at hQ
    refine own_iloadN P at_79 rfl rfl ?_
    refine own_arrNew P 0 (hw _ (List.mem_of_getElem? (i := 1) rfl)) rfl rfl at_80 rfl (by decide) (by decide) (by decide) (by decide) (by decide) (fun T6 h7 b1 ha2 E3 A4 P5 => ?_)
    have g8 : n0 ≤ b1 := by rw [ha2]; exact Z0
    have f9 : own_Ar Z h7 b1 .byte [] := A4
    refine own_astore P5 at_82 rfl rfl (Ls' := #[.val (.int i0), .val (.long j1), .second, .val (.int (0 : Int32)), .val (.int i4), .val (.int i5), .val (.int i6), .val (.int i7), .val (.int i8), .val (.int i9), .val (.int i10), .val (.ref b1), .unset, .unset]) rfl ?_
    refine own_iloadN P5 at_84 rfl rfl ?_
    refine own_if0Y P5 (pc' := 95) at_85 (by decide : ¬ ((0 : Int32) < (0 : Int32))) (by decide) (by decide) ?_
    refine own_iloadN P5 at_95 rfl rfl ?_
    refine own_iconst P5 at_96 rfl (v := (1 : Int32)) rfl ?_
    refine own_icmpY P5 (pc' := 107) at_97 (by decide : ¬ ((1 : Int32) < (0 : Int32))) (by decide) (by decide) ?_
    refine own_iloadN P5 at_107 rfl rfl ?_
    refine own_iconst P5 at_108 rfl (v := (2 : Int32)) rfl ?_
    refine own_icmpY P5 (pc' := 119) at_109 (by decide : ¬ ((2 : Int32) < (0 : Int32))) (by decide) (by decide) ?_
    refine own_iloadN P5 at_119 rfl rfl ?_
    refine own_iconst P5 at_120 rfl (v := (3 : Int32)) rfl ?_
    refine own_icmpY P5 (pc' := 131) at_121 (by decide : ¬ ((3 : Int32) < (0 : Int32))) (by decide) (by decide) ?_
    refine own_iloadN P5 at_131 rfl rfl ?_
    refine own_iconst P5 at_132 rfl (v := (4 : Int32)) rfl ?_
    refine own_icmpY P5 (pc' := 143) at_133 (by decide : ¬ ((4 : Int32) < (0 : Int32))) (by decide) (by decide) ?_
    refine own_iloadN P5 at_143 rfl rfl ?_
    refine own_iconst P5 at_144 rfl (v := (5 : Int32)) rfl ?_
    refine own_icmpY P5 (pc' := 155) at_145 (by decide : ¬ ((5 : Int32) < (0 : Int32))) (by decide) (by decide) ?_
    refine own_iloadN P5 at_155 rfl rfl ?_
    refine own_bipush P5 at_156 rfl (v := (6 : Int32)) rfl ?_
    refine own_icmpY P5 (pc' := 169) at_158 (by decide : ¬ ((6 : Int32) < (0 : Int32))) (by decide) (by decide) ?_
    refine own_ldc2 P5 (v := (-3750763034362895579 : Int64)) (hw _ (List.mem_of_getElem? (i := 2) rfl)) at_169 rfl ?_
    refine own_lstore P5 at_172 rfl (Ls' := #[.val (.int i0), .val (.long j1), .second, .val (.int (0 : Int32)), .val (.int i4), .val (.int i5), .val (.int i6), .val (.int i7), .val (.int i8), .val (.int i9), .val (.int i10), .val (.ref b1), .val (.long (-3750763034362895579 : Int64)), .second]) rfl ?_
    refine own_iloadN P5 at_174 rfl rfl ?_
    refine own_if0Y P5 (pc' := 187) at_175 (by decide : ¬ ((0 : Int32) < (0 : Int32))) (by decide) (by decide) ?_
    refine own_iloadN P5 at_187 rfl rfl ?_
    refine own_iconst P5 at_188 rfl (v := (1 : Int32)) rfl ?_
    refine own_icmpY P5 (pc' := 201) at_189 (by decide : ¬ ((1 : Int32) < (0 : Int32))) (by decide) (by decide) ?_
    refine own_iloadN P5 at_201 rfl rfl ?_
    refine own_iconst P5 at_202 rfl (v := (2 : Int32)) rfl ?_
    refine own_icmpY P5 (pc' := 215) at_203 (by decide : ¬ ((2 : Int32) < (0 : Int32))) (by decide) (by decide) ?_
    refine own_iloadN P5 at_215 rfl rfl ?_
    refine own_iconst P5 at_216 rfl (v := (3 : Int32)) rfl ?_
    refine own_icmpY P5 (pc' := 229) at_217 (by decide : ¬ ((3 : Int32) < (0 : Int32))) (by decide) (by decide) ?_
    refine own_iloadN P5 at_229 rfl rfl ?_
    refine own_iconst P5 at_230 rfl (v := (4 : Int32)) rfl ?_
    refine own_icmpY P5 (pc' := 243) at_231 (by decide : ¬ ((4 : Int32) < (0 : Int32))) (by decide) (by decide) ?_
    refine own_iloadN P5 at_243 rfl rfl ?_
    refine own_iconst P5 at_244 rfl (v := (5 : Int32)) rfl ?_
    refine own_icmpY P5 (pc' := 257) at_245 (by decide : ¬ ((5 : Int32) < (0 : Int32))) (by decide) (by decide) ?_
    refine own_iloadN P5 at_257 rfl rfl ?_
    refine own_bipush P5 at_258 rfl (v := (6 : Int32)) rfl ?_
    refine own_icmpY P5 (pc' := 272) at_260 (by decide : ¬ ((6 : Int32) < (0 : Int32))) (by decide) (by decide) ?_
    refine own_aload P5 at_272 rfl rfl rfl ?_
    refine own_callP P5 (hw _ (List.mem_of_getElem? (i := 3) rfl)) (hw _ (List.mem_of_getElem? (i := 4) rfl)) (hw _ (List.mem_of_getElem? (i := 5) rfl)) (hw _ (List.mem_of_getElem? (i := 6) rfl)) (by decide) (argsL := [(.ref b1)]) (rest := []) (rm1 l Z a0 hw b1 [] h7 f9 (Nat.le_of_ble_eq_true rfl)) at_274 rfl own_pd0 rfl rfl rfl (by decide) 0 rfl (by decide) rfl rfl (by decide) (by decide) (fun T11 P10 => ?_)
    show own_Go p e below _ (T11.setTop (mkF m 277 #[.val (.int i0), .val (.long j1), .second, .val (.int (0 : Int32)), .val (.int i4), .val (.int i5), .val (.int i6), .val (.int i7), .val (.int i8), .val (.int i9), .val (.int i10), .val (.ref b1), .val (.long (-3750763034362895579 : Int64)), .second] [(.long (F1_0 []))]))
    refine own_lload P10 at_277 rfl rfl ?_
    refine own_callP P10 (hw _ (List.mem_of_getElem? (i := 10) rfl)) (hw _ (List.mem_of_getElem? (i := 11) rfl)) (hw _ (List.mem_of_getElem? (i := 12) rfl)) (hw _ (List.mem_of_getElem? (i := 13) rfl)) (by decide) (argsL := [(.long (-3750763034362895579 : Int64))]) (rest := [(.long (F1_0 []))]) (rm2 l Z a0 hw (-3750763034362895579 : Int64) h7) at_279 rfl own_pd1 rfl rfl rfl (by decide) 2 rfl (by decide) rfl rfl (by decide) (by decide) (fun T17 P16 => ?_)
    show own_Go p e below _ (T17.setTop (mkF m 282 #[.val (.int i0), .val (.long j1), .second, .val (.int (0 : Int32)), .val (.int i4), .val (.int i5), .val (.int i6), .val (.int i7), .val (.int i8), .val (.int i9), .val (.int i10), .val (.ref b1), .val (.long (-3750763034362895579 : Int64)), .second] [(.long (F2_0 (-3750763034362895579 : Int64))), (.long (F1_0 []))]))
    by_cases hc18 : (F1_0 []) = (F2_0 (-3750763034362895579 : Int64))
    · rw [if_pos hc18] at hQ
      refine own_lcN P16 (pc' := 286) at_282 at_283 (not_not_intro hc18) rfl ?_
      refine own_iconst P16 at_286 rfl (v := (1 : Int32)) rfl ?_
      refine own_goto P16 (pc' := 291) at_287 (by decide) (by decide) ?_
      exact own_retZ P16 at_291 (z := (1 : Int32)) rfl (by decide) (by decide) (hQ _ _ N)
    · rw [if_neg hc18] at hQ
      refine own_lcY P16 (pc' := 290) at_282 at_283 hc18 (by decide) (by decide) ?_
      refine own_iconst P16 at_290 rfl (v := (0 : Int32)) rfl ?_
      exact own_retZ P16 at_291 (z := (0 : Int32)) rfl (by decide) (by decide) (hQ _ _ N)
  · rw [if_neg (by decide : ¬ ((1 : Int32) = (0 : Int32))), if_pos rfl] at hQ
    refine own_iloadN P at_79 rfl rfl ?_
    refine own_arrNew P 1 (hw _ (List.mem_of_getElem? (i := 1) rfl)) rfl rfl at_80 rfl (by decide) (by decide) (by decide) (by decide) (by decide) (fun T24 h25 b19 ha20 E21 A22 P23 => ?_)
    have g26 : n0 ≤ b19 := by rw [ha20]; exact Z0
    have f27 : own_Ar Z h25 b19 .byte [(0 : Int32)] := A22
    refine own_astore P23 at_82 rfl rfl (Ls' := #[.val (.int i0), .val (.long j1), .second, .val (.int (1 : Int32)), .val (.int i4), .val (.int i5), .val (.int i6), .val (.int i7), .val (.int i8), .val (.int i9), .val (.int i10), .val (.ref b19), .unset, .unset]) rfl ?_
    refine own_iloadN P23 at_84 rfl rfl ?_
    refine own_if0N P23 (pc' := 88) at_85 (not_not_intro (by decide : (0 : Int32) < (1 : Int32))) rfl ?_
    refine own_aload P23 at_88 rfl rfl rfl ?_
    refine own_iconst P23 at_90 rfl (v := (0 : Int32)) rfl ?_
    refine own_iload P23 at_91 rfl rfl ?_
    refine own_i2b P23 at_93 rfl ?_
    refine own_bastore P23 f27 at_94 rfl (by decide) (Nat.le_of_ble_eq_true rfl) (z := (nar .byte (i4.toInt8.toInt32))) rfl (fun T29 h30 W31 A32 P28 => ?_)
    have N33 := Fr.snoc P28.st N g26
    have f34 : own_Ar Z h30 b19 .byte [(nar .byte (i4.toInt8.toInt32))] := A32
    refine own_iloadN P28 at_95 rfl rfl ?_
    refine own_iconst P28 at_96 rfl (v := (1 : Int32)) rfl ?_
    refine own_icmpY P28 (pc' := 107) at_97 (by decide : ¬ ((1 : Int32) < (1 : Int32))) (by decide) (by decide) ?_
    refine own_iloadN P28 at_107 rfl rfl ?_
    refine own_iconst P28 at_108 rfl (v := (2 : Int32)) rfl ?_
    refine own_icmpY P28 (pc' := 119) at_109 (by decide : ¬ ((2 : Int32) < (1 : Int32))) (by decide) (by decide) ?_
    refine own_iloadN P28 at_119 rfl rfl ?_
    refine own_iconst P28 at_120 rfl (v := (3 : Int32)) rfl ?_
    refine own_icmpY P28 (pc' := 131) at_121 (by decide : ¬ ((3 : Int32) < (1 : Int32))) (by decide) (by decide) ?_
    refine own_iloadN P28 at_131 rfl rfl ?_
    refine own_iconst P28 at_132 rfl (v := (4 : Int32)) rfl ?_
    refine own_icmpY P28 (pc' := 143) at_133 (by decide : ¬ ((4 : Int32) < (1 : Int32))) (by decide) (by decide) ?_
    refine own_iloadN P28 at_143 rfl rfl ?_
    refine own_iconst P28 at_144 rfl (v := (5 : Int32)) rfl ?_
    refine own_icmpY P28 (pc' := 155) at_145 (by decide : ¬ ((5 : Int32) < (1 : Int32))) (by decide) (by decide) ?_
    refine own_iloadN P28 at_155 rfl rfl ?_
    refine own_bipush P28 at_156 rfl (v := (6 : Int32)) rfl ?_
    refine own_icmpY P28 (pc' := 169) at_158 (by decide : ¬ ((6 : Int32) < (1 : Int32))) (by decide) (by decide) ?_
    refine own_ldc2 P28 (v := (-3750763034362895579 : Int64)) (hw _ (List.mem_of_getElem? (i := 2) rfl)) at_169 rfl ?_
    refine own_lstore P28 at_172 rfl (Ls' := #[.val (.int i0), .val (.long j1), .second, .val (.int (1 : Int32)), .val (.int i4), .val (.int i5), .val (.int i6), .val (.int i7), .val (.int i8), .val (.int i9), .val (.int i10), .val (.ref b19), .val (.long (-3750763034362895579 : Int64)), .second]) rfl ?_
    refine own_iloadN P28 at_174 rfl rfl ?_
    refine own_if0N P28 (pc' := 178) at_175 (not_not_intro (by decide : (0 : Int32) < (1 : Int32))) rfl ?_
    refine own_lload P28 at_178 rfl rfl ?_
    refine own_iload P28 at_180 rfl rfl ?_
    refine own_callP P28 (hw _ (List.mem_of_getElem? (i := 16) rfl)) (hw _ (List.mem_of_getElem? (i := 17) rfl)) (hw _ (List.mem_of_getElem? (i := 12) rfl)) (hw _ (List.mem_of_getElem? (i := 18) rfl)) (by decide) (argsL := [(.long (-3750763034362895579 : Int64)), (.int i4)]) (rest := []) (rm3 l Z a0 hw (-3750763034362895579 : Int64) i4 h30) at_182 rfl own_pd2 rfl rfl rfl (by decide) 0 rfl (by decide) rfl rfl (by decide) (by decide) (fun T36 P35 => ?_)
    show own_Go p e below _ (T36.setTop (mkF m 185 #[.val (.int i0), .val (.long j1), .second, .val (.int (1 : Int32)), .val (.int i4), .val (.int i5), .val (.int i6), .val (.int i7), .val (.int i8), .val (.int i9), .val (.int i10), .val (.ref b19), .val (.long (-3750763034362895579 : Int64)), .second] [(.long (F3_0 (-3750763034362895579 : Int64) i4))]))
    refine own_lstore P35 at_185 rfl (Ls' := #[.val (.int i0), .val (.long j1), .second, .val (.int (1 : Int32)), .val (.int i4), .val (.int i5), .val (.int i6), .val (.int i7), .val (.int i8), .val (.int i9), .val (.int i10), .val (.ref b19), .val (.long (F3_0 (-3750763034362895579 : Int64) i4)), .second]) rfl ?_
    refine own_iloadN P35 at_187 rfl rfl ?_
    refine own_iconst P35 at_188 rfl (v := (1 : Int32)) rfl ?_
    refine own_icmpY P35 (pc' := 201) at_189 (by decide : ¬ ((1 : Int32) < (1 : Int32))) (by decide) (by decide) ?_
    refine own_iloadN P35 at_201 rfl rfl ?_
    refine own_iconst P35 at_202 rfl (v := (2 : Int32)) rfl ?_
    refine own_icmpY P35 (pc' := 215) at_203 (by decide : ¬ ((2 : Int32) < (1 : Int32))) (by decide) (by decide) ?_
    refine own_iloadN P35 at_215 rfl rfl ?_
    refine own_iconst P35 at_216 rfl (v := (3 : Int32)) rfl ?_
    refine own_icmpY P35 (pc' := 229) at_217 (by decide : ¬ ((3 : Int32) < (1 : Int32))) (by decide) (by decide) ?_
    refine own_iloadN P35 at_229 rfl rfl ?_
    refine own_iconst P35 at_230 rfl (v := (4 : Int32)) rfl ?_
    refine own_icmpY P35 (pc' := 243) at_231 (by decide : ¬ ((4 : Int32) < (1 : Int32))) (by decide) (by decide) ?_
    refine own_iloadN P35 at_243 rfl rfl ?_
    refine own_iconst P35 at_244 rfl (v := (5 : Int32)) rfl ?_
    refine own_icmpY P35 (pc' := 257) at_245 (by decide : ¬ ((5 : Int32) < (1 : Int32))) (by decide) (by decide) ?_
    refine own_iloadN P35 at_257 rfl rfl ?_
    refine own_bipush P35 at_258 rfl (v := (6 : Int32)) rfl ?_
    refine own_icmpY P35 (pc' := 272) at_260 (by decide : ¬ ((6 : Int32) < (1 : Int32))) (by decide) (by decide) ?_
    refine own_aload P35 at_272 rfl rfl rfl ?_
    refine own_callP P35 (hw _ (List.mem_of_getElem? (i := 3) rfl)) (hw _ (List.mem_of_getElem? (i := 4) rfl)) (hw _ (List.mem_of_getElem? (i := 5) rfl)) (hw _ (List.mem_of_getElem? (i := 6) rfl)) (by decide) (argsL := [(.ref b19)]) (rest := []) (rm1 l Z a0 hw b19 [(nar .byte (i4.toInt8.toInt32))] h30 f34 (Nat.le_of_ble_eq_true rfl)) at_274 rfl own_pd0 rfl rfl rfl (by decide) 0 rfl (by decide) rfl rfl (by decide) (by decide) (fun T38 P37 => ?_)
    show own_Go p e below _ (T38.setTop (mkF m 277 #[.val (.int i0), .val (.long j1), .second, .val (.int (1 : Int32)), .val (.int i4), .val (.int i5), .val (.int i6), .val (.int i7), .val (.int i8), .val (.int i9), .val (.int i10), .val (.ref b19), .val (.long (F3_0 (-3750763034362895579 : Int64) i4)), .second] [(.long (F1_0 [(nar .byte (i4.toInt8.toInt32))]))]))
    refine own_lload P37 at_277 rfl rfl ?_
    refine own_callP P37 (hw _ (List.mem_of_getElem? (i := 10) rfl)) (hw _ (List.mem_of_getElem? (i := 11) rfl)) (hw _ (List.mem_of_getElem? (i := 12) rfl)) (hw _ (List.mem_of_getElem? (i := 13) rfl)) (by decide) (argsL := [(.long (F3_0 (-3750763034362895579 : Int64) i4))]) (rest := [(.long (F1_0 [(nar .byte (i4.toInt8.toInt32))]))]) (rm2 l Z a0 hw (F3_0 (-3750763034362895579 : Int64) i4) h30) at_279 rfl own_pd1 rfl rfl rfl (by decide) 2 rfl (by decide) rfl rfl (by decide) (by decide) (fun T44 P43 => ?_)
    show own_Go p e below _ (T44.setTop (mkF m 282 #[.val (.int i0), .val (.long j1), .second, .val (.int (1 : Int32)), .val (.int i4), .val (.int i5), .val (.int i6), .val (.int i7), .val (.int i8), .val (.int i9), .val (.int i10), .val (.ref b19), .val (.long (F3_0 (-3750763034362895579 : Int64) i4)), .second] [(.long (F2_0 (F3_0 (-3750763034362895579 : Int64) i4))), (.long (F1_0 [(nar .byte (i4.toInt8.toInt32))]))]))
    by_cases hc45 : (F1_0 [(nar .byte (i4.toInt8.toInt32))]) = (F2_0 (F3_0 (-3750763034362895579 : Int64) i4))
    · rw [if_pos hc45] at hQ
      refine own_lcN P43 (pc' := 286) at_282 at_283 (not_not_intro hc45) rfl ?_
      refine own_iconst P43 at_286 rfl (v := (1 : Int32)) rfl ?_
      refine own_goto P43 (pc' := 291) at_287 (by decide) (by decide) ?_
      exact own_retZ P43 at_291 (z := (1 : Int32)) rfl (by decide) (by decide) (hQ _ _ N33)
    · rw [if_neg hc45] at hQ
      refine own_lcY P43 (pc' := 290) at_282 at_283 hc45 (by decide) (by decide) ?_
      refine own_iconst P43 at_290 rfl (v := (0 : Int32)) rfl ?_
      exact own_retZ P43 at_291 (z := (0 : Int32)) rfl (by decide) (by decide) (hQ _ _ N33)
  · rw [if_neg (by decide : ¬ ((2 : Int32) = (0 : Int32))), if_neg (by decide : ¬ ((2 : Int32) = (1 : Int32))), if_pos rfl] at hQ
    refine own_iloadN P at_79 rfl rfl ?_
    refine own_arrNew P 2 (hw _ (List.mem_of_getElem? (i := 1) rfl)) rfl rfl at_80 rfl (by decide) (by decide) (by decide) (by decide) (by decide) (fun T51 h52 b46 ha47 E48 A49 P50 => ?_)
    have g53 : n0 ≤ b46 := by rw [ha47]; exact Z0
    have f54 : own_Ar Z h52 b46 .byte [(0 : Int32), (0 : Int32)] := A49
    refine own_astore P50 at_82 rfl rfl (Ls' := #[.val (.int i0), .val (.long j1), .second, .val (.int (2 : Int32)), .val (.int i4), .val (.int i5), .val (.int i6), .val (.int i7), .val (.int i8), .val (.int i9), .val (.int i10), .val (.ref b46), .unset, .unset]) rfl ?_
    refine own_iloadN P50 at_84 rfl rfl ?_
    refine own_if0N P50 (pc' := 88) at_85 (not_not_intro (by decide : (0 : Int32) < (2 : Int32))) rfl ?_
    refine own_aload P50 at_88 rfl rfl rfl ?_
    refine own_iconst P50 at_90 rfl (v := (0 : Int32)) rfl ?_
    refine own_iload P50 at_91 rfl rfl ?_
    refine own_i2b P50 at_93 rfl ?_
    refine own_bastore P50 f54 at_94 rfl (by decide) (Nat.le_of_ble_eq_true rfl) (z := (nar .byte (i4.toInt8.toInt32))) rfl (fun T56 h57 W58 A59 P55 => ?_)
    have N60 := Fr.snoc P55.st N g53
    have f61 : own_Ar Z h57 b46 .byte [(nar .byte (i4.toInt8.toInt32)), (0 : Int32)] := A59
    refine own_iloadN P55 at_95 rfl rfl ?_
    refine own_iconst P55 at_96 rfl (v := (1 : Int32)) rfl ?_
    refine own_icmpN P55 (pc' := 100) at_97 (not_not_intro (by decide : (1 : Int32) < (2 : Int32))) rfl ?_
    refine own_aload P55 at_100 rfl rfl rfl ?_
    refine own_iconst P55 at_102 rfl (v := (1 : Int32)) rfl ?_
    refine own_iload P55 at_103 rfl rfl ?_
    refine own_i2b P55 at_105 rfl ?_
    refine own_bastore P55 f61 at_106 rfl (by decide) (Nat.le_of_ble_eq_true rfl) (z := (nar .byte (i5.toInt8.toInt32))) rfl (fun T63 h64 W65 A66 P62 => ?_)
    have N67 := Fr.snoc P62.st N60 g53
    have f68 : own_Ar Z h64 b46 .byte [(nar .byte (i4.toInt8.toInt32)), (nar .byte (i5.toInt8.toInt32))] := A66
    refine own_iloadN P62 at_107 rfl rfl ?_
    refine own_iconst P62 at_108 rfl (v := (2 : Int32)) rfl ?_
    refine own_icmpY P62 (pc' := 119) at_109 (by decide : ¬ ((2 : Int32) < (2 : Int32))) (by decide) (by decide) ?_
    refine own_iloadN P62 at_119 rfl rfl ?_
    refine own_iconst P62 at_120 rfl (v := (3 : Int32)) rfl ?_
    refine own_icmpY P62 (pc' := 131) at_121 (by decide : ¬ ((3 : Int32) < (2 : Int32))) (by decide) (by decide) ?_
    refine own_iloadN P62 at_131 rfl rfl ?_
    refine own_iconst P62 at_132 rfl (v := (4 : Int32)) rfl ?_
    refine own_icmpY P62 (pc' := 143) at_133 (by decide : ¬ ((4 : Int32) < (2 : Int32))) (by decide) (by decide) ?_
    refine own_iloadN P62 at_143 rfl rfl ?_
    refine own_iconst P62 at_144 rfl (v := (5 : Int32)) rfl ?_
    refine own_icmpY P62 (pc' := 155) at_145 (by decide : ¬ ((5 : Int32) < (2 : Int32))) (by decide) (by decide) ?_
    refine own_iloadN P62 at_155 rfl rfl ?_
    refine own_bipush P62 at_156 rfl (v := (6 : Int32)) rfl ?_
    refine own_icmpY P62 (pc' := 169) at_158 (by decide : ¬ ((6 : Int32) < (2 : Int32))) (by decide) (by decide) ?_
    refine own_ldc2 P62 (v := (-3750763034362895579 : Int64)) (hw _ (List.mem_of_getElem? (i := 2) rfl)) at_169 rfl ?_
    refine own_lstore P62 at_172 rfl (Ls' := #[.val (.int i0), .val (.long j1), .second, .val (.int (2 : Int32)), .val (.int i4), .val (.int i5), .val (.int i6), .val (.int i7), .val (.int i8), .val (.int i9), .val (.int i10), .val (.ref b46), .val (.long (-3750763034362895579 : Int64)), .second]) rfl ?_
    refine own_iloadN P62 at_174 rfl rfl ?_
    refine own_if0N P62 (pc' := 178) at_175 (not_not_intro (by decide : (0 : Int32) < (2 : Int32))) rfl ?_
    refine own_lload P62 at_178 rfl rfl ?_
    refine own_iload P62 at_180 rfl rfl ?_
    refine own_callP P62 (hw _ (List.mem_of_getElem? (i := 16) rfl)) (hw _ (List.mem_of_getElem? (i := 17) rfl)) (hw _ (List.mem_of_getElem? (i := 12) rfl)) (hw _ (List.mem_of_getElem? (i := 18) rfl)) (by decide) (argsL := [(.long (-3750763034362895579 : Int64)), (.int i4)]) (rest := []) (rm3 l Z a0 hw (-3750763034362895579 : Int64) i4 h64) at_182 rfl own_pd2 rfl rfl rfl (by decide) 0 rfl (by decide) rfl rfl (by decide) (by decide) (fun T70 P69 => ?_)
    show own_Go p e below _ (T70.setTop (mkF m 185 #[.val (.int i0), .val (.long j1), .second, .val (.int (2 : Int32)), .val (.int i4), .val (.int i5), .val (.int i6), .val (.int i7), .val (.int i8), .val (.int i9), .val (.int i10), .val (.ref b46), .val (.long (-3750763034362895579 : Int64)), .second] [(.long (F3_0 (-3750763034362895579 : Int64) i4))]))
    refine own_lstore P69 at_185 rfl (Ls' := #[.val (.int i0), .val (.long j1), .second, .val (.int (2 : Int32)), .val (.int i4), .val (.int i5), .val (.int i6), .val (.int i7), .val (.int i8), .val (.int i9), .val (.int i10), .val (.ref b46), .val (.long (F3_0 (-3750763034362895579 : Int64) i4)), .second]) rfl ?_
    refine own_iloadN P69 at_187 rfl rfl ?_
    refine own_iconst P69 at_188 rfl (v := (1 : Int32)) rfl ?_
    refine own_icmpN P69 (pc' := 192) at_189 (not_not_intro (by decide : (1 : Int32) < (2 : Int32))) rfl ?_
    refine own_lload P69 at_192 rfl rfl ?_
    refine own_iload P69 at_194 rfl rfl ?_
    refine own_callP P69 (hw _ (List.mem_of_getElem? (i := 16) rfl)) (hw _ (List.mem_of_getElem? (i := 17) rfl)) (hw _ (List.mem_of_getElem? (i := 12) rfl)) (hw _ (List.mem_of_getElem? (i := 18) rfl)) (by decide) (argsL := [(.long (F3_0 (-3750763034362895579 : Int64) i4)), (.int i5)]) (rest := []) (rm3 l Z a0 hw (F3_0 (-3750763034362895579 : Int64) i4) i5 h64) at_196 rfl own_pd2 rfl rfl rfl (by decide) 0 rfl (by decide) rfl rfl (by decide) (by decide) (fun T72 P71 => ?_)
    show own_Go p e below _ (T72.setTop (mkF m 199 #[.val (.int i0), .val (.long j1), .second, .val (.int (2 : Int32)), .val (.int i4), .val (.int i5), .val (.int i6), .val (.int i7), .val (.int i8), .val (.int i9), .val (.int i10), .val (.ref b46), .val (.long (F3_0 (-3750763034362895579 : Int64) i4)), .second] [(.long (F3_0 (F3_0 (-3750763034362895579 : Int64) i4) i5))]))
    refine own_lstore P71 at_199 rfl (Ls' := #[.val (.int i0), .val (.long j1), .second, .val (.int (2 : Int32)), .val (.int i4), .val (.int i5), .val (.int i6), .val (.int i7), .val (.int i8), .val (.int i9), .val (.int i10), .val (.ref b46), .val (.long (F3_0 (F3_0 (-3750763034362895579 : Int64) i4) i5)), .second]) rfl ?_
    refine own_iloadN P71 at_201 rfl rfl ?_
    refine own_iconst P71 at_202 rfl (v := (2 : Int32)) rfl ?_
    refine own_icmpY P71 (pc' := 215) at_203 (by decide : ¬ ((2 : Int32) < (2 : Int32))) (by decide) (by decide) ?_
    refine own_iloadN P71 at_215 rfl rfl ?_
    refine own_iconst P71 at_216 rfl (v := (3 : Int32)) rfl ?_
    refine own_icmpY P71 (pc' := 229) at_217 (by decide : ¬ ((3 : Int32) < (2 : Int32))) (by decide) (by decide) ?_
    refine own_iloadN P71 at_229 rfl rfl ?_
    refine own_iconst P71 at_230 rfl (v := (4 : Int32)) rfl ?_
    refine own_icmpY P71 (pc' := 243) at_231 (by decide : ¬ ((4 : Int32) < (2 : Int32))) (by decide) (by decide) ?_
    refine own_iloadN P71 at_243 rfl rfl ?_
    refine own_iconst P71 at_244 rfl (v := (5 : Int32)) rfl ?_
    refine own_icmpY P71 (pc' := 257) at_245 (by decide : ¬ ((5 : Int32) < (2 : Int32))) (by decide) (by decide) ?_
    refine own_iloadN P71 at_257 rfl rfl ?_
    refine own_bipush P71 at_258 rfl (v := (6 : Int32)) rfl ?_
    refine own_icmpY P71 (pc' := 272) at_260 (by decide : ¬ ((6 : Int32) < (2 : Int32))) (by decide) (by decide) ?_
    refine own_aload P71 at_272 rfl rfl rfl ?_
    refine own_callP P71 (hw _ (List.mem_of_getElem? (i := 3) rfl)) (hw _ (List.mem_of_getElem? (i := 4) rfl)) (hw _ (List.mem_of_getElem? (i := 5) rfl)) (hw _ (List.mem_of_getElem? (i := 6) rfl)) (by decide) (argsL := [(.ref b46)]) (rest := []) (rm1 l Z a0 hw b46 [(nar .byte (i4.toInt8.toInt32)), (nar .byte (i5.toInt8.toInt32))] h64 f68 (Nat.le_of_ble_eq_true rfl)) at_274 rfl own_pd0 rfl rfl rfl (by decide) 0 rfl (by decide) rfl rfl (by decide) (by decide) (fun T74 P73 => ?_)
    show own_Go p e below _ (T74.setTop (mkF m 277 #[.val (.int i0), .val (.long j1), .second, .val (.int (2 : Int32)), .val (.int i4), .val (.int i5), .val (.int i6), .val (.int i7), .val (.int i8), .val (.int i9), .val (.int i10), .val (.ref b46), .val (.long (F3_0 (F3_0 (-3750763034362895579 : Int64) i4) i5)), .second] [(.long (F1_0 [(nar .byte (i4.toInt8.toInt32)), (nar .byte (i5.toInt8.toInt32))]))]))
    refine own_lload P73 at_277 rfl rfl ?_
    refine own_callP P73 (hw _ (List.mem_of_getElem? (i := 10) rfl)) (hw _ (List.mem_of_getElem? (i := 11) rfl)) (hw _ (List.mem_of_getElem? (i := 12) rfl)) (hw _ (List.mem_of_getElem? (i := 13) rfl)) (by decide) (argsL := [(.long (F3_0 (F3_0 (-3750763034362895579 : Int64) i4) i5))]) (rest := [(.long (F1_0 [(nar .byte (i4.toInt8.toInt32)), (nar .byte (i5.toInt8.toInt32))]))]) (rm2 l Z a0 hw (F3_0 (F3_0 (-3750763034362895579 : Int64) i4) i5) h64) at_279 rfl own_pd1 rfl rfl rfl (by decide) 2 rfl (by decide) rfl rfl (by decide) (by decide) (fun T80 P79 => ?_)
    show own_Go p e below _ (T80.setTop (mkF m 282 #[.val (.int i0), .val (.long j1), .second, .val (.int (2 : Int32)), .val (.int i4), .val (.int i5), .val (.int i6), .val (.int i7), .val (.int i8), .val (.int i9), .val (.int i10), .val (.ref b46), .val (.long (F3_0 (F3_0 (-3750763034362895579 : Int64) i4) i5)), .second] [(.long (F2_0 (F3_0 (F3_0 (-3750763034362895579 : Int64) i4) i5))), (.long (F1_0 [(nar .byte (i4.toInt8.toInt32)), (nar .byte (i5.toInt8.toInt32))]))]))
    by_cases hc81 : (F1_0 [(nar .byte (i4.toInt8.toInt32)), (nar .byte (i5.toInt8.toInt32))]) = (F2_0 (F3_0 (F3_0 (-3750763034362895579 : Int64) i4) i5))
    · rw [if_pos hc81] at hQ
      refine own_lcN P79 (pc' := 286) at_282 at_283 (not_not_intro hc81) rfl ?_
      refine own_iconst P79 at_286 rfl (v := (1 : Int32)) rfl ?_
      refine own_goto P79 (pc' := 291) at_287 (by decide) (by decide) ?_
      exact own_retZ P79 at_291 (z := (1 : Int32)) rfl (by decide) (by decide) (hQ _ _ N67)
    · rw [if_neg hc81] at hQ
      refine own_lcY P79 (pc' := 290) at_282 at_283 hc81 (by decide) (by decide) ?_
      refine own_iconst P79 at_290 rfl (v := (0 : Int32)) rfl ?_
      exact own_retZ P79 at_291 (z := (0 : Int32)) rfl (by decide) (by decide) (hQ _ _ N67)
  · rw [if_neg (by decide : ¬ ((3 : Int32) = (0 : Int32))), if_neg (by decide : ¬ ((3 : Int32) = (1 : Int32))), if_neg (by decide : ¬ ((3 : Int32) = (2 : Int32))), if_pos rfl] at hQ
    refine own_iloadN P at_79 rfl rfl ?_
    refine own_arrNew P 3 (hw _ (List.mem_of_getElem? (i := 1) rfl)) rfl rfl at_80 rfl (by decide) (by decide) (by decide) (by decide) (by decide) (fun T87 h88 b82 ha83 E84 A85 P86 => ?_)
    have g89 : n0 ≤ b82 := by rw [ha83]; exact Z0
    have f90 : own_Ar Z h88 b82 .byte [(0 : Int32), (0 : Int32), (0 : Int32)] := A85
    refine own_astore P86 at_82 rfl rfl (Ls' := #[.val (.int i0), .val (.long j1), .second, .val (.int (3 : Int32)), .val (.int i4), .val (.int i5), .val (.int i6), .val (.int i7), .val (.int i8), .val (.int i9), .val (.int i10), .val (.ref b82), .unset, .unset]) rfl ?_
    refine own_iloadN P86 at_84 rfl rfl ?_
    refine own_if0N P86 (pc' := 88) at_85 (not_not_intro (by decide : (0 : Int32) < (3 : Int32))) rfl ?_
    refine own_aload P86 at_88 rfl rfl rfl ?_
    refine own_iconst P86 at_90 rfl (v := (0 : Int32)) rfl ?_
    refine own_iload P86 at_91 rfl rfl ?_
    refine own_i2b P86 at_93 rfl ?_
    refine own_bastore P86 f90 at_94 rfl (by decide) (Nat.le_of_ble_eq_true rfl) (z := (nar .byte (i4.toInt8.toInt32))) rfl (fun T92 h93 W94 A95 P91 => ?_)
    have N96 := Fr.snoc P91.st N g89
    have f97 : own_Ar Z h93 b82 .byte [(nar .byte (i4.toInt8.toInt32)), (0 : Int32), (0 : Int32)] := A95
    refine own_iloadN P91 at_95 rfl rfl ?_
    refine own_iconst P91 at_96 rfl (v := (1 : Int32)) rfl ?_
    refine own_icmpN P91 (pc' := 100) at_97 (not_not_intro (by decide : (1 : Int32) < (3 : Int32))) rfl ?_
    refine own_aload P91 at_100 rfl rfl rfl ?_
    refine own_iconst P91 at_102 rfl (v := (1 : Int32)) rfl ?_
    refine own_iload P91 at_103 rfl rfl ?_
    refine own_i2b P91 at_105 rfl ?_
    refine own_bastore P91 f97 at_106 rfl (by decide) (Nat.le_of_ble_eq_true rfl) (z := (nar .byte (i5.toInt8.toInt32))) rfl (fun T99 h100 W101 A102 P98 => ?_)
    have N103 := Fr.snoc P98.st N96 g89
    have f104 : own_Ar Z h100 b82 .byte [(nar .byte (i4.toInt8.toInt32)), (nar .byte (i5.toInt8.toInt32)), (0 : Int32)] := A102
    refine own_iloadN P98 at_107 rfl rfl ?_
    refine own_iconst P98 at_108 rfl (v := (2 : Int32)) rfl ?_
    refine own_icmpN P98 (pc' := 112) at_109 (not_not_intro (by decide : (2 : Int32) < (3 : Int32))) rfl ?_
    refine own_aload P98 at_112 rfl rfl rfl ?_
    refine own_iconst P98 at_114 rfl (v := (2 : Int32)) rfl ?_
    refine own_iload P98 at_115 rfl rfl ?_
    refine own_i2b P98 at_117 rfl ?_
    refine own_bastore P98 f104 at_118 rfl (by decide) (Nat.le_of_ble_eq_true rfl) (z := (nar .byte (i6.toInt8.toInt32))) rfl (fun T106 h107 W108 A109 P105 => ?_)
    have N110 := Fr.snoc P105.st N103 g89
    have f111 : own_Ar Z h107 b82 .byte [(nar .byte (i4.toInt8.toInt32)), (nar .byte (i5.toInt8.toInt32)), (nar .byte (i6.toInt8.toInt32))] := A109
    refine own_iloadN P105 at_119 rfl rfl ?_
    refine own_iconst P105 at_120 rfl (v := (3 : Int32)) rfl ?_
    refine own_icmpY P105 (pc' := 131) at_121 (by decide : ¬ ((3 : Int32) < (3 : Int32))) (by decide) (by decide) ?_
    refine own_iloadN P105 at_131 rfl rfl ?_
    refine own_iconst P105 at_132 rfl (v := (4 : Int32)) rfl ?_
    refine own_icmpY P105 (pc' := 143) at_133 (by decide : ¬ ((4 : Int32) < (3 : Int32))) (by decide) (by decide) ?_
    refine own_iloadN P105 at_143 rfl rfl ?_
    refine own_iconst P105 at_144 rfl (v := (5 : Int32)) rfl ?_
    refine own_icmpY P105 (pc' := 155) at_145 (by decide : ¬ ((5 : Int32) < (3 : Int32))) (by decide) (by decide) ?_
    refine own_iloadN P105 at_155 rfl rfl ?_
    refine own_bipush P105 at_156 rfl (v := (6 : Int32)) rfl ?_
    refine own_icmpY P105 (pc' := 169) at_158 (by decide : ¬ ((6 : Int32) < (3 : Int32))) (by decide) (by decide) ?_
    refine own_ldc2 P105 (v := (-3750763034362895579 : Int64)) (hw _ (List.mem_of_getElem? (i := 2) rfl)) at_169 rfl ?_
    refine own_lstore P105 at_172 rfl (Ls' := #[.val (.int i0), .val (.long j1), .second, .val (.int (3 : Int32)), .val (.int i4), .val (.int i5), .val (.int i6), .val (.int i7), .val (.int i8), .val (.int i9), .val (.int i10), .val (.ref b82), .val (.long (-3750763034362895579 : Int64)), .second]) rfl ?_
    refine own_iloadN P105 at_174 rfl rfl ?_
    refine own_if0N P105 (pc' := 178) at_175 (not_not_intro (by decide : (0 : Int32) < (3 : Int32))) rfl ?_
    refine own_lload P105 at_178 rfl rfl ?_
    refine own_iload P105 at_180 rfl rfl ?_
    refine own_callP P105 (hw _ (List.mem_of_getElem? (i := 16) rfl)) (hw _ (List.mem_of_getElem? (i := 17) rfl)) (hw _ (List.mem_of_getElem? (i := 12) rfl)) (hw _ (List.mem_of_getElem? (i := 18) rfl)) (by decide) (argsL := [(.long (-3750763034362895579 : Int64)), (.int i4)]) (rest := []) (rm3 l Z a0 hw (-3750763034362895579 : Int64) i4 h107) at_182 rfl own_pd2 rfl rfl rfl (by decide) 0 rfl (by decide) rfl rfl (by decide) (by decide) (fun T113 P112 => ?_)
    show own_Go p e below _ (T113.setTop (mkF m 185 #[.val (.int i0), .val (.long j1), .second, .val (.int (3 : Int32)), .val (.int i4), .val (.int i5), .val (.int i6), .val (.int i7), .val (.int i8), .val (.int i9), .val (.int i10), .val (.ref b82), .val (.long (-3750763034362895579 : Int64)), .second] [(.long (F3_0 (-3750763034362895579 : Int64) i4))]))
    refine own_lstore P112 at_185 rfl (Ls' := #[.val (.int i0), .val (.long j1), .second, .val (.int (3 : Int32)), .val (.int i4), .val (.int i5), .val (.int i6), .val (.int i7), .val (.int i8), .val (.int i9), .val (.int i10), .val (.ref b82), .val (.long (F3_0 (-3750763034362895579 : Int64) i4)), .second]) rfl ?_
    refine own_iloadN P112 at_187 rfl rfl ?_
    refine own_iconst P112 at_188 rfl (v := (1 : Int32)) rfl ?_
    refine own_icmpN P112 (pc' := 192) at_189 (not_not_intro (by decide : (1 : Int32) < (3 : Int32))) rfl ?_
    refine own_lload P112 at_192 rfl rfl ?_
    refine own_iload P112 at_194 rfl rfl ?_
    refine own_callP P112 (hw _ (List.mem_of_getElem? (i := 16) rfl)) (hw _ (List.mem_of_getElem? (i := 17) rfl)) (hw _ (List.mem_of_getElem? (i := 12) rfl)) (hw _ (List.mem_of_getElem? (i := 18) rfl)) (by decide) (argsL := [(.long (F3_0 (-3750763034362895579 : Int64) i4)), (.int i5)]) (rest := []) (rm3 l Z a0 hw (F3_0 (-3750763034362895579 : Int64) i4) i5 h107) at_196 rfl own_pd2 rfl rfl rfl (by decide) 0 rfl (by decide) rfl rfl (by decide) (by decide) (fun T115 P114 => ?_)
    show own_Go p e below _ (T115.setTop (mkF m 199 #[.val (.int i0), .val (.long j1), .second, .val (.int (3 : Int32)), .val (.int i4), .val (.int i5), .val (.int i6), .val (.int i7), .val (.int i8), .val (.int i9), .val (.int i10), .val (.ref b82), .val (.long (F3_0 (-3750763034362895579 : Int64) i4)), .second] [(.long (F3_0 (F3_0 (-3750763034362895579 : Int64) i4) i5))]))
    refine own_lstore P114 at_199 rfl (Ls' := #[.val (.int i0), .val (.long j1), .second, .val (.int (3 : Int32)), .val (.int i4), .val (.int i5), .val (.int i6), .val (.int i7), .val (.int i8), .val (.int i9), .val (.int i10), .val (.ref b82), .val (.long (F3_0 (F3_0 (-3750763034362895579 : Int64) i4) i5)), .second]) rfl ?_
    refine own_iloadN P114 at_201 rfl rfl ?_
    refine own_iconst P114 at_202 rfl (v := (2 : Int32)) rfl ?_
    refine own_icmpN P114 (pc' := 206) at_203 (not_not_intro (by decide : (2 : Int32) < (3 : Int32))) rfl ?_
    refine own_lload P114 at_206 rfl rfl ?_
    refine own_iload P114 at_208 rfl rfl ?_
    refine own_callP P114 (hw _ (List.mem_of_getElem? (i := 16) rfl)) (hw _ (List.mem_of_getElem? (i := 17) rfl)) (hw _ (List.mem_of_getElem? (i := 12) rfl)) (hw _ (List.mem_of_getElem? (i := 18) rfl)) (by decide) (argsL := [(.long (F3_0 (F3_0 (-3750763034362895579 : Int64) i4) i5)), (.int i6)]) (rest := []) (rm3 l Z a0 hw (F3_0 (F3_0 (-3750763034362895579 : Int64) i4) i5) i6 h107) at_210 rfl own_pd2 rfl rfl rfl (by decide) 0 rfl (by decide) rfl rfl (by decide) (by decide) (fun T117 P116 => ?_)
    show own_Go p e below _ (T117.setTop (mkF m 213 #[.val (.int i0), .val (.long j1), .second, .val (.int (3 : Int32)), .val (.int i4), .val (.int i5), .val (.int i6), .val (.int i7), .val (.int i8), .val (.int i9), .val (.int i10), .val (.ref b82), .val (.long (F3_0 (F3_0 (-3750763034362895579 : Int64) i4) i5)), .second] [(.long (F3_0 (F3_0 (F3_0 (-3750763034362895579 : Int64) i4) i5) i6))]))
    refine own_lstore P116 at_213 rfl (Ls' := #[.val (.int i0), .val (.long j1), .second, .val (.int (3 : Int32)), .val (.int i4), .val (.int i5), .val (.int i6), .val (.int i7), .val (.int i8), .val (.int i9), .val (.int i10), .val (.ref b82), .val (.long (F3_0 (F3_0 (F3_0 (-3750763034362895579 : Int64) i4) i5) i6)), .second]) rfl ?_
    refine own_iloadN P116 at_215 rfl rfl ?_
    refine own_iconst P116 at_216 rfl (v := (3 : Int32)) rfl ?_
    refine own_icmpY P116 (pc' := 229) at_217 (by decide : ¬ ((3 : Int32) < (3 : Int32))) (by decide) (by decide) ?_
    refine own_iloadN P116 at_229 rfl rfl ?_
    refine own_iconst P116 at_230 rfl (v := (4 : Int32)) rfl ?_
    refine own_icmpY P116 (pc' := 243) at_231 (by decide : ¬ ((4 : Int32) < (3 : Int32))) (by decide) (by decide) ?_
    refine own_iloadN P116 at_243 rfl rfl ?_
    refine own_iconst P116 at_244 rfl (v := (5 : Int32)) rfl ?_
    refine own_icmpY P116 (pc' := 257) at_245 (by decide : ¬ ((5 : Int32) < (3 : Int32))) (by decide) (by decide) ?_
    refine own_iloadN P116 at_257 rfl rfl ?_
    refine own_bipush P116 at_258 rfl (v := (6 : Int32)) rfl ?_
    refine own_icmpY P116 (pc' := 272) at_260 (by decide : ¬ ((6 : Int32) < (3 : Int32))) (by decide) (by decide) ?_
    refine own_aload P116 at_272 rfl rfl rfl ?_
    refine own_callP P116 (hw _ (List.mem_of_getElem? (i := 3) rfl)) (hw _ (List.mem_of_getElem? (i := 4) rfl)) (hw _ (List.mem_of_getElem? (i := 5) rfl)) (hw _ (List.mem_of_getElem? (i := 6) rfl)) (by decide) (argsL := [(.ref b82)]) (rest := []) (rm1 l Z a0 hw b82 [(nar .byte (i4.toInt8.toInt32)), (nar .byte (i5.toInt8.toInt32)), (nar .byte (i6.toInt8.toInt32))] h107 f111 (Nat.le_of_ble_eq_true rfl)) at_274 rfl own_pd0 rfl rfl rfl (by decide) 0 rfl (by decide) rfl rfl (by decide) (by decide) (fun T119 P118 => ?_)
    show own_Go p e below _ (T119.setTop (mkF m 277 #[.val (.int i0), .val (.long j1), .second, .val (.int (3 : Int32)), .val (.int i4), .val (.int i5), .val (.int i6), .val (.int i7), .val (.int i8), .val (.int i9), .val (.int i10), .val (.ref b82), .val (.long (F3_0 (F3_0 (F3_0 (-3750763034362895579 : Int64) i4) i5) i6)), .second] [(.long (F1_0 [(nar .byte (i4.toInt8.toInt32)), (nar .byte (i5.toInt8.toInt32)), (nar .byte (i6.toInt8.toInt32))]))]))
    refine own_lload P118 at_277 rfl rfl ?_
    refine own_callP P118 (hw _ (List.mem_of_getElem? (i := 10) rfl)) (hw _ (List.mem_of_getElem? (i := 11) rfl)) (hw _ (List.mem_of_getElem? (i := 12) rfl)) (hw _ (List.mem_of_getElem? (i := 13) rfl)) (by decide) (argsL := [(.long (F3_0 (F3_0 (F3_0 (-3750763034362895579 : Int64) i4) i5) i6))]) (rest := [(.long (F1_0 [(nar .byte (i4.toInt8.toInt32)), (nar .byte (i5.toInt8.toInt32)), (nar .byte (i6.toInt8.toInt32))]))]) (rm2 l Z a0 hw (F3_0 (F3_0 (F3_0 (-3750763034362895579 : Int64) i4) i5) i6) h107) at_279 rfl own_pd1 rfl rfl rfl (by decide) 2 rfl (by decide) rfl rfl (by decide) (by decide) (fun T125 P124 => ?_)
    show own_Go p e below _ (T125.setTop (mkF m 282 #[.val (.int i0), .val (.long j1), .second, .val (.int (3 : Int32)), .val (.int i4), .val (.int i5), .val (.int i6), .val (.int i7), .val (.int i8), .val (.int i9), .val (.int i10), .val (.ref b82), .val (.long (F3_0 (F3_0 (F3_0 (-3750763034362895579 : Int64) i4) i5) i6)), .second] [(.long (F2_0 (F3_0 (F3_0 (F3_0 (-3750763034362895579 : Int64) i4) i5) i6))), (.long (F1_0 [(nar .byte (i4.toInt8.toInt32)), (nar .byte (i5.toInt8.toInt32)), (nar .byte (i6.toInt8.toInt32))]))]))
    by_cases hc126 : (F1_0 [(nar .byte (i4.toInt8.toInt32)), (nar .byte (i5.toInt8.toInt32)), (nar .byte (i6.toInt8.toInt32))]) = (F2_0 (F3_0 (F3_0 (F3_0 (-3750763034362895579 : Int64) i4) i5) i6))
    · rw [if_pos hc126] at hQ
      refine own_lcN P124 (pc' := 286) at_282 at_283 (not_not_intro hc126) rfl ?_
      refine own_iconst P124 at_286 rfl (v := (1 : Int32)) rfl ?_
      refine own_goto P124 (pc' := 291) at_287 (by decide) (by decide) ?_
      exact own_retZ P124 at_291 (z := (1 : Int32)) rfl (by decide) (by decide) (hQ _ _ N110)
    · rw [if_neg hc126] at hQ
      refine own_lcY P124 (pc' := 290) at_282 at_283 hc126 (by decide) (by decide) ?_
      refine own_iconst P124 at_290 rfl (v := (0 : Int32)) rfl ?_
      exact own_retZ P124 at_291 (z := (0 : Int32)) rfl (by decide) (by decide) (hQ _ _ N110)
  · rw [if_neg (by decide : ¬ ((4 : Int32) = (0 : Int32))), if_neg (by decide : ¬ ((4 : Int32) = (1 : Int32))), if_neg (by decide : ¬ ((4 : Int32) = (2 : Int32))), if_neg (by decide : ¬ ((4 : Int32) = (3 : Int32))), if_pos rfl] at hQ
    refine own_iloadN P at_79 rfl rfl ?_
    refine own_arrNew P 4 (hw _ (List.mem_of_getElem? (i := 1) rfl)) rfl rfl at_80 rfl (by decide) (by decide) (by decide) (by decide) (by decide) (fun T132 h133 b127 ha128 E129 A130 P131 => ?_)
    have g134 : n0 ≤ b127 := by rw [ha128]; exact Z0
    have f135 : own_Ar Z h133 b127 .byte [(0 : Int32), (0 : Int32), (0 : Int32), (0 : Int32)] := A130
    refine own_astore P131 at_82 rfl rfl (Ls' := #[.val (.int i0), .val (.long j1), .second, .val (.int (4 : Int32)), .val (.int i4), .val (.int i5), .val (.int i6), .val (.int i7), .val (.int i8), .val (.int i9), .val (.int i10), .val (.ref b127), .unset, .unset]) rfl ?_
    refine own_iloadN P131 at_84 rfl rfl ?_
    refine own_if0N P131 (pc' := 88) at_85 (not_not_intro (by decide : (0 : Int32) < (4 : Int32))) rfl ?_
    refine own_aload P131 at_88 rfl rfl rfl ?_
    refine own_iconst P131 at_90 rfl (v := (0 : Int32)) rfl ?_
    refine own_iload P131 at_91 rfl rfl ?_
    refine own_i2b P131 at_93 rfl ?_
    refine own_bastore P131 f135 at_94 rfl (by decide) (Nat.le_of_ble_eq_true rfl) (z := (nar .byte (i4.toInt8.toInt32))) rfl (fun T137 h138 W139 A140 P136 => ?_)
    have N141 := Fr.snoc P136.st N g134
    have f142 : own_Ar Z h138 b127 .byte [(nar .byte (i4.toInt8.toInt32)), (0 : Int32), (0 : Int32), (0 : Int32)] := A140
    refine own_iloadN P136 at_95 rfl rfl ?_
    refine own_iconst P136 at_96 rfl (v := (1 : Int32)) rfl ?_
    refine own_icmpN P136 (pc' := 100) at_97 (not_not_intro (by decide : (1 : Int32) < (4 : Int32))) rfl ?_
    refine own_aload P136 at_100 rfl rfl rfl ?_
    refine own_iconst P136 at_102 rfl (v := (1 : Int32)) rfl ?_
    refine own_iload P136 at_103 rfl rfl ?_
    refine own_i2b P136 at_105 rfl ?_
    refine own_bastore P136 f142 at_106 rfl (by decide) (Nat.le_of_ble_eq_true rfl) (z := (nar .byte (i5.toInt8.toInt32))) rfl (fun T144 h145 W146 A147 P143 => ?_)
    have N148 := Fr.snoc P143.st N141 g134
    have f149 : own_Ar Z h145 b127 .byte [(nar .byte (i4.toInt8.toInt32)), (nar .byte (i5.toInt8.toInt32)), (0 : Int32), (0 : Int32)] := A147
    refine own_iloadN P143 at_107 rfl rfl ?_
    refine own_iconst P143 at_108 rfl (v := (2 : Int32)) rfl ?_
    refine own_icmpN P143 (pc' := 112) at_109 (not_not_intro (by decide : (2 : Int32) < (4 : Int32))) rfl ?_
    refine own_aload P143 at_112 rfl rfl rfl ?_
    refine own_iconst P143 at_114 rfl (v := (2 : Int32)) rfl ?_
    refine own_iload P143 at_115 rfl rfl ?_
    refine own_i2b P143 at_117 rfl ?_
    refine own_bastore P143 f149 at_118 rfl (by decide) (Nat.le_of_ble_eq_true rfl) (z := (nar .byte (i6.toInt8.toInt32))) rfl (fun T151 h152 W153 A154 P150 => ?_)
    have N155 := Fr.snoc P150.st N148 g134
    have f156 : own_Ar Z h152 b127 .byte [(nar .byte (i4.toInt8.toInt32)), (nar .byte (i5.toInt8.toInt32)), (nar .byte (i6.toInt8.toInt32)), (0 : Int32)] := A154
    refine own_iloadN P150 at_119 rfl rfl ?_
    refine own_iconst P150 at_120 rfl (v := (3 : Int32)) rfl ?_
    refine own_icmpN P150 (pc' := 124) at_121 (not_not_intro (by decide : (3 : Int32) < (4 : Int32))) rfl ?_
    refine own_aload P150 at_124 rfl rfl rfl ?_
    refine own_iconst P150 at_126 rfl (v := (3 : Int32)) rfl ?_
    refine own_iload P150 at_127 rfl rfl ?_
    refine own_i2b P150 at_129 rfl ?_
    refine own_bastore P150 f156 at_130 rfl (by decide) (Nat.le_of_ble_eq_true rfl) (z := (nar .byte (i7.toInt8.toInt32))) rfl (fun T158 h159 W160 A161 P157 => ?_)
    have N162 := Fr.snoc P157.st N155 g134
    have f163 : own_Ar Z h159 b127 .byte [(nar .byte (i4.toInt8.toInt32)), (nar .byte (i5.toInt8.toInt32)), (nar .byte (i6.toInt8.toInt32)), (nar .byte (i7.toInt8.toInt32))] := A161
    refine own_iloadN P157 at_131 rfl rfl ?_
    refine own_iconst P157 at_132 rfl (v := (4 : Int32)) rfl ?_
    refine own_icmpY P157 (pc' := 143) at_133 (by decide : ¬ ((4 : Int32) < (4 : Int32))) (by decide) (by decide) ?_
    refine own_iloadN P157 at_143 rfl rfl ?_
    refine own_iconst P157 at_144 rfl (v := (5 : Int32)) rfl ?_
    refine own_icmpY P157 (pc' := 155) at_145 (by decide : ¬ ((5 : Int32) < (4 : Int32))) (by decide) (by decide) ?_
    refine own_iloadN P157 at_155 rfl rfl ?_
    refine own_bipush P157 at_156 rfl (v := (6 : Int32)) rfl ?_
    refine own_icmpY P157 (pc' := 169) at_158 (by decide : ¬ ((6 : Int32) < (4 : Int32))) (by decide) (by decide) ?_
    refine own_ldc2 P157 (v := (-3750763034362895579 : Int64)) (hw _ (List.mem_of_getElem? (i := 2) rfl)) at_169 rfl ?_
    refine own_lstore P157 at_172 rfl (Ls' := #[.val (.int i0), .val (.long j1), .second, .val (.int (4 : Int32)), .val (.int i4), .val (.int i5), .val (.int i6), .val (.int i7), .val (.int i8), .val (.int i9), .val (.int i10), .val (.ref b127), .val (.long (-3750763034362895579 : Int64)), .second]) rfl ?_
    refine own_iloadN P157 at_174 rfl rfl ?_
    refine own_if0N P157 (pc' := 178) at_175 (not_not_intro (by decide : (0 : Int32) < (4 : Int32))) rfl ?_
    refine own_lload P157 at_178 rfl rfl ?_
    refine own_iload P157 at_180 rfl rfl ?_
    refine own_callP P157 (hw _ (List.mem_of_getElem? (i := 16) rfl)) (hw _ (List.mem_of_getElem? (i := 17) rfl)) (hw _ (List.mem_of_getElem? (i := 12) rfl)) (hw _ (List.mem_of_getElem? (i := 18) rfl)) (by decide) (argsL := [(.long (-3750763034362895579 : Int64)), (.int i4)]) (rest := []) (rm3 l Z a0 hw (-3750763034362895579 : Int64) i4 h159) at_182 rfl own_pd2 rfl rfl rfl (by decide) 0 rfl (by decide) rfl rfl (by decide) (by decide) (fun T165 P164 => ?_)
    show own_Go p e below _ (T165.setTop (mkF m 185 #[.val (.int i0), .val (.long j1), .second, .val (.int (4 : Int32)), .val (.int i4), .val (.int i5), .val (.int i6), .val (.int i7), .val (.int i8), .val (.int i9), .val (.int i10), .val (.ref b127), .val (.long (-3750763034362895579 : Int64)), .second] [(.long (F3_0 (-3750763034362895579 : Int64) i4))]))
    refine own_lstore P164 at_185 rfl (Ls' := #[.val (.int i0), .val (.long j1), .second, .val (.int (4 : Int32)), .val (.int i4), .val (.int i5), .val (.int i6), .val (.int i7), .val (.int i8), .val (.int i9), .val (.int i10), .val (.ref b127), .val (.long (F3_0 (-3750763034362895579 : Int64) i4)), .second]) rfl ?_
    refine own_iloadN P164 at_187 rfl rfl ?_
    refine own_iconst P164 at_188 rfl (v := (1 : Int32)) rfl ?_
    refine own_icmpN P164 (pc' := 192) at_189 (not_not_intro (by decide : (1 : Int32) < (4 : Int32))) rfl ?_
    refine own_lload P164 at_192 rfl rfl ?_
    refine own_iload P164 at_194 rfl rfl ?_
    refine own_callP P164 (hw _ (List.mem_of_getElem? (i := 16) rfl)) (hw _ (List.mem_of_getElem? (i := 17) rfl)) (hw _ (List.mem_of_getElem? (i := 12) rfl)) (hw _ (List.mem_of_getElem? (i := 18) rfl)) (by decide) (argsL := [(.long (F3_0 (-3750763034362895579 : Int64) i4)), (.int i5)]) (rest := []) (rm3 l Z a0 hw (F3_0 (-3750763034362895579 : Int64) i4) i5 h159) at_196 rfl own_pd2 rfl rfl rfl (by decide) 0 rfl (by decide) rfl rfl (by decide) (by decide) (fun T167 P166 => ?_)
    show own_Go p e below _ (T167.setTop (mkF m 199 #[.val (.int i0), .val (.long j1), .second, .val (.int (4 : Int32)), .val (.int i4), .val (.int i5), .val (.int i6), .val (.int i7), .val (.int i8), .val (.int i9), .val (.int i10), .val (.ref b127), .val (.long (F3_0 (-3750763034362895579 : Int64) i4)), .second] [(.long (F3_0 (F3_0 (-3750763034362895579 : Int64) i4) i5))]))
    refine own_lstore P166 at_199 rfl (Ls' := #[.val (.int i0), .val (.long j1), .second, .val (.int (4 : Int32)), .val (.int i4), .val (.int i5), .val (.int i6), .val (.int i7), .val (.int i8), .val (.int i9), .val (.int i10), .val (.ref b127), .val (.long (F3_0 (F3_0 (-3750763034362895579 : Int64) i4) i5)), .second]) rfl ?_
    refine own_iloadN P166 at_201 rfl rfl ?_
    refine own_iconst P166 at_202 rfl (v := (2 : Int32)) rfl ?_
    refine own_icmpN P166 (pc' := 206) at_203 (not_not_intro (by decide : (2 : Int32) < (4 : Int32))) rfl ?_
    refine own_lload P166 at_206 rfl rfl ?_
    refine own_iload P166 at_208 rfl rfl ?_
    refine own_callP P166 (hw _ (List.mem_of_getElem? (i := 16) rfl)) (hw _ (List.mem_of_getElem? (i := 17) rfl)) (hw _ (List.mem_of_getElem? (i := 12) rfl)) (hw _ (List.mem_of_getElem? (i := 18) rfl)) (by decide) (argsL := [(.long (F3_0 (F3_0 (-3750763034362895579 : Int64) i4) i5)), (.int i6)]) (rest := []) (rm3 l Z a0 hw (F3_0 (F3_0 (-3750763034362895579 : Int64) i4) i5) i6 h159) at_210 rfl own_pd2 rfl rfl rfl (by decide) 0 rfl (by decide) rfl rfl (by decide) (by decide) (fun T169 P168 => ?_)
    show own_Go p e below _ (T169.setTop (mkF m 213 #[.val (.int i0), .val (.long j1), .second, .val (.int (4 : Int32)), .val (.int i4), .val (.int i5), .val (.int i6), .val (.int i7), .val (.int i8), .val (.int i9), .val (.int i10), .val (.ref b127), .val (.long (F3_0 (F3_0 (-3750763034362895579 : Int64) i4) i5)), .second] [(.long (F3_0 (F3_0 (F3_0 (-3750763034362895579 : Int64) i4) i5) i6))]))
    refine own_lstore P168 at_213 rfl (Ls' := #[.val (.int i0), .val (.long j1), .second, .val (.int (4 : Int32)), .val (.int i4), .val (.int i5), .val (.int i6), .val (.int i7), .val (.int i8), .val (.int i9), .val (.int i10), .val (.ref b127), .val (.long (F3_0 (F3_0 (F3_0 (-3750763034362895579 : Int64) i4) i5) i6)), .second]) rfl ?_
    refine own_iloadN P168 at_215 rfl rfl ?_
    refine own_iconst P168 at_216 rfl (v := (3 : Int32)) rfl ?_
    refine own_icmpN P168 (pc' := 220) at_217 (not_not_intro (by decide : (3 : Int32) < (4 : Int32))) rfl ?_
    refine own_lload P168 at_220 rfl rfl ?_
    refine own_iload P168 at_222 rfl rfl ?_
    refine own_callP P168 (hw _ (List.mem_of_getElem? (i := 16) rfl)) (hw _ (List.mem_of_getElem? (i := 17) rfl)) (hw _ (List.mem_of_getElem? (i := 12) rfl)) (hw _ (List.mem_of_getElem? (i := 18) rfl)) (by decide) (argsL := [(.long (F3_0 (F3_0 (F3_0 (-3750763034362895579 : Int64) i4) i5) i6)), (.int i7)]) (rest := []) (rm3 l Z a0 hw (F3_0 (F3_0 (F3_0 (-3750763034362895579 : Int64) i4) i5) i6) i7 h159) at_224 rfl own_pd2 rfl rfl rfl (by decide) 0 rfl (by decide) rfl rfl (by decide) (by decide) (fun T171 P170 => ?_)
    show own_Go p e below _ (T171.setTop (mkF m 227 #[.val (.int i0), .val (.long j1), .second, .val (.int (4 : Int32)), .val (.int i4), .val (.int i5), .val (.int i6), .val (.int i7), .val (.int i8), .val (.int i9), .val (.int i10), .val (.ref b127), .val (.long (F3_0 (F3_0 (F3_0 (-3750763034362895579 : Int64) i4) i5) i6)), .second] [(.long (F3_0 (F3_0 (F3_0 (F3_0 (-3750763034362895579 : Int64) i4) i5) i6) i7))]))
    refine own_lstore P170 at_227 rfl (Ls' := #[.val (.int i0), .val (.long j1), .second, .val (.int (4 : Int32)), .val (.int i4), .val (.int i5), .val (.int i6), .val (.int i7), .val (.int i8), .val (.int i9), .val (.int i10), .val (.ref b127), .val (.long (F3_0 (F3_0 (F3_0 (F3_0 (-3750763034362895579 : Int64) i4) i5) i6) i7)), .second]) rfl ?_
    refine own_iloadN P170 at_229 rfl rfl ?_
    refine own_iconst P170 at_230 rfl (v := (4 : Int32)) rfl ?_
    refine own_icmpY P170 (pc' := 243) at_231 (by decide : ¬ ((4 : Int32) < (4 : Int32))) (by decide) (by decide) ?_
    refine own_iloadN P170 at_243 rfl rfl ?_
    refine own_iconst P170 at_244 rfl (v := (5 : Int32)) rfl ?_
    refine own_icmpY P170 (pc' := 257) at_245 (by decide : ¬ ((5 : Int32) < (4 : Int32))) (by decide) (by decide) ?_
    refine own_iloadN P170 at_257 rfl rfl ?_
    refine own_bipush P170 at_258 rfl (v := (6 : Int32)) rfl ?_
    refine own_icmpY P170 (pc' := 272) at_260 (by decide : ¬ ((6 : Int32) < (4 : Int32))) (by decide) (by decide) ?_
    refine own_aload P170 at_272 rfl rfl rfl ?_
    refine own_callP P170 (hw _ (List.mem_of_getElem? (i := 3) rfl)) (hw _ (List.mem_of_getElem? (i := 4) rfl)) (hw _ (List.mem_of_getElem? (i := 5) rfl)) (hw _ (List.mem_of_getElem? (i := 6) rfl)) (by decide) (argsL := [(.ref b127)]) (rest := []) (rm1 l Z a0 hw b127 [(nar .byte (i4.toInt8.toInt32)), (nar .byte (i5.toInt8.toInt32)), (nar .byte (i6.toInt8.toInt32)), (nar .byte (i7.toInt8.toInt32))] h159 f163 (Nat.le_of_ble_eq_true rfl)) at_274 rfl own_pd0 rfl rfl rfl (by decide) 0 rfl (by decide) rfl rfl (by decide) (by decide) (fun T173 P172 => ?_)
    show own_Go p e below _ (T173.setTop (mkF m 277 #[.val (.int i0), .val (.long j1), .second, .val (.int (4 : Int32)), .val (.int i4), .val (.int i5), .val (.int i6), .val (.int i7), .val (.int i8), .val (.int i9), .val (.int i10), .val (.ref b127), .val (.long (F3_0 (F3_0 (F3_0 (F3_0 (-3750763034362895579 : Int64) i4) i5) i6) i7)), .second] [(.long (F1_0 [(nar .byte (i4.toInt8.toInt32)), (nar .byte (i5.toInt8.toInt32)), (nar .byte (i6.toInt8.toInt32)), (nar .byte (i7.toInt8.toInt32))]))]))
    refine own_lload P172 at_277 rfl rfl ?_
    refine own_callP P172 (hw _ (List.mem_of_getElem? (i := 10) rfl)) (hw _ (List.mem_of_getElem? (i := 11) rfl)) (hw _ (List.mem_of_getElem? (i := 12) rfl)) (hw _ (List.mem_of_getElem? (i := 13) rfl)) (by decide) (argsL := [(.long (F3_0 (F3_0 (F3_0 (F3_0 (-3750763034362895579 : Int64) i4) i5) i6) i7))]) (rest := [(.long (F1_0 [(nar .byte (i4.toInt8.toInt32)), (nar .byte (i5.toInt8.toInt32)), (nar .byte (i6.toInt8.toInt32)), (nar .byte (i7.toInt8.toInt32))]))]) (rm2 l Z a0 hw (F3_0 (F3_0 (F3_0 (F3_0 (-3750763034362895579 : Int64) i4) i5) i6) i7) h159) at_279 rfl own_pd1 rfl rfl rfl (by decide) 2 rfl (by decide) rfl rfl (by decide) (by decide) (fun T179 P178 => ?_)
    show own_Go p e below _ (T179.setTop (mkF m 282 #[.val (.int i0), .val (.long j1), .second, .val (.int (4 : Int32)), .val (.int i4), .val (.int i5), .val (.int i6), .val (.int i7), .val (.int i8), .val (.int i9), .val (.int i10), .val (.ref b127), .val (.long (F3_0 (F3_0 (F3_0 (F3_0 (-3750763034362895579 : Int64) i4) i5) i6) i7)), .second] [(.long (F2_0 (F3_0 (F3_0 (F3_0 (F3_0 (-3750763034362895579 : Int64) i4) i5) i6) i7))), (.long (F1_0 [(nar .byte (i4.toInt8.toInt32)), (nar .byte (i5.toInt8.toInt32)), (nar .byte (i6.toInt8.toInt32)), (nar .byte (i7.toInt8.toInt32))]))]))
    by_cases hc180 : (F1_0 [(nar .byte (i4.toInt8.toInt32)), (nar .byte (i5.toInt8.toInt32)), (nar .byte (i6.toInt8.toInt32)), (nar .byte (i7.toInt8.toInt32))]) = (F2_0 (F3_0 (F3_0 (F3_0 (F3_0 (-3750763034362895579 : Int64) i4) i5) i6) i7))
    · rw [if_pos hc180] at hQ
      refine own_lcN P178 (pc' := 286) at_282 at_283 (not_not_intro hc180) rfl ?_
      refine own_iconst P178 at_286 rfl (v := (1 : Int32)) rfl ?_
      refine own_goto P178 (pc' := 291) at_287 (by decide) (by decide) ?_
      exact own_retZ P178 at_291 (z := (1 : Int32)) rfl (by decide) (by decide) (hQ _ _ N162)
    · rw [if_neg hc180] at hQ
      refine own_lcY P178 (pc' := 290) at_282 at_283 hc180 (by decide) (by decide) ?_
      refine own_iconst P178 at_290 rfl (v := (0 : Int32)) rfl ?_
      exact own_retZ P178 at_291 (z := (0 : Int32)) rfl (by decide) (by decide) (hQ _ _ N162)
  · rw [if_neg (by decide : ¬ ((5 : Int32) = (0 : Int32))), if_neg (by decide : ¬ ((5 : Int32) = (1 : Int32))), if_neg (by decide : ¬ ((5 : Int32) = (2 : Int32))), if_neg (by decide : ¬ ((5 : Int32) = (3 : Int32))), if_neg (by decide : ¬ ((5 : Int32) = (4 : Int32))), if_pos rfl] at hQ
    refine own_iloadN P at_79 rfl rfl ?_
    refine own_arrNew P 5 (hw _ (List.mem_of_getElem? (i := 1) rfl)) rfl rfl at_80 rfl (by decide) (by decide) (by decide) (by decide) (by decide) (fun T186 h187 b181 ha182 E183 A184 P185 => ?_)
    have g188 : n0 ≤ b181 := by rw [ha182]; exact Z0
    have f189 : own_Ar Z h187 b181 .byte [(0 : Int32), (0 : Int32), (0 : Int32), (0 : Int32), (0 : Int32)] := A184
    refine own_astore P185 at_82 rfl rfl (Ls' := #[.val (.int i0), .val (.long j1), .second, .val (.int (5 : Int32)), .val (.int i4), .val (.int i5), .val (.int i6), .val (.int i7), .val (.int i8), .val (.int i9), .val (.int i10), .val (.ref b181), .unset, .unset]) rfl ?_
    refine own_iloadN P185 at_84 rfl rfl ?_
    refine own_if0N P185 (pc' := 88) at_85 (not_not_intro (by decide : (0 : Int32) < (5 : Int32))) rfl ?_
    refine own_aload P185 at_88 rfl rfl rfl ?_
    refine own_iconst P185 at_90 rfl (v := (0 : Int32)) rfl ?_
    refine own_iload P185 at_91 rfl rfl ?_
    refine own_i2b P185 at_93 rfl ?_
    refine own_bastore P185 f189 at_94 rfl (by decide) (Nat.le_of_ble_eq_true rfl) (z := (nar .byte (i4.toInt8.toInt32))) rfl (fun T191 h192 W193 A194 P190 => ?_)
    have N195 := Fr.snoc P190.st N g188
    have f196 : own_Ar Z h192 b181 .byte [(nar .byte (i4.toInt8.toInt32)), (0 : Int32), (0 : Int32), (0 : Int32), (0 : Int32)] := A194
    refine own_iloadN P190 at_95 rfl rfl ?_
    refine own_iconst P190 at_96 rfl (v := (1 : Int32)) rfl ?_
    refine own_icmpN P190 (pc' := 100) at_97 (not_not_intro (by decide : (1 : Int32) < (5 : Int32))) rfl ?_
    refine own_aload P190 at_100 rfl rfl rfl ?_
    refine own_iconst P190 at_102 rfl (v := (1 : Int32)) rfl ?_
    refine own_iload P190 at_103 rfl rfl ?_
    refine own_i2b P190 at_105 rfl ?_
    refine own_bastore P190 f196 at_106 rfl (by decide) (Nat.le_of_ble_eq_true rfl) (z := (nar .byte (i5.toInt8.toInt32))) rfl (fun T198 h199 W200 A201 P197 => ?_)
    have N202 := Fr.snoc P197.st N195 g188
    have f203 : own_Ar Z h199 b181 .byte [(nar .byte (i4.toInt8.toInt32)), (nar .byte (i5.toInt8.toInt32)), (0 : Int32), (0 : Int32), (0 : Int32)] := A201
    refine own_iloadN P197 at_107 rfl rfl ?_
    refine own_iconst P197 at_108 rfl (v := (2 : Int32)) rfl ?_
    refine own_icmpN P197 (pc' := 112) at_109 (not_not_intro (by decide : (2 : Int32) < (5 : Int32))) rfl ?_
    refine own_aload P197 at_112 rfl rfl rfl ?_
    refine own_iconst P197 at_114 rfl (v := (2 : Int32)) rfl ?_
    refine own_iload P197 at_115 rfl rfl ?_
    refine own_i2b P197 at_117 rfl ?_
    refine own_bastore P197 f203 at_118 rfl (by decide) (Nat.le_of_ble_eq_true rfl) (z := (nar .byte (i6.toInt8.toInt32))) rfl (fun T205 h206 W207 A208 P204 => ?_)
    have N209 := Fr.snoc P204.st N202 g188
    have f210 : own_Ar Z h206 b181 .byte [(nar .byte (i4.toInt8.toInt32)), (nar .byte (i5.toInt8.toInt32)), (nar .byte (i6.toInt8.toInt32)), (0 : Int32), (0 : Int32)] := A208
    refine own_iloadN P204 at_119 rfl rfl ?_
    refine own_iconst P204 at_120 rfl (v := (3 : Int32)) rfl ?_
    refine own_icmpN P204 (pc' := 124) at_121 (not_not_intro (by decide : (3 : Int32) < (5 : Int32))) rfl ?_
    refine own_aload P204 at_124 rfl rfl rfl ?_
    refine own_iconst P204 at_126 rfl (v := (3 : Int32)) rfl ?_
    refine own_iload P204 at_127 rfl rfl ?_
    refine own_i2b P204 at_129 rfl ?_
    refine own_bastore P204 f210 at_130 rfl (by decide) (Nat.le_of_ble_eq_true rfl) (z := (nar .byte (i7.toInt8.toInt32))) rfl (fun T212 h213 W214 A215 P211 => ?_)
    have N216 := Fr.snoc P211.st N209 g188
    have f217 : own_Ar Z h213 b181 .byte [(nar .byte (i4.toInt8.toInt32)), (nar .byte (i5.toInt8.toInt32)), (nar .byte (i6.toInt8.toInt32)), (nar .byte (i7.toInt8.toInt32)), (0 : Int32)] := A215
    refine own_iloadN P211 at_131 rfl rfl ?_
    refine own_iconst P211 at_132 rfl (v := (4 : Int32)) rfl ?_
    refine own_icmpN P211 (pc' := 136) at_133 (not_not_intro (by decide : (4 : Int32) < (5 : Int32))) rfl ?_
    refine own_aload P211 at_136 rfl rfl rfl ?_
    refine own_iconst P211 at_138 rfl (v := (4 : Int32)) rfl ?_
    refine own_iload P211 at_139 rfl rfl ?_
    refine own_i2b P211 at_141 rfl ?_
    refine own_bastore P211 f217 at_142 rfl (by decide) (Nat.le_of_ble_eq_true rfl) (z := (nar .byte (i8.toInt8.toInt32))) rfl (fun T219 h220 W221 A222 P218 => ?_)
    have N223 := Fr.snoc P218.st N216 g188
    have f224 : own_Ar Z h220 b181 .byte [(nar .byte (i4.toInt8.toInt32)), (nar .byte (i5.toInt8.toInt32)), (nar .byte (i6.toInt8.toInt32)), (nar .byte (i7.toInt8.toInt32)), (nar .byte (i8.toInt8.toInt32))] := A222
    refine own_iloadN P218 at_143 rfl rfl ?_
    refine own_iconst P218 at_144 rfl (v := (5 : Int32)) rfl ?_
    refine own_icmpY P218 (pc' := 155) at_145 (by decide : ¬ ((5 : Int32) < (5 : Int32))) (by decide) (by decide) ?_
    refine own_iloadN P218 at_155 rfl rfl ?_
    refine own_bipush P218 at_156 rfl (v := (6 : Int32)) rfl ?_
    refine own_icmpY P218 (pc' := 169) at_158 (by decide : ¬ ((6 : Int32) < (5 : Int32))) (by decide) (by decide) ?_
    refine own_ldc2 P218 (v := (-3750763034362895579 : Int64)) (hw _ (List.mem_of_getElem? (i := 2) rfl)) at_169 rfl ?_
    refine own_lstore P218 at_172 rfl (Ls' := #[.val (.int i0), .val (.long j1), .second, .val (.int (5 : Int32)), .val (.int i4), .val (.int i5), .val (.int i6), .val (.int i7), .val (.int i8), .val (.int i9), .val (.int i10), .val (.ref b181), .val (.long (-3750763034362895579 : Int64)), .second]) rfl ?_
    refine own_iloadN P218 at_174 rfl rfl ?_
    refine own_if0N P218 (pc' := 178) at_175 (not_not_intro (by decide : (0 : Int32) < (5 : Int32))) rfl ?_
    refine own_lload P218 at_178 rfl rfl ?_
    refine own_iload P218 at_180 rfl rfl ?_
    refine own_callP P218 (hw _ (List.mem_of_getElem? (i := 16) rfl)) (hw _ (List.mem_of_getElem? (i := 17) rfl)) (hw _ (List.mem_of_getElem? (i := 12) rfl)) (hw _ (List.mem_of_getElem? (i := 18) rfl)) (by decide) (argsL := [(.long (-3750763034362895579 : Int64)), (.int i4)]) (rest := []) (rm3 l Z a0 hw (-3750763034362895579 : Int64) i4 h220) at_182 rfl own_pd2 rfl rfl rfl (by decide) 0 rfl (by decide) rfl rfl (by decide) (by decide) (fun T226 P225 => ?_)
    show own_Go p e below _ (T226.setTop (mkF m 185 #[.val (.int i0), .val (.long j1), .second, .val (.int (5 : Int32)), .val (.int i4), .val (.int i5), .val (.int i6), .val (.int i7), .val (.int i8), .val (.int i9), .val (.int i10), .val (.ref b181), .val (.long (-3750763034362895579 : Int64)), .second] [(.long (F3_0 (-3750763034362895579 : Int64) i4))]))
    refine own_lstore P225 at_185 rfl (Ls' := #[.val (.int i0), .val (.long j1), .second, .val (.int (5 : Int32)), .val (.int i4), .val (.int i5), .val (.int i6), .val (.int i7), .val (.int i8), .val (.int i9), .val (.int i10), .val (.ref b181), .val (.long (F3_0 (-3750763034362895579 : Int64) i4)), .second]) rfl ?_
    refine own_iloadN P225 at_187 rfl rfl ?_
    refine own_iconst P225 at_188 rfl (v := (1 : Int32)) rfl ?_
    refine own_icmpN P225 (pc' := 192) at_189 (not_not_intro (by decide : (1 : Int32) < (5 : Int32))) rfl ?_
    refine own_lload P225 at_192 rfl rfl ?_
    refine own_iload P225 at_194 rfl rfl ?_
    refine own_callP P225 (hw _ (List.mem_of_getElem? (i := 16) rfl)) (hw _ (List.mem_of_getElem? (i := 17) rfl)) (hw _ (List.mem_of_getElem? (i := 12) rfl)) (hw _ (List.mem_of_getElem? (i := 18) rfl)) (by decide) (argsL := [(.long (F3_0 (-3750763034362895579 : Int64) i4)), (.int i5)]) (rest := []) (rm3 l Z a0 hw (F3_0 (-3750763034362895579 : Int64) i4) i5 h220) at_196 rfl own_pd2 rfl rfl rfl (by decide) 0 rfl (by decide) rfl rfl (by decide) (by decide) (fun T228 P227 => ?_)
    show own_Go p e below _ (T228.setTop (mkF m 199 #[.val (.int i0), .val (.long j1), .second, .val (.int (5 : Int32)), .val (.int i4), .val (.int i5), .val (.int i6), .val (.int i7), .val (.int i8), .val (.int i9), .val (.int i10), .val (.ref b181), .val (.long (F3_0 (-3750763034362895579 : Int64) i4)), .second] [(.long (F3_0 (F3_0 (-3750763034362895579 : Int64) i4) i5))]))
    refine own_lstore P227 at_199 rfl (Ls' := #[.val (.int i0), .val (.long j1), .second, .val (.int (5 : Int32)), .val (.int i4), .val (.int i5), .val (.int i6), .val (.int i7), .val (.int i8), .val (.int i9), .val (.int i10), .val (.ref b181), .val (.long (F3_0 (F3_0 (-3750763034362895579 : Int64) i4) i5)), .second]) rfl ?_
    refine own_iloadN P227 at_201 rfl rfl ?_
    refine own_iconst P227 at_202 rfl (v := (2 : Int32)) rfl ?_
    refine own_icmpN P227 (pc' := 206) at_203 (not_not_intro (by decide : (2 : Int32) < (5 : Int32))) rfl ?_
    refine own_lload P227 at_206 rfl rfl ?_
    refine own_iload P227 at_208 rfl rfl ?_
    refine own_callP P227 (hw _ (List.mem_of_getElem? (i := 16) rfl)) (hw _ (List.mem_of_getElem? (i := 17) rfl)) (hw _ (List.mem_of_getElem? (i := 12) rfl)) (hw _ (List.mem_of_getElem? (i := 18) rfl)) (by decide) (argsL := [(.long (F3_0 (F3_0 (-3750763034362895579 : Int64) i4) i5)), (.int i6)]) (rest := []) (rm3 l Z a0 hw (F3_0 (F3_0 (-3750763034362895579 : Int64) i4) i5) i6 h220) at_210 rfl own_pd2 rfl rfl rfl (by decide) 0 rfl (by decide) rfl rfl (by decide) (by decide) (fun T230 P229 => ?_)
    show own_Go p e below _ (T230.setTop (mkF m 213 #[.val (.int i0), .val (.long j1), .second, .val (.int (5 : Int32)), .val (.int i4), .val (.int i5), .val (.int i6), .val (.int i7), .val (.int i8), .val (.int i9), .val (.int i10), .val (.ref b181), .val (.long (F3_0 (F3_0 (-3750763034362895579 : Int64) i4) i5)), .second] [(.long (F3_0 (F3_0 (F3_0 (-3750763034362895579 : Int64) i4) i5) i6))]))
    refine own_lstore P229 at_213 rfl (Ls' := #[.val (.int i0), .val (.long j1), .second, .val (.int (5 : Int32)), .val (.int i4), .val (.int i5), .val (.int i6), .val (.int i7), .val (.int i8), .val (.int i9), .val (.int i10), .val (.ref b181), .val (.long (F3_0 (F3_0 (F3_0 (-3750763034362895579 : Int64) i4) i5) i6)), .second]) rfl ?_
    refine own_iloadN P229 at_215 rfl rfl ?_
    refine own_iconst P229 at_216 rfl (v := (3 : Int32)) rfl ?_
    refine own_icmpN P229 (pc' := 220) at_217 (not_not_intro (by decide : (3 : Int32) < (5 : Int32))) rfl ?_
    refine own_lload P229 at_220 rfl rfl ?_
    refine own_iload P229 at_222 rfl rfl ?_
    refine own_callP P229 (hw _ (List.mem_of_getElem? (i := 16) rfl)) (hw _ (List.mem_of_getElem? (i := 17) rfl)) (hw _ (List.mem_of_getElem? (i := 12) rfl)) (hw _ (List.mem_of_getElem? (i := 18) rfl)) (by decide) (argsL := [(.long (F3_0 (F3_0 (F3_0 (-3750763034362895579 : Int64) i4) i5) i6)), (.int i7)]) (rest := []) (rm3 l Z a0 hw (F3_0 (F3_0 (F3_0 (-3750763034362895579 : Int64) i4) i5) i6) i7 h220) at_224 rfl own_pd2 rfl rfl rfl (by decide) 0 rfl (by decide) rfl rfl (by decide) (by decide) (fun T232 P231 => ?_)
    show own_Go p e below _ (T232.setTop (mkF m 227 #[.val (.int i0), .val (.long j1), .second, .val (.int (5 : Int32)), .val (.int i4), .val (.int i5), .val (.int i6), .val (.int i7), .val (.int i8), .val (.int i9), .val (.int i10), .val (.ref b181), .val (.long (F3_0 (F3_0 (F3_0 (-3750763034362895579 : Int64) i4) i5) i6)), .second] [(.long (F3_0 (F3_0 (F3_0 (F3_0 (-3750763034362895579 : Int64) i4) i5) i6) i7))]))
    refine own_lstore P231 at_227 rfl (Ls' := #[.val (.int i0), .val (.long j1), .second, .val (.int (5 : Int32)), .val (.int i4), .val (.int i5), .val (.int i6), .val (.int i7), .val (.int i8), .val (.int i9), .val (.int i10), .val (.ref b181), .val (.long (F3_0 (F3_0 (F3_0 (F3_0 (-3750763034362895579 : Int64) i4) i5) i6) i7)), .second]) rfl ?_
    refine own_iloadN P231 at_229 rfl rfl ?_
    refine own_iconst P231 at_230 rfl (v := (4 : Int32)) rfl ?_
    refine own_icmpN P231 (pc' := 234) at_231 (not_not_intro (by decide : (4 : Int32) < (5 : Int32))) rfl ?_
    refine own_lload P231 at_234 rfl rfl ?_
    refine own_iload P231 at_236 rfl rfl ?_
    refine own_callP P231 (hw _ (List.mem_of_getElem? (i := 16) rfl)) (hw _ (List.mem_of_getElem? (i := 17) rfl)) (hw _ (List.mem_of_getElem? (i := 12) rfl)) (hw _ (List.mem_of_getElem? (i := 18) rfl)) (by decide) (argsL := [(.long (F3_0 (F3_0 (F3_0 (F3_0 (-3750763034362895579 : Int64) i4) i5) i6) i7)), (.int i8)]) (rest := []) (rm3 l Z a0 hw (F3_0 (F3_0 (F3_0 (F3_0 (-3750763034362895579 : Int64) i4) i5) i6) i7) i8 h220) at_238 rfl own_pd2 rfl rfl rfl (by decide) 0 rfl (by decide) rfl rfl (by decide) (by decide) (fun T234 P233 => ?_)
    show own_Go p e below _ (T234.setTop (mkF m 241 #[.val (.int i0), .val (.long j1), .second, .val (.int (5 : Int32)), .val (.int i4), .val (.int i5), .val (.int i6), .val (.int i7), .val (.int i8), .val (.int i9), .val (.int i10), .val (.ref b181), .val (.long (F3_0 (F3_0 (F3_0 (F3_0 (-3750763034362895579 : Int64) i4) i5) i6) i7)), .second] [(.long (F3_0 (F3_0 (F3_0 (F3_0 (F3_0 (-3750763034362895579 : Int64) i4) i5) i6) i7) i8))]))
    refine own_lstore P233 at_241 rfl (Ls' := #[.val (.int i0), .val (.long j1), .second, .val (.int (5 : Int32)), .val (.int i4), .val (.int i5), .val (.int i6), .val (.int i7), .val (.int i8), .val (.int i9), .val (.int i10), .val (.ref b181), .val (.long (F3_0 (F3_0 (F3_0 (F3_0 (F3_0 (-3750763034362895579 : Int64) i4) i5) i6) i7) i8)), .second]) rfl ?_
    refine own_iloadN P233 at_243 rfl rfl ?_
    refine own_iconst P233 at_244 rfl (v := (5 : Int32)) rfl ?_
    refine own_icmpY P233 (pc' := 257) at_245 (by decide : ¬ ((5 : Int32) < (5 : Int32))) (by decide) (by decide) ?_
    refine own_iloadN P233 at_257 rfl rfl ?_
    refine own_bipush P233 at_258 rfl (v := (6 : Int32)) rfl ?_
    refine own_icmpY P233 (pc' := 272) at_260 (by decide : ¬ ((6 : Int32) < (5 : Int32))) (by decide) (by decide) ?_
    refine own_aload P233 at_272 rfl rfl rfl ?_
    refine own_callP P233 (hw _ (List.mem_of_getElem? (i := 3) rfl)) (hw _ (List.mem_of_getElem? (i := 4) rfl)) (hw _ (List.mem_of_getElem? (i := 5) rfl)) (hw _ (List.mem_of_getElem? (i := 6) rfl)) (by decide) (argsL := [(.ref b181)]) (rest := []) (rm1 l Z a0 hw b181 [(nar .byte (i4.toInt8.toInt32)), (nar .byte (i5.toInt8.toInt32)), (nar .byte (i6.toInt8.toInt32)), (nar .byte (i7.toInt8.toInt32)), (nar .byte (i8.toInt8.toInt32))] h220 f224 (Nat.le_of_ble_eq_true rfl)) at_274 rfl own_pd0 rfl rfl rfl (by decide) 0 rfl (by decide) rfl rfl (by decide) (by decide) (fun T236 P235 => ?_)
    show own_Go p e below _ (T236.setTop (mkF m 277 #[.val (.int i0), .val (.long j1), .second, .val (.int (5 : Int32)), .val (.int i4), .val (.int i5), .val (.int i6), .val (.int i7), .val (.int i8), .val (.int i9), .val (.int i10), .val (.ref b181), .val (.long (F3_0 (F3_0 (F3_0 (F3_0 (F3_0 (-3750763034362895579 : Int64) i4) i5) i6) i7) i8)), .second] [(.long (F1_0 [(nar .byte (i4.toInt8.toInt32)), (nar .byte (i5.toInt8.toInt32)), (nar .byte (i6.toInt8.toInt32)), (nar .byte (i7.toInt8.toInt32)), (nar .byte (i8.toInt8.toInt32))]))]))
    refine own_lload P235 at_277 rfl rfl ?_
    refine own_callP P235 (hw _ (List.mem_of_getElem? (i := 10) rfl)) (hw _ (List.mem_of_getElem? (i := 11) rfl)) (hw _ (List.mem_of_getElem? (i := 12) rfl)) (hw _ (List.mem_of_getElem? (i := 13) rfl)) (by decide) (argsL := [(.long (F3_0 (F3_0 (F3_0 (F3_0 (F3_0 (-3750763034362895579 : Int64) i4) i5) i6) i7) i8))]) (rest := [(.long (F1_0 [(nar .byte (i4.toInt8.toInt32)), (nar .byte (i5.toInt8.toInt32)), (nar .byte (i6.toInt8.toInt32)), (nar .byte (i7.toInt8.toInt32)), (nar .byte (i8.toInt8.toInt32))]))]) (rm2 l Z a0 hw (F3_0 (F3_0 (F3_0 (F3_0 (F3_0 (-3750763034362895579 : Int64) i4) i5) i6) i7) i8) h220) at_279 rfl own_pd1 rfl rfl rfl (by decide) 2 rfl (by decide) rfl rfl (by decide) (by decide) (fun T242 P241 => ?_)
    show own_Go p e below _ (T242.setTop (mkF m 282 #[.val (.int i0), .val (.long j1), .second, .val (.int (5 : Int32)), .val (.int i4), .val (.int i5), .val (.int i6), .val (.int i7), .val (.int i8), .val (.int i9), .val (.int i10), .val (.ref b181), .val (.long (F3_0 (F3_0 (F3_0 (F3_0 (F3_0 (-3750763034362895579 : Int64) i4) i5) i6) i7) i8)), .second] [(.long (F2_0 (F3_0 (F3_0 (F3_0 (F3_0 (F3_0 (-3750763034362895579 : Int64) i4) i5) i6) i7) i8))), (.long (F1_0 [(nar .byte (i4.toInt8.toInt32)), (nar .byte (i5.toInt8.toInt32)), (nar .byte (i6.toInt8.toInt32)), (nar .byte (i7.toInt8.toInt32)), (nar .byte (i8.toInt8.toInt32))]))]))
    by_cases hc243 : (F1_0 [(nar .byte (i4.toInt8.toInt32)), (nar .byte (i5.toInt8.toInt32)), (nar .byte (i6.toInt8.toInt32)), (nar .byte (i7.toInt8.toInt32)), (nar .byte (i8.toInt8.toInt32))]) = (F2_0 (F3_0 (F3_0 (F3_0 (F3_0 (F3_0 (-3750763034362895579 : Int64) i4) i5) i6) i7) i8))
    · rw [if_pos hc243] at hQ
      refine own_lcN P241 (pc' := 286) at_282 at_283 (not_not_intro hc243) rfl ?_
      refine own_iconst P241 at_286 rfl (v := (1 : Int32)) rfl ?_
      refine own_goto P241 (pc' := 291) at_287 (by decide) (by decide) ?_
      exact own_retZ P241 at_291 (z := (1 : Int32)) rfl (by decide) (by decide) (hQ _ _ N223)
    · rw [if_neg hc243] at hQ
      refine own_lcY P241 (pc' := 290) at_282 at_283 hc243 (by decide) (by decide) ?_
      refine own_iconst P241 at_290 rfl (v := (0 : Int32)) rfl ?_
      exact own_retZ P241 at_291 (z := (0 : Int32)) rfl (by decide) (by decide) (hQ _ _ N223)
  · rw [if_neg (by decide : ¬ ((6 : Int32) = (0 : Int32))), if_neg (by decide : ¬ ((6 : Int32) = (1 : Int32))), if_neg (by decide : ¬ ((6 : Int32) = (2 : Int32))), if_neg (by decide : ¬ ((6 : Int32) = (3 : Int32))), if_neg (by decide : ¬ ((6 : Int32) = (4 : Int32))), if_neg (by decide : ¬ ((6 : Int32) = (5 : Int32))), if_pos rfl] at hQ
    refine own_iloadN P at_79 rfl rfl ?_
    refine own_arrNew P 6 (hw _ (List.mem_of_getElem? (i := 1) rfl)) rfl rfl at_80 rfl (by decide) (by decide) (by decide) (by decide) (by decide) (fun T249 h250 b244 ha245 E246 A247 P248 => ?_)
    have g251 : n0 ≤ b244 := by rw [ha245]; exact Z0
    have f252 : own_Ar Z h250 b244 .byte [(0 : Int32), (0 : Int32), (0 : Int32), (0 : Int32), (0 : Int32), (0 : Int32)] := A247
    refine own_astore P248 at_82 rfl rfl (Ls' := #[.val (.int i0), .val (.long j1), .second, .val (.int (6 : Int32)), .val (.int i4), .val (.int i5), .val (.int i6), .val (.int i7), .val (.int i8), .val (.int i9), .val (.int i10), .val (.ref b244), .unset, .unset]) rfl ?_
    refine own_iloadN P248 at_84 rfl rfl ?_
    refine own_if0N P248 (pc' := 88) at_85 (not_not_intro (by decide : (0 : Int32) < (6 : Int32))) rfl ?_
    refine own_aload P248 at_88 rfl rfl rfl ?_
    refine own_iconst P248 at_90 rfl (v := (0 : Int32)) rfl ?_
    refine own_iload P248 at_91 rfl rfl ?_
    refine own_i2b P248 at_93 rfl ?_
    refine own_bastore P248 f252 at_94 rfl (by decide) (Nat.le_of_ble_eq_true rfl) (z := (nar .byte (i4.toInt8.toInt32))) rfl (fun T254 h255 W256 A257 P253 => ?_)
    have N258 := Fr.snoc P253.st N g251
    have f259 : own_Ar Z h255 b244 .byte [(nar .byte (i4.toInt8.toInt32)), (0 : Int32), (0 : Int32), (0 : Int32), (0 : Int32), (0 : Int32)] := A257
    refine own_iloadN P253 at_95 rfl rfl ?_
    refine own_iconst P253 at_96 rfl (v := (1 : Int32)) rfl ?_
    refine own_icmpN P253 (pc' := 100) at_97 (not_not_intro (by decide : (1 : Int32) < (6 : Int32))) rfl ?_
    refine own_aload P253 at_100 rfl rfl rfl ?_
    refine own_iconst P253 at_102 rfl (v := (1 : Int32)) rfl ?_
    refine own_iload P253 at_103 rfl rfl ?_
    refine own_i2b P253 at_105 rfl ?_
    refine own_bastore P253 f259 at_106 rfl (by decide) (Nat.le_of_ble_eq_true rfl) (z := (nar .byte (i5.toInt8.toInt32))) rfl (fun T261 h262 W263 A264 P260 => ?_)
    have N265 := Fr.snoc P260.st N258 g251
    have f266 : own_Ar Z h262 b244 .byte [(nar .byte (i4.toInt8.toInt32)), (nar .byte (i5.toInt8.toInt32)), (0 : Int32), (0 : Int32), (0 : Int32), (0 : Int32)] := A264
    refine own_iloadN P260 at_107 rfl rfl ?_
    refine own_iconst P260 at_108 rfl (v := (2 : Int32)) rfl ?_
    refine own_icmpN P260 (pc' := 112) at_109 (not_not_intro (by decide : (2 : Int32) < (6 : Int32))) rfl ?_
    refine own_aload P260 at_112 rfl rfl rfl ?_
    refine own_iconst P260 at_114 rfl (v := (2 : Int32)) rfl ?_
    refine own_iload P260 at_115 rfl rfl ?_
    refine own_i2b P260 at_117 rfl ?_
    refine own_bastore P260 f266 at_118 rfl (by decide) (Nat.le_of_ble_eq_true rfl) (z := (nar .byte (i6.toInt8.toInt32))) rfl (fun T268 h269 W270 A271 P267 => ?_)
    have N272 := Fr.snoc P267.st N265 g251
    have f273 : own_Ar Z h269 b244 .byte [(nar .byte (i4.toInt8.toInt32)), (nar .byte (i5.toInt8.toInt32)), (nar .byte (i6.toInt8.toInt32)), (0 : Int32), (0 : Int32), (0 : Int32)] := A271
    refine own_iloadN P267 at_119 rfl rfl ?_
    refine own_iconst P267 at_120 rfl (v := (3 : Int32)) rfl ?_
    refine own_icmpN P267 (pc' := 124) at_121 (not_not_intro (by decide : (3 : Int32) < (6 : Int32))) rfl ?_
    refine own_aload P267 at_124 rfl rfl rfl ?_
    refine own_iconst P267 at_126 rfl (v := (3 : Int32)) rfl ?_
    refine own_iload P267 at_127 rfl rfl ?_
    refine own_i2b P267 at_129 rfl ?_
    refine own_bastore P267 f273 at_130 rfl (by decide) (Nat.le_of_ble_eq_true rfl) (z := (nar .byte (i7.toInt8.toInt32))) rfl (fun T275 h276 W277 A278 P274 => ?_)
    have N279 := Fr.snoc P274.st N272 g251
    have f280 : own_Ar Z h276 b244 .byte [(nar .byte (i4.toInt8.toInt32)), (nar .byte (i5.toInt8.toInt32)), (nar .byte (i6.toInt8.toInt32)), (nar .byte (i7.toInt8.toInt32)), (0 : Int32), (0 : Int32)] := A278
    refine own_iloadN P274 at_131 rfl rfl ?_
    refine own_iconst P274 at_132 rfl (v := (4 : Int32)) rfl ?_
    refine own_icmpN P274 (pc' := 136) at_133 (not_not_intro (by decide : (4 : Int32) < (6 : Int32))) rfl ?_
    refine own_aload P274 at_136 rfl rfl rfl ?_
    refine own_iconst P274 at_138 rfl (v := (4 : Int32)) rfl ?_
    refine own_iload P274 at_139 rfl rfl ?_
    refine own_i2b P274 at_141 rfl ?_
    refine own_bastore P274 f280 at_142 rfl (by decide) (Nat.le_of_ble_eq_true rfl) (z := (nar .byte (i8.toInt8.toInt32))) rfl (fun T282 h283 W284 A285 P281 => ?_)
    have N286 := Fr.snoc P281.st N279 g251
    have f287 : own_Ar Z h283 b244 .byte [(nar .byte (i4.toInt8.toInt32)), (nar .byte (i5.toInt8.toInt32)), (nar .byte (i6.toInt8.toInt32)), (nar .byte (i7.toInt8.toInt32)), (nar .byte (i8.toInt8.toInt32)), (0 : Int32)] := A285
    refine own_iloadN P281 at_143 rfl rfl ?_
    refine own_iconst P281 at_144 rfl (v := (5 : Int32)) rfl ?_
    refine own_icmpN P281 (pc' := 148) at_145 (not_not_intro (by decide : (5 : Int32) < (6 : Int32))) rfl ?_
    refine own_aload P281 at_148 rfl rfl rfl ?_
    refine own_iconst P281 at_150 rfl (v := (5 : Int32)) rfl ?_
    refine own_iload P281 at_151 rfl rfl ?_
    refine own_i2b P281 at_153 rfl ?_
    refine own_bastore P281 f287 at_154 rfl (by decide) (Nat.le_of_ble_eq_true rfl) (z := (nar .byte (i9.toInt8.toInt32))) rfl (fun T289 h290 W291 A292 P288 => ?_)
    have N293 := Fr.snoc P288.st N286 g251
    have f294 : own_Ar Z h290 b244 .byte [(nar .byte (i4.toInt8.toInt32)), (nar .byte (i5.toInt8.toInt32)), (nar .byte (i6.toInt8.toInt32)), (nar .byte (i7.toInt8.toInt32)), (nar .byte (i8.toInt8.toInt32)), (nar .byte (i9.toInt8.toInt32))] := A292
    refine own_iloadN P288 at_155 rfl rfl ?_
    refine own_bipush P288 at_156 rfl (v := (6 : Int32)) rfl ?_
    refine own_icmpY P288 (pc' := 169) at_158 (by decide : ¬ ((6 : Int32) < (6 : Int32))) (by decide) (by decide) ?_
    refine own_ldc2 P288 (v := (-3750763034362895579 : Int64)) (hw _ (List.mem_of_getElem? (i := 2) rfl)) at_169 rfl ?_
    refine own_lstore P288 at_172 rfl (Ls' := #[.val (.int i0), .val (.long j1), .second, .val (.int (6 : Int32)), .val (.int i4), .val (.int i5), .val (.int i6), .val (.int i7), .val (.int i8), .val (.int i9), .val (.int i10), .val (.ref b244), .val (.long (-3750763034362895579 : Int64)), .second]) rfl ?_
    refine own_iloadN P288 at_174 rfl rfl ?_
    refine own_if0N P288 (pc' := 178) at_175 (not_not_intro (by decide : (0 : Int32) < (6 : Int32))) rfl ?_
    refine own_lload P288 at_178 rfl rfl ?_
    refine own_iload P288 at_180 rfl rfl ?_
    refine own_callP P288 (hw _ (List.mem_of_getElem? (i := 16) rfl)) (hw _ (List.mem_of_getElem? (i := 17) rfl)) (hw _ (List.mem_of_getElem? (i := 12) rfl)) (hw _ (List.mem_of_getElem? (i := 18) rfl)) (by decide) (argsL := [(.long (-3750763034362895579 : Int64)), (.int i4)]) (rest := []) (rm3 l Z a0 hw (-3750763034362895579 : Int64) i4 h290) at_182 rfl own_pd2 rfl rfl rfl (by decide) 0 rfl (by decide) rfl rfl (by decide) (by decide) (fun T296 P295 => ?_)
    show own_Go p e below _ (T296.setTop (mkF m 185 #[.val (.int i0), .val (.long j1), .second, .val (.int (6 : Int32)), .val (.int i4), .val (.int i5), .val (.int i6), .val (.int i7), .val (.int i8), .val (.int i9), .val (.int i10), .val (.ref b244), .val (.long (-3750763034362895579 : Int64)), .second] [(.long (F3_0 (-3750763034362895579 : Int64) i4))]))
    refine own_lstore P295 at_185 rfl (Ls' := #[.val (.int i0), .val (.long j1), .second, .val (.int (6 : Int32)), .val (.int i4), .val (.int i5), .val (.int i6), .val (.int i7), .val (.int i8), .val (.int i9), .val (.int i10), .val (.ref b244), .val (.long (F3_0 (-3750763034362895579 : Int64) i4)), .second]) rfl ?_
    refine own_iloadN P295 at_187 rfl rfl ?_
    refine own_iconst P295 at_188 rfl (v := (1 : Int32)) rfl ?_
    refine own_icmpN P295 (pc' := 192) at_189 (not_not_intro (by decide : (1 : Int32) < (6 : Int32))) rfl ?_
    refine own_lload P295 at_192 rfl rfl ?_
    refine own_iload P295 at_194 rfl rfl ?_
    refine own_callP P295 (hw _ (List.mem_of_getElem? (i := 16) rfl)) (hw _ (List.mem_of_getElem? (i := 17) rfl)) (hw _ (List.mem_of_getElem? (i := 12) rfl)) (hw _ (List.mem_of_getElem? (i := 18) rfl)) (by decide) (argsL := [(.long (F3_0 (-3750763034362895579 : Int64) i4)), (.int i5)]) (rest := []) (rm3 l Z a0 hw (F3_0 (-3750763034362895579 : Int64) i4) i5 h290) at_196 rfl own_pd2 rfl rfl rfl (by decide) 0 rfl (by decide) rfl rfl (by decide) (by decide) (fun T298 P297 => ?_)
    show own_Go p e below _ (T298.setTop (mkF m 199 #[.val (.int i0), .val (.long j1), .second, .val (.int (6 : Int32)), .val (.int i4), .val (.int i5), .val (.int i6), .val (.int i7), .val (.int i8), .val (.int i9), .val (.int i10), .val (.ref b244), .val (.long (F3_0 (-3750763034362895579 : Int64) i4)), .second] [(.long (F3_0 (F3_0 (-3750763034362895579 : Int64) i4) i5))]))
    refine own_lstore P297 at_199 rfl (Ls' := #[.val (.int i0), .val (.long j1), .second, .val (.int (6 : Int32)), .val (.int i4), .val (.int i5), .val (.int i6), .val (.int i7), .val (.int i8), .val (.int i9), .val (.int i10), .val (.ref b244), .val (.long (F3_0 (F3_0 (-3750763034362895579 : Int64) i4) i5)), .second]) rfl ?_
    refine own_iloadN P297 at_201 rfl rfl ?_
    refine own_iconst P297 at_202 rfl (v := (2 : Int32)) rfl ?_
    refine own_icmpN P297 (pc' := 206) at_203 (not_not_intro (by decide : (2 : Int32) < (6 : Int32))) rfl ?_
    refine own_lload P297 at_206 rfl rfl ?_
    refine own_iload P297 at_208 rfl rfl ?_
    refine own_callP P297 (hw _ (List.mem_of_getElem? (i := 16) rfl)) (hw _ (List.mem_of_getElem? (i := 17) rfl)) (hw _ (List.mem_of_getElem? (i := 12) rfl)) (hw _ (List.mem_of_getElem? (i := 18) rfl)) (by decide) (argsL := [(.long (F3_0 (F3_0 (-3750763034362895579 : Int64) i4) i5)), (.int i6)]) (rest := []) (rm3 l Z a0 hw (F3_0 (F3_0 (-3750763034362895579 : Int64) i4) i5) i6 h290) at_210 rfl own_pd2 rfl rfl rfl (by decide) 0 rfl (by decide) rfl rfl (by decide) (by decide) (fun T300 P299 => ?_)
    show own_Go p e below _ (T300.setTop (mkF m 213 #[.val (.int i0), .val (.long j1), .second, .val (.int (6 : Int32)), .val (.int i4), .val (.int i5), .val (.int i6), .val (.int i7), .val (.int i8), .val (.int i9), .val (.int i10), .val (.ref b244), .val (.long (F3_0 (F3_0 (-3750763034362895579 : Int64) i4) i5)), .second] [(.long (F3_0 (F3_0 (F3_0 (-3750763034362895579 : Int64) i4) i5) i6))]))
    refine own_lstore P299 at_213 rfl (Ls' := #[.val (.int i0), .val (.long j1), .second, .val (.int (6 : Int32)), .val (.int i4), .val (.int i5), .val (.int i6), .val (.int i7), .val (.int i8), .val (.int i9), .val (.int i10), .val (.ref b244), .val (.long (F3_0 (F3_0 (F3_0 (-3750763034362895579 : Int64) i4) i5) i6)), .second]) rfl ?_
    refine own_iloadN P299 at_215 rfl rfl ?_
    refine own_iconst P299 at_216 rfl (v := (3 : Int32)) rfl ?_
    refine own_icmpN P299 (pc' := 220) at_217 (not_not_intro (by decide : (3 : Int32) < (6 : Int32))) rfl ?_
    refine own_lload P299 at_220 rfl rfl ?_
    refine own_iload P299 at_222 rfl rfl ?_
    refine own_callP P299 (hw _ (List.mem_of_getElem? (i := 16) rfl)) (hw _ (List.mem_of_getElem? (i := 17) rfl)) (hw _ (List.mem_of_getElem? (i := 12) rfl)) (hw _ (List.mem_of_getElem? (i := 18) rfl)) (by decide) (argsL := [(.long (F3_0 (F3_0 (F3_0 (-3750763034362895579 : Int64) i4) i5) i6)), (.int i7)]) (rest := []) (rm3 l Z a0 hw (F3_0 (F3_0 (F3_0 (-3750763034362895579 : Int64) i4) i5) i6) i7 h290) at_224 rfl own_pd2 rfl rfl rfl (by decide) 0 rfl (by decide) rfl rfl (by decide) (by decide) (fun T302 P301 => ?_)
    show own_Go p e below _ (T302.setTop (mkF m 227 #[.val (.int i0), .val (.long j1), .second, .val (.int (6 : Int32)), .val (.int i4), .val (.int i5), .val (.int i6), .val (.int i7), .val (.int i8), .val (.int i9), .val (.int i10), .val (.ref b244), .val (.long (F3_0 (F3_0 (F3_0 (-3750763034362895579 : Int64) i4) i5) i6)), .second] [(.long (F3_0 (F3_0 (F3_0 (F3_0 (-3750763034362895579 : Int64) i4) i5) i6) i7))]))
    refine own_lstore P301 at_227 rfl (Ls' := #[.val (.int i0), .val (.long j1), .second, .val (.int (6 : Int32)), .val (.int i4), .val (.int i5), .val (.int i6), .val (.int i7), .val (.int i8), .val (.int i9), .val (.int i10), .val (.ref b244), .val (.long (F3_0 (F3_0 (F3_0 (F3_0 (-3750763034362895579 : Int64) i4) i5) i6) i7)), .second]) rfl ?_
    refine own_iloadN P301 at_229 rfl rfl ?_
    refine own_iconst P301 at_230 rfl (v := (4 : Int32)) rfl ?_
    refine own_icmpN P301 (pc' := 234) at_231 (not_not_intro (by decide : (4 : Int32) < (6 : Int32))) rfl ?_
    refine own_lload P301 at_234 rfl rfl ?_
    refine own_iload P301 at_236 rfl rfl ?_
    refine own_callP P301 (hw _ (List.mem_of_getElem? (i := 16) rfl)) (hw _ (List.mem_of_getElem? (i := 17) rfl)) (hw _ (List.mem_of_getElem? (i := 12) rfl)) (hw _ (List.mem_of_getElem? (i := 18) rfl)) (by decide) (argsL := [(.long (F3_0 (F3_0 (F3_0 (F3_0 (-3750763034362895579 : Int64) i4) i5) i6) i7)), (.int i8)]) (rest := []) (rm3 l Z a0 hw (F3_0 (F3_0 (F3_0 (F3_0 (-3750763034362895579 : Int64) i4) i5) i6) i7) i8 h290) at_238 rfl own_pd2 rfl rfl rfl (by decide) 0 rfl (by decide) rfl rfl (by decide) (by decide) (fun T304 P303 => ?_)
    show own_Go p e below _ (T304.setTop (mkF m 241 #[.val (.int i0), .val (.long j1), .second, .val (.int (6 : Int32)), .val (.int i4), .val (.int i5), .val (.int i6), .val (.int i7), .val (.int i8), .val (.int i9), .val (.int i10), .val (.ref b244), .val (.long (F3_0 (F3_0 (F3_0 (F3_0 (-3750763034362895579 : Int64) i4) i5) i6) i7)), .second] [(.long (F3_0 (F3_0 (F3_0 (F3_0 (F3_0 (-3750763034362895579 : Int64) i4) i5) i6) i7) i8))]))
    refine own_lstore P303 at_241 rfl (Ls' := #[.val (.int i0), .val (.long j1), .second, .val (.int (6 : Int32)), .val (.int i4), .val (.int i5), .val (.int i6), .val (.int i7), .val (.int i8), .val (.int i9), .val (.int i10), .val (.ref b244), .val (.long (F3_0 (F3_0 (F3_0 (F3_0 (F3_0 (-3750763034362895579 : Int64) i4) i5) i6) i7) i8)), .second]) rfl ?_
    refine own_iloadN P303 at_243 rfl rfl ?_
    refine own_iconst P303 at_244 rfl (v := (5 : Int32)) rfl ?_
    refine own_icmpN P303 (pc' := 248) at_245 (not_not_intro (by decide : (5 : Int32) < (6 : Int32))) rfl ?_
    refine own_lload P303 at_248 rfl rfl ?_
    refine own_iload P303 at_250 rfl rfl ?_
    refine own_callP P303 (hw _ (List.mem_of_getElem? (i := 16) rfl)) (hw _ (List.mem_of_getElem? (i := 17) rfl)) (hw _ (List.mem_of_getElem? (i := 12) rfl)) (hw _ (List.mem_of_getElem? (i := 18) rfl)) (by decide) (argsL := [(.long (F3_0 (F3_0 (F3_0 (F3_0 (F3_0 (-3750763034362895579 : Int64) i4) i5) i6) i7) i8)), (.int i9)]) (rest := []) (rm3 l Z a0 hw (F3_0 (F3_0 (F3_0 (F3_0 (F3_0 (-3750763034362895579 : Int64) i4) i5) i6) i7) i8) i9 h290) at_252 rfl own_pd2 rfl rfl rfl (by decide) 0 rfl (by decide) rfl rfl (by decide) (by decide) (fun T306 P305 => ?_)
    show own_Go p e below _ (T306.setTop (mkF m 255 #[.val (.int i0), .val (.long j1), .second, .val (.int (6 : Int32)), .val (.int i4), .val (.int i5), .val (.int i6), .val (.int i7), .val (.int i8), .val (.int i9), .val (.int i10), .val (.ref b244), .val (.long (F3_0 (F3_0 (F3_0 (F3_0 (F3_0 (-3750763034362895579 : Int64) i4) i5) i6) i7) i8)), .second] [(.long (F3_0 (F3_0 (F3_0 (F3_0 (F3_0 (F3_0 (-3750763034362895579 : Int64) i4) i5) i6) i7) i8) i9))]))
    refine own_lstore P305 at_255 rfl (Ls' := #[.val (.int i0), .val (.long j1), .second, .val (.int (6 : Int32)), .val (.int i4), .val (.int i5), .val (.int i6), .val (.int i7), .val (.int i8), .val (.int i9), .val (.int i10), .val (.ref b244), .val (.long (F3_0 (F3_0 (F3_0 (F3_0 (F3_0 (F3_0 (-3750763034362895579 : Int64) i4) i5) i6) i7) i8) i9)), .second]) rfl ?_
    refine own_iloadN P305 at_257 rfl rfl ?_
    refine own_bipush P305 at_258 rfl (v := (6 : Int32)) rfl ?_
    refine own_icmpY P305 (pc' := 272) at_260 (by decide : ¬ ((6 : Int32) < (6 : Int32))) (by decide) (by decide) ?_
    refine own_aload P305 at_272 rfl rfl rfl ?_
    refine own_callP P305 (hw _ (List.mem_of_getElem? (i := 3) rfl)) (hw _ (List.mem_of_getElem? (i := 4) rfl)) (hw _ (List.mem_of_getElem? (i := 5) rfl)) (hw _ (List.mem_of_getElem? (i := 6) rfl)) (by decide) (argsL := [(.ref b244)]) (rest := []) (rm1 l Z a0 hw b244 [(nar .byte (i4.toInt8.toInt32)), (nar .byte (i5.toInt8.toInt32)), (nar .byte (i6.toInt8.toInt32)), (nar .byte (i7.toInt8.toInt32)), (nar .byte (i8.toInt8.toInt32)), (nar .byte (i9.toInt8.toInt32))] h290 f294 (Nat.le_of_ble_eq_true rfl)) at_274 rfl own_pd0 rfl rfl rfl (by decide) 0 rfl (by decide) rfl rfl (by decide) (by decide) (fun T308 P307 => ?_)
    show own_Go p e below _ (T308.setTop (mkF m 277 #[.val (.int i0), .val (.long j1), .second, .val (.int (6 : Int32)), .val (.int i4), .val (.int i5), .val (.int i6), .val (.int i7), .val (.int i8), .val (.int i9), .val (.int i10), .val (.ref b244), .val (.long (F3_0 (F3_0 (F3_0 (F3_0 (F3_0 (F3_0 (-3750763034362895579 : Int64) i4) i5) i6) i7) i8) i9)), .second] [(.long (F1_0 [(nar .byte (i4.toInt8.toInt32)), (nar .byte (i5.toInt8.toInt32)), (nar .byte (i6.toInt8.toInt32)), (nar .byte (i7.toInt8.toInt32)), (nar .byte (i8.toInt8.toInt32)), (nar .byte (i9.toInt8.toInt32))]))]))
    refine own_lload P307 at_277 rfl rfl ?_
    refine own_callP P307 (hw _ (List.mem_of_getElem? (i := 10) rfl)) (hw _ (List.mem_of_getElem? (i := 11) rfl)) (hw _ (List.mem_of_getElem? (i := 12) rfl)) (hw _ (List.mem_of_getElem? (i := 13) rfl)) (by decide) (argsL := [(.long (F3_0 (F3_0 (F3_0 (F3_0 (F3_0 (F3_0 (-3750763034362895579 : Int64) i4) i5) i6) i7) i8) i9))]) (rest := [(.long (F1_0 [(nar .byte (i4.toInt8.toInt32)), (nar .byte (i5.toInt8.toInt32)), (nar .byte (i6.toInt8.toInt32)), (nar .byte (i7.toInt8.toInt32)), (nar .byte (i8.toInt8.toInt32)), (nar .byte (i9.toInt8.toInt32))]))]) (rm2 l Z a0 hw (F3_0 (F3_0 (F3_0 (F3_0 (F3_0 (F3_0 (-3750763034362895579 : Int64) i4) i5) i6) i7) i8) i9) h290) at_279 rfl own_pd1 rfl rfl rfl (by decide) 2 rfl (by decide) rfl rfl (by decide) (by decide) (fun T314 P313 => ?_)
    show own_Go p e below _ (T314.setTop (mkF m 282 #[.val (.int i0), .val (.long j1), .second, .val (.int (6 : Int32)), .val (.int i4), .val (.int i5), .val (.int i6), .val (.int i7), .val (.int i8), .val (.int i9), .val (.int i10), .val (.ref b244), .val (.long (F3_0 (F3_0 (F3_0 (F3_0 (F3_0 (F3_0 (-3750763034362895579 : Int64) i4) i5) i6) i7) i8) i9)), .second] [(.long (F2_0 (F3_0 (F3_0 (F3_0 (F3_0 (F3_0 (F3_0 (-3750763034362895579 : Int64) i4) i5) i6) i7) i8) i9))), (.long (F1_0 [(nar .byte (i4.toInt8.toInt32)), (nar .byte (i5.toInt8.toInt32)), (nar .byte (i6.toInt8.toInt32)), (nar .byte (i7.toInt8.toInt32)), (nar .byte (i8.toInt8.toInt32)), (nar .byte (i9.toInt8.toInt32))]))]))
    by_cases hc315 : (F1_0 [(nar .byte (i4.toInt8.toInt32)), (nar .byte (i5.toInt8.toInt32)), (nar .byte (i6.toInt8.toInt32)), (nar .byte (i7.toInt8.toInt32)), (nar .byte (i8.toInt8.toInt32)), (nar .byte (i9.toInt8.toInt32))]) = (F2_0 (F3_0 (F3_0 (F3_0 (F3_0 (F3_0 (F3_0 (-3750763034362895579 : Int64) i4) i5) i6) i7) i8) i9))
    · rw [if_pos hc315] at hQ
      refine own_lcN P313 (pc' := 286) at_282 at_283 (not_not_intro hc315) rfl ?_
      refine own_iconst P313 at_286 rfl (v := (1 : Int32)) rfl ?_
      refine own_goto P313 (pc' := 291) at_287 (by decide) (by decide) ?_
      exact own_retZ P313 at_291 (z := (1 : Int32)) rfl (by decide) (by decide) (hQ _ _ N293)
    · rw [if_neg hc315] at hQ
      refine own_lcY P313 (pc' := 290) at_282 at_283 hc315 (by decide) (by decide) ?_
      refine own_iconst P313 at_290 rfl (v := (0 : Int32)) rfl ?_
      exact own_retZ P313 at_291 (z := (0 : Int32)) rfl (by decide) (by decide) (hQ _ _ N293)
  · rw [if_neg (by decide : ¬ ((7 : Int32) = (0 : Int32))), if_neg (by decide : ¬ ((7 : Int32) = (1 : Int32))), if_neg (by decide : ¬ ((7 : Int32) = (2 : Int32))), if_neg (by decide : ¬ ((7 : Int32) = (3 : Int32))), if_neg (by decide : ¬ ((7 : Int32) = (4 : Int32))), if_neg (by decide : ¬ ((7 : Int32) = (5 : Int32))), if_neg (by decide : ¬ ((7 : Int32) = (6 : Int32)))] at hQ
    refine own_iloadN P at_79 rfl rfl ?_
    refine own_arrNew P 7 (hw _ (List.mem_of_getElem? (i := 1) rfl)) rfl rfl at_80 rfl (by decide) (by decide) (by decide) (by decide) (by decide) (fun T321 h322 b316 ha317 E318 A319 P320 => ?_)
    have g323 : n0 ≤ b316 := by rw [ha317]; exact Z0
    have f324 : own_Ar Z h322 b316 .byte [(0 : Int32), (0 : Int32), (0 : Int32), (0 : Int32), (0 : Int32), (0 : Int32), (0 : Int32)] := A319
    refine own_astore P320 at_82 rfl rfl (Ls' := #[.val (.int i0), .val (.long j1), .second, .val (.int (7 : Int32)), .val (.int i4), .val (.int i5), .val (.int i6), .val (.int i7), .val (.int i8), .val (.int i9), .val (.int i10), .val (.ref b316), .unset, .unset]) rfl ?_
    refine own_iloadN P320 at_84 rfl rfl ?_
    refine own_if0N P320 (pc' := 88) at_85 (not_not_intro (by decide : (0 : Int32) < (7 : Int32))) rfl ?_
    refine own_aload P320 at_88 rfl rfl rfl ?_
    refine own_iconst P320 at_90 rfl (v := (0 : Int32)) rfl ?_
    refine own_iload P320 at_91 rfl rfl ?_
    refine own_i2b P320 at_93 rfl ?_
    refine own_bastore P320 f324 at_94 rfl (by decide) (Nat.le_of_ble_eq_true rfl) (z := (nar .byte (i4.toInt8.toInt32))) rfl (fun T326 h327 W328 A329 P325 => ?_)
    have N330 := Fr.snoc P325.st N g323
    have f331 : own_Ar Z h327 b316 .byte [(nar .byte (i4.toInt8.toInt32)), (0 : Int32), (0 : Int32), (0 : Int32), (0 : Int32), (0 : Int32), (0 : Int32)] := A329
    refine own_iloadN P325 at_95 rfl rfl ?_
    refine own_iconst P325 at_96 rfl (v := (1 : Int32)) rfl ?_
    refine own_icmpN P325 (pc' := 100) at_97 (not_not_intro (by decide : (1 : Int32) < (7 : Int32))) rfl ?_
    refine own_aload P325 at_100 rfl rfl rfl ?_
    refine own_iconst P325 at_102 rfl (v := (1 : Int32)) rfl ?_
    refine own_iload P325 at_103 rfl rfl ?_
    refine own_i2b P325 at_105 rfl ?_
    refine own_bastore P325 f331 at_106 rfl (by decide) (Nat.le_of_ble_eq_true rfl) (z := (nar .byte (i5.toInt8.toInt32))) rfl (fun T333 h334 W335 A336 P332 => ?_)
    have N337 := Fr.snoc P332.st N330 g323
    have f338 : own_Ar Z h334 b316 .byte [(nar .byte (i4.toInt8.toInt32)), (nar .byte (i5.toInt8.toInt32)), (0 : Int32), (0 : Int32), (0 : Int32), (0 : Int32), (0 : Int32)] := A336
    refine own_iloadN P332 at_107 rfl rfl ?_
    refine own_iconst P332 at_108 rfl (v := (2 : Int32)) rfl ?_
    refine own_icmpN P332 (pc' := 112) at_109 (not_not_intro (by decide : (2 : Int32) < (7 : Int32))) rfl ?_
    refine own_aload P332 at_112 rfl rfl rfl ?_
    refine own_iconst P332 at_114 rfl (v := (2 : Int32)) rfl ?_
    refine own_iload P332 at_115 rfl rfl ?_
    refine own_i2b P332 at_117 rfl ?_
    refine own_bastore P332 f338 at_118 rfl (by decide) (Nat.le_of_ble_eq_true rfl) (z := (nar .byte (i6.toInt8.toInt32))) rfl (fun T340 h341 W342 A343 P339 => ?_)
    have N344 := Fr.snoc P339.st N337 g323
    have f345 : own_Ar Z h341 b316 .byte [(nar .byte (i4.toInt8.toInt32)), (nar .byte (i5.toInt8.toInt32)), (nar .byte (i6.toInt8.toInt32)), (0 : Int32), (0 : Int32), (0 : Int32), (0 : Int32)] := A343
    refine own_iloadN P339 at_119 rfl rfl ?_
    refine own_iconst P339 at_120 rfl (v := (3 : Int32)) rfl ?_
    refine own_icmpN P339 (pc' := 124) at_121 (not_not_intro (by decide : (3 : Int32) < (7 : Int32))) rfl ?_
    refine own_aload P339 at_124 rfl rfl rfl ?_
    refine own_iconst P339 at_126 rfl (v := (3 : Int32)) rfl ?_
    refine own_iload P339 at_127 rfl rfl ?_
    refine own_i2b P339 at_129 rfl ?_
    refine own_bastore P339 f345 at_130 rfl (by decide) (Nat.le_of_ble_eq_true rfl) (z := (nar .byte (i7.toInt8.toInt32))) rfl (fun T347 h348 W349 A350 P346 => ?_)
    have N351 := Fr.snoc P346.st N344 g323
    have f352 : own_Ar Z h348 b316 .byte [(nar .byte (i4.toInt8.toInt32)), (nar .byte (i5.toInt8.toInt32)), (nar .byte (i6.toInt8.toInt32)), (nar .byte (i7.toInt8.toInt32)), (0 : Int32), (0 : Int32), (0 : Int32)] := A350
    refine own_iloadN P346 at_131 rfl rfl ?_
    refine own_iconst P346 at_132 rfl (v := (4 : Int32)) rfl ?_
    refine own_icmpN P346 (pc' := 136) at_133 (not_not_intro (by decide : (4 : Int32) < (7 : Int32))) rfl ?_
    refine own_aload P346 at_136 rfl rfl rfl ?_
    refine own_iconst P346 at_138 rfl (v := (4 : Int32)) rfl ?_
    refine own_iload P346 at_139 rfl rfl ?_
    refine own_i2b P346 at_141 rfl ?_
    refine own_bastore P346 f352 at_142 rfl (by decide) (Nat.le_of_ble_eq_true rfl) (z := (nar .byte (i8.toInt8.toInt32))) rfl (fun T354 h355 W356 A357 P353 => ?_)
    have N358 := Fr.snoc P353.st N351 g323
    have f359 : own_Ar Z h355 b316 .byte [(nar .byte (i4.toInt8.toInt32)), (nar .byte (i5.toInt8.toInt32)), (nar .byte (i6.toInt8.toInt32)), (nar .byte (i7.toInt8.toInt32)), (nar .byte (i8.toInt8.toInt32)), (0 : Int32), (0 : Int32)] := A357
    refine own_iloadN P353 at_143 rfl rfl ?_
    refine own_iconst P353 at_144 rfl (v := (5 : Int32)) rfl ?_
    refine own_icmpN P353 (pc' := 148) at_145 (not_not_intro (by decide : (5 : Int32) < (7 : Int32))) rfl ?_
    refine own_aload P353 at_148 rfl rfl rfl ?_
    refine own_iconst P353 at_150 rfl (v := (5 : Int32)) rfl ?_
    refine own_iload P353 at_151 rfl rfl ?_
    refine own_i2b P353 at_153 rfl ?_
    refine own_bastore P353 f359 at_154 rfl (by decide) (Nat.le_of_ble_eq_true rfl) (z := (nar .byte (i9.toInt8.toInt32))) rfl (fun T361 h362 W363 A364 P360 => ?_)
    have N365 := Fr.snoc P360.st N358 g323
    have f366 : own_Ar Z h362 b316 .byte [(nar .byte (i4.toInt8.toInt32)), (nar .byte (i5.toInt8.toInt32)), (nar .byte (i6.toInt8.toInt32)), (nar .byte (i7.toInt8.toInt32)), (nar .byte (i8.toInt8.toInt32)), (nar .byte (i9.toInt8.toInt32)), (0 : Int32)] := A364
    refine own_iloadN P360 at_155 rfl rfl ?_
    refine own_bipush P360 at_156 rfl (v := (6 : Int32)) rfl ?_
    refine own_icmpN P360 (pc' := 161) at_158 (not_not_intro (by decide : (6 : Int32) < (7 : Int32))) rfl ?_
    refine own_aload P360 at_161 rfl rfl rfl ?_
    refine own_bipush P360 at_163 rfl (v := (6 : Int32)) rfl ?_
    refine own_iload P360 at_165 rfl rfl ?_
    refine own_i2b P360 at_167 rfl ?_
    refine own_bastore P360 f366 at_168 rfl (by decide) (Nat.le_of_ble_eq_true rfl) (z := (nar .byte (i10.toInt8.toInt32))) rfl (fun T368 h369 W370 A371 P367 => ?_)
    have N372 := Fr.snoc P367.st N365 g323
    have f373 : own_Ar Z h369 b316 .byte [(nar .byte (i4.toInt8.toInt32)), (nar .byte (i5.toInt8.toInt32)), (nar .byte (i6.toInt8.toInt32)), (nar .byte (i7.toInt8.toInt32)), (nar .byte (i8.toInt8.toInt32)), (nar .byte (i9.toInt8.toInt32)), (nar .byte (i10.toInt8.toInt32))] := A371
    refine own_ldc2 P367 (v := (-3750763034362895579 : Int64)) (hw _ (List.mem_of_getElem? (i := 2) rfl)) at_169 rfl ?_
    refine own_lstore P367 at_172 rfl (Ls' := #[.val (.int i0), .val (.long j1), .second, .val (.int (7 : Int32)), .val (.int i4), .val (.int i5), .val (.int i6), .val (.int i7), .val (.int i8), .val (.int i9), .val (.int i10), .val (.ref b316), .val (.long (-3750763034362895579 : Int64)), .second]) rfl ?_
    refine own_iloadN P367 at_174 rfl rfl ?_
    refine own_if0N P367 (pc' := 178) at_175 (not_not_intro (by decide : (0 : Int32) < (7 : Int32))) rfl ?_
    refine own_lload P367 at_178 rfl rfl ?_
    refine own_iload P367 at_180 rfl rfl ?_
    refine own_callP P367 (hw _ (List.mem_of_getElem? (i := 16) rfl)) (hw _ (List.mem_of_getElem? (i := 17) rfl)) (hw _ (List.mem_of_getElem? (i := 12) rfl)) (hw _ (List.mem_of_getElem? (i := 18) rfl)) (by decide) (argsL := [(.long (-3750763034362895579 : Int64)), (.int i4)]) (rest := []) (rm3 l Z a0 hw (-3750763034362895579 : Int64) i4 h369) at_182 rfl own_pd2 rfl rfl rfl (by decide) 0 rfl (by decide) rfl rfl (by decide) (by decide) (fun T375 P374 => ?_)
    show own_Go p e below _ (T375.setTop (mkF m 185 #[.val (.int i0), .val (.long j1), .second, .val (.int (7 : Int32)), .val (.int i4), .val (.int i5), .val (.int i6), .val (.int i7), .val (.int i8), .val (.int i9), .val (.int i10), .val (.ref b316), .val (.long (-3750763034362895579 : Int64)), .second] [(.long (F3_0 (-3750763034362895579 : Int64) i4))]))
    refine own_lstore P374 at_185 rfl (Ls' := #[.val (.int i0), .val (.long j1), .second, .val (.int (7 : Int32)), .val (.int i4), .val (.int i5), .val (.int i6), .val (.int i7), .val (.int i8), .val (.int i9), .val (.int i10), .val (.ref b316), .val (.long (F3_0 (-3750763034362895579 : Int64) i4)), .second]) rfl ?_
    refine own_iloadN P374 at_187 rfl rfl ?_
    refine own_iconst P374 at_188 rfl (v := (1 : Int32)) rfl ?_
    refine own_icmpN P374 (pc' := 192) at_189 (not_not_intro (by decide : (1 : Int32) < (7 : Int32))) rfl ?_
    refine own_lload P374 at_192 rfl rfl ?_
    refine own_iload P374 at_194 rfl rfl ?_
    refine own_callP P374 (hw _ (List.mem_of_getElem? (i := 16) rfl)) (hw _ (List.mem_of_getElem? (i := 17) rfl)) (hw _ (List.mem_of_getElem? (i := 12) rfl)) (hw _ (List.mem_of_getElem? (i := 18) rfl)) (by decide) (argsL := [(.long (F3_0 (-3750763034362895579 : Int64) i4)), (.int i5)]) (rest := []) (rm3 l Z a0 hw (F3_0 (-3750763034362895579 : Int64) i4) i5 h369) at_196 rfl own_pd2 rfl rfl rfl (by decide) 0 rfl (by decide) rfl rfl (by decide) (by decide) (fun T377 P376 => ?_)
    show own_Go p e below _ (T377.setTop (mkF m 199 #[.val (.int i0), .val (.long j1), .second, .val (.int (7 : Int32)), .val (.int i4), .val (.int i5), .val (.int i6), .val (.int i7), .val (.int i8), .val (.int i9), .val (.int i10), .val (.ref b316), .val (.long (F3_0 (-3750763034362895579 : Int64) i4)), .second] [(.long (F3_0 (F3_0 (-3750763034362895579 : Int64) i4) i5))]))
    refine own_lstore P376 at_199 rfl (Ls' := #[.val (.int i0), .val (.long j1), .second, .val (.int (7 : Int32)), .val (.int i4), .val (.int i5), .val (.int i6), .val (.int i7), .val (.int i8), .val (.int i9), .val (.int i10), .val (.ref b316), .val (.long (F3_0 (F3_0 (-3750763034362895579 : Int64) i4) i5)), .second]) rfl ?_
    refine own_iloadN P376 at_201 rfl rfl ?_
    refine own_iconst P376 at_202 rfl (v := (2 : Int32)) rfl ?_
    refine own_icmpN P376 (pc' := 206) at_203 (not_not_intro (by decide : (2 : Int32) < (7 : Int32))) rfl ?_
    refine own_lload P376 at_206 rfl rfl ?_
    refine own_iload P376 at_208 rfl rfl ?_
    refine own_callP P376 (hw _ (List.mem_of_getElem? (i := 16) rfl)) (hw _ (List.mem_of_getElem? (i := 17) rfl)) (hw _ (List.mem_of_getElem? (i := 12) rfl)) (hw _ (List.mem_of_getElem? (i := 18) rfl)) (by decide) (argsL := [(.long (F3_0 (F3_0 (-3750763034362895579 : Int64) i4) i5)), (.int i6)]) (rest := []) (rm3 l Z a0 hw (F3_0 (F3_0 (-3750763034362895579 : Int64) i4) i5) i6 h369) at_210 rfl own_pd2 rfl rfl rfl (by decide) 0 rfl (by decide) rfl rfl (by decide) (by decide) (fun T379 P378 => ?_)
    show own_Go p e below _ (T379.setTop (mkF m 213 #[.val (.int i0), .val (.long j1), .second, .val (.int (7 : Int32)), .val (.int i4), .val (.int i5), .val (.int i6), .val (.int i7), .val (.int i8), .val (.int i9), .val (.int i10), .val (.ref b316), .val (.long (F3_0 (F3_0 (-3750763034362895579 : Int64) i4) i5)), .second] [(.long (F3_0 (F3_0 (F3_0 (-3750763034362895579 : Int64) i4) i5) i6))]))
    refine own_lstore P378 at_213 rfl (Ls' := #[.val (.int i0), .val (.long j1), .second, .val (.int (7 : Int32)), .val (.int i4), .val (.int i5), .val (.int i6), .val (.int i7), .val (.int i8), .val (.int i9), .val (.int i10), .val (.ref b316), .val (.long (F3_0 (F3_0 (F3_0 (-3750763034362895579 : Int64) i4) i5) i6)), .second]) rfl ?_
    refine own_iloadN P378 at_215 rfl rfl ?_
    refine own_iconst P378 at_216 rfl (v := (3 : Int32)) rfl ?_
    refine own_icmpN P378 (pc' := 220) at_217 (not_not_intro (by decide : (3 : Int32) < (7 : Int32))) rfl ?_
    refine own_lload P378 at_220 rfl rfl ?_
    refine own_iload P378 at_222 rfl rfl ?_
    refine own_callP P378 (hw _ (List.mem_of_getElem? (i := 16) rfl)) (hw _ (List.mem_of_getElem? (i := 17) rfl)) (hw _ (List.mem_of_getElem? (i := 12) rfl)) (hw _ (List.mem_of_getElem? (i := 18) rfl)) (by decide) (argsL := [(.long (F3_0 (F3_0 (F3_0 (-3750763034362895579 : Int64) i4) i5) i6)), (.int i7)]) (rest := []) (rm3 l Z a0 hw (F3_0 (F3_0 (F3_0 (-3750763034362895579 : Int64) i4) i5) i6) i7 h369) at_224 rfl own_pd2 rfl rfl rfl (by decide) 0 rfl (by decide) rfl rfl (by decide) (by decide) (fun T381 P380 => ?_)
    show own_Go p e below _ (T381.setTop (mkF m 227 #[.val (.int i0), .val (.long j1), .second, .val (.int (7 : Int32)), .val (.int i4), .val (.int i5), .val (.int i6), .val (.int i7), .val (.int i8), .val (.int i9), .val (.int i10), .val (.ref b316), .val (.long (F3_0 (F3_0 (F3_0 (-3750763034362895579 : Int64) i4) i5) i6)), .second] [(.long (F3_0 (F3_0 (F3_0 (F3_0 (-3750763034362895579 : Int64) i4) i5) i6) i7))]))
    refine own_lstore P380 at_227 rfl (Ls' := #[.val (.int i0), .val (.long j1), .second, .val (.int (7 : Int32)), .val (.int i4), .val (.int i5), .val (.int i6), .val (.int i7), .val (.int i8), .val (.int i9), .val (.int i10), .val (.ref b316), .val (.long (F3_0 (F3_0 (F3_0 (F3_0 (-3750763034362895579 : Int64) i4) i5) i6) i7)), .second]) rfl ?_
    refine own_iloadN P380 at_229 rfl rfl ?_
    refine own_iconst P380 at_230 rfl (v := (4 : Int32)) rfl ?_
    refine own_icmpN P380 (pc' := 234) at_231 (not_not_intro (by decide : (4 : Int32) < (7 : Int32))) rfl ?_
    refine own_lload P380 at_234 rfl rfl ?_
    refine own_iload P380 at_236 rfl rfl ?_
    refine own_callP P380 (hw _ (List.mem_of_getElem? (i := 16) rfl)) (hw _ (List.mem_of_getElem? (i := 17) rfl)) (hw _ (List.mem_of_getElem? (i := 12) rfl)) (hw _ (List.mem_of_getElem? (i := 18) rfl)) (by decide) (argsL := [(.long (F3_0 (F3_0 (F3_0 (F3_0 (-3750763034362895579 : Int64) i4) i5) i6) i7)), (.int i8)]) (rest := []) (rm3 l Z a0 hw (F3_0 (F3_0 (F3_0 (F3_0 (-3750763034362895579 : Int64) i4) i5) i6) i7) i8 h369) at_238 rfl own_pd2 rfl rfl rfl (by decide) 0 rfl (by decide) rfl rfl (by decide) (by decide) (fun T383 P382 => ?_)
    show own_Go p e below _ (T383.setTop (mkF m 241 #[.val (.int i0), .val (.long j1), .second, .val (.int (7 : Int32)), .val (.int i4), .val (.int i5), .val (.int i6), .val (.int i7), .val (.int i8), .val (.int i9), .val (.int i10), .val (.ref b316), .val (.long (F3_0 (F3_0 (F3_0 (F3_0 (-3750763034362895579 : Int64) i4) i5) i6) i7)), .second] [(.long (F3_0 (F3_0 (F3_0 (F3_0 (F3_0 (-3750763034362895579 : Int64) i4) i5) i6) i7) i8))]))
    refine own_lstore P382 at_241 rfl (Ls' := #[.val (.int i0), .val (.long j1), .second, .val (.int (7 : Int32)), .val (.int i4), .val (.int i5), .val (.int i6), .val (.int i7), .val (.int i8), .val (.int i9), .val (.int i10), .val (.ref b316), .val (.long (F3_0 (F3_0 (F3_0 (F3_0 (F3_0 (-3750763034362895579 : Int64) i4) i5) i6) i7) i8)), .second]) rfl ?_
    refine own_iloadN P382 at_243 rfl rfl ?_
    refine own_iconst P382 at_244 rfl (v := (5 : Int32)) rfl ?_
    refine own_icmpN P382 (pc' := 248) at_245 (not_not_intro (by decide : (5 : Int32) < (7 : Int32))) rfl ?_
    refine own_lload P382 at_248 rfl rfl ?_
    refine own_iload P382 at_250 rfl rfl ?_
    refine own_callP P382 (hw _ (List.mem_of_getElem? (i := 16) rfl)) (hw _ (List.mem_of_getElem? (i := 17) rfl)) (hw _ (List.mem_of_getElem? (i := 12) rfl)) (hw _ (List.mem_of_getElem? (i := 18) rfl)) (by decide) (argsL := [(.long (F3_0 (F3_0 (F3_0 (F3_0 (F3_0 (-3750763034362895579 : Int64) i4) i5) i6) i7) i8)), (.int i9)]) (rest := []) (rm3 l Z a0 hw (F3_0 (F3_0 (F3_0 (F3_0 (F3_0 (-3750763034362895579 : Int64) i4) i5) i6) i7) i8) i9 h369) at_252 rfl own_pd2 rfl rfl rfl (by decide) 0 rfl (by decide) rfl rfl (by decide) (by decide) (fun T385 P384 => ?_)
    show own_Go p e below _ (T385.setTop (mkF m 255 #[.val (.int i0), .val (.long j1), .second, .val (.int (7 : Int32)), .val (.int i4), .val (.int i5), .val (.int i6), .val (.int i7), .val (.int i8), .val (.int i9), .val (.int i10), .val (.ref b316), .val (.long (F3_0 (F3_0 (F3_0 (F3_0 (F3_0 (-3750763034362895579 : Int64) i4) i5) i6) i7) i8)), .second] [(.long (F3_0 (F3_0 (F3_0 (F3_0 (F3_0 (F3_0 (-3750763034362895579 : Int64) i4) i5) i6) i7) i8) i9))]))
    refine own_lstore P384 at_255 rfl (Ls' := #[.val (.int i0), .val (.long j1), .second, .val (.int (7 : Int32)), .val (.int i4), .val (.int i5), .val (.int i6), .val (.int i7), .val (.int i8), .val (.int i9), .val (.int i10), .val (.ref b316), .val (.long (F3_0 (F3_0 (F3_0 (F3_0 (F3_0 (F3_0 (-3750763034362895579 : Int64) i4) i5) i6) i7) i8) i9)), .second]) rfl ?_
    refine own_iloadN P384 at_257 rfl rfl ?_
    refine own_bipush P384 at_258 rfl (v := (6 : Int32)) rfl ?_
    refine own_icmpN P384 (pc' := 263) at_260 (not_not_intro (by decide : (6 : Int32) < (7 : Int32))) rfl ?_
    refine own_lload P384 at_263 rfl rfl ?_
    refine own_iload P384 at_265 rfl rfl ?_
    refine own_callP P384 (hw _ (List.mem_of_getElem? (i := 16) rfl)) (hw _ (List.mem_of_getElem? (i := 17) rfl)) (hw _ (List.mem_of_getElem? (i := 12) rfl)) (hw _ (List.mem_of_getElem? (i := 18) rfl)) (by decide) (argsL := [(.long (F3_0 (F3_0 (F3_0 (F3_0 (F3_0 (F3_0 (-3750763034362895579 : Int64) i4) i5) i6) i7) i8) i9)), (.int i10)]) (rest := []) (rm3 l Z a0 hw (F3_0 (F3_0 (F3_0 (F3_0 (F3_0 (F3_0 (-3750763034362895579 : Int64) i4) i5) i6) i7) i8) i9) i10 h369) at_267 rfl own_pd2 rfl rfl rfl (by decide) 0 rfl (by decide) rfl rfl (by decide) (by decide) (fun T387 P386 => ?_)
    show own_Go p e below _ (T387.setTop (mkF m 270 #[.val (.int i0), .val (.long j1), .second, .val (.int (7 : Int32)), .val (.int i4), .val (.int i5), .val (.int i6), .val (.int i7), .val (.int i8), .val (.int i9), .val (.int i10), .val (.ref b316), .val (.long (F3_0 (F3_0 (F3_0 (F3_0 (F3_0 (F3_0 (-3750763034362895579 : Int64) i4) i5) i6) i7) i8) i9)), .second] [(.long (F3_0 (F3_0 (F3_0 (F3_0 (F3_0 (F3_0 (F3_0 (-3750763034362895579 : Int64) i4) i5) i6) i7) i8) i9) i10))]))
    refine own_lstore P386 at_270 rfl (Ls' := #[.val (.int i0), .val (.long j1), .second, .val (.int (7 : Int32)), .val (.int i4), .val (.int i5), .val (.int i6), .val (.int i7), .val (.int i8), .val (.int i9), .val (.int i10), .val (.ref b316), .val (.long (F3_0 (F3_0 (F3_0 (F3_0 (F3_0 (F3_0 (F3_0 (-3750763034362895579 : Int64) i4) i5) i6) i7) i8) i9) i10)), .second]) rfl ?_
    refine own_aload P386 at_272 rfl rfl rfl ?_
    refine own_callP P386 (hw _ (List.mem_of_getElem? (i := 3) rfl)) (hw _ (List.mem_of_getElem? (i := 4) rfl)) (hw _ (List.mem_of_getElem? (i := 5) rfl)) (hw _ (List.mem_of_getElem? (i := 6) rfl)) (by decide) (argsL := [(.ref b316)]) (rest := []) (rm1 l Z a0 hw b316 [(nar .byte (i4.toInt8.toInt32)), (nar .byte (i5.toInt8.toInt32)), (nar .byte (i6.toInt8.toInt32)), (nar .byte (i7.toInt8.toInt32)), (nar .byte (i8.toInt8.toInt32)), (nar .byte (i9.toInt8.toInt32)), (nar .byte (i10.toInt8.toInt32))] h369 f373 (Nat.le_of_ble_eq_true rfl)) at_274 rfl own_pd0 rfl rfl rfl (by decide) 0 rfl (by decide) rfl rfl (by decide) (by decide) (fun T389 P388 => ?_)
    show own_Go p e below _ (T389.setTop (mkF m 277 #[.val (.int i0), .val (.long j1), .second, .val (.int (7 : Int32)), .val (.int i4), .val (.int i5), .val (.int i6), .val (.int i7), .val (.int i8), .val (.int i9), .val (.int i10), .val (.ref b316), .val (.long (F3_0 (F3_0 (F3_0 (F3_0 (F3_0 (F3_0 (F3_0 (-3750763034362895579 : Int64) i4) i5) i6) i7) i8) i9) i10)), .second] [(.long (F1_0 [(nar .byte (i4.toInt8.toInt32)), (nar .byte (i5.toInt8.toInt32)), (nar .byte (i6.toInt8.toInt32)), (nar .byte (i7.toInt8.toInt32)), (nar .byte (i8.toInt8.toInt32)), (nar .byte (i9.toInt8.toInt32)), (nar .byte (i10.toInt8.toInt32))]))]))
    refine own_lload P388 at_277 rfl rfl ?_
    refine own_callP P388 (hw _ (List.mem_of_getElem? (i := 10) rfl)) (hw _ (List.mem_of_getElem? (i := 11) rfl)) (hw _ (List.mem_of_getElem? (i := 12) rfl)) (hw _ (List.mem_of_getElem? (i := 13) rfl)) (by decide) (argsL := [(.long (F3_0 (F3_0 (F3_0 (F3_0 (F3_0 (F3_0 (F3_0 (-3750763034362895579 : Int64) i4) i5) i6) i7) i8) i9) i10))]) (rest := [(.long (F1_0 [(nar .byte (i4.toInt8.toInt32)), (nar .byte (i5.toInt8.toInt32)), (nar .byte (i6.toInt8.toInt32)), (nar .byte (i7.toInt8.toInt32)), (nar .byte (i8.toInt8.toInt32)), (nar .byte (i9.toInt8.toInt32)), (nar .byte (i10.toInt8.toInt32))]))]) (rm2 l Z a0 hw (F3_0 (F3_0 (F3_0 (F3_0 (F3_0 (F3_0 (F3_0 (-3750763034362895579 : Int64) i4) i5) i6) i7) i8) i9) i10) h369) at_279 rfl own_pd1 rfl rfl rfl (by decide) 2 rfl (by decide) rfl rfl (by decide) (by decide) (fun T395 P394 => ?_)
    show own_Go p e below _ (T395.setTop (mkF m 282 #[.val (.int i0), .val (.long j1), .second, .val (.int (7 : Int32)), .val (.int i4), .val (.int i5), .val (.int i6), .val (.int i7), .val (.int i8), .val (.int i9), .val (.int i10), .val (.ref b316), .val (.long (F3_0 (F3_0 (F3_0 (F3_0 (F3_0 (F3_0 (F3_0 (-3750763034362895579 : Int64) i4) i5) i6) i7) i8) i9) i10)), .second] [(.long (F2_0 (F3_0 (F3_0 (F3_0 (F3_0 (F3_0 (F3_0 (F3_0 (-3750763034362895579 : Int64) i4) i5) i6) i7) i8) i9) i10))), (.long (F1_0 [(nar .byte (i4.toInt8.toInt32)), (nar .byte (i5.toInt8.toInt32)), (nar .byte (i6.toInt8.toInt32)), (nar .byte (i7.toInt8.toInt32)), (nar .byte (i8.toInt8.toInt32)), (nar .byte (i9.toInt8.toInt32)), (nar .byte (i10.toInt8.toInt32))]))]))
    by_cases hc396 : (F1_0 [(nar .byte (i4.toInt8.toInt32)), (nar .byte (i5.toInt8.toInt32)), (nar .byte (i6.toInt8.toInt32)), (nar .byte (i7.toInt8.toInt32)), (nar .byte (i8.toInt8.toInt32)), (nar .byte (i9.toInt8.toInt32)), (nar .byte (i10.toInt8.toInt32))]) = (F2_0 (F3_0 (F3_0 (F3_0 (F3_0 (F3_0 (F3_0 (F3_0 (-3750763034362895579 : Int64) i4) i5) i6) i7) i8) i9) i10))
    · rw [if_pos hc396] at hQ
      refine own_lcN P394 (pc' := 286) at_282 at_283 (not_not_intro hc396) rfl ?_
      refine own_iconst P394 at_286 rfl (v := (1 : Int32)) rfl ?_
      refine own_goto P394 (pc' := 291) at_287 (by decide) (by decide) ?_
      exact own_retZ P394 at_291 (z := (1 : Int32)) rfl (by decide) (by decide) (hQ _ _ N372)
    · rw [if_neg hc396] at hQ
      refine own_lcY P394 (pc' := 290) at_282 at_283 hc396 (by decide) (by decide) ?_
      refine own_iconst P394 at_290 rfl (v := (0 : Int32)) rfl ?_
      exact own_retZ P394 at_291 (z := (0 : Int32)) rfl (by decide) (by decide) (hQ _ _ N372)
def F0_0 (i0 : Int32) (j1 : Int64) : Int32 := (F0_79 (i0 &&& (7 : Int32)) ((j1 &&& (255 : Int64)).toInt32) ((((j1.toUInt64 >>> ((8 : Int32) &&& 0x3f).toInt64.toUInt64).toInt64) &&& (255 : Int64)).toInt32) ((((j1.toUInt64 >>> ((16 : Int32) &&& 0x3f).toInt64.toUInt64).toInt64) &&& (255 : Int64)).toInt32) ((((j1.toUInt64 >>> ((24 : Int32) &&& 0x3f).toInt64.toUInt64).toInt64) &&& (255 : Int64)).toInt32) ((((j1.toUInt64 >>> ((32 : Int32) &&& 0x3f).toInt64.toUInt64).toInt64) &&& (255 : Int64)).toInt32) ((((j1.toUInt64 >>> ((40 : Int32) &&& 0x3f).toInt64.toUInt64).toInt64) &&& (255 : Int64)).toInt32) ((((j1.toUInt64 >>> ((48 : Int32) &&& 0x3f).toInt64.toUInt64).toInt64) &&& (255 : Int64)).toInt32))
set_option maxRecDepth 65536 in
set_option maxHeartbeats 40000000 in
theorem b0_0 {p : Program} {l : Launch} {e : Env} {s : State} {m : MethodId} {args : Array Value} {below : List Frame} {meth : Method} {c : Code} {T : State} {h : Heap} {locs : List Loc} {Z : State} {a0 : Array Value} {Q : Option Value → Heap → List Loc → Prop} (hw : ∀ d ∈ tables_1, d.before a0 Z = true) (i0 : Int32) (j1 : Int64)  (n0 : Nat) (N : Fr n0 locs) (Z0 : n0 ≤ h.size) (P : own_S Z "com/example/fair_shard/fairshard/capacity/PlacementHashPinLaw" "law" code 14 (some .boolean) p l e room_1 s m args below meth c T h locs 0 0) (hQ : ∀ h' L', Fr n0 L' → Q (some (.int (F0_0 i0 j1))) h' L') :
    own_Go p e below (own_K s Q room_1.cells room_1.slots) (T.setTop (mkF m 0 #[.val (.int i0), .val (.long j1), .second, .unset, .unset, .unset, .unset, .unset, .unset, .unset, .unset, .unset, .unset, .unset] [])) := by
  unfold F0_0 at hQ
  refine own_iloadN P at_0 rfl rfl ?_
  refine own_bipush P at_1 rfl (v := (7 : Int32)) rfl ?_
  refine own_iand P at_3 rfl ?_
  refine own_istoreN P at_4 rfl (Ls' := #[.val (.int i0), .val (.long j1), .second, .val (.int (i0 &&& (7 : Int32))), .unset, .unset, .unset, .unset, .unset, .unset, .unset, .unset, .unset, .unset]) rfl ?_
  refine own_lloadN P at_5 rfl rfl ?_
  refine own_ldc2 P (v := (255 : Int64)) (hw _ (List.mem_of_getElem? (i := 0) rfl)) at_6 rfl ?_
  refine own_land P at_9 rfl ?_
  refine own_l2i P at_10 rfl ?_
  refine own_istore P at_11 rfl (Ls' := #[.val (.int i0), .val (.long j1), .second, .val (.int (i0 &&& (7 : Int32))), .val (.int ((j1 &&& (255 : Int64)).toInt32)), .unset, .unset, .unset, .unset, .unset, .unset, .unset, .unset, .unset]) rfl ?_
  refine own_lloadN P at_13 rfl rfl ?_
  refine own_bipush P at_14 rfl (v := (8 : Int32)) rfl ?_
  refine own_lushr P at_16 rfl ?_
  refine own_ldc2 P (v := (255 : Int64)) (hw _ (List.mem_of_getElem? (i := 0) rfl)) at_17 rfl ?_
  refine own_land P at_20 rfl ?_
  refine own_l2i P at_21 rfl ?_
  refine own_istore P at_22 rfl (Ls' := #[.val (.int i0), .val (.long j1), .second, .val (.int (i0 &&& (7 : Int32))), .val (.int ((j1 &&& (255 : Int64)).toInt32)), .val (.int ((((j1.toUInt64 >>> ((8 : Int32) &&& 0x3f).toInt64.toUInt64).toInt64) &&& (255 : Int64)).toInt32)), .unset, .unset, .unset, .unset, .unset, .unset, .unset, .unset]) rfl ?_
  refine own_lloadN P at_24 rfl rfl ?_
  refine own_bipush P at_25 rfl (v := (16 : Int32)) rfl ?_
  refine own_lushr P at_27 rfl ?_
  refine own_ldc2 P (v := (255 : Int64)) (hw _ (List.mem_of_getElem? (i := 0) rfl)) at_28 rfl ?_
  refine own_land P at_31 rfl ?_
  refine own_l2i P at_32 rfl ?_
  refine own_istore P at_33 rfl (Ls' := #[.val (.int i0), .val (.long j1), .second, .val (.int (i0 &&& (7 : Int32))), .val (.int ((j1 &&& (255 : Int64)).toInt32)), .val (.int ((((j1.toUInt64 >>> ((8 : Int32) &&& 0x3f).toInt64.toUInt64).toInt64) &&& (255 : Int64)).toInt32)), .val (.int ((((j1.toUInt64 >>> ((16 : Int32) &&& 0x3f).toInt64.toUInt64).toInt64) &&& (255 : Int64)).toInt32)), .unset, .unset, .unset, .unset, .unset, .unset, .unset]) rfl ?_
  refine own_lloadN P at_35 rfl rfl ?_
  refine own_bipush P at_36 rfl (v := (24 : Int32)) rfl ?_
  refine own_lushr P at_38 rfl ?_
  refine own_ldc2 P (v := (255 : Int64)) (hw _ (List.mem_of_getElem? (i := 0) rfl)) at_39 rfl ?_
  refine own_land P at_42 rfl ?_
  refine own_l2i P at_43 rfl ?_
  refine own_istore P at_44 rfl (Ls' := #[.val (.int i0), .val (.long j1), .second, .val (.int (i0 &&& (7 : Int32))), .val (.int ((j1 &&& (255 : Int64)).toInt32)), .val (.int ((((j1.toUInt64 >>> ((8 : Int32) &&& 0x3f).toInt64.toUInt64).toInt64) &&& (255 : Int64)).toInt32)), .val (.int ((((j1.toUInt64 >>> ((16 : Int32) &&& 0x3f).toInt64.toUInt64).toInt64) &&& (255 : Int64)).toInt32)), .val (.int ((((j1.toUInt64 >>> ((24 : Int32) &&& 0x3f).toInt64.toUInt64).toInt64) &&& (255 : Int64)).toInt32)), .unset, .unset, .unset, .unset, .unset, .unset]) rfl ?_
  refine own_lloadN P at_46 rfl rfl ?_
  refine own_bipush P at_47 rfl (v := (32 : Int32)) rfl ?_
  refine own_lushr P at_49 rfl ?_
  refine own_ldc2 P (v := (255 : Int64)) (hw _ (List.mem_of_getElem? (i := 0) rfl)) at_50 rfl ?_
  refine own_land P at_53 rfl ?_
  refine own_l2i P at_54 rfl ?_
  refine own_istore P at_55 rfl (Ls' := #[.val (.int i0), .val (.long j1), .second, .val (.int (i0 &&& (7 : Int32))), .val (.int ((j1 &&& (255 : Int64)).toInt32)), .val (.int ((((j1.toUInt64 >>> ((8 : Int32) &&& 0x3f).toInt64.toUInt64).toInt64) &&& (255 : Int64)).toInt32)), .val (.int ((((j1.toUInt64 >>> ((16 : Int32) &&& 0x3f).toInt64.toUInt64).toInt64) &&& (255 : Int64)).toInt32)), .val (.int ((((j1.toUInt64 >>> ((24 : Int32) &&& 0x3f).toInt64.toUInt64).toInt64) &&& (255 : Int64)).toInt32)), .val (.int ((((j1.toUInt64 >>> ((32 : Int32) &&& 0x3f).toInt64.toUInt64).toInt64) &&& (255 : Int64)).toInt32)), .unset, .unset, .unset, .unset, .unset]) rfl ?_
  refine own_lloadN P at_57 rfl rfl ?_
  refine own_bipush P at_58 rfl (v := (40 : Int32)) rfl ?_
  refine own_lushr P at_60 rfl ?_
  refine own_ldc2 P (v := (255 : Int64)) (hw _ (List.mem_of_getElem? (i := 0) rfl)) at_61 rfl ?_
  refine own_land P at_64 rfl ?_
  refine own_l2i P at_65 rfl ?_
  refine own_istore P at_66 rfl (Ls' := #[.val (.int i0), .val (.long j1), .second, .val (.int (i0 &&& (7 : Int32))), .val (.int ((j1 &&& (255 : Int64)).toInt32)), .val (.int ((((j1.toUInt64 >>> ((8 : Int32) &&& 0x3f).toInt64.toUInt64).toInt64) &&& (255 : Int64)).toInt32)), .val (.int ((((j1.toUInt64 >>> ((16 : Int32) &&& 0x3f).toInt64.toUInt64).toInt64) &&& (255 : Int64)).toInt32)), .val (.int ((((j1.toUInt64 >>> ((24 : Int32) &&& 0x3f).toInt64.toUInt64).toInt64) &&& (255 : Int64)).toInt32)), .val (.int ((((j1.toUInt64 >>> ((32 : Int32) &&& 0x3f).toInt64.toUInt64).toInt64) &&& (255 : Int64)).toInt32)), .val (.int ((((j1.toUInt64 >>> ((40 : Int32) &&& 0x3f).toInt64.toUInt64).toInt64) &&& (255 : Int64)).toInt32)), .unset, .unset, .unset, .unset]) rfl ?_
  refine own_lloadN P at_68 rfl rfl ?_
  refine own_bipush P at_69 rfl (v := (48 : Int32)) rfl ?_
  refine own_lushr P at_71 rfl ?_
  refine own_ldc2 P (v := (255 : Int64)) (hw _ (List.mem_of_getElem? (i := 0) rfl)) at_72 rfl ?_
  refine own_land P at_75 rfl ?_
  refine own_l2i P at_76 rfl ?_
  refine own_istore P at_77 rfl (Ls' := #[.val (.int i0), .val (.long j1), .second, .val (.int (i0 &&& (7 : Int32))), .val (.int ((j1 &&& (255 : Int64)).toInt32)), .val (.int ((((j1.toUInt64 >>> ((8 : Int32) &&& 0x3f).toInt64.toUInt64).toInt64) &&& (255 : Int64)).toInt32)), .val (.int ((((j1.toUInt64 >>> ((16 : Int32) &&& 0x3f).toInt64.toUInt64).toInt64) &&& (255 : Int64)).toInt32)), .val (.int ((((j1.toUInt64 >>> ((24 : Int32) &&& 0x3f).toInt64.toUInt64).toInt64) &&& (255 : Int64)).toInt32)), .val (.int ((((j1.toUInt64 >>> ((32 : Int32) &&& 0x3f).toInt64.toUInt64).toInt64) &&& (255 : Int64)).toInt32)), .val (.int ((((j1.toUInt64 >>> ((40 : Int32) &&& 0x3f).toInt64.toUInt64).toInt64) &&& (255 : Int64)).toInt32)), .val (.int ((((j1.toUInt64 >>> ((48 : Int32) &&& 0x3f).toInt64.toUInt64).toInt64) &&& (255 : Int64)).toInt32)), .unset, .unset, .unset]) rfl ?_
  exact b0_79 hw i0 j1 (i0 &&& (7 : Int32)) ((j1 &&& (255 : Int64)).toInt32) ((((j1.toUInt64 >>> ((8 : Int32) &&& 0x3f).toInt64.toUInt64).toInt64) &&& (255 : Int64)).toInt32) ((((j1.toUInt64 >>> ((16 : Int32) &&& 0x3f).toInt64.toUInt64).toInt64) &&& (255 : Int64)).toInt32) ((((j1.toUInt64 >>> ((24 : Int32) &&& 0x3f).toInt64.toUInt64).toInt64) &&& (255 : Int64)).toInt32) ((((j1.toUInt64 >>> ((32 : Int32) &&& 0x3f).toInt64.toUInt64).toInt64) &&& (255 : Int64)).toInt32) ((((j1.toUInt64 >>> ((40 : Int32) &&& 0x3f).toInt64.toUInt64).toInt64) &&& (255 : Int64)).toInt32) ((((j1.toUInt64 >>> ((48 : Int32) &&& 0x3f).toInt64.toUInt64).toInt64) &&& (255 : Int64)).toInt32)  n0 N Z0    (own_and7 _) P hQ
theorem rm0 (l : Launch) (Z : State) (a0 : Array Value) (hw : ∀ d ∈ tables_1, d.before a0 Z = true) (i0 : Int32) (j1 : Int64) (ws : List Jvm.Cond) (h : Heap) :
    own_Con l Z x code maxLocals ret ws room_1 #[(.int i0), (.long j1)] h (fun v _ L => v = some (.int (F0_0 i0 j1)) ∧ Fr h.size L) :=
  own_enter (plainFor_of_name own_pn1) #[.val (.int i0), .val (.long j1), .second, .unset, .unset, .unset, .unset, .unset, .unset, .unset, .unset, .unset, .unset, .unset] (fun m => by first | (simp [entryFrame, mkF, argsToLocals, Value.category, maxLocals]; done) | rfl) (fun p e s m below meth c T P => b0_0 hw i0 j1 h.size (Fr.nil _) (Nat.le_refl _) P (fun _ _ q => ⟨rfl, q⟩))
theorem own_byte (x : Int32) (h : 0 ≤ x.toInt ∧ x.toInt < 256) : (nar .byte (x.toInt8.toInt32)) &&& (255 : Int32) = x := by
  apply Int32.toInt_inj.mp
  rw [Jvm.Kit.i32_mask _ _ (k := 8) (by decide) (by decide)]
  show (x.toInt8.toInt32.toInt8.toInt32).toInt % 2 ^ 8 = _
  rw [Int8.toInt_toInt32, Int32.toInt_toInt8, Int8.toInt_toInt32, Int32.toInt_toInt8]
  have e1 := Int.bmod_emod (x := x.toInt) (m := 2 ^ 8)
  have e2 := Int.bmod_emod (x := x.toInt.bmod (2 ^ 8)) (m := 2 ^ 8)
  omega
theorem own_u (y : Int64) : 0 ≤ ((y &&& (255 : Int64)).toInt32).toInt ∧ ((y &&& (255 : Int64)).toInt32).toInt < 256 := by
  have m : (y &&& (255 : Int64)).toInt = y.toInt % 2 ^ 8 := Jvm.Kit.i64_mask y _ (k := 8) (by decide) (by decide)
  rw [Jvm.Kit.i32_of_i64 (by omega) (by omega), m]
  omega
theorem own_fF (x : Int64) : F1_48 x = F2_0 x := by
  unfold F1_48 F2_0
  exact rfl
theorem own_s3 (j : Int64) (x : Int32) : own_stp j x = F3_0 j (x &&& (255 : Int32)) := by
  unfold own_stp F3_0
  exact rfl
theorem own_k (vs : List Int32) (n : Nat) (y : Int64) (hn : vs.length = n) (h : own_fnv vs n 0 (-3750763034362895579 : Int64) = y) : F1_0 vs = F2_0 y := by
  unfold F1_0
  rw [hn, h, own_fF]
theorem own_79 (i3 i4 i5 i6 i7 i8 i9 i10 : Int32) (h4 : 0 ≤ i4.toInt ∧ i4.toInt < 256) (h5 : 0 ≤ i5.toInt ∧ i5.toInt < 256) (h6 : 0 ≤ i6.toInt ∧ i6.toInt < 256) (h7 : 0 ≤ i7.toInt ∧ i7.toInt < 256) (h8 : 0 ≤ i8.toInt ∧ i8.toInt < 256) (h9 : 0 ≤ i9.toInt ∧ i9.toInt < 256) (h10 : 0 ≤ i10.toInt ∧ i10.toInt < 256) : F0_79 i3 i4 i5 i6 i7 i8 i9 i10 = 1 := by
  have e4 := own_byte i4 h4
  have e5 := own_byte i5 h5
  have e6 := own_byte i6 h6
  have e7 := own_byte i7 h7
  have e8 := own_byte i8 h8
  have e9 := own_byte i9 h9
  have e10 := own_byte i10 h10
  have k0 : F1_0 [] = F2_0 (-3750763034362895579 : Int64) := by
    refine own_k _ 0 _ rfl ?_
    rw [own_fz]
  have k1 : F1_0 [(nar .byte (i4.toInt8.toInt32))] = F2_0 (F3_0 (-3750763034362895579 : Int64) i4) := by
    refine own_k _ 1 _ rfl ?_
    rw [own_fs, own_fz]
    simp only [own_s3, Nat.zero_add, Nat.reduceAdd, List.getD_cons_zero, List.getD_cons_succ, e4]
  have k2 : F1_0 [(nar .byte (i4.toInt8.toInt32)), (nar .byte (i5.toInt8.toInt32))] = F2_0 (F3_0 (F3_0 (-3750763034362895579 : Int64) i4) i5) := by
    refine own_k _ 2 _ rfl ?_
    rw [own_fs, own_fs, own_fz]
    simp only [own_s3, Nat.zero_add, Nat.reduceAdd, List.getD_cons_zero, List.getD_cons_succ, e4, e5]
  have k3 : F1_0 [(nar .byte (i4.toInt8.toInt32)), (nar .byte (i5.toInt8.toInt32)), (nar .byte (i6.toInt8.toInt32))] = F2_0 (F3_0 (F3_0 (F3_0 (-3750763034362895579 : Int64) i4) i5) i6) := by
    refine own_k _ 3 _ rfl ?_
    rw [own_fs, own_fs, own_fs, own_fz]
    simp only [own_s3, Nat.zero_add, Nat.reduceAdd, List.getD_cons_zero, List.getD_cons_succ, e4, e5, e6]
  have k4 : F1_0 [(nar .byte (i4.toInt8.toInt32)), (nar .byte (i5.toInt8.toInt32)), (nar .byte (i6.toInt8.toInt32)), (nar .byte (i7.toInt8.toInt32))] = F2_0 (F3_0 (F3_0 (F3_0 (F3_0 (-3750763034362895579 : Int64) i4) i5) i6) i7) := by
    refine own_k _ 4 _ rfl ?_
    rw [own_fs, own_fs, own_fs, own_fs, own_fz]
    simp only [own_s3, Nat.zero_add, Nat.reduceAdd, List.getD_cons_zero, List.getD_cons_succ, e4, e5, e6, e7]
  have k5 : F1_0 [(nar .byte (i4.toInt8.toInt32)), (nar .byte (i5.toInt8.toInt32)), (nar .byte (i6.toInt8.toInt32)), (nar .byte (i7.toInt8.toInt32)), (nar .byte (i8.toInt8.toInt32))] = F2_0 (F3_0 (F3_0 (F3_0 (F3_0 (F3_0 (-3750763034362895579 : Int64) i4) i5) i6) i7) i8) := by
    refine own_k _ 5 _ rfl ?_
    rw [own_fs, own_fs, own_fs, own_fs, own_fs, own_fz]
    simp only [own_s3, Nat.zero_add, Nat.reduceAdd, List.getD_cons_zero, List.getD_cons_succ, e4, e5, e6, e7, e8]
  have k6 : F1_0 [(nar .byte (i4.toInt8.toInt32)), (nar .byte (i5.toInt8.toInt32)), (nar .byte (i6.toInt8.toInt32)), (nar .byte (i7.toInt8.toInt32)), (nar .byte (i8.toInt8.toInt32)), (nar .byte (i9.toInt8.toInt32))] = F2_0 (F3_0 (F3_0 (F3_0 (F3_0 (F3_0 (F3_0 (-3750763034362895579 : Int64) i4) i5) i6) i7) i8) i9) := by
    refine own_k _ 6 _ rfl ?_
    rw [own_fs, own_fs, own_fs, own_fs, own_fs, own_fs, own_fz]
    simp only [own_s3, Nat.zero_add, Nat.reduceAdd, List.getD_cons_zero, List.getD_cons_succ, e4, e5, e6, e7, e8, e9]
  have k7 : F1_0 [(nar .byte (i4.toInt8.toInt32)), (nar .byte (i5.toInt8.toInt32)), (nar .byte (i6.toInt8.toInt32)), (nar .byte (i7.toInt8.toInt32)), (nar .byte (i8.toInt8.toInt32)), (nar .byte (i9.toInt8.toInt32)), (nar .byte (i10.toInt8.toInt32))] = F2_0 (F3_0 (F3_0 (F3_0 (F3_0 (F3_0 (F3_0 (F3_0 (-3750763034362895579 : Int64) i4) i5) i6) i7) i8) i9) i10) := by
    refine own_k _ 7 _ rfl ?_
    rw [own_fs, own_fs, own_fs, own_fs, own_fs, own_fs, own_fs, own_fz]
    simp only [own_s3, Nat.zero_add, Nat.reduceAdd, List.getD_cons_zero, List.getD_cons_succ, e4, e5, e6, e7, e8, e9, e10]
  unfold F0_79
  rw [if_pos k0, if_pos k1, if_pos k2, if_pos k3, if_pos k4, if_pos k5, if_pos k6, if_pos k7]
  simp only [ite_self]
theorem own_law (i0 : Int32) (j1 : Int64) : F0_0 i0 j1 = 1 := by
  unfold F0_0
  exact own_79 _ _ _ _ _ _ _ _ (own_u _) (own_u _) (own_u _) (own_u _) (own_u _) (own_u _) (own_u _)

theorem own_rm0 (l : Launch) (Z : State) (a0 : Array Value) (hw : ∀ d ∈ tables_1, d.before a0 Z = true) (i0 : Int32) (j1 : Int64) (ws : List Jvm.Cond) (h : Heap) :
    own_Con l Z x code maxLocals ret ws room_1 #[(.int i0), (.long j1)] h (fun v _ L => v = some (.int 1) ∧ Fr h.size L) := by
  have q := rm0 l Z a0 hw i0 j1 ws h
  rw [own_law i0 j1] at q
  exact q
set_option maxRecDepth 65536 in
set_option maxHeartbeats 40000000 in
theorem comes_1 {Post : Tables → Env → Array Value → State → Outcome → State → Prop} (hpost : ∀ tb e args s v u, (limb_1_1.after args s (.returned v) u = true ∧ limb_1_2.after args s (.returned v) u = true ∧ True) → FrameEnd s (.returned v) u (Jvm.fieldLocs frame_1_writes args s ++ Jvm.arrayLocs frame_1_arrays args s ++ Jvm.staticLocs frame_1_statics s) 16 128 → Post tb e args s (.returned v) u) :
    ArmFor flags0 classFile x code maxLocals ret World_1 tables_1 room_1 Calls_1 rest_1 Pre_1 Post := by
  intro l hfl _ _ p e ha hc hk s m args below hf hA hF happ hP
  obtain ⟨hcalls, hrest, hpre⟩ := hP
  obtain ⟨-, -, -, hnamed, -, -, -, hat⟩ := (Spec.applies_iff hf).mp happ
  obtain ⟨hg, hn⟩ := and_e (Cond.before_iff.mp (show (Jvm.Cond.and given_1 narrow_1).before args s = true from hpre))
  obtain ⟨g0, hg1⟩ := and_e hg
  obtain ⟨k0, hg2⟩ := and_e hg1
  obtain ⟨w0, w1, rfl⟩ : ∃ w0 w1 : Value, args = #[w0, w1] := by
    have hs : args.size = 2 := by simpa [Cond.value, given_1] using g0
    obtain ⟨L⟩ := args
    match L, hs with
    | [w0, w1], _ => exact ⟨w0, w1, rfl⟩
  have hw := fun d (hd : d ∈ tables_1) => atoms_spec (ws := Jvm.Cond.code x code maxLocals ret :: tables_1) hat d (List.mem_cons_of_mem _ hd)
  obtain ⟨i0, ei0⟩ := is_v k0
  obtain rfl : w0 = (.int i0) := Option.some.inj ei0
  obtain ⟨i1, ei1⟩ := isL_v hg2
  obtain rfl : w1 = (.long i1) := Option.some.inj ei1
  obtain ⟨n, o, h1, h2, h3, _, L, rfl, ⟨rfl, N⟩, hq⟩ := own_rm0 l s _ hw i0 i1 tables_1 s.heap p e ha hc hk s m _ below hf ((Spec.applies_iff_loose hf).mp happ).1 ⟨rfl, State.Warmed39.refl s, rfl⟩ trivial
  refine ⟨n, _, h1, h2, h3, hpost _ _ _ _ _ _ ⟨Cond.after_iff.mpr rfl, Cond.after_iff.mpr (eq_i res_at (Term.int_eval (1)) rfl), trivial⟩ ⟨hq.1, hq.2.1, (hq.2.2.sift fun y hy => Or.inr (N y hy)).mono (by decide) (by decide)⟩⟩
theorem main_1_1 : Claimed_1_1 := comes_1 fun _ _ _ _ _ _ h hF => ⟨h.1, hF⟩
theorem main_1_2 : Claimed_1_2 := comes_1 fun _ _ _ _ _ _ h hF => ⟨h.2.1, hF⟩
end Jvm.Pilot.@@N@@
namespace Jvm.Pilot.@@N@@
open Jvm Jvm.ClassFile Sem Op Lib Jvm.Free Jvm.Stand Jvm.Pilot.@@N@@.Jvm.D
/-! MADE BY PROGRAM (witnessworld.py) out of the Statement's table words and the real class files: 9 classes; the members and pool entries that the words name. The judged class is class 1, her method 3. -/
namespace start1
open Jvm.ClassFile
def u (s : String) : CpInfo := .utf8 (stringToUtf16 s)
/-- a pool by its gaps: so many unusable entries, then the entry; so many at the end -/
def gap : Nat → List CpInfo → List CpInfo
  | 0, r => r
  | n + 1, r => .unusable :: gap n r
def poolList (es : List (Nat × CpInfo)) (last : Nat) : List CpInfo := es.foldr (fun e r => gap e.1 (e.2 :: r)) (gap last [])
def pool (es : List (Nat × CpInfo)) (last : Nat) : Array CpInfo := ⟨poolList es last⟩
def fileOf (pool : Array CpInfo) (this : Nat) (attrs : Array Attribute := #[]) (ms : Array MethodInfo := #[]) (fl : Nat := 33) (sup : Nat := 0) (ifs : Array Nat := #[]) (fds : Array FieldInfo := #[]) : ClassFile where
  minorVersion := 0
  majorVersion := 65
  constantPool := pool
  accessFlags := fl
  thisClass := this
  superClass := sup
  interfaces := ifs
  fields := fds
  methods := ms
  attributes := attrs
def plain (name : String) (sup : Option ClassId) : Class where
  name := name
  kind := .ordinary
  loader := none
  accessFlags := 33
  super := sup
  interfaces := #[]
  cf := none
  fields := #[]
  methods := #[]
  instanceTypes := #[]
  staticTypes := #[]
  resolved := #[]
  callSites := []
  init := .initialized
  statics := none
  mirror := none

def pool0 : Array CpInfo := pool [(5, u "<init>"), (0, u "()V"), (1, .class_ 10), (1, u "java/lang/Object")] 113

def k0m0 : Method := { name := "<init>", desc := "()V", sig := { parameters := [], returnType := none }, accessFlags := 1, code := none }
/-- java/lang/Object -/
def k0 : Class := { plain "java/lang/Object" none with
  accessFlags := 33
  interfaces := #[]
  cf := some (fileOf pool0 8 #[] #[{ accessFlags := 1, nameIndex := 5, descriptorIndex := 6, attributes := #[] }] 33 0 #[] #[])
  fields := #[]
  methods := #[k0m0]
  instanceTypes := #[]
  staticTypes := #[]
  resolved := Array.replicate 124 none
  statics := none }

def pool1 : Array CpInfo := pool [(2, .class_ 4), (1, u "java/lang/Object"), (0, u "<init>"), (0, u "()V"), (0, .long 1099511628211), (1, .long 13787848793156543929), (1, .long 10723151780598845931), (1, .long 255), (1, .long 14695981039346656037), (1, .methodref 18 19), (0, .class_ 20), (0, .nameAndType 21 22), (0, u "com/example/fair_shard/fairshard/capacity/PlacementHashPinLaw"), (0, u "fnv1aStep"), (0, u "(JI)J"), (0, .methodref 24 25), (0, .class_ 26), (0, .nameAndType 27 28), (0, u "com/example/fair_shard/fairshard/capacity/Placement"), (0, u "hash"), (0, u "([B)J"), (0, .methodref 18 30), (0, .nameAndType 31 32), (0, u "splitMix64Finalizer"), (0, u "(J)J"), (2, u "law"), (0, u "(IJ)Z")] 5

def k1m0 : Method := { name := "<init>", desc := "()V", sig := { parameters := [], returnType := none }, accessFlags := 2, code := none }
def k1c1 : Code := { maxStack := 4, maxLocals := 3, code := method_2_code, exceptionTable := #[], attributes := #[] }
def k1m1 : Method := { name := "fnv1aStep", desc := "(JI)J", sig := { parameters := [.long, .int], returnType := some .long }, accessFlags := 10, code := some k1c1 }
def k1c2 : Code := { maxStack := 5, maxLocals := 6, code := method_3_code, exceptionTable := #[], attributes := #[] }
def k1m2 : Method := { name := "splitMix64Finalizer", desc := "(J)J", sig := { parameters := [.long], returnType := some .long }, accessFlags := 10, code := some k1c2 }
def k1c3 : Code := { maxStack := 4, maxLocals := 14, code := code, exceptionTable := #[], attributes := #[] }
def k1m3 : Method := { name := "law", desc := "(IJ)Z", sig := { parameters := [.int, .long], returnType := some .boolean }, accessFlags := 9, code := some k1c3 }
/-- com/example/fair_shard/fairshard/capacity/PlacementHashPinLaw -/
def k1 : Class := { plain "com/example/fair_shard/fairshard/capacity/PlacementHashPinLaw" (some 0) with
  accessFlags := 49
  interfaces := #[]
  cf := some (fileOf pool1 18 #[] #[{ accessFlags := 2, nameIndex := 5, descriptorIndex := 6, attributes := #[] }, { accessFlags := 10, nameIndex := 21, descriptorIndex := 22, attributes := #[] }, { accessFlags := 10, nameIndex := 31, descriptorIndex := 32, attributes := #[] }, { accessFlags := 9, nameIndex := 35, descriptorIndex := 36, attributes := #[] }] 49 2 #[] #[])
  fields := #[]
  methods := #[k1m0, k1m1, k1m2, k1m3]
  instanceTypes := #[]
  staticTypes := #[]
  resolved := Array.replicate 42 none
  statics := none }

def pool2 : Array CpInfo := pool [(2, .class_ 4), (1, u "java/lang/Object"), (0, u "<init>"), (0, u "()V"), (1, .class_ 10), (1, u "com/example/fair_shard/fairshard/capacity/Placement"), (0, u "hash"), (0, u "([B)J"), (18, .long 14695981039346656037), (1, .long 1099511628211), (1, .long 13787848793156543929), (1, .long 10723151780598845931), (1, u "FNV_OFFSET_BASIS"), (0, u "J"), (1, u "FNV_PRIME")] 23

def k2m0 : Method := { name := "<init>", desc := "()V", sig := { parameters := [], returnType := none }, accessFlags := 2, code := none }
def k2c1 : Code := { maxStack := 5, maxLocals := 7, code := prog_8_method_4_code, exceptionTable := #[], attributes := #[] }
def k2m1 : Method := { name := "hash", desc := "([B)J", sig := { parameters := [(.array .byte)], returnType := some .long }, accessFlags := 8, code := some k2c1 }
/-- com/example/fair_shard/fairshard/capacity/Placement -/
def k2 : Class := { plain "com/example/fair_shard/fairshard/capacity/Placement" (some 0) with
  accessFlags := 49
  interfaces := #[]
  cf := some (fileOf pool2 8 #[] #[{ accessFlags := 2, nameIndex := 5, descriptorIndex := 6, attributes := #[] }, { accessFlags := 8, nameIndex := 11, descriptorIndex := 12, attributes := #[] }] 49 2 #[] #[{ accessFlags := 26, nameIndex := 39, descriptorIndex := 40, attributes := #[] }, { accessFlags := 26, nameIndex := 42, descriptorIndex := 40, attributes := #[] }])
  fields := #[{ name := "FNV_OFFSET_BASIS", type := .long, accessFlags := 26, slot := 0, constantValue := 0 }, { name := "FNV_PRIME", type := .long, accessFlags := 26, slot := 1, constantValue := 0 }]
  methods := #[k2m0, k2m1]
  instanceTypes := #[]
  staticTypes := #[.long, .long]
  resolved := Array.replicate 66 none
  statics := none }

def pool3 : Array CpInfo := pool [(1, u "java/lang/Cloneable"), (0, .class_ 1), (0, u "java/lang/Object"), (0, .class_ 3)] 3

/-- java/lang/Cloneable -/
def k3 : Class := { plain "java/lang/Cloneable" (some 0) with
  accessFlags := 1537
  interfaces := #[]
  cf := some (fileOf pool3 2 #[] #[] 1537 4 #[] #[])
  fields := #[]
  methods := #[]
  instanceTypes := #[]
  staticTypes := #[]
  resolved := Array.replicate 8 none
  statics := none }

def pool4 : Array CpInfo := pool [(1, u "java/io/Serializable"), (0, .class_ 1), (0, u "java/lang/Object"), (0, .class_ 3)] 3

/-- java/io/Serializable -/
def k4 : Class := { plain "java/io/Serializable" (some 0) with
  accessFlags := 1537
  interfaces := #[]
  cf := some (fileOf pool4 2 #[] #[] 1537 4 #[] #[])
  fields := #[]
  methods := #[]
  instanceTypes := #[]
  staticTypes := #[]
  resolved := Array.replicate 8 none
  statics := none }

/-- the primitive byte -/
def k5 : Class := { plain "byte" none with kind := .primitive 'B', accessFlags := 0x411 }
/-- [B -/
def k6 : Class := { plain "[B" (some 0) with kind := .array 5 .byte, interfaces := #[3, 4], accessFlags := 1041 }

/-- the primitive int -/
def k7 : Class := { plain "int" none with kind := .primitive 'I', accessFlags := 0x411 }
/-- [I -/
def k8 : Class := { plain "[I" (some 0) with kind := .array 7 .int, interfaces := #[3, 4], accessFlags := 1041 }

def heap : Heap := #[]
def classes : Array Class := #[k0, k1, k2, k3, k4, k5, k6, k7, k8]
def interned : List (Array UInt16 × Addr) := []
def slotsUsed : Nat := 0
def theMethod : MethodId := ⟨1, 3⟩
def args0 : Array Value := #[.int 3, .long 7345345345345]
def aboutOver (below : List Frame) : State where
  vm := { classes := classes, interned := interned.toArray }
  heap := heap
  slotsUsed := slotsUsed
  threads := #[{ frames := .invoking theMethod args0 :: below }]
def below0 : List Frame := [.native { method := ⟨0, 0⟩, args := #[] }]
def about1 : State := aboutOver below0
def p0 : Program := .bare "" "" ""
def e0 : Env := launch0.env 0 0 0
theorem w_frames : about1.frames = Frame.invoking theMethod args0 :: below0 := rfl
set_option maxRecDepth 65536 in
theorem w_args : argsFit about1.vm theMethod args0 = true := by decide +kernel
set_option maxRecDepth 65536 in
theorem w_heap : heapFits about1 = true := by decide +kernel
set_option maxRecDepth 65536 in
theorem w_runnable : about1.curStatus? = some .runnable := by decide +kernel
set_option maxRecDepth 65536 in
theorem w_alone : about1.alone = true := by decide +kernel
set_option maxRecDepth 65536 in
theorem w_named : about1.methodNamed? x = some theMethod := by decide +kernel
set_option maxRecDepth 65536 in
theorem w_hears : about1.hears theMethod below0 = true := by decide +kernel
set_option maxRecDepth 65536 in
theorem w_ripe : about1.ripe theMethod args0 below0 = true := by decide +kernel
theorem w_running : about1.status = .running := rfl
set_option maxRecDepth 65536 in
theorem w_room : about1.hasRoom e0.platform room_1 = true :=
  launch0.hasRoom_least _ room_1 (by decide +kernel) (by decide +kernel) (by decide +kernel) (by decide +kernel) (by decide +kernel) (by decide +kernel)
theorem allAtoms_all (ts : List Jvm.Cond) (a : Array Jvm.Value) (st : Jvm.State) : (allAtoms ts).before a st = ts.all (fun c => c.before a st) := by
  induction ts with
  | nil => rfl
  | cons c t ih =>
    show (Jvm.Cond.and c (allAtoms t)).before a st = _
    rw [Jvm.Cond.before_and, ih, List.all_cons]
def words1 : List Jvm.Cond := Jvm.Cond.code x code maxLocals ret :: tables_1
/-- a 'code' word, met by the world's own term for the bytes: nothing is compared byte by byte -/
theorem code_word {y : MethodName} {bytes : ByteArray} {mx : Nat} {rt : Option FieldType} {a : Array Value} {s : State} {m : MethodId} {meth : Method} {c : Code} (h1 : s.methodNamed? y = some m) (h2 : s.vm.method? m = some meth) (h3 : meth.code = some c) (h4 : c.code = bytes)
    (h5 : (c.maxLocals == mx && c.exceptionTable.isEmpty && decide (c.maxStack ≤ mostOperands) && decide (meth.sig.returnType = rt) && !meth.locks && decide (parseMethodDescriptor y.desc = some meth.sig)) = true) : (Jvm.Cond.code y bytes mx rt).before a s = true := by
  simp only [Bool.and_eq_true, beq_iff_eq, Bool.not_eq_true', decide_eq_true_eq] at h5
  obtain ⟨⟨⟨⟨⟨g1, g2⟩, g3⟩, g4⟩, g5⟩, g6⟩ := h5
  simp [Cond.before, Cond.holds, Cond.value, h1, h2, h3, h4, g1, g2, g3, g4, g5, g6]
def isCode : Jvm.Cond → Bool
  | .code _ _ _ _ => true
  | _ => false
theorem all_split {L : List Jvm.Cond} {P : Jvm.Cond → Bool} (h1 : L.all (fun c => isCode c || P c) = true) (h2 : ∀ c ∈ L.filter isCode, P c = true) : L.all P = true := by
  refine List.all_eq_true.mpr fun c hc => ?_
  have h := List.all_eq_true.mp h1 c hc
  rcases Bool.eq_false_or_eq_true (isCode c) with hi | hi
  · exact h2 c (List.mem_filter.mpr ⟨hc, hi⟩)
  · simpa [hi] using h
set_option maxRecDepth 65536 in
theorem w_c0 : (Jvm.Cond.code x code maxLocals ret).before args0 about1 = true := code_word (m := ⟨1, 3⟩) (meth := k1m3) (c := k1c3) (by decide +kernel) rfl rfl rfl (by decide +kernel)
set_option maxRecDepth 65536 in
theorem w_c1 : (Jvm.Cond.code ({ cls := "com/example/fair_shard/fairshard/capacity/Placement", name := "hash", desc := "([B)J" } : Jvm.MethodName) prog_8_method_4_code (7 : Nat) (Option.some Jvm.ClassFile.FieldType.long)).before args0 about1 = true := code_word (m := ⟨2, 1⟩) (meth := k2m1) (c := k2c1) (by decide +kernel) rfl rfl rfl (by decide +kernel)
set_option maxRecDepth 65536 in
theorem w_c2 : (Jvm.Cond.code ({ cls := "com/example/fair_shard/fairshard/capacity/PlacementHashPinLaw", name := "splitMix64Finalizer", desc := "(J)J" } : Jvm.MethodName) method_3_code (6 : Nat) (Option.some Jvm.ClassFile.FieldType.long)).before args0 about1 = true := code_word (m := ⟨1, 2⟩) (meth := k1m2) (c := k1c2) (by decide +kernel) rfl rfl rfl (by decide +kernel)
set_option maxRecDepth 65536 in
theorem w_c3 : (Jvm.Cond.code ({ cls := "com/example/fair_shard/fairshard/capacity/PlacementHashPinLaw", name := "fnv1aStep", desc := "(JI)J" } : Jvm.MethodName) method_2_code (3 : Nat) (Option.some Jvm.ClassFile.FieldType.long)).before args0 about1 = true := code_word (m := ⟨1, 1⟩) (meth := k1m1) (c := k1c1) (by decide +kernel) rfl rfl rfl (by decide +kernel)
def codes1 : List Jvm.Cond := [Jvm.Cond.code x code maxLocals ret, Jvm.Cond.code ({ cls := "com/example/fair_shard/fairshard/capacity/Placement", name := "hash", desc := "([B)J" } : Jvm.MethodName) prog_8_method_4_code (7 : Nat) (Option.some Jvm.ClassFile.FieldType.long), Jvm.Cond.code ({ cls := "com/example/fair_shard/fairshard/capacity/PlacementHashPinLaw", name := "splitMix64Finalizer", desc := "(J)J" } : Jvm.MethodName) method_3_code (6 : Nat) (Option.some Jvm.ClassFile.FieldType.long), Jvm.Cond.code ({ cls := "com/example/fair_shard/fairshard/capacity/PlacementHashPinLaw", name := "fnv1aStep", desc := "(JI)J" } : Jvm.MethodName) method_2_code (3 : Nat) (Option.some Jvm.ClassFile.FieldType.long)]
set_option maxRecDepth 65536 in
theorem codes_eq : words1.filter isCode = codes1 := rfl
theorem w_codes : ∀ c ∈ words1.filter isCode, c.before args0 about1 = true := by
  rw [codes_eq]
  intro c hc
  simp only [codes1, List.mem_cons, List.not_mem_nil, or_false] at hc
  rcases hc with rfl | rfl | rfl | rfl
  · exact w_c0
  · exact w_c1
  · exact w_c2
  · exact w_c3
set_option maxRecDepth 65536 in
theorem w_t1 : words1.all (fun c => isCode c || c.before args0 about1) = true := by decide +kernel
theorem w_tables : (allAtoms (Jvm.Cond.code x code maxLocals ret :: tables_1)).before args0 about1 = true := by
  rw [allAtoms_all]
  show words1.all (fun c => c.before args0 about1) = true
  refine all_split ?_ w_codes
  rw [w_t1]
set_option maxRecDepth 65536 in
theorem w_case : (Jvm.Cond.and given_1 narrow_1).before args0 about1 = true := by decide +kernel
theorem w_applies : (headSpec (Jvm.Cond.code x code maxLocals ret :: tables_1) room_1).applies x e0.platform about1 = true :=
  (Spec.applies_iff w_frames).mpr ⟨w_running, w_runnable, w_alone, w_named, w_hears, w_ripe, w_room, w_tables⟩
theorem atStart : AtStart classFile x code maxLocals ret World_1 tables_1 room_1 Calls_1 rest_1 Pre_1 launch0 p0 e0 about1 theMethod args0 below0 :=
  ⟨lists_1, trivial, launch0.admits_env _ _ _, launch0.least_env, fairChoices_fair.cas, fairChoices_fair.clock, w_frames, w_args, w_heap, w_applies, trivial, trivial, w_case⟩
end start1
theorem witness_1 : WitnessClaimed_1 := ⟨start1.p0, start1.e0, start1.about1, start1.theMethod, start1.args0, start1.below0, start1.atStart⟩
end Jvm.Pilot.@@N@@
