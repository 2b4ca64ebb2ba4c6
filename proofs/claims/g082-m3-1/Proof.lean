import JvmDerived
import JvmDerived.Pilot.@@N@@Statement
import JvmDerived.Pilot.@@N@@Code
set_option linter.unusedVariables false
set_option linter.unusedSimpArgs false
@@BLOCK:NumsL.lean.txt@@
namespace Jvm.RoadKit
open Sem ClassFile Op Lib Jvm.Stand Jvm.Free Jvm.LawKit
section New
variable {p : Program} {l : Launch} {e : Env} {R : Room} {s : State} {m : MethodId} {args : Array Value} {below : List Frame} {meth : Method} {c : Code} {T : State} {locs : List Loc} {cells slots : Nat}
theorem retI (X : Stand p l e R s m args below meth c T locs cells slots) (hx : p.tables.exec = Jvm.exec) {pc : Nat} {Ls : Array Slot} {z : Int32} {rest : List Value} (hret : meth.sig.returnType = some .int) (hd : decode c.code pc = .ok (.ireturn, 1)) {fs : List Frame}
    (hl : ∀ (f : JFrame) (acts : List Action), f.method = m → f.locked = none → f.entered = [] → (doReturn e (T.setTop f) acts (some (.int z))).1 = T.setFrames fs) : Steps p.tables e below (T.setTop (mkF m pc Ls (.int z :: rest))) (T.setFrames fs) := by
  have hm' : T.vm.method? m = some meth := X.method'
  have hn : narrow .int (.int z) = .int z := rfl
  show Steps p.tables e below (T.setTop { method := m, pc := pc, locals := Ls, stack := _ :: rest, locked := none }) _
  jvm_step X.here [X.here.top, hx, hd, hm', hret, hn]
  first | (intro acts; rw [hl _ acts rfl rfl rfl]) | rw [hl _ _ rfl rfl rfl]
  exact Steps.refl _
end New
end Jvm.RoadKit
namespace Jvm.Pilot.@@N@@
open Jvm Jvm.ClassFile Sem Op Lib Jvm.Free Jvm.Stand Jvm.LawKit Jvm.RoadKit Bundle Jvm.Pilot.@@N@@.Jvm.D
section OwnBase
variable {p : Program} {l : Launch} {e : Env} {R : Room} {s : State} {m : MethodId} {args : Array Value} {below : List Frame} {meth : Method} {c : Code} {T : State} {h : Heap} {locs : List Loc} {cells slots : Nat} {Z : State} {a0 : Array Value} {own nm : String} {bytes : ByteArray} {mx : Nat} {rt : Option FieldType} {K : State → Outcome → Prop} {pc pc' : Nat} {Ls : Array Slot} {rest : List Value}
/-- the run from S comes to an end that is as K says -/
def own_Go (p : Program) (e : Env) (below : List Frame) (K : State → Outcome → Prop) (S : State) : Prop :=
  ∃ t o, Steps p.tables e below S t ∧ t.status = .running ∧ Ended t below o ∧ K t o
def own_K (s : State) (Q : Option Value → Heap → List Loc → Prop) (kc ks : Nat) (t : State) (o : Outcome) : Prop :=
  ∃ v L, o = .returned v ∧ Q v t.heap L ∧ FrameEnd s o t L kc ks
/-- the walk stands: all that a step asks, in one word -/
def own_S (Z : State) (own nm : String) (bytes : ByteArray) (mx : Nat) (rt : Option FieldType) (p : Program) (l : Launch) (e : Env) (R : Room) (s : State) (m : MethodId) (args : Array Value) (below : List Frame) (meth : Method) (c : Code) (T : State) (h : Heap) (locs : List Loc) (cells slots : Nat) : Prop :=
  Stand p l e R s m args below meth c T locs cells slots ∧ p.tables.exec = Jvm.exec ∧ c.code = bytes ∧ c.maxLocals = mx ∧ s.vm.findClass own = some m.cls ∧ Z.Warmed39 s.vm ∧ meth.sig.returnType = rt ∧ meth.locks = false ∧ T.heap = h ∧ meth.name = nm
theorem own_S.st (P : own_S Z own nm bytes mx rt p l e R s m args below meth c T h locs cells slots) : Stand p l e R s m args below meth c T locs cells slots := P.1
theorem own_S.ex (P : own_S Z own nm bytes mx rt p l e R s m args below meth c T h locs cells slots) : p.tables.exec = Jvm.exec := P.2.1
theorem own_S.cd (P : own_S Z own nm bytes mx rt p l e R s m args below meth c T h locs cells slots) {pc : Nat} {r : Except ClassFile.DecodeError (ClassFile.Instr × Nat)} (hd : decode bytes pc = r) : decode c.code pc = r := hb P.2.2.1 hd
theorem own_S.ml (P : own_S Z own nm bytes mx rt p l e R s m args below meth c T h locs cells slots) : c.maxLocals = mx := P.2.2.2.1
theorem own_S.ow (P : own_S Z own nm bytes mx rt p l e R s m args below meth c T h locs cells slots) : s.vm.findClass own = some m.cls := P.2.2.2.2.1
theorem own_S.wz (P : own_S Z own nm bytes mx rt p l e R s m args below meth c T h locs cells slots) : Z.Warmed39 s.vm := P.2.2.2.2.2.1
theorem own_S.rty (P : own_S Z own nm bytes mx rt p l e R s m args below meth c T h locs cells slots) : meth.sig.returnType = rt := P.2.2.2.2.2.2.1
theorem own_S.lk (P : own_S Z own nm bytes mx rt p l e R s m args below meth c T h locs cells slots) : meth.locks = false := P.2.2.2.2.2.2.2.1
theorem own_S.hp (P : own_S Z own nm bytes mx rt p l e R s m args below meth c T h locs cells slots) : T.heap = h := P.2.2.2.2.2.2.2.2.1
theorem own_S.nmm (P : own_S Z own nm bytes mx rt p l e R s m args below meth c T h locs cells slots) : meth.name = nm := P.2.2.2.2.2.2.2.2.2
theorem own_S.move (P : own_S Z own nm bytes mx rt p l e R s m args below meth c T h locs cells slots) {T' : State} {h' : Heap} {locs' : List Loc} {cells' slots' : Nat} (X : Stand p l e R s m args below meth c T' locs' cells' slots') (eh : T'.heap = h') : own_S Z own nm bytes mx rt p l e R s m args below meth c T' h' locs' cells' slots' :=
  ⟨X, P.2.1, P.2.2.1, P.2.2.2.1, P.2.2.2.2.1, P.2.2.2.2.2.1, P.2.2.2.2.2.2.1, P.2.2.2.2.2.2.2.1, eh, P.2.2.2.2.2.2.2.2.2⟩
theorem own_st {S S' : State} (h : ∀ t, Steps p.tables e below S' t → Steps p.tables e below S t) (k : own_Go p e below K S') : own_Go p e below K S := by
  obtain ⟨t, o, h1, h2⟩ := k
  exact ⟨t, o, h t h1, h2⟩

theorem own_iadd (P : own_S Z own nm bytes mx rt p l e R s m args below meth c T h locs cells slots) {x y : Int32} (hd : decode bytes pc = .ok (.iadd, 1)) (hp : pc + 1 = pc')
    (k : own_Go p e below K (T.setTop (mkF m pc' Ls (.int (x + y) :: rest)))) : own_Go p e below K (T.setTop (mkF m pc Ls (.int y :: .int x :: rest))) := by
  subst hp
  exact own_st (fun t k => XS.iadd P.st.here P.ex rfl (P.cd hd) rfl k) k
theorem own_isub (P : own_S Z own nm bytes mx rt p l e R s m args below meth c T h locs cells slots) {x y : Int32} (hd : decode bytes pc = .ok (.isub, 1)) (hp : pc + 1 = pc')
    (k : own_Go p e below K (T.setTop (mkF m pc' Ls (.int (x - y) :: rest)))) : own_Go p e below K (T.setTop (mkF m pc Ls (.int y :: .int x :: rest))) := by
  subst hp
  exact own_st (fun t k => XS.isub P.st.here P.ex rfl (P.cd hd) rfl k) k
theorem own_imul (P : own_S Z own nm bytes mx rt p l e R s m args below meth c T h locs cells slots) {x y : Int32} (hd : decode bytes pc = .ok (.imul, 1)) (hp : pc + 1 = pc')
    (k : own_Go p e below K (T.setTop (mkF m pc' Ls (.int (x * y) :: rest)))) : own_Go p e below K (T.setTop (mkF m pc Ls (.int y :: .int x :: rest))) := by
  subst hp
  exact own_st (fun t k => XS.imul P.st.here P.ex rfl (P.cd hd) rfl k) k
theorem own_iand (P : own_S Z own nm bytes mx rt p l e R s m args below meth c T h locs cells slots) {x y : Int32} (hd : decode bytes pc = .ok (.iand, 1)) (hp : pc + 1 = pc')
    (k : own_Go p e below K (T.setTop (mkF m pc' Ls (.int (x &&& y) :: rest)))) : own_Go p e below K (T.setTop (mkF m pc Ls (.int y :: .int x :: rest))) := by
  subst hp
  exact own_st (fun t k => XS.iand P.st.here P.ex rfl (P.cd hd) rfl k) k
theorem own_ior (P : own_S Z own nm bytes mx rt p l e R s m args below meth c T h locs cells slots) {x y : Int32} (hd : decode bytes pc = .ok (.ior, 1)) (hp : pc + 1 = pc')
    (k : own_Go p e below K (T.setTop (mkF m pc' Ls (.int (x ||| y) :: rest)))) : own_Go p e below K (T.setTop (mkF m pc Ls (.int y :: .int x :: rest))) := by
  subst hp
  exact own_st (fun t k => XS.ior P.st.here P.ex rfl (P.cd hd) rfl k) k
theorem own_ixor (P : own_S Z own nm bytes mx rt p l e R s m args below meth c T h locs cells slots) {x y : Int32} (hd : decode bytes pc = .ok (.ixor, 1)) (hp : pc + 1 = pc')
    (k : own_Go p e below K (T.setTop (mkF m pc' Ls (.int (x ^^^ y) :: rest)))) : own_Go p e below K (T.setTop (mkF m pc Ls (.int y :: .int x :: rest))) := by
  subst hp
  exact own_st (fun t k => XS.ixor P.st.here P.ex rfl (P.cd hd) rfl k) k
theorem own_idiv (P : own_S Z own nm bytes mx rt p l e R s m args below meth c T h locs cells slots) {x y : Int32} (hd : decode bytes pc = .ok (.idiv, 1)) (hp : pc + 1 = pc') (hy : y ≠ 0)
    (k : own_Go p e below K (T.setTop (mkF m pc' Ls (.int (x / y) :: rest)))) : own_Go p e below K (T.setTop (mkF m pc Ls (.int y :: .int x :: rest))) := by
  subst hp
  exact own_st (fun t k => XS.idiv P.st.here P.ex rfl (P.cd hd) rfl hy k) k
theorem own_irem (P : own_S Z own nm bytes mx rt p l e R s m args below meth c T h locs cells slots) {x y : Int32} (hd : decode bytes pc = .ok (.irem, 1)) (hp : pc + 1 = pc') (hy : y ≠ 0)
    (k : own_Go p e below K (T.setTop (mkF m pc' Ls (.int (x - (x / y) * y) :: rest)))) : own_Go p e below K (T.setTop (mkF m pc Ls (.int y :: .int x :: rest))) := by
  subst hp
  exact own_st (fun t k => XS.irem P.st.here P.ex rfl (P.cd hd) rfl hy k) k
theorem own_ladd (P : own_S Z own nm bytes mx rt p l e R s m args below meth c T h locs cells slots) {x y : Int64} (hd : decode bytes pc = .ok (.ladd, 1)) (hp : pc + 1 = pc')
    (k : own_Go p e below K (T.setTop (mkF m pc' Ls (.long (x + y) :: rest)))) : own_Go p e below K (T.setTop (mkF m pc Ls (.long y :: .long x :: rest))) := by
  subst hp
  exact own_st (fun t k => XS.ladd P.st.here P.ex rfl (P.cd hd) rfl k) k
theorem own_lsub (P : own_S Z own nm bytes mx rt p l e R s m args below meth c T h locs cells slots) {x y : Int64} (hd : decode bytes pc = .ok (.lsub, 1)) (hp : pc + 1 = pc')
    (k : own_Go p e below K (T.setTop (mkF m pc' Ls (.long (x - y) :: rest)))) : own_Go p e below K (T.setTop (mkF m pc Ls (.long y :: .long x :: rest))) := by
  subst hp
  exact own_st (fun t k => XS.lsub P.st.here P.ex rfl (P.cd hd) rfl k) k
theorem own_lmul (P : own_S Z own nm bytes mx rt p l e R s m args below meth c T h locs cells slots) {x y : Int64} (hd : decode bytes pc = .ok (.lmul, 1)) (hp : pc + 1 = pc')
    (k : own_Go p e below K (T.setTop (mkF m pc' Ls (.long (x * y) :: rest)))) : own_Go p e below K (T.setTop (mkF m pc Ls (.long y :: .long x :: rest))) := by
  subst hp
  exact own_st (fun t k => XS.lmul P.st.here P.ex rfl (P.cd hd) rfl k) k
theorem own_land (P : own_S Z own nm bytes mx rt p l e R s m args below meth c T h locs cells slots) {x y : Int64} (hd : decode bytes pc = .ok (.land, 1)) (hp : pc + 1 = pc')
    (k : own_Go p e below K (T.setTop (mkF m pc' Ls (.long (x &&& y) :: rest)))) : own_Go p e below K (T.setTop (mkF m pc Ls (.long y :: .long x :: rest))) := by
  subst hp
  exact own_st (fun t k => XS.land P.st.here P.ex rfl (P.cd hd) rfl k) k
theorem own_lor (P : own_S Z own nm bytes mx rt p l e R s m args below meth c T h locs cells slots) {x y : Int64} (hd : decode bytes pc = .ok (.lor, 1)) (hp : pc + 1 = pc')
    (k : own_Go p e below K (T.setTop (mkF m pc' Ls (.long (x ||| y) :: rest)))) : own_Go p e below K (T.setTop (mkF m pc Ls (.long y :: .long x :: rest))) := by
  subst hp
  exact own_st (fun t k => XS.lor P.st.here P.ex rfl (P.cd hd) rfl k) k
theorem own_lxor (P : own_S Z own nm bytes mx rt p l e R s m args below meth c T h locs cells slots) {x y : Int64} (hd : decode bytes pc = .ok (.lxor, 1)) (hp : pc + 1 = pc')
    (k : own_Go p e below K (T.setTop (mkF m pc' Ls (.long (x ^^^ y) :: rest)))) : own_Go p e below K (T.setTop (mkF m pc Ls (.long y :: .long x :: rest))) := by
  subst hp
  exact own_st (fun t k => XS.lxor P.st.here P.ex rfl (P.cd hd) rfl k) k
theorem own_ldiv (P : own_S Z own nm bytes mx rt p l e R s m args below meth c T h locs cells slots) {x y : Int64} (hd : decode bytes pc = .ok (.ldiv, 1)) (hp : pc + 1 = pc') (hy : y ≠ 0)
    (k : own_Go p e below K (T.setTop (mkF m pc' Ls (.long (x / y) :: rest)))) : own_Go p e below K (T.setTop (mkF m pc Ls (.long y :: .long x :: rest))) := by
  subst hp
  exact own_st (fun t k => XS.ldiv P.st.here P.ex rfl (P.cd hd) rfl hy k) k
theorem own_lrem (P : own_S Z own nm bytes mx rt p l e R s m args below meth c T h locs cells slots) {x y : Int64} (hd : decode bytes pc = .ok (.lrem, 1)) (hp : pc + 1 = pc') (hy : y ≠ 0)
    (k : own_Go p e below K (T.setTop (mkF m pc' Ls (.long (x - (x / y) * y) :: rest)))) : own_Go p e below K (T.setTop (mkF m pc Ls (.long y :: .long x :: rest))) := by
  subst hp
  exact own_st (fun t k => XS.lrem P.st.here P.ex rfl (P.cd hd) rfl hy k) k
theorem own_ishl (P : own_S Z own nm bytes mx rt p l e R s m args below meth c T h locs cells slots) {x y : Int32} (hd : decode bytes pc = .ok (.ishl, 1)) (hp : pc + 1 = pc')
    (k : own_Go p e below K (T.setTop (mkF m pc' Ls (.int (x <<< (y &&& 31)) :: rest)))) : own_Go p e below K (T.setTop (mkF m pc Ls (.int y :: .int x :: rest))) := by
  subst hp
  exact own_st (fun t k => XS.ishl P.st.here P.ex rfl (P.cd hd) rfl k) k
theorem own_ishr (P : own_S Z own nm bytes mx rt p l e R s m args below meth c T h locs cells slots) {x y : Int32} (hd : decode bytes pc = .ok (.ishr, 1)) (hp : pc + 1 = pc')
    (k : own_Go p e below K (T.setTop (mkF m pc' Ls (.int (x >>> (y &&& 31)) :: rest)))) : own_Go p e below K (T.setTop (mkF m pc Ls (.int y :: .int x :: rest))) := by
  subst hp
  exact own_st (fun t k => XS.ishr P.st.here P.ex rfl (P.cd hd) rfl k) k
theorem own_iushr (P : own_S Z own nm bytes mx rt p l e R s m args below meth c T h locs cells slots) {x y : Int32} (hd : decode bytes pc = .ok (.iushr, 1)) (hp : pc + 1 = pc')
    (k : own_Go p e below K (T.setTop (mkF m pc' Ls (.int ((x.toUInt32 >>> (y &&& 31).toUInt32).toInt32) :: rest)))) : own_Go p e below K (T.setTop (mkF m pc Ls (.int y :: .int x :: rest))) := by
  subst hp
  exact own_st (fun t k => XS.iushr P.st.here P.ex rfl (P.cd hd) rfl k) k
theorem own_lshl (P : own_S Z own nm bytes mx rt p l e R s m args below meth c T h locs cells slots) {x : Int64} {y : Int32} (hd : decode bytes pc = .ok (.lshl, 1)) (hp : pc + 1 = pc')
    (k : own_Go p e below K (T.setTop (mkF m pc' Ls (.long (x <<< (y &&& 0x3f).toInt64) :: rest)))) : own_Go p e below K (T.setTop (mkF m pc Ls (.int y :: .long x :: rest))) := by
  subst hp
  exact own_st (fun t k => XS.lshl P.st.here P.ex rfl (P.cd hd) rfl k) k
theorem own_lshr (P : own_S Z own nm bytes mx rt p l e R s m args below meth c T h locs cells slots) {x : Int64} {y : Int32} (hd : decode bytes pc = .ok (.lshr, 1)) (hp : pc + 1 = pc')
    (k : own_Go p e below K (T.setTop (mkF m pc' Ls (.long (x >>> (y &&& 0x3f).toInt64) :: rest)))) : own_Go p e below K (T.setTop (mkF m pc Ls (.int y :: .long x :: rest))) := by
  subst hp
  exact own_st (fun t k => XS.lshr P.st.here P.ex rfl (P.cd hd) rfl k) k
theorem own_lushr (P : own_S Z own nm bytes mx rt p l e R s m args below meth c T h locs cells slots) {x : Int64} {y : Int32} (hd : decode bytes pc = .ok (.lushr, 1)) (hp : pc + 1 = pc')
    (k : own_Go p e below K (T.setTop (mkF m pc' Ls (.long ((x.toUInt64 >>> (y &&& 0x3f).toInt64.toUInt64).toInt64) :: rest)))) : own_Go p e below K (T.setTop (mkF m pc Ls (.int y :: .long x :: rest))) := by
  subst hp
  exact own_st (fun t k => XS.lushr P.st.here P.ex rfl (P.cd hd) rfl k) k
theorem own_i2l (P : own_S Z own nm bytes mx rt p l e R s m args below meth c T h locs cells slots) {x : Int32} (hd : decode bytes pc = .ok (.i2l, 1)) (hp : pc + 1 = pc')
    (k : own_Go p e below K (T.setTop (mkF m pc' Ls (.long (x.toInt64) :: rest)))) : own_Go p e below K (T.setTop (mkF m pc Ls (.int x :: rest))) := by
  subst hp
  exact own_st (fun t k => XS.i2l P.st.here P.ex rfl (P.cd hd) rfl k) k
theorem own_l2i (P : own_S Z own nm bytes mx rt p l e R s m args below meth c T h locs cells slots) {x : Int64} (hd : decode bytes pc = .ok (.l2i, 1)) (hp : pc + 1 = pc')
    (k : own_Go p e below K (T.setTop (mkF m pc' Ls (.int (x.toInt32) :: rest)))) : own_Go p e below K (T.setTop (mkF m pc Ls (.long x :: rest))) := by
  subst hp
  exact own_st (fun t k => XS.l2i P.st.here P.ex rfl (P.cd hd) rfl k) k
theorem own_i2b (P : own_S Z own nm bytes mx rt p l e R s m args below meth c T h locs cells slots) {x : Int32} (hd : decode bytes pc = .ok (.i2b, 1)) (hp : pc + 1 = pc')
    (k : own_Go p e below K (T.setTop (mkF m pc' Ls (.int (x.toInt8.toInt32) :: rest)))) : own_Go p e below K (T.setTop (mkF m pc Ls (.int x :: rest))) := by
  subst hp
  exact own_st (fun t k => XS.i2b P.st.here P.ex rfl (P.cd hd) rfl k) k
theorem own_i2c (P : own_S Z own nm bytes mx rt p l e R s m args below meth c T h locs cells slots) {x : Int32} (hd : decode bytes pc = .ok (.i2c, 1)) (hp : pc + 1 = pc')
    (k : own_Go p e below K (T.setTop (mkF m pc' Ls (.int (x.toUInt32.toUInt16.toUInt32.toInt32) :: rest)))) : own_Go p e below K (T.setTop (mkF m pc Ls (.int x :: rest))) := by
  subst hp
  exact own_st (fun t k => XS.i2c P.st.here P.ex rfl (P.cd hd) rfl k) k
theorem own_i2s (P : own_S Z own nm bytes mx rt p l e R s m args below meth c T h locs cells slots) {x : Int32} (hd : decode bytes pc = .ok (.i2s, 1)) (hp : pc + 1 = pc')
    (k : own_Go p e below K (T.setTop (mkF m pc' Ls (.int (x.toInt16.toInt32) :: rest)))) : own_Go p e below K (T.setTop (mkF m pc Ls (.int x :: rest))) := by
  subst hp
  exact own_st (fun t k => XS.i2s P.st.here P.ex rfl (P.cd hd) rfl k) k
theorem own_lneg (P : own_S Z own nm bytes mx rt p l e R s m args below meth c T h locs cells slots) {x : Int64} (hd : decode bytes pc = .ok (.lneg, 1)) (hp : pc + 1 = pc')
    (k : own_Go p e below K (T.setTop (mkF m pc' Ls (.long (-x) :: rest)))) : own_Go p e below K (T.setTop (mkF m pc Ls (.long x :: rest))) := by
  subst hp
  exact own_st (fun t k => XS.lneg P.st.here P.ex rfl (P.cd hd) rfl k) k
theorem own_ineg (P : own_S Z own nm bytes mx rt p l e R s m args below meth c T h locs cells slots) {x : Int32} (hd : decode bytes pc = .ok (.ineg, 1)) (hp : pc + 1 = pc')
    (k : own_Go p e below K (T.setTop (mkF m pc' Ls (.int (-x) :: rest)))) : own_Go p e below K (T.setTop (mkF m pc Ls (.int x :: rest))) := by
  subst hp
  exact own_st (fun t k => XS.ineg P.st.here P.ex rfl (P.cd hd) rfl k) k
theorem own_iloadN (P : own_S Z own nm bytes mx rt p l e R s m args below meth c T h locs cells slots) {j : Fin 4} {v : Int32} (hd : decode bytes pc = .ok (.iload_n j, 1)) (hp : pc + 1 = pc') (hl : Ls[j.val]? = some (.val (.int v)))
    (k : own_Go p e below K (T.setTop (mkF m pc' Ls (.int v :: rest)))) : own_Go p e below K (T.setTop (mkF m pc Ls rest)) := by
  subst hp
  exact own_st (fun t k => XS.iloadN P.st.here P.ex rfl (P.cd hd) hl k) k
theorem own_iload (P : own_S Z own nm bytes mx rt p l e R s m args below meth c T h locs cells slots) {j : Nat} {v : Int32} (hd : decode bytes pc = .ok (.iload j, 2)) (hp : pc + 2 = pc') (hl : Ls[j]? = some (.val (.int v)))
    (k : own_Go p e below K (T.setTop (mkF m pc' Ls (.int v :: rest)))) : own_Go p e below K (T.setTop (mkF m pc Ls rest)) := by
  subst hp
  exact own_st (fun t k => XS.iload P.st.here P.ex rfl (P.cd hd) hl k) k
theorem own_lloadN (P : own_S Z own nm bytes mx rt p l e R s m args below meth c T h locs cells slots) {j : Fin 4} {v : Int64} (hd : decode bytes pc = .ok (.lload_n j, 1)) (hp : pc + 1 = pc') (hl : Ls[j.val]? = some (.val (.long v)))
    (k : own_Go p e below K (T.setTop (mkF m pc' Ls (.long v :: rest)))) : own_Go p e below K (T.setTop (mkF m pc Ls rest)) := by
  subst hp
  exact own_st (fun t k => XS.lloadN P.st.here P.ex rfl (P.cd hd) hl k) k
theorem own_lload (P : own_S Z own nm bytes mx rt p l e R s m args below meth c T h locs cells slots) {j : Nat} {v : Int64} (hd : decode bytes pc = .ok (.lload j, 2)) (hp : pc + 2 = pc') (hl : Ls[j]? = some (.val (.long v)))
    (k : own_Go p e below K (T.setTop (mkF m pc' Ls (.long v :: rest)))) : own_Go p e below K (T.setTop (mkF m pc Ls rest)) := by
  subst hp
  exact own_st (fun t k => XS.lload P.st.here P.ex rfl (P.cd hd) hl k) k
theorem own_aloadN (P : own_S Z own nm bytes mx rt p l e R s m args below meth c T h locs cells slots) {j : Fin 4} {v : Value} (hd : decode bytes pc = .ok (.aload_n j, 1)) (hp : pc + 1 = pc') (hl : Ls[j.val]? = some (.val v)) (hv : v.isRef = true)
    (k : own_Go p e below K (T.setTop (mkF m pc' Ls (v :: rest)))) : own_Go p e below K (T.setTop (mkF m pc Ls rest)) := by
  subst hp
  exact own_st (fun t k => XS.aloadN P.st.here P.ex rfl (P.cd hd) hl hv k) k
theorem own_aload (P : own_S Z own nm bytes mx rt p l e R s m args below meth c T h locs cells slots) {j : Nat} {v : Value} (hd : decode bytes pc = .ok (.aload j, 2)) (hp : pc + 2 = pc') (hl : Ls[j]? = some (.val v)) (hv : v.isRef = true)
    (k : own_Go p e below K (T.setTop (mkF m pc' Ls (v :: rest)))) : own_Go p e below K (T.setTop (mkF m pc Ls rest)) := by
  subst hp
  exact own_st (fun t k => XS.aload P.st.here P.ex rfl (P.cd hd) hl hv k) k
theorem own_istoreN (P : own_S Z own nm bytes mx rt p l e R s m args below meth c T h locs cells slots) {j : Fin 4} {v : Int32} {Ls' : Array Slot} (hd : decode bytes pc = .ok (.istore_n j, 1)) (hp : pc + 1 = pc') (hl : storeLocals Ls j.val (.int v) = some Ls')
    (k : own_Go p e below K (T.setTop (mkF m pc' Ls' rest))) : own_Go p e below K (T.setTop (mkF m pc Ls (.int v :: rest))) := by
  subst hp
  exact own_st (fun t k => XS.istoreN P.st.here P.ex rfl (P.cd hd) rfl hl k) k
theorem own_istore (P : own_S Z own nm bytes mx rt p l e R s m args below meth c T h locs cells slots) {j : Nat} {v : Int32} {Ls' : Array Slot} (hd : decode bytes pc = .ok (.istore j, 2)) (hp : pc + 2 = pc') (hl : storeLocals Ls j (.int v) = some Ls')
    (k : own_Go p e below K (T.setTop (mkF m pc' Ls' rest))) : own_Go p e below K (T.setTop (mkF m pc Ls (.int v :: rest))) := by
  subst hp
  exact own_st (fun t k => XS.istore P.st.here P.ex rfl (P.cd hd) rfl hl k) k
theorem own_lstoreN (P : own_S Z own nm bytes mx rt p l e R s m args below meth c T h locs cells slots) {j : Fin 4} {v : Int64} {Ls' : Array Slot} (hd : decode bytes pc = .ok (.lstore_n j, 1)) (hp : pc + 1 = pc') (hl : storeLocals Ls j.val (.long v) = some Ls')
    (k : own_Go p e below K (T.setTop (mkF m pc' Ls' rest))) : own_Go p e below K (T.setTop (mkF m pc Ls (.long v :: rest))) := by
  subst hp
  exact own_st (fun t k => XS.lstoreN P.st.here P.ex rfl (P.cd hd) rfl hl k) k
theorem own_lstore (P : own_S Z own nm bytes mx rt p l e R s m args below meth c T h locs cells slots) {j : Nat} {v : Int64} {Ls' : Array Slot} (hd : decode bytes pc = .ok (.lstore j, 2)) (hp : pc + 2 = pc') (hl : storeLocals Ls j (.long v) = some Ls')
    (k : own_Go p e below K (T.setTop (mkF m pc' Ls' rest))) : own_Go p e below K (T.setTop (mkF m pc Ls (.long v :: rest))) := by
  subst hp
  exact own_st (fun t k => XS.lstore P.st.here P.ex rfl (P.cd hd) rfl hl k) k
theorem own_astoreN (P : own_S Z own nm bytes mx rt p l e R s m args below meth c T h locs cells slots) {j : Fin 4} {v : Value} {Ls' : Array Slot} (hd : decode bytes pc = .ok (.astore_n j, 1)) (hp : pc + 1 = pc') (hv : v.isRef = true) (hl : storeLocals Ls j.val v = some Ls')
    (k : own_Go p e below K (T.setTop (mkF m pc' Ls' rest))) : own_Go p e below K (T.setTop (mkF m pc Ls (v :: rest))) := by
  subst hp
  exact own_st (fun t k => XS.astoreN P.st.here P.ex rfl (P.cd hd) rfl hv hl k) k
theorem own_astore (P : own_S Z own nm bytes mx rt p l e R s m args below meth c T h locs cells slots) {j : Nat} {v : Value} {Ls' : Array Slot} (hd : decode bytes pc = .ok (.astore j, 2)) (hp : pc + 2 = pc') (hv : v.isRef = true) (hl : storeLocals Ls j v = some Ls')
    (k : own_Go p e below K (T.setTop (mkF m pc' Ls' rest))) : own_Go p e below K (T.setTop (mkF m pc Ls (v :: rest))) := by
  subst hp
  exact own_st (fun t k => XS.astore P.st.here P.ex rfl (P.cd hd) rfl hv hl k) k
theorem own_iconst (P : own_S Z own nm bytes mx rt p l e R s m args below meth c T h locs cells slots) {i : Int} {v : Int32} (hd : decode bytes pc = .ok (.iconst i, 1)) (hp : pc + 1 = pc') (hv : Int32.ofInt i = v)
    (k : own_Go p e below K (T.setTop (mkF m pc' Ls (.int v :: rest)))) : own_Go p e below K (T.setTop (mkF m pc Ls rest)) := by
  subst hp
  exact own_st (fun t k => XS.iconst P.st.here P.ex rfl (P.cd hd) (by rw [hv]; exact k)) k
theorem own_bipush (P : own_S Z own nm bytes mx rt p l e R s m args below meth c T h locs cells slots) {i : Int} {v : Int32} (hd : decode bytes pc = .ok (.bipush i, 2)) (hp : pc + 2 = pc') (hv : (Int8.ofInt i).toInt32 = v)
    (k : own_Go p e below K (T.setTop (mkF m pc' Ls (.int v :: rest)))) : own_Go p e below K (T.setTop (mkF m pc Ls rest)) := by
  subst hp
  exact own_st (fun t k => XS.bipush P.st.here P.ex rfl (P.cd hd) (by rw [hv]; exact k)) k
theorem own_sipush (P : own_S Z own nm bytes mx rt p l e R s m args below meth c T h locs cells slots) {i : Int} {v : Int32} (hd : decode bytes pc = .ok (.sipush i, 3)) (hp : pc + 3 = pc') (hv : (Int16.ofInt i).toInt32 = v)
    (k : own_Go p e below K (T.setTop (mkF m pc' Ls (.int v :: rest)))) : own_Go p e below K (T.setTop (mkF m pc Ls rest)) := by
  subst hp
  exact own_st (fun t k => XS.sipush P.st.here P.ex rfl (P.cd hd) (by rw [hv]; exact k)) k
theorem own_lconst (P : own_S Z own nm bytes mx rt p l e R s m args below meth c T h locs cells slots) {j : Fin 2} {v : Int64} (hd : decode bytes pc = .ok (.lconst j, 1)) (hp : pc + 1 = pc') (hv : Int64.ofNat j = v)
    (k : own_Go p e below K (T.setTop (mkF m pc' Ls (.long v :: rest)))) : own_Go p e below K (T.setTop (mkF m pc Ls rest)) := by
  subst hp
  exact own_st (fun t k => XS.lconst P.st.here P.ex rfl (P.cd hd) (by rw [hv]; exact k)) k
theorem own_aconstNull (P : own_S Z own nm bytes mx rt p l e R s m args below meth c T h locs cells slots)  (hd : decode bytes pc = .ok (.aconst_null, 1)) (hp : pc + 1 = pc')
    (k : own_Go p e below K (T.setTop (mkF m pc' Ls (.null :: rest)))) : own_Go p e below K (T.setTop (mkF m pc Ls rest)) := by
  subst hp
  exact own_st (fun t k => XS.aconstNull P.st.here P.ex rfl (P.cd hd) k) k
theorem own_iinc (P : own_S Z own nm bytes mx rt p l e R s m args below meth c T h locs cells slots) {j : Nat} {i : Int} {x v : Int32} {Ls' : Array Slot} (hd : decode bytes pc = .ok (.iinc j i, 3)) (hp : pc + 3 = pc') (hl : Ls[j]? = some (.val (.int x))) (hv : Int32.ofInt i = v) (hl' : storeLocals Ls j (.int (x + v)) = some Ls')
    (k : own_Go p e below K (T.setTop (mkF m pc' Ls' rest))) : own_Go p e below K (T.setTop (mkF m pc Ls rest)) := by
  subst hp
  exact own_st (fun t k => XS.iinc P.st.here P.ex rfl (P.cd hd) hl (by rw [hv]; exact hl') k) k
theorem own_dup (P : own_S Z own nm bytes mx rt p l e R s m args below meth c T h locs cells slots) {v : Value} (hd : decode bytes pc = .ok (.dup, 1)) (hp : pc + 1 = pc') (hc : v.category = 1)
    (k : own_Go p e below K (T.setTop (mkF m pc' Ls (v :: v :: rest)))) : own_Go p e below K (T.setTop (mkF m pc Ls (v :: rest))) := by
  subst hp
  exact own_st (fun t k => XS.dup P.st.here P.ex rfl (P.cd hd) rfl hc k) k
theorem own_dupX1 (P : own_S Z own nm bytes mx rt p l e R s m args below meth c T h locs cells slots) {v u : Value} (hd : decode bytes pc = .ok (.dup_x1, 1)) (hp : pc + 1 = pc') (hc : v.category = 1) (hc' : u.category = 1)
    (k : own_Go p e below K (T.setTop (mkF m pc' Ls (v :: u :: v :: rest)))) : own_Go p e below K (T.setTop (mkF m pc Ls (v :: u :: rest))) := by
  subst hp
  exact own_st (fun t k => XS.dupX1 P.st.here P.ex rfl (P.cd hd) rfl hc hc' k) k
theorem own_pop (P : own_S Z own nm bytes mx rt p l e R s m args below meth c T h locs cells slots) {v : Value} (hd : decode bytes pc = .ok (.pop, 1)) (hp : pc + 1 = pc') (hc : v.category = 1)
    (k : own_Go p e below K (T.setTop (mkF m pc' Ls rest))) : own_Go p e below K (T.setTop (mkF m pc Ls (v :: rest))) := by
  subst hp
  exact own_st (fun t k => XS.pop P.st.here P.ex rfl (P.cd hd) rfl hc k) k
theorem own_goto (P : own_S Z own nm bytes mx rt p l e R s m args below meth c T h locs cells slots) {o : Int} (hd : decode bytes pc = .ok (.goto o, 3)) (ho : 0 ≤ (pc : Int) + o) (hp : ((pc : Int) + o).toNat = pc')
    (k : own_Go p e below K (T.setTop (mkF m pc' Ls rest))) : own_Go p e below K (T.setTop (mkF m pc Ls rest)) := own_st (fun t k => XS.goto P.st.here P.ex rfl rfl (P.cd hd) ho hp k) k
/-- what a branch asks of two ints, of two longs -/
def own_ci (cd : ClassFile.Cond) (x y : Int32) : Prop := match cd with | .eq => x = y | .ne => ¬ x = y | .lt => x < y | .ge => ¬ x < y | .gt => y < x | .le => ¬ y < x
def own_cl (cd : ClassFile.Cond) (x y : Int64) : Prop := match cd with | .eq => x = y | .ne => ¬ x = y | .lt => x < y | .ge => ¬ x < y | .gt => y < x | .le => ¬ y < x
theorem own_ciY {cd : ClassFile.Cond} {x y : Int32} (q : own_ci cd x y) : if_icmp.holds cd x y = true := by
  cases cd
  · exact (teq q).1
  · exact (feq q).2
  · exact (tlt q).1
  · exact (flt q).2.1
  · exact (tlt q).2.2.1
  · exact (flt q).2.2.2
theorem own_ciN {cd : ClassFile.Cond} {x y : Int32} (q : ¬ own_ci cd x y) : if_icmp.holds cd x y = false := by
  cases cd
  · exact (feq q).1
  · exact (teq (Classical.not_not.mp q)).2
  · exact (flt q).1
  · exact (tlt (Classical.not_not.mp q)).2.1
  · exact (flt q).2.2.1
  · exact (tlt (Classical.not_not.mp q)).2.2.2
theorem own_clY {cd : ClassFile.Cond} {x y : Int64} (q : own_cl cd x y) : own_ci cd (lcmpW x y) 0 := by
  rw [lcW]
  cases cd
  · exact (lc_eq x y).mpr q
  · exact fun r => q ((lc_eq x y).mp r)
  · exact (lc_lt x y).mpr q
  · exact fun r => q ((lc_lt x y).mp r)
  · exact (lc_gt x y).mpr q
  · exact fun r => q ((lc_gt x y).mp r)
theorem own_clN {cd : ClassFile.Cond} {x y : Int64} (q : ¬ own_cl cd x y) : ¬ own_ci cd (lcmpW x y) 0 := by
  rw [lcW]
  cases cd
  · exact fun r => q ((lc_eq x y).mp r)
  · exact fun r => q fun z => r ((lc_eq x y).mpr z)
  · exact fun r => q ((lc_lt x y).mp r)
  · exact fun r => q fun z => r ((lc_lt x y).mpr z)
  · exact fun r => q ((lc_gt x y).mp r)
  · exact fun r => q fun z => r ((lc_gt x y).mpr z)
theorem own_icmpY (P : own_S Z own nm bytes mx rt p l e R s m args below meth c T h locs cells slots) {cd : ClassFile.Cond} {o : Int} {x y : Int32} (hd : decode bytes pc = .ok (.if_icmp cd o, 3)) (q : own_ci cd x y) (ho : 0 ≤ (pc : Int) + o) (hp : ((pc : Int) + o).toNat = pc')
    (k : own_Go p e below K (T.setTop (mkF m pc' Ls rest))) : own_Go p e below K (T.setTop (mkF m pc Ls (.int y :: .int x :: rest))) := own_st (fun t k => XS.icmpYes P.st.here P.ex rfl rfl (P.cd hd) rfl (own_ciY q) ho hp k) k
theorem own_icmpN (P : own_S Z own nm bytes mx rt p l e R s m args below meth c T h locs cells slots) {cd : ClassFile.Cond} {o : Int} {x y : Int32} (hd : decode bytes pc = .ok (.if_icmp cd o, 3)) (q : ¬ own_ci cd x y) (hp : pc + 3 = pc')
    (k : own_Go p e below K (T.setTop (mkF m pc' Ls rest))) : own_Go p e below K (T.setTop (mkF m pc Ls (.int y :: .int x :: rest))) := by
  subst hp
  exact own_st (fun t k => XS.icmpNo P.st.here P.ex rfl (P.cd hd) rfl (own_ciN q) k) k
theorem own_if0Y (P : own_S Z own nm bytes mx rt p l e R s m args below meth c T h locs cells slots) {cd : ClassFile.Cond} {o : Int} {x : Int32} (hd : decode bytes pc = .ok (.ifCond cd o, 3)) (q : own_ci cd x 0) (ho : 0 ≤ (pc : Int) + o) (hp : ((pc : Int) + o).toNat = pc')
    (k : own_Go p e below K (T.setTop (mkF m pc' Ls rest))) : own_Go p e below K (T.setTop (mkF m pc Ls (.int x :: rest))) := own_st (fun t k => XS.ifYes P.st.here P.ex rfl rfl (P.cd hd) rfl ((if0 _ _).trans (own_ciY q)) ho hp k) k
theorem own_if0N (P : own_S Z own nm bytes mx rt p l e R s m args below meth c T h locs cells slots) {cd : ClassFile.Cond} {o : Int} {x : Int32} (hd : decode bytes pc = .ok (.ifCond cd o, 3)) (q : ¬ own_ci cd x 0) (hp : pc + 3 = pc')
    (k : own_Go p e below K (T.setTop (mkF m pc' Ls rest))) : own_Go p e below K (T.setTop (mkF m pc Ls (.int x :: rest))) := by
  subst hp
  exact own_st (fun t k => XS.ifNo P.st.here P.ex rfl (P.cd hd) rfl ((if0 _ _).trans (own_ciN q)) k) k
theorem own_lcmp (P : own_S Z own nm bytes mx rt p l e R s m args below meth c T h locs cells slots) {x y : Int64} (hd : decode bytes pc = .ok (.lcmp, 1)) (hp : pc + 1 = pc')
    (k : own_Go p e below K (T.setTop (mkF m pc' Ls (.int (lcmpW x y) :: rest)))) : own_Go p e below K (T.setTop (mkF m pc Ls (.long y :: .long x :: rest))) := by
  subst hp
  exact own_st (fun t k => XS.lcmp P.st.here P.ex rfl (P.cd hd) rfl k) k
theorem own_lcY (P : own_S Z own nm bytes mx rt p l e R s m args below meth c T h locs cells slots) {cd : ClassFile.Cond} {o : Int} {x y : Int64} (hd : decode bytes pc = .ok (.lcmp, 1)) (hd2 : decode bytes (pc + 1) = .ok (.ifCond cd o, 3)) (q : own_cl cd x y) (ho : 0 ≤ ((pc + 1 : Nat) : Int) + o) (hp : (((pc + 1 : Nat) : Int) + o).toNat = pc')
    (k : own_Go p e below K (T.setTop (mkF m pc' Ls rest))) : own_Go p e below K (T.setTop (mkF m pc Ls (.long y :: .long x :: rest))) :=
  own_lcmp P hd rfl (own_if0Y P hd2 (own_clY q) ho hp k)
theorem own_lcN (P : own_S Z own nm bytes mx rt p l e R s m args below meth c T h locs cells slots) {cd : ClassFile.Cond} {o : Int} {x y : Int64} (hd : decode bytes pc = .ok (.lcmp, 1)) (hd2 : decode bytes (pc + 1) = .ok (.ifCond cd o, 3)) (q : ¬ own_cl cd x y) (hp : pc + 1 + 3 = pc')
    (k : own_Go p e below K (T.setTop (mkF m pc' Ls rest))) : own_Go p e below K (T.setTop (mkF m pc Ls (.long y :: .long x :: rest))) :=
  own_lcmp P hd rfl (own_if0N P hd2 (own_clN q) hp k)

theorem own_ldc (P : own_S Z own nm bytes mx rt p l e R s m args below meth c T h locs cells slots) {idx : Nat} {v : Int32} (wc : (Cond.constant own idx v).before a0 Z = true) (hd : decode bytes pc = .ok (.ldc idx, 2)) (hp : pc + 2 = pc')
    (k : own_Go p e below K (T.setTop (mkF m pc' Ls (.int v :: rest)))) : own_Go p e below K (T.setTop (mkF m pc Ls rest)) := by
  subst hp
  exact own_st (fun t k => P.st.ldcInt P.ex P.ow (mvT P.wz wc) (g := mkF m pc Ls rest) rfl (P.cd hd) t k) k
theorem own_ldcw (P : own_S Z own nm bytes mx rt p l e R s m args below meth c T h locs cells slots) {idx : Nat} {v : Int32} (wc : (Cond.constant own idx v).before a0 Z = true) (hd : decode bytes pc = .ok (.ldc_w idx, 3)) (hp : pc + 3 = pc')
    (k : own_Go p e below K (T.setTop (mkF m pc' Ls (.int v :: rest)))) : own_Go p e below K (T.setTop (mkF m pc Ls rest)) := by
  subst hp
  exact own_st (fun t k => P.st.ldcwInt P.ex P.ow (mvT P.wz wc) (g := mkF m pc Ls rest) rfl (P.cd hd) t k) k
theorem own_ldc2 (P : own_S Z own nm bytes mx rt p l e R s m args below meth c T h locs cells slots) {idx : Nat} {v : Int64} (wc : (Cond.constantLong own idx v).before a0 Z = true) (hd : decode bytes pc = .ok (.ldc2_w idx, 3)) (hp : pc + 3 = pc')
    (k : own_Go p e below K (T.setTop (mkF m pc' Ls (.long v :: rest)))) : own_Go p e below K (T.setTop (mkF m pc Ls rest)) := by
  subst hp
  exact own_st (fun t k => P.st.ldc2Long P.ex P.ow (mvT P.wz wc) (g := mkF m pc Ls rest) rfl (P.cd hd) t k) k

theorem own_retL {Q : Option Value → Heap → List Loc → Prop} {kc ks : Nat} (P : own_S Z own nm bytes mx (some .long) p l e R s m args below meth c T h locs cells slots) {v : Int64} (hd : decode bytes pc = .ok (.lreturn, 1)) (hc : cells ≤ kc) (hs : slots ≤ ks) (hq : Q (some (.long v)) h locs) :
    own_Go p e below (own_K s Q kc ks) (T.setTop (mkF m pc Ls [(.long v)])) := by
  obtain ⟨X, hx, hby, hml, hown, hZ, hr0, hlk, hh, -⟩ := P
  obtain ⟨fs, hr, hrun, hended, hW, hsame⟩ := X.leave (v := some (.long v)) (fun h => by rw [hr0] at h; cases h) hlk
  refine ⟨_, _, X.lreturnOut hx hr0 (hb hby hd) hr, hrun, hended, _, _, rfl, ?_, ⟨_, rfl⟩, hW, hsame.mono hc hs⟩
  rw [← hh] at hq
  exact hq
theorem own_retI {Q : Option Value → Heap → List Loc → Prop} {kc ks : Nat} (P : own_S Z own nm bytes mx (some .int) p l e R s m args below meth c T h locs cells slots) {v : Int32} (hd : decode bytes pc = .ok (.ireturn, 1)) (hc : cells ≤ kc) (hs : slots ≤ ks) (hq : Q (some (.int v)) h locs) :
    own_Go p e below (own_K s Q kc ks) (T.setTop (mkF m pc Ls [(.int v)])) := by
  obtain ⟨X, hx, hby, hml, hown, hZ, hr0, hlk, hh, -⟩ := P
  obtain ⟨fs, hr, hrun, hended, hW, hsame⟩ := X.leave (v := some (.int v)) (fun h => by rw [hr0] at h; cases h) hlk
  refine ⟨_, _, retI X hx hr0 (hb hby hd) hr, hrun, hended, _, _, rfl, ?_, ⟨_, rfl⟩, hW, hsame.mono hc hs⟩
  rw [← hh] at hq
  exact hq
theorem own_retZ {Q : Option Value → Heap → List Loc → Prop} {kc ks : Nat} (P : own_S Z own nm bytes mx (some .boolean) p l e R s m args below meth c T h locs cells slots) {v z : Int32} (hd : decode bytes pc = .ok (.ireturn, 1)) (hz : nar .boolean v = z) (hc : cells ≤ kc) (hs : slots ≤ ks) (hq : Q (some (.int z)) h locs) :
    own_Go p e below (own_K s Q kc ks) (T.setTop (mkF m pc Ls [(.int v)])) := by
  obtain ⟨X, hx, hby, hml, hown, hZ, hr0, hlk, hh, -⟩ := P
  obtain ⟨fs, hr, hrun, hended, hW, hsame⟩ := X.leave (v := some (.int z)) (fun h => by rw [hr0] at h; cases h) hlk
  refine ⟨_, _, retN X hx (t := .boolean) hr0 (by simp) (hb hby hd) (by rw [hz]; exact hr), hrun, hended, _, _, rfl, ?_, ⟨_, rfl⟩, hW, hsame.mono hc hs⟩
  rw [← hh] at hq
  exact hq
theorem own_retV {Q : Option Value → Heap → List Loc → Prop} {kc ks : Nat} (P : own_S Z own nm bytes mx none p l e R s m args below meth c T h locs cells slots) (hd : decode bytes pc = .ok (.return_, 1)) (hc : cells ≤ kc) (hs : slots ≤ ks) (hq : Q none h locs) :
    own_Go p e below (own_K s Q kc ks) (T.setTop (mkF m pc Ls [])) := by
  obtain ⟨X, hx, hby, hml, hown, hZ, hr0, hlk, hh, -⟩ := P
  obtain ⟨fs, hr, hrun, hended, hW, hsame⟩ := X.leave (v := none) (fun _ => rfl) hlk
  refine ⟨_, _, X.returnOut hx hr0 (hb hby hd) hr, hrun, hended, _, _, rfl, ?_, ⟨_, rfl⟩, hW, hsame.mono hc hs⟩
  rw [← hh] at hq
  exact hq
/-- a method's contract: from these arguments and this heap it returns as Q says -/
def own_Con (l : Launch) (Z : State) (y : MethodName) (bytes : ByteArray) (mx : Nat) (rt : Option FieldType) (ws : List Jvm.Cond) (rm : Room) (as' : Array Value) (h : Heap) (Q : Option Value → Heap → List Loc → Prop) : Prop :=
  MetFree l y (head1 (Jvm.Cond.code y bytes mx rt :: ws) rm) (fun a U => a = as' ∧ Z.Warmed39 U.vm ∧ U.heap = h) (fun _ _ _ _ _ => True) (fun _ U o U' => ∃ v L, o = .returned v ∧ Q v U'.heap L ∧ FrameEnd U o U' L rm.cells rm.slots)
/-- it returned v, wrote nothing and made nothing -/
def own_P (v : Option Value) (h : Heap) (v' : Option Value) (h' : Heap) (L : List Loc) : Prop := v' = v ∧ L = [] ∧ h' = h
theorem own_enter {y : MethodName} {ws : List Jvm.Cond} {rm : Room} {as' : Array Value} {Q : Option Value → Heap → List Loc → Prop} (hpl : plainFor y = true) (Ls : Array Slot) (hef : ∀ m, entryFrame m as' mx = mkF m 0 Ls [])
    (body : ∀ (p : Program) (e : Env) (s : State) (m : MethodId) (below : List Frame) (meth : Method) (c : Code) (T : State), own_S Z y.cls y.name bytes mx rt p l e rm s m as' below meth c T h [] 0 0 → own_Go p e below (own_K s Q rm.cells rm.slots) (T.setTop (mkF m 0 Ls []))) :
    own_Con l Z y bytes mx rt ws rm as' h Q := by
  refine MetFree.of_bodySF hpl hisR ?_
  intro p e s m args below meth c s₁ Bd hml0 hP hK
  obtain ⟨rfl, hZ, hh⟩ := hP
  have e0 : s₁.heap = h := by rw [← hh, Bd.state]; rfl
  obtain ⟨t, o, h1, h2, h3, v, L, ho, hq, hf⟩ := body p e s m below meth c s₁ ⟨Stand.of_body Bd, Bd.exec, Bd.bytes, hml0, findClass_of_methodNamed Bd.named, hZ, Bd.returns, BodyLoose.notSynchronized Bd, e0, (name_of_methodNamed Bd.named Bd.method).1⟩
  exact ⟨t, o, castTop (hef m) h1, h2, h3, v, L, ho, hq, hf⟩
theorem own_callQ (P : own_S Z own nm bytes mx rt p l e R s m args below meth c T h locs cells slots) {idx : Nat} {y : MethodName} {by' : ByteArray} {mx' : Nat} {rt' : Option FieldType} {rm : Room} {Q : Option Value → Heap → List Loc → Prop} {argsL st : List Value} {ps : List FieldType} {rr : Option FieldType}
    (wl : (Cond.methodLink own idx y).before a0 Z = true) (wt : (Cond.static y).before a0 Z = true) (wi : (Cond.initialized y.cls).before a0 Z = true) (wc : (Cond.code y by' mx' rt').before a0 Z = true) (hy : y.cls ≠ "java/lang/invoke/MethodHandle" ∧ y.cls ≠ "java/lang/invoke/VarHandle")
    (hM : own_Con l Z y by' mx' rt' [] rm argsL.toArray h Q) (hd : decode bytes pc = .ok (.invokestatic idx, 3)) (hp : pc + 3 = pc') (hdes : parseMethodDescriptor y.desc = some ⟨ps, rr⟩) (hlen : argsL.length = ps.length) (hsz : Ls.size = mx) (hst : st = argsL.reverse ++ rest)
    (hf : rm.frames + 1 ≤ R.frames) (W : Nat) (hW : (rest.map fun v => v.category).sum = W) (hl : W + (mx' + 11) + rm.locals ≤ R.locals) (hc : cells + rm.cells ≤ R.cells) (hs : slots + rm.slots ≤ R.slots)
    (k : ∀ T' h' v L, Q v h' L → own_S Z own nm bytes mx rt p l e R s m args below meth c T' h' (locs ++ L) (cells + rm.cells) (slots + rm.slots) → own_Go p e below K (T'.setTop (mkF m pc' Ls (v.toList ++ rest)))) :
    own_Go p e below K (T.setTop (mkF m pc Ls st)) := by
  subst hp
  obtain ⟨v, _, ⟨T3, L3, k3, n3⟩, -, X3, ⟨Lc3, hQ3, l3, y3, z3⟩, st3⟩ := Jvm.LawKit.callS P.st P.ex (y := y) P.ow (mvT P.wz wl) (mvT P.wz wt) (mvT P.wz wi) (mvT P.wz wc) hy (backOf (W := W) hM P.wz wc wi hf hl) (g := (mkF m pc Ls st)) rfl (by rw [P.ml]; exact hsz) (argsL := argsL) (rest := rest) (lenOf hdes hlen) hst (by show 2 * 0 + _ ≤ _; rw [hW]; exact Nat.le_of_eq (by simp)) (P.cd hd) (fun _ _ => ⟨rfl, P.hp, hc, hs⟩)
  dsimp only [Pt.U, Pt.locs, Pt.cells, Pt.slots] at X3 l3 y3 z3 st3 hQ3
  subst l3 y3 z3
  exact own_st st3 (k T3 T3.heap v Lc3 hQ3 (P.move X3 rfl))
theorem own_callP (P : own_S Z own nm bytes mx rt p l e R s m args below meth c T h locs cells slots) {idx : Nat} {y : MethodName} {by' : ByteArray} {mx' : Nat} {rt' : Option FieldType} {rm : Room} {v : Option Value} {argsL st : List Value} {ps : List FieldType} {rr : Option FieldType}
    (wl : (Cond.methodLink own idx y).before a0 Z = true) (wt : (Cond.static y).before a0 Z = true) (wi : (Cond.initialized y.cls).before a0 Z = true) (wc : (Cond.code y by' mx' rt').before a0 Z = true) (hy : y.cls ≠ "java/lang/invoke/MethodHandle" ∧ y.cls ≠ "java/lang/invoke/VarHandle")
    (hM : own_Con l Z y by' mx' rt' [] rm argsL.toArray h (own_P v h)) (hd : decode bytes pc = .ok (.invokestatic idx, 3)) (hp : pc + 3 = pc') (hdes : parseMethodDescriptor y.desc = some ⟨ps, rr⟩) (hlen : argsL.length = ps.length) (hsz : Ls.size = mx) (hst : st = argsL.reverse ++ rest)
    (hf : rm.frames + 1 ≤ R.frames) (W : Nat) (hW : (rest.map fun v => v.category).sum = W) (hl : W + (mx' + 11) + rm.locals ≤ R.locals) (hc : rm.cells = 0) (hs : rm.slots = 0) (hcc : cells ≤ R.cells) (hss : slots ≤ R.slots)
    (k : ∀ T', own_S Z own nm bytes mx rt p l e R s m args below meth c T' h locs cells slots → own_Go p e below K (T'.setTop (mkF m pc' Ls (v.toList ++ rest)))) :
    own_Go p e below K (T.setTop (mkF m pc Ls st)) := by
  refine own_callQ P wl wt wi wc hy hM hd hp hdes hlen hsz hst hf W hW hl (by rw [hc]; exact hcc) (by rw [hs]; exact hss) fun T' h' v' L hQ P' => ?_
  obtain ⟨rfl, rfl, rfl⟩ := hQ
  rw [hc, hs, List.append_nil] at P'
  exact k T' P'
def own_One (s : Slot) : Prop := s = .unset ∨ ∃ w : Value, s = .val w ∧ w.category = 1
theorem own_conMono {y : MethodName} {ws : List Jvm.Cond} {rm : Room} {as' : Array Value} {Q Q' : Option Value → Heap → List Loc → Prop} (q : own_Con l Z y bytes mx rt ws rm as' h Q) (f : ∀ v h' L, Q v h' L → Q' v h' L) : own_Con l Z y bytes mx rt ws rm as' h Q' := by
  intro p e ha hc hk s m args below hf happ hP hK
  obtain ⟨n, o, h1, h2, h3, v, L, h4, h5, h6⟩ := q p e ha hc hk s m args below hf happ hP hK
  exact ⟨n, o, h1, h2, h3, v, L, h4, f _ _ _ h5, h6⟩
theorem own_S.mono (P : own_S Z own nm bytes mx rt p l e R s m args below meth c T h locs cells slots) {cells' slots' : Nat} (hc : cells ≤ cells') (hs : slots ≤ slots') : own_S Z own nm bytes mx rt p l e R s m args below meth c T h locs cells' slots' :=
  P.move { P.st with same := P.st.same.mono hc hs } P.hp
end OwnBase
section OwnHeap
variable {p : Program} {l : Launch} {e : Env} {R : Room} {s : State} {m : MethodId} {args : Array Value} {below : List Frame} {meth : Method} {c : Code} {T : State} {h : Heap} {locs : List Loc} {cells slots : Nat} {Z : State} {a0 : Array Value} {own nm : String} {bytes : ByteArray} {mx : Nat} {rt : Option FieldType} {K : State → Outcome → Prop} {pc pc' : Nat} {Ls : Array Slot} {rest : List Value}
theorem own_new (P : own_S Z own nm bytes mx rt p l e R s m args below meth c T h locs cells slots) {C : String} {idx n : Nat} (wl : (Cond.classLink own idx C).before a0 Z = true) (wi : (Cond.instantiable C n).before a0 Z = true) (wz : (Cond.initialized C).before a0 Z = true) (hd : decode bytes pc = .ok (.new idx, 3)) (hp : pc + 3 = pc') (hc : cells + 1 ≤ R.cells) (hl : slots + n ≤ R.slots)
    (k : ∀ (T' : State) (h' : Heap) (a : Addr), a = h.size → Ext h h' → Exa Z h' a C → (∀ {O fn d : String} {ty : FieldType}, Laid Z a0 C O fn d → parseFieldDescriptor d = some ty → Fld Z h' a O fn d (defaultValue ty)) → own_S Z own nm bytes mx rt p l e R s m args below meth c T' h' locs (cells + 1) (slots + n) → own_Go p e below K (T'.setTop (mkF m pc' Ls (.ref a :: rest)))) :
    own_Go p e below K (T.setTop (mkF m pc Ls rest)) := by
  subst hp
  obtain ⟨T2, h2, X2, e2, E2, A2, D2, -, st2⟩ := newO P.st P.ex P.wz P.ow wl wi wz P.hp (g := mkF m pc Ls rest) rfl (P.cd hd) hc hl
  exact own_st st2 (k T2 h2 h.size rfl E2 A2 D2 (P.move X2 e2))
theorem own_initO (P : own_S Z own nm bytes mx rt p l e R s m args below meth c T h locs cells slots) {idx : Nat} {a : Addr} (w1 : (Cond.methodLink own idx Lib.objectInit).before a0 Z = true) (w2 : (Cond.instanceMethod Lib.objectInit).before a0 Z = true) (w3 : (Cond.code Lib.objectInit ⟨#[0xb1]⟩ 1 none).before a0 Z = true) (hd : decode bytes pc = .ok (.invokespecial idx, 3)) (hp : pc + 3 = pc') (hsz : Ls.size = mx) (hf : 1 ≤ R.frames) (W : Nat) (hW : (rest.map fun v => v.category).sum = W) (hl : W + 12 ≤ R.locals)
    (k : ∀ T' : State, own_S Z own nm bytes mx rt p l e R s m args below meth c T' h locs cells slots → own_Go p e below K (T'.setTop (mkF m pc' Ls rest))) : own_Go p e below K (T.setTop (mkF m pc Ls (.ref a :: rest))) := by
  subst hp
  obtain ⟨T2, X2, e2, st2⟩ := initO P.st P.ex P.wz P.ow w1 w2 w3 P.hp (g := mkF m pc Ls (.ref a :: rest)) rfl (by rw [P.ml]; exact hsz) rfl (P.cd hd) hf (W := W) (by show 2 * 0 + _ ≤ _; rw [hW]; exact Nat.le_of_eq (by simp)) hl
  exact own_st st2 (k T2 (P.move X2 e2))
theorem own_getF (P : own_S Z own nm bytes mx rt p l e R s m args below meth c T h locs cells slots) {idx : Nat} {O fn d : String} {a : Addr} {v : Value} (wf : (Cond.fieldLink own idx O fn d).before a0 Z = true) (F : Fld Z h a O fn d v) (hd : decode bytes pc = .ok (.getfield idx, 3)) (hp : pc + 3 = pc')
    (k : ∀ T' : State, own_S Z own nm bytes mx rt p l e R s m args below meth c T' h locs cells slots → own_Go p e below K (T'.setTop (mkF m pc' Ls (v :: rest)))) : own_Go p e below K (T.setTop (mkF m pc Ls (.ref a :: rest))) := by
  subst hp
  obtain ⟨T2, X2, e2, st2⟩ := getF P.st P.ex P.wz P.ow (host := "") (Or.inl wf) Via.refl P.hp F (g := mkF m pc Ls (.ref a :: rest)) rfl rfl (P.cd hd)
  exact own_st st2 (k T2 (P.move X2 e2))
theorem own_putF (P : own_S Z own nm bytes mx rt p l e R s m args below meth c T h locs cells slots) {idx kk : Nat} {C O fn d : String} {ty : FieldType} {a : Addr} {v old : Value} (wf : (Cond.fieldLink own idx O fn d).before a0 Z = true) (F : Fld Z h a O fn d old) (E : Exa Z h a C) (L : (Cond.lays C O fn d).before a0 Z = true ∨ ((Cond.laysFinal C O fn d).before a0 Z = true ∧ own = O ∧ nm = "<init>")) (wi : (Cond.instantiable C kk).before a0 Z = true) (hty : parseFieldDescriptor d = some ty) (hn : narrow ty v = v) (hf : fits ty v = true) (hd : decode bytes pc = .ok (.putfield idx, 3)) (hp : pc + 3 = pc')
    (k : ∀ (T' : State) (h' : Heap), Wr h h' a (Jvm.RoadKit.slotOf Z O fn d) v → own_S Z own nm bytes mx rt p l e R s m args below meth c T' h' (locs ++ [⟨a, Jvm.RoadKit.slotOf Z O fn d⟩]) cells slots → own_Go p e below K (T'.setTop (mkF m pc' Ls rest))) : own_Go p e below K (T.setTop (mkF m pc Ls (v :: .ref a :: rest))) := by
  subst hp
  obtain ⟨T2, h2, X2, e2, W2, st2⟩ := putF P.st P.ex P.wz P.ow (host := "") (Or.inl wf) Via.refl P.hp F E (L.imp id fun q => ⟨q.1, q.2.1, P.nmm.trans q.2.2⟩) wi hty hn hf (g := mkF m pc Ls (v :: .ref a :: rest)) rfl rfl (P.cd hd)
  exact own_st st2 (k T2 h2 W2 (P.move X2 e2))
theorem own_init (P : own_S Z own nm bytes mx rt p l e R s m args below meth c T h locs cells slots) {idx : Nat} {y : MethodName} {by' : ByteArray} {mx' : Nat} {rm : Room} {Q : Option Value → Heap → List Loc → Prop} {a : Addr} {argsL st : List Value} {ps : List FieldType} {rr : Option FieldType} (hy1 : y.name = "<init>")
    (wl : (Cond.methodLink own idx y).before a0 Z = true) (wm : (Cond.instanceMethod y).before a0 Z = true) (wi : (Cond.initialized y.cls).before a0 Z = true) (wc : (Cond.code y by' mx' none).before a0 Z = true) (hy : y.cls ≠ "java/lang/invoke/MethodHandle" ∧ y.cls ≠ "java/lang/invoke/VarHandle")
    (hM : own_Con l Z y by' mx' none [] rm (.ref a :: argsL).toArray h Q) (hd : decode bytes pc = .ok (.invokespecial idx, 3)) (hp : pc + 3 = pc') (hdes : parseMethodDescriptor y.desc = some ⟨ps, rr⟩) (hlen : argsL.length = ps.length) (hsz : Ls.size = mx) (hst : st = argsL.reverse ++ .ref a :: rest)
    (hf : rm.frames + 1 ≤ R.frames) (W : Nat) (hW : (rest.map fun v => v.category).sum = W) (hl : W + (mx' + 11) + rm.locals ≤ R.locals) (hc : cells + rm.cells ≤ R.cells) (hs : slots + rm.slots ≤ R.slots)
    (k : ∀ T' h' v L, Q v h' L → own_S Z own nm bytes mx rt p l e R s m args below meth c T' h' (locs ++ L) (cells + rm.cells) (slots + rm.slots) → own_Go p e below K (T'.setTop (mkF m pc' Ls (v.toList ++ rest)))) :
    own_Go p e below K (T.setTop (mkF m pc Ls st)) := by
  subst hp
  obtain ⟨v, _, ⟨T3, L3, k3, n3⟩, -, X3, ⟨Lc3, hQ3, l3, y3, z3⟩, st3⟩ := P.st.specialBack P.ex (y := y) hy1 P.ow (mvT P.wz wl) (mvT P.wz wm) (mvT P.wz wc) hy (backOf (W := W) hM P.wz wc wi hf hl) (g := (mkF m pc Ls st)) rfl (by rw [P.ml]; exact hsz) (Steps.refl _) (a := a) (argsL := argsL) (rest := rest) (lenOf hdes hlen) hst (by show 2 * 0 + _ ≤ _; rw [hW]; exact Nat.le_of_eq (by simp)) (P.cd hd) (fun _ _ => ⟨rfl, P.hp, hc, hs⟩)
  dsimp only [Pt.U, Pt.locs, Pt.cells, Pt.slots] at X3 l3 y3 z3 st3 hQ3
  subst l3 y3 z3
  exact own_st (fun t q => st3.trans q) (k T3 T3.heap v Lc3 hQ3 (P.move X3 rfl))
theorem own_virt (P : own_S Z own nm bytes mx rt p l e R s m args below meth c T h locs cells slots) {idx : Nat} {C : String} {y : MethodName} {by' : ByteArray} {mx' : Nat} {rt' : Option FieldType} {rm : Room} {Q : Option Value → Heap → List Loc → Prop} {a : Addr} {argsL st : List Value} {ps : List FieldType} {rr : Option FieldType}
    (wl : (Cond.methodLink own idx y).before a0 Z = true) (wd : (Cond.declares y).before a0 Z = true) (wsel : (Cond.selects C y y).before a0 Z = true) (wm : (Cond.instanceMethod y).before a0 Z = true) (wi : (Cond.initialized y.cls).before a0 Z = true) (wc : (Cond.code y by' mx' rt').before a0 Z = true) (hy : y.cls ≠ "java/lang/invoke/MethodHandle" ∧ y.cls ≠ "java/lang/invoke/VarHandle") (E : Exa Z h a C)
    (hM : own_Con l Z y by' mx' rt' [] rm (.ref a :: argsL).toArray h Q) (hd : decode bytes pc = .ok (.invokevirtual idx, 3)) (hp : pc + 3 = pc') (hdes : parseMethodDescriptor y.desc = some ⟨ps, rr⟩) (hlen : argsL.length = ps.length) (hsz : Ls.size = mx) (hst : st = argsL.reverse ++ .ref a :: rest)
    (hf : rm.frames + 1 ≤ R.frames) (W : Nat) (hW : (rest.map fun v => v.category).sum = W) (hl : W + (mx' + 11) + rm.locals ≤ R.locals) (hc : cells + rm.cells ≤ R.cells) (hs : slots + rm.slots ≤ R.slots)
    (k : ∀ T' h' v L, Q v h' L → own_S Z own nm bytes mx rt p l e R s m args below meth c T' h' (locs ++ L) (cells + rm.cells) (slots + rm.slots) → own_Go p e below K (T'.setTop (mkF m pc' Ls (v.toList ++ rest)))) :
    own_Go p e below K (T.setTop (mkF m pc Ls st)) := by
  subst hp
  obtain ⟨cq, kq, qa, qb, qc⟩ := isOf P.wz P.hp E
  obtain ⟨v, _, ⟨T3, L3, k3, n3⟩, -, X3, ⟨Lc3, hQ3, l3, y3, z3⟩, st3⟩ := P.st.virtualBack P.ex (y := y) (z := y) P.ow (mvT P.wz wl) (mvT P.wz wd) (notFace_of_selects (args := #[]) (mvT P.wz wsel)) (mvT P.wz wsel) (mvT P.wz wm) hy (backOf (W := W) hM P.wz wc wi hf hl) qa qc (g := (mkF m pc Ls st)) rfl (by rw [P.ml]; exact hsz) (Steps.refl _) (argsL := argsL) (rest := rest) (lenOf hdes hlen) hst (by show 2 * 0 + _ ≤ _; rw [hW]; exact Nat.le_of_eq (by simp)) (P.cd hd) (fun _ _ => ⟨rfl, P.hp, hc, hs⟩)
  dsimp only [Pt.U, Pt.locs, Pt.cells, Pt.slots] at X3 l3 y3 z3 st3 hQ3
  subst l3 y3 z3
  exact own_st (fun t q => st3.trans q) (k T3 T3.heap v Lc3 hQ3 (P.move X3 rfl))
theorem own_initP (P : own_S Z own nm bytes mx rt p l e R s m args below meth c T h locs cells slots) {idx : Nat} {y : MethodName} {by' : ByteArray} {mx' : Nat} {rm : Room} {v : Option Value} {a : Addr} {argsL st : List Value} {ps : List FieldType} {rr : Option FieldType} (hy1 : y.name = "<init>")
    (wl : (Cond.methodLink own idx y).before a0 Z = true) (wm : (Cond.instanceMethod y).before a0 Z = true) (wi : (Cond.initialized y.cls).before a0 Z = true) (wc : (Cond.code y by' mx' none).before a0 Z = true) (hy : y.cls ≠ "java/lang/invoke/MethodHandle" ∧ y.cls ≠ "java/lang/invoke/VarHandle")
    (hM : own_Con l Z y by' mx' none [] rm (.ref a :: argsL).toArray h (own_P v h)) (hd : decode bytes pc = .ok (.invokespecial idx, 3)) (hp : pc + 3 = pc') (hdes : parseMethodDescriptor y.desc = some ⟨ps, rr⟩) (hlen : argsL.length = ps.length) (hsz : Ls.size = mx) (hst : st = argsL.reverse ++ .ref a :: rest)
    (hf : rm.frames + 1 ≤ R.frames) (W : Nat) (hW : (rest.map fun v => v.category).sum = W) (hl : W + (mx' + 11) + rm.locals ≤ R.locals) (hc : rm.cells = 0) (hs : rm.slots = 0) (hcc : cells ≤ R.cells) (hss : slots ≤ R.slots)
    (k : ∀ T', own_S Z own nm bytes mx rt p l e R s m args below meth c T' h locs cells slots → own_Go p e below K (T'.setTop (mkF m pc' Ls (v.toList ++ rest)))) :
    own_Go p e below K (T.setTop (mkF m pc Ls st)) := by
  refine own_init P hy1 wl wm wi wc hy hM hd hp hdes hlen hsz hst hf W hW hl (by rw [hc]; exact hcc) (by rw [hs]; exact hss) fun T' h' v' L hQ P' => ?_
  obtain ⟨rfl, rfl, rfl⟩ := hQ
  rw [hc, hs, List.append_nil] at P'
  exact k T' P'
theorem own_virtP (P : own_S Z own nm bytes mx rt p l e R s m args below meth c T h locs cells slots) {idx : Nat} {C : String} {y : MethodName} {by' : ByteArray} {mx' : Nat} {rt' : Option FieldType} {rm : Room} {v : Option Value} {a : Addr} {argsL st : List Value} {ps : List FieldType} {rr : Option FieldType}
    (wl : (Cond.methodLink own idx y).before a0 Z = true) (wd : (Cond.declares y).before a0 Z = true) (wsel : (Cond.selects C y y).before a0 Z = true) (wm : (Cond.instanceMethod y).before a0 Z = true) (wi : (Cond.initialized y.cls).before a0 Z = true) (wc : (Cond.code y by' mx' rt').before a0 Z = true) (hy : y.cls ≠ "java/lang/invoke/MethodHandle" ∧ y.cls ≠ "java/lang/invoke/VarHandle") (E : Exa Z h a C)
    (hM : own_Con l Z y by' mx' rt' [] rm (.ref a :: argsL).toArray h (own_P v h)) (hd : decode bytes pc = .ok (.invokevirtual idx, 3)) (hp : pc + 3 = pc') (hdes : parseMethodDescriptor y.desc = some ⟨ps, rr⟩) (hlen : argsL.length = ps.length) (hsz : Ls.size = mx) (hst : st = argsL.reverse ++ .ref a :: rest)
    (hf : rm.frames + 1 ≤ R.frames) (W : Nat) (hW : (rest.map fun v => v.category).sum = W) (hl : W + (mx' + 11) + rm.locals ≤ R.locals) (hc : rm.cells = 0) (hs : rm.slots = 0) (hcc : cells ≤ R.cells) (hss : slots ≤ R.slots)
    (k : ∀ T', own_S Z own nm bytes mx rt p l e R s m args below meth c T' h locs cells slots → own_Go p e below K (T'.setTop (mkF m pc' Ls (v.toList ++ rest)))) :
    own_Go p e below K (T.setTop (mkF m pc Ls st)) := by
  refine own_virt P wl wd wsel wm wi wc hy E hM hd hp hdes hlen hsz hst hf W hW hl (by rw [hc]; exact hcc) (by rw [hs]; exact hss) fun T' h' v' L hQ P' => ?_
  obtain ⟨rfl, rfl, rfl⟩ := hQ
  rw [hc, hs, List.append_nil] at P'
  exact k T' P'
/-- an array of ints (chars, bytes) that holds just the list vs -/
def own_Ar (Z : State) (h : Heap) (a : Addr) (ty : FieldType) (vs : List Int32) : Prop := ∃ c : Cell, Arr Z h a c ty ∧ c.slots = (vs.map Value.int).toArray
theorem own_Ar.lt {a : Addr} {ty : FieldType} {vs : List Int32} (A : own_Ar Z h a ty vs) : a < h.size := by obtain ⟨c, q, -⟩ := A; exact q.lt
theorem own_Ar.ext {h' : Heap} {a : Addr} {ty : FieldType} {vs : List Int32} (A : own_Ar Z h a ty vs) (E : Ext h h') : own_Ar Z h' a ty vs := by obtain ⟨c, q, r⟩ := A; exact ⟨c, q.ext E, r⟩
theorem own_Ar.other {h' : Heap} {a b : Addr} {ty : FieldType} {vs : List Int32} {sl : Nat} {v : Value} (A : own_Ar Z h b ty vs) (W : Wr h h' a sl v) (ne : b ≠ a) : own_Ar Z h' b ty vs := by obtain ⟨c, q, r⟩ := A; exact ⟨c, q.other W ne, r⟩
theorem own_Ar.keep {h' : Heap} {a : Addr} {ty : FieldType} {vs : List Int32} {ws : List Addr} (A : own_Ar Z h a ty vs) (Kp : Keep h h' ws) (ne : a ∉ ws) : own_Ar Z h' a ty vs := by obtain ⟨c, q, r⟩ := A; exact ⟨c, ⟨Kp.2.1 a c q.1 ne, q.2⟩, r⟩
theorem own_Ar.set {h' : Heap} {a : Addr} {ty : FieldType} {vs : List Int32} {j : Nat} {x : Int32} (A : own_Ar Z h a ty vs) (W : Wr h h' a j (.int x)) : own_Ar Z h' a ty (vs.set j x) := by
  obtain ⟨c, q, r⟩ := A
  refine ⟨_, q.same W, ?_⟩
  simp only [Cell.setSlot]
  rw [r]
  simp
theorem own_arrNew (P : own_S Z own nm bytes mx rt p l e R s m args below meth c T h locs cells slots) {aty : ArrayType} {ty : FieldType} {n : Int32} (cap : Nat) (wa : (Cond.arrayClass ty).before a0 Z = true) (ht : newarray.typeOf aty = ty) (hdv : defaultValue ty = .int 0) (hd : decode bytes pc = .ok (.newarray aty, 2)) (hp : pc + 2 = pc') (hn : 0 ≤ n.toInt) (hcap : n.toInt.toNat ≤ cap) (hb : cap * 8 ≤ 536870912) (hc : cells + 1 ≤ R.cells) (hl : slots + cap ≤ R.slots)
    (k : ∀ (T' : State) (h' : Heap) (a : Addr), a = h.size → Ext h h' → own_Ar Z h' a ty (List.replicate n.toInt.toNat 0) → own_S Z own nm bytes mx rt p l e R s m args below meth c T' h' locs (cells + 1) (slots + cap) → own_Go p e below K (T'.setTop (mkF m pc' Ls (.ref a :: rest)))) :
    own_Go p e below K (T.setTop (mkF m pc Ls (.int n :: rest))) := by
  subst hp ht
  have hn' : ¬ n < 0 := by rw [Int32.lt_iff_toInt_lt]; exact Int.not_lt.mpr hn
  obtain ⟨T2, h2, cA, X2, e2, E2, A2, st2⟩ := newP P.st P.ex P.wz (aty := aty) wa P.hp (g := mkF m pc Ls (.int n :: rest)) rfl (P.cd hd) rfl hn' (cap := cap) hcap hb hc hl
  refine own_st st2 (k T2 h2 h.size rfl E2 ⟨_, A2, ?_⟩ (P.move X2 e2))
  show Array.replicate n.toNatClampNeg (defaultValue _) = _
  rw [hdv]
  show Array.replicate n.toInt.toNat (Value.int 0) = _
  simp
theorem own_arrIn {a : Addr} {ty : FieldType} {vs : List Int32} {c : Cell} {j : Int32} (r : c.slots = (vs.map Value.int).toArray) (h1 : 0 ≤ j.toInt) (h2 : j.toInt.toNat < vs.length) : ¬ (j < 0 ∨ c.slots.size ≤ j.toNatClampNeg) := by
  rintro (q | q)
  · rw [Int32.lt_iff_toInt_lt] at q
    have z : (0 : Int32).toInt = 0 := rfl
    omega
  · rw [r] at q
    simp only [List.size_toArray, List.length_map, Int32.toNatClampNeg] at q
    omega
theorem own_arrAt {vs : List Int32} {c : Cell} {j x : Int32} (r : c.slots = (vs.map Value.int).toArray) (h2 : j.toInt.toNat < vs.length) (hx : vs.getD j.toInt.toNat 0 = x) : c.slots[j.toNatClampNeg]? = some (.int x) := by
  subst hx
  rw [r]
  show (vs.map Value.int).toArray[j.toInt.toNat]? = _
  rw [List.getElem?_toArray, List.getElem?_map, List.getD_eq_getElem?_getD, List.getElem?_eq_getElem h2]
  rfl
theorem own_alen (P : own_S Z own nm bytes mx rt p l e R s m args below meth c T h locs cells slots) {a : Addr} {ty : FieldType} {vs : List Int32} {v : Int32} (A : own_Ar Z h a ty vs) (hd : decode bytes pc = .ok (.arraylength, 1)) (hp : pc + 1 = pc') (hv : Int32.ofNat vs.length = v)
    (k : own_Go p e below K (T.setTop (mkF m pc' Ls (.int v :: rest)))) : own_Go p e below K (T.setTop (mkF m pc Ls (.ref a :: rest))) := by
  subst hp hv
  obtain ⟨c, q, r⟩ := A
  have hsz : c.slots.size.toInt32 = Int32.ofNat vs.length := by rw [r]; simp
  refine own_st (fun t kk => P.st.arraylength P.ex (cell := c) (by rw [P.hp]; exact q.1) (State.isArrayOf_alike P.wz.alike q.2.1) (g := mkF m pc Ls (.ref a :: rest)) rfl (rest := rest) rfl (P.cd hd) t ?_) k
  rw [hsz]
  exact kk
theorem own_iaload (P : own_S Z own nm bytes mx rt p l e R s m args below meth c T h locs cells slots) {a : Addr} {vs : List Int32} {j x : Int32} (A : own_Ar Z h a .int vs) (hd : decode bytes pc = .ok (.iaload, 1)) (hp : pc + 1 = pc') (h1 : 0 ≤ j.toInt) (h2 : j.toInt.toNat < vs.length) (hx : vs.getD j.toInt.toNat 0 = x)
    (k : own_Go p e below K (T.setTop (mkF m pc' Ls (.int x :: rest)))) : own_Go p e below K (T.setTop (mkF m pc Ls (.int j :: .ref a :: rest))) := by
  subst hp
  obtain ⟨c, q, r⟩ := A
  exact own_st (fun t kk => P.st.iaload P.ex (j := j) (v := .int x) (by rw [P.hp]; exact q.1) (State.isArrayOf_alike P.wz.alike q.2.1) q.2.2 (own_arrIn (a := a) (ty := .int) r h1 h2) (own_arrAt r h2 hx) (g := mkF m pc Ls (.int j :: .ref a :: rest)) rfl rfl (P.cd hd) t kk) k
theorem own_caload (P : own_S Z own nm bytes mx rt p l e R s m args below meth c T h locs cells slots) {a : Addr} {vs : List Int32} {j x : Int32} (A : own_Ar Z h a .char vs) (hd : decode bytes pc = .ok (.caload, 1)) (hp : pc + 1 = pc') (h1 : 0 ≤ j.toInt) (h2 : j.toInt.toNat < vs.length) (hx : vs.getD j.toInt.toNat 0 = x)
    (k : own_Go p e below K (T.setTop (mkF m pc' Ls (.int x :: rest)))) : own_Go p e below K (T.setTop (mkF m pc Ls (.int j :: .ref a :: rest))) := by
  subst hp
  obtain ⟨c, q, r⟩ := A
  exact own_st (fun t kk => P.st.caload P.ex (j := j) (v := .int x) (by rw [P.hp]; exact q.1) (State.isArrayOf_alike P.wz.alike q.2.1) q.2.2 (own_arrIn (a := a) (ty := .char) r h1 h2) (own_arrAt r h2 hx) (g := mkF m pc Ls (.int j :: .ref a :: rest)) rfl rfl (P.cd hd) t kk) k
theorem own_baload (P : own_S Z own nm bytes mx rt p l e R s m args below meth c T h locs cells slots) {a : Addr} {vs : List Int32} {j x : Int32} (A : own_Ar Z h a .byte vs) (hd : decode bytes pc = .ok (.baload, 1)) (hp : pc + 1 = pc') (h1 : 0 ≤ j.toInt) (h2 : j.toInt.toNat < vs.length) (hx : vs.getD j.toInt.toNat 0 = x)
    (k : own_Go p e below K (T.setTop (mkF m pc' Ls (.int x :: rest)))) : own_Go p e below K (T.setTop (mkF m pc Ls (.int j :: .ref a :: rest))) := by
  subst hp
  obtain ⟨c, q, r⟩ := A
  exact own_st (fun t kk => P.st.baloadBytes P.ex (j := j) (v := .int x) (by rw [P.hp]; exact q.1) (State.isArrayOf_alike P.wz.alike q.2.1) q.2.2 (own_arrIn (a := a) (ty := .byte) r h1 h2) (own_arrAt r h2 hx) (g := mkF m pc Ls (.int j :: .ref a :: rest)) rfl rfl (P.cd hd) t kk) k
theorem own_iastore (P : own_S Z own nm bytes mx rt p l e R s m args below meth c T h locs cells slots) {a : Addr} {vs : List Int32} {j x z : Int32} (A : own_Ar Z h a .int vs) (hd : decode bytes pc = .ok (.iastore, 1)) (hp : pc + 1 = pc') (h1 : 0 ≤ j.toInt) (h2 : j.toInt.toNat < vs.length) (hz : x = z)
    (k : ∀ (T' : State) (h' : Heap), Wr h h' a j.toInt.toNat (.int z) → own_Ar Z h' a .int (vs.set j.toInt.toNat z) → own_S Z own nm bytes mx rt p l e R s m args below meth c T' h' (locs ++ [⟨a, j.toInt.toNat⟩]) cells slots → own_Go p e below K (T'.setTop (mkF m pc' Ls rest))) : own_Go p e below K (T.setTop (mkF m pc Ls (.int x :: .int j :: .ref a :: rest))) := by
  subst hp hz
  have A' := A
  obtain ⟨c, q, r⟩ := A'
  obtain ⟨T2, h2', X2, e2, W2, st2⟩ := stI P.st P.ex P.wz P.hp q (j := j) (own_arrIn (a := a) (ty := .int) r h1 h2) (g := mkF m pc Ls (.int x :: .int j :: .ref a :: rest)) rfl rfl (P.cd hd)
  exact own_st st2 (k T2 h2' W2 (A.set W2) (P.move X2 e2))
theorem own_castore (P : own_S Z own nm bytes mx rt p l e R s m args below meth c T h locs cells slots) {a : Addr} {vs : List Int32} {j x z : Int32} (A : own_Ar Z h a .char vs) (hd : decode bytes pc = .ok (.castore, 1)) (hp : pc + 1 = pc') (h1 : 0 ≤ j.toInt) (h2 : j.toInt.toNat < vs.length) (hz : nar .char x = z)
    (k : ∀ (T' : State) (h' : Heap), Wr h h' a j.toInt.toNat (.int z) → own_Ar Z h' a .char (vs.set j.toInt.toNat z) → own_S Z own nm bytes mx rt p l e R s m args below meth c T' h' (locs ++ [⟨a, j.toInt.toNat⟩]) cells slots → own_Go p e below K (T'.setTop (mkF m pc' Ls rest))) : own_Go p e below K (T.setTop (mkF m pc Ls (.int x :: .int j :: .ref a :: rest))) := by
  subst hp hz
  have A' := A
  obtain ⟨c, q, r⟩ := A'
  obtain ⟨T2, h2', X2, e2, W2, st2⟩ := stC P.st P.ex P.wz P.hp q (j := j) (own_arrIn (a := a) (ty := .char) r h1 h2) (g := mkF m pc Ls (.int x :: .int j :: .ref a :: rest)) rfl rfl (P.cd hd)
  exact own_st st2 (k T2 h2' W2 (A.set W2) (P.move X2 e2))
theorem own_bastore (P : own_S Z own nm bytes mx rt p l e R s m args below meth c T h locs cells slots) {a : Addr} {vs : List Int32} {j x z : Int32} (A : own_Ar Z h a .byte vs) (hd : decode bytes pc = .ok (.bastore, 1)) (hp : pc + 1 = pc') (h1 : 0 ≤ j.toInt) (h2 : j.toInt.toNat < vs.length) (hz : nar .byte x = z)
    (k : ∀ (T' : State) (h' : Heap), Wr h h' a j.toInt.toNat (.int z) → own_Ar Z h' a .byte (vs.set j.toInt.toNat z) → own_S Z own nm bytes mx rt p l e R s m args below meth c T' h' (locs ++ [⟨a, j.toInt.toNat⟩]) cells slots → own_Go p e below K (T'.setTop (mkF m pc' Ls rest))) : own_Go p e below K (T.setTop (mkF m pc Ls (.int x :: .int j :: .ref a :: rest))) := by
  subst hp hz
  have A' := A
  obtain ⟨c, q, r⟩ := A'
  obtain ⟨T2, h2', X2, e2, W2, st2⟩ := stB P.st P.ex P.wz P.hp q (j := j) (own_arrIn (a := a) (ty := .byte) r h1 h2) (g := mkF m pc Ls (.int x :: .int j :: .ref a :: rest)) rfl rfl (P.cd hd)
  exact own_st st2 (k T2 h2' W2 (A.set W2) (P.move X2 e2))
end OwnHeap
section OwnRel
variable {p : Program} {l : Launch} {e : Env} {R : Room} {s : State} {m : MethodId} {args : Array Value} {below : List Frame} {meth : Method} {c : Code} {T : State} {h : Heap} {locs : List Loc} {cells slots : Nat} {Z : State} {a0 : Array Value} {own nm : String} {bytes : ByteArray} {mx : Nat} {rt : Option FieldType} {K : State → Outcome → Prop} {pc pc' : Nat} {Ls : Array Slot} {rest : List Value}
theorem own_priv (P : own_S Z own nm bytes mx rt p l e R s m args below meth c T h locs cells slots) {idx kk : Nat} {y : MethodName} {by' : ByteArray} {mx' : Nat} {rt' : Option FieldType} {rm : Room} {Q : Option Value → Heap → List Loc → Prop} {a : Addr} {argsL st : List Value} {ps : List FieldType} {rr : Option FieldType}
    (wl : (Cond.methodLink own idx y).before a0 Z = true) (wm : (Cond.instanceMethod y).before a0 Z = true) (wp : (Cond.privateMethod y).before a0 Z = true) (wk : (Cond.instantiable y.cls kk).before a0 Z = true) (wi : (Cond.initialized y.cls).before a0 Z = true) (wc : (Cond.code y by' mx' rt').before a0 Z = true) (hy : y.cls ≠ "java/lang/invoke/MethodHandle" ∧ y.cls ≠ "java/lang/invoke/VarHandle") (E : Exa Z h a y.cls)
    (hM : own_Con l Z y by' mx' rt' [] rm (.ref a :: argsL).toArray h Q) (hd : decode bytes pc = .ok (.invokevirtual idx, 3)) (hp : pc + 3 = pc') (hdes : parseMethodDescriptor y.desc = some ⟨ps, rr⟩) (hlen : argsL.length = ps.length) (hsz : Ls.size = mx) (hst : st = argsL.reverse ++ .ref a :: rest)
    (hf : rm.frames + 1 ≤ R.frames) (W : Nat) (hW : (rest.map fun v => v.category).sum = W) (hl : W + (mx' + 11) + rm.locals ≤ R.locals) (hc : cells + rm.cells ≤ R.cells) (hs : slots + rm.slots ≤ R.slots)
    (k : ∀ T' h' v L, Q v h' L → own_S Z own nm bytes mx rt p l e R s m args below meth c T' h' (locs ++ L) (cells + rm.cells) (slots + rm.slots) → own_Go p e below K (T'.setTop (mkF m pc' Ls (v.toList ++ rest)))) :
    own_Go p e below K (T.setTop (mkF m pc Ls st)) := by
  subst hp
  obtain ⟨cell, q1, q2⟩ := E.cell
  have hpr : s.PrivateAt y := Cond.privateMethod_at (mvP P.wz wp (args := #[]))
  have hsel : (Cond.selects y.cls y y).before args s = true := by
    have wk' : (Cond.instantiable y.cls kk).before args s = true := mvT P.wz wk
    obtain ⟨cc, k, h1, h2, -, h4, -⟩ := Cond.instantiable_spec wk'
    exact Jvm.Stand.selects_self_of_private h1 h2 (Bool.or_eq_false_iff.mp h4).1 hpr (mvT P.wz wm) hy
  obtain ⟨v, _, ⟨T3, L3, k3, n3⟩, -, X3, ⟨Lc3, hQ3, l3, y3, z3⟩, st3⟩ := P.st.privateBack P.ex (y := y) P.ow (mvT P.wz wl) (mvT P.wz wm) hsel hpr (mvT P.wz wc) hy (backOf (W := W) hM P.wz wc wi hf hl) (g := (mkF m pc Ls st)) rfl (by rw [P.ml]; exact hsz) (Steps.refl _) (a := a) (by rw [P.hp]; exact q1) q2 (argsL := argsL) (rest := rest) (lenOf hdes hlen) hst (by show 2 * 0 + _ ≤ _; rw [hW]; exact Nat.le_of_eq (by simp)) (P.cd hd) (fun _ _ => ⟨rfl, P.hp, hc, hs⟩)
  dsimp only [Pt.U, Pt.locs, Pt.cells, Pt.slots] at X3 l3 y3 z3 st3 hQ3
  subst l3 y3 z3
  exact own_st (fun t q => st3.trans q) (k T3 T3.heap v Lc3 hQ3 (P.move X3 rfl))
theorem own_privP (P : own_S Z own nm bytes mx rt p l e R s m args below meth c T h locs cells slots) {idx kk : Nat} {y : MethodName} {by' : ByteArray} {mx' : Nat} {rt' : Option FieldType} {rm : Room} {v : Option Value} {a : Addr} {argsL st : List Value} {ps : List FieldType} {rr : Option FieldType}
    (wl : (Cond.methodLink own idx y).before a0 Z = true) (wm : (Cond.instanceMethod y).before a0 Z = true) (wp : (Cond.privateMethod y).before a0 Z = true) (wk : (Cond.instantiable y.cls kk).before a0 Z = true) (wi : (Cond.initialized y.cls).before a0 Z = true) (wc : (Cond.code y by' mx' rt').before a0 Z = true) (hy : y.cls ≠ "java/lang/invoke/MethodHandle" ∧ y.cls ≠ "java/lang/invoke/VarHandle") (E : Exa Z h a y.cls)
    (hM : own_Con l Z y by' mx' rt' [] rm (.ref a :: argsL).toArray h (own_P v h)) (hd : decode bytes pc = .ok (.invokevirtual idx, 3)) (hp : pc + 3 = pc') (hdes : parseMethodDescriptor y.desc = some ⟨ps, rr⟩) (hlen : argsL.length = ps.length) (hsz : Ls.size = mx) (hst : st = argsL.reverse ++ .ref a :: rest)
    (hf : rm.frames + 1 ≤ R.frames) (W : Nat) (hW : (rest.map fun v => v.category).sum = W) (hl : W + (mx' + 11) + rm.locals ≤ R.locals) (hc : rm.cells = 0) (hs : rm.slots = 0) (hcc : cells ≤ R.cells) (hss : slots ≤ R.slots)
    (k : ∀ T', own_S Z own nm bytes mx rt p l e R s m args below meth c T' h locs cells slots → own_Go p e below K (T'.setTop (mkF m pc' Ls (v.toList ++ rest)))) :
    own_Go p e below K (T.setTop (mkF m pc Ls st)) := by
  refine own_priv P wl wm wp wk wi wc hy E hM hd hp hdes hlen hsz hst hf W hW hl (by rw [hc]; exact hcc) (by rw [hs]; exact hss) fun T' h' v' L hQ P' => ?_
  obtain ⟨rfl, rfl, rfl⟩ := hQ
  rw [hc, hs, List.append_nil] at P'
  exact k T' P'
theorem own_nullY (P : own_S Z own nm bytes mx rt p l e R s m args below meth c T h locs cells slots) {o : Int} (hd : decode bytes pc = .ok (.ifnull o, 3)) (ho : 0 ≤ (pc : Int) + o) (hp : ((pc : Int) + o).toNat = pc')
    (k : own_Go p e below K (T.setTop (mkF m pc' Ls rest))) : own_Go p e below K (T.setTop (mkF m pc Ls (.null :: rest))) := own_st (fun t k => XS.ifnullYes P.st.here P.ex rfl rfl (P.cd hd) rfl ho hp k) k
theorem own_nullN (P : own_S Z own nm bytes mx rt p l e R s m args below meth c T h locs cells slots) {o : Int} {a : Addr} (hd : decode bytes pc = .ok (.ifnull o, 3)) (hp : pc + 3 = pc')
    (k : own_Go p e below K (T.setTop (mkF m pc' Ls rest))) : own_Go p e below K (T.setTop (mkF m pc Ls (.ref a :: rest))) := by
  subst hp
  exact own_st (fun t k => XS.ifnullNo P.st.here P.ex rfl (P.cd hd) rfl k) k
theorem own_nnY (P : own_S Z own nm bytes mx rt p l e R s m args below meth c T h locs cells slots) {o : Int} {a : Addr} (hd : decode bytes pc = .ok (.ifnonnull o, 3)) (ho : 0 ≤ (pc : Int) + o) (hp : ((pc : Int) + o).toNat = pc')
    (k : own_Go p e below K (T.setTop (mkF m pc' Ls rest))) : own_Go p e below K (T.setTop (mkF m pc Ls (.ref a :: rest))) := own_st (fun t k => XS.ifnonnullYes P.st.here P.ex rfl rfl (P.cd hd) rfl ho hp k) k
theorem own_nnN (P : own_S Z own nm bytes mx rt p l e R s m args below meth c T h locs cells slots) {o : Int} (hd : decode bytes pc = .ok (.ifnonnull o, 3)) (hp : pc + 3 = pc')
    (k : own_Go p e below K (T.setTop (mkF m pc' Ls rest))) : own_Go p e below K (T.setTop (mkF m pc Ls (.null :: rest))) := by
  subst hp
  exact own_st (fun t k => XS.ifnonnullNo P.st.here P.ex rfl (P.cd hd) rfl k) k
theorem own_dup2 (P : own_S Z own nm bytes mx rt p l e R s m args below meth c T h locs cells slots) {u v : Value} (hd : decode bytes pc = .ok (.dup2, 1)) (hp : pc + 1 = pc') (hc : v.category = 1) (hc' : u.category = 1)
    (k : own_Go p e below K (T.setTop (mkF m pc' Ls (v :: u :: v :: u :: rest)))) : own_Go p e below K (T.setTop (mkF m pc Ls (v :: u :: rest))) := by
  subst hp
  exact own_st (fun t k => Jvm.Free.XT.dup2 P.st.here P.ex rfl (P.cd hd) rfl hc hc' k) k
theorem own_dupX2 (P : own_S Z own nm bytes mx rt p l e R s m args below meth c T h locs cells slots) {u v z : Value} (hd : decode bytes pc = .ok (.dup_x2, 1)) (hp : pc + 1 = pc') (hc : v.category = 1) (hc' : u.category = 1) (hc2 : z.category = 1)
    (k : own_Go p e below K (T.setTop (mkF m pc' Ls (v :: u :: z :: v :: rest)))) : own_Go p e below K (T.setTop (mkF m pc Ls (v :: u :: z :: rest))) := by
  subst hp
  have hx := P.ex
  have hd' := P.cd hd
  refine own_st (fun t kk => ?_) k
  show Steps p.tables e below (T.setTop { method := m, pc := pc, locals := Ls, stack := v :: u :: z :: rest, locked := none }) _
  jvm_step P.st.here [P.st.here.top, hx, hd', hc, hc', hc2, Op.dup_x2.wp_sem]
  exact kk
/-- an array of references that holds one null -/
def own_Nl (Z : State) (h : Heap) (a : Addr) (ty : FieldType) : Prop := ∃ c : Cell, Arr Z h a c ty ∧ c.slots = #[.null]
theorem own_Nl.lt {a : Addr} {ty : FieldType} (A : own_Nl Z h a ty) : a < h.size := by obtain ⟨c, q, -⟩ := A; exact q.lt
theorem own_Nl.ext {h' : Heap} {a : Addr} {ty : FieldType} (A : own_Nl Z h a ty) (E : Ext h h') : own_Nl Z h' a ty := by obtain ⟨c, q, r⟩ := A; exact ⟨c, q.ext E, r⟩
theorem own_Nl.other {h' : Heap} {a b : Addr} {ty : FieldType} {sl : Nat} {v : Value} (A : own_Nl Z h b ty) (W : Wr h h' a sl v) (ne : b ≠ a) : own_Nl Z h' b ty := by obtain ⟨c, q, r⟩ := A; exact ⟨c, q.other W ne, r⟩
theorem own_Nl.keep {h' : Heap} {a : Addr} {ty : FieldType} {ws : List Addr} (A : own_Nl Z h a ty) (Kp : Keep h h' ws) (ne : a ∉ ws) : own_Nl Z h' a ty := by obtain ⟨c, q, r⟩ := A; exact ⟨c, ⟨Kp.2.1 a c q.1 ne, q.2⟩, r⟩
theorem own_anew (P : own_S Z own nm bytes mx rt p l e R s m args below meth c T h locs cells slots) {idx : Nat} {C : String} {n : Int32} (wl : (Cond.classLink own idx C).before a0 Z = true) (wo : (Cond.arrayOver (.object C)).before a0 Z = true) (hd : decode bytes pc = .ok (.anewarray idx, 3)) (hp : pc + 3 = pc') (hn : n = 1) (hc : cells + 1 ≤ R.cells) (hl : slots + 1 ≤ R.slots)
    (k : ∀ (T' : State) (h' : Heap) (a : Addr), a = h.size → Ext h h' → own_Nl Z h' a (.object C) → own_S Z own nm bytes mx rt p l e R s m args below meth c T' h' locs (cells + 1) (slots + 1) → own_Go p e below K (T'.setTop (mkF m pc' Ls (.ref a :: rest)))) :
    own_Go p e below K (T.setTop (mkF m pc Ls (.int n :: rest))) := by
  subst hp hn
  obtain ⟨T2, h2, cA, X2, e2, E2, A2, -, st2⟩ := newR P.st P.ex P.wz P.ow wl wo P.hp (g := mkF m pc Ls (.int 1 :: rest)) rfl (P.cd hd) rfl (by decide) (cap := 1) (by decide) (by decide) hc hl
  refine own_st st2 (k T2 h2 h.size rfl E2 ⟨_, A2, ?_⟩ (P.move X2 e2))
  rfl
theorem own_aaloadN (P : own_S Z own nm bytes mx rt p l e R s m args below meth c T h locs cells slots) {a : Addr} {ty : FieldType} {j : Int32} (A : own_Nl Z h a ty) (ht : ty.isReference = true) (hd : decode bytes pc = .ok (.aaload, 1)) (hp : pc + 1 = pc') (hj : j = 0)
    (k : own_Go p e below K (T.setTop (mkF m pc' Ls (.null :: rest)))) : own_Go p e below K (T.setTop (mkF m pc Ls (.int j :: .ref a :: rest))) := by
  subst hp hj
  obtain ⟨c, q, r⟩ := A
  refine own_st (fun t kk => P.st.aaload P.ex (j := 0) (v := .null) (by rw [P.hp]; exact q.1) (State.isArrayOf_alike P.wz.alike q.2.1) ht q.2.2 ?_ ?_ (g := mkF m pc Ls (.int 0 :: .ref a :: rest)) rfl rfl (P.cd hd) t kk) k
  · rw [r]; decide
  · rw [r]; rfl
theorem own_Ar.arv {a : Addr} {vs : List Int32} (A : own_Ar Z h a .int vs) (hl : vs.length < 2147483648) : ∃ kk, Arv Z h a kk .int (Int32.ofNat vs.length) (vs.map Value.int) (.int 0) := by
  obtain ⟨c, q, r⟩ := A
  have hon : (Int32.ofNat vs.length).toInt = vs.length := Int32.toInt_ofNat_of_lt (by omega)
  refine ⟨c.cls, c, q, rfl, ?_, ?_, ?_, ?_⟩
  · rw [r]
    simp only [List.size_toArray, List.length_map, Int32.toNatClampNeg, hon]
    omega
  · rw [Int32.lt_iff_toInt_lt, hon, show (0 : Int32).toInt = 0 by decide]; omega
  · intro k hk
    rw [r] at hk ⊢
    simp only [List.size_toArray] at hk
    simp [List.getD_eq_getElem?_getD, List.getElem?_eq_getElem hk]
  · intro i hi
    rw [r] at hi
    simp only [List.size_toArray, List.length_map] at hi
    rw [List.getD_eq_getElem?_getD, List.getElem?_map, List.getElem?_eq_getElem hi]
    rfl
theorem own_Ar.of_arv {a : Addr} {kk : ClassId} {vs : List Int32} (A : Arv Z h a kk .int (Int32.ofNat vs.length) (vs.map Value.int) (.int 0)) (hl : vs.length < 2147483648) : own_Ar Z h a .int vs := by
  obtain ⟨c, q, -, hsz, -, hh, -⟩ := A
  have hon : (Int32.ofNat vs.length).toInt = vs.length := Int32.toInt_ofNat_of_lt (by omega)
  have hsz' : c.slots.size = vs.length := by rw [hsz, Int32.toNatClampNeg, hon]; omega
  refine ⟨c, q, ?_⟩
  apply Array.ext_getElem?
  intro i
  by_cases hi : i < c.slots.size
  · rw [hh i hi]
    have hi' : i < vs.length := by omega
    simp [List.getD_eq_getElem?_getD, hi']
  · rw [Array.getElem?_eq_none (by omega), Array.getElem?_eq_none (by simp; omega)]
/-- arraycopy of one int -/
theorem own_acopy (P : own_S Z own nm bytes mx rt p l e R s m args below meth c T h locs cells slots) {idx : Nat} {a b : Addr} {x dp : Int32} {vs : List Int32} {n0 : Nat} (w1 : (Cond.methodLink own idx Jvm.Stand.acN).before a0 Z = true) (w2 : (Cond.native Jvm.Stand.acN).before a0 Z = true) (w3 : (Cond.static Jvm.Stand.acN).before a0 Z = true) (w4 : (Cond.initialized "java/lang/System").before a0 Z = true)
    (A : own_Ar Z h a .int [x]) (B : own_Ar Z h b .int vs) (hl : vs.length < 2147483648) (h2 : 0 ≤ dp.toInt) (h3 : dp.toInt.toNat < vs.length) (N : Fr n0 locs) (ge : n0 ≤ b) (hd : decode bytes pc = .ok (.invokestatic idx, 3)) (hp : pc + 3 = pc') (hsz : Ls.size = mx) (hf : 1 ≤ R.frames) (W : Nat) (hW : (rest.map fun v => v.category).sum = W) (hlo : W + (nativeFrameWords "java/lang/System" "arraycopy" 5 + 11) ≤ R.locals)
    (k : ∀ (T' : State) (h' : Heap) (L : List Loc), Fr n0 L → Keep h h' [b] → own_Ar Z h' b .int (vs.set dp.toInt.toNat x) → own_S Z own nm bytes mx rt p l e R s m args below meth c T' h' L cells slots → own_Go p e below K (T'.setTop (mkF m pc' Ls rest))) :
    own_Go p e below K (T.setTop (mkF m pc Ls (.int 1 :: .int dp :: .ref b :: .int 0 :: .ref a :: rest))) := by
  subst hp
  obtain ⟨ka, A'⟩ := A.arv (Nat.le_of_ble_eq_true rfl)
  obtain ⟨kb, B'⟩ := B.arv hl
  have hdn : ¬ dp < 0 := by rw [Int32.lt_iff_toInt_lt, show (0 : Int32).toInt = 0 by decide]; omega
  have hon : (Int32.ofNat vs.length).toInt = vs.length := Int32.toInt_ofNat_of_lt (by omega)
  obtain ⟨T2, h2', L, X2, e2, N2, K2, V2, st2⟩ := cpA P.st P.ex P.wz P.ow w1 w2 w3 w4 P.hp A' B' (sp := 0) (dp := dp) (nn := 1) (us := [.int x]) (Or.inl ⟨rfl, rfl⟩) (by decide) hdn (by decide) (by show 0 + 1 ≤ (Int32.ofNat 1).toInt.toNat; decide) (by show dp.toInt.toNat + 1 ≤ (Int32.ofNat vs.length).toInt.toNat; rw [hon]; omega) rfl (by show dp.toInt.toNat + 1 ≤ _; rw [List.length_map]; omega) N ge (g := mkF m pc Ls (.int 1 :: .int dp :: .ref b :: .int 0 :: .ref a :: rest)) rfl (by rw [P.ml]; exact hsz) rfl (P.cd hd) hf (W := W) (by show 2 * 0 + _ ≤ _; rw [hW]; exact Nat.le_of_eq (by simp)) hlo
  have e3 : (vs.map Value.int).take dp.toNatClampNeg ++ [Value.int x] ++ (vs.map Value.int).drop (dp.toNatClampNeg + (1 : Int32).toNatClampNeg) = (vs.set dp.toInt.toNat x).map Value.int := by
    show (vs.map Value.int).take dp.toInt.toNat ++ [Value.int x] ++ (vs.map Value.int).drop (dp.toInt.toNat + 1) = _
    rw [List.map_set, List.set_eq_take_append_cons_drop, if_pos (by rw [List.length_map]; exact h3)]
    simp
  rw [e3] at V2
  have V3 : own_Ar Z h2' b .int (vs.set dp.toInt.toNat x) := own_Ar.of_arv (kk := kb) (by rw [List.length_set]; exact V2) (by rw [List.length_set]; exact hl)
  exact own_st st2 (k T2 h2' L N2 K2 V3 (P.move X2 e2))
end OwnRel

theorem d5_0 : decode jdk_29_method_65_code 0 = .ok (.iload_n 0, 1) := by decide +kernel
theorem d5_1 : decode jdk_29_method_65_code 1 = .ok (.iload_n 1, 1) := by decide +kernel
theorem d5_2 : decode jdk_29_method_65_code 2 = .ok (.if_icmp .lt 7, 3) := by decide +kernel
theorem d5_9 : decode jdk_29_method_65_code 9 = .ok (.iload_n 1, 1) := by decide +kernel
theorem d5_10 : decode jdk_29_method_65_code 10 = .ok (.ireturn, 1) := by decide +kernel
theorem d5_5 : decode jdk_29_method_65_code 5 = .ok (.iload_n 0, 1) := by decide +kernel
theorem d5_6 : decode jdk_29_method_65_code 6 = .ok (.goto 4, 3) := by decide +kernel
def F5_0 (i0 : Int32) (i1 : Int32) : Int32 := (if i0 < i1 then i1 else i0)
set_option maxRecDepth 65536 in
set_option maxHeartbeats 40000000 in
theorem b5_0 {p : Program} {l : Launch} {e : Env} {s : State} {m : MethodId} {args : Array Value} {below : List Frame} {meth : Method} {c : Code} {T : State} {h : Heap} {Z : State} {a0 : Array Value} {Q : Option Value → Heap → List Loc → Prop} (hw : ∀ d ∈ tables_1, d.before a0 Z = true) (i0 : Int32) (i1 : Int32) (P : own_S Z "java/lang/Math" "max" jdk_29_method_65_code 2 (some .int) p l e ({ frames := 0, cells := 0, slots := 0, locals := 0 } : Room) s m args below meth c T h [] 0 0) (hQ : Q (some (.int (F5_0 i0 i1))) h []) :
    own_Go p e below (own_K s Q 0 0) (T.setTop (mkF m 0 #[.val (.int i0), .val (.int i1)] [])) := by
  unfold F5_0 at hQ
  refine own_iloadN P d5_0 rfl rfl ?_
  refine own_iloadN P d5_1 rfl rfl ?_
  by_cases hc1 : i0 < i1
  · rw [if_pos hc1] at hQ
    refine own_icmpY P (pc' := 9) d5_2 hc1 (by decide) (by decide) ?_
    refine own_iloadN P d5_9 rfl rfl ?_
    exact own_retI P d5_10 (by decide) (by decide) hQ
  · rw [if_neg hc1] at hQ
    refine own_icmpN P (pc' := 5) d5_2 hc1 rfl ?_
    refine own_iloadN P d5_5 rfl rfl ?_
    refine own_goto P (pc' := 10) d5_6 (by decide) (by decide) ?_
    exact own_retI P d5_10 (by decide) (by decide) hQ
theorem rm5 (l : Launch) (Z : State) (a0 : Array Value) (hw : ∀ d ∈ tables_1, d.before a0 Z = true) (i0 : Int32) (i1 : Int32) (h : Heap) :
    own_Con l Z (⟨"java/lang/Math", "max", "(II)I"⟩ : MethodName) jdk_29_method_65_code 2 (some .int) [] ({ frames := 0, cells := 0, slots := 0, locals := 0 } : Room) #[(.int i0), (.int i1)] h (own_P (some (.int (F5_0 i0 i1))) h) :=
  own_enter (Jvm.Free.JP.mathPlain rfl (by decide +kernel)) #[.val (.int i0), .val (.int i1)] (fun m => by first | (simp [entryFrame, mkF, argsToLocals, Value.category]; done) | rfl) (fun p e s m below meth c T P => b5_0 hw i0 i1 P ⟨rfl, rfl, rfl⟩)
theorem d7_0 : decode jdk_33_method_47_code 0 = .ok (.iload_n 0, 1) := by decide +kernel
theorem d7_1 : decode jdk_33_method_47_code 1 = .ok (.ifCond .gt 14, 3) := by decide +kernel
theorem d7_15 : decode jdk_33_method_47_code 15 = .ok (.bipush 31, 2) := by decide +kernel
theorem d7_17 : decode jdk_33_method_47_code 17 = .ok (.istore_n 1, 1) := by decide +kernel
theorem d7_18 : decode jdk_33_method_47_code 18 = .ok (.iload_n 0, 1) := by decide +kernel
theorem d7_19 : decode jdk_33_method_47_code 19 = .ok (.ldc_w 264, 3) := by decide +kernel
theorem d7_22 : decode jdk_33_method_47_code 22 = .ok (.if_icmp .lt 11, 3) := by decide +kernel
theorem d7_33 : decode jdk_33_method_47_code 33 = .ok (.iload_n 0, 1) := by decide +kernel
theorem d7_34 : decode jdk_33_method_47_code 34 = .ok (.sipush 256, 3) := by decide +kernel
theorem d7_37 : decode jdk_33_method_47_code 37 = .ok (.if_icmp .lt 11, 3) := by decide +kernel
theorem d7_48 : decode jdk_33_method_47_code 48 = .ok (.iload_n 0, 1) := by decide +kernel
theorem d7_49 : decode jdk_33_method_47_code 49 = .ok (.bipush 16, 2) := by decide +kernel
theorem d7_51 : decode jdk_33_method_47_code 51 = .ok (.if_icmp .lt 10, 3) := by decide +kernel
theorem d7_61 : decode jdk_33_method_47_code 61 = .ok (.iload_n 0, 1) := by decide +kernel
theorem d7_62 : decode jdk_33_method_47_code 62 = .ok (.iconst 4, 1) := by decide +kernel
theorem d7_63 : decode jdk_33_method_47_code 63 = .ok (.if_icmp .lt 10, 3) := by decide +kernel
theorem d7_73 : decode jdk_33_method_47_code 73 = .ok (.iload_n 1, 1) := by decide +kernel
theorem d7_74 : decode jdk_33_method_47_code 74 = .ok (.iload_n 0, 1) := by decide +kernel
theorem d7_75 : decode jdk_33_method_47_code 75 = .ok (.iconst 1, 1) := by decide +kernel
theorem d7_76 : decode jdk_33_method_47_code 76 = .ok (.iushr, 1) := by decide +kernel
theorem d7_77 : decode jdk_33_method_47_code 77 = .ok (.isub, 1) := by decide +kernel
theorem d7_78 : decode jdk_33_method_47_code 78 = .ok (.ireturn, 1) := by decide +kernel
theorem d7_66 : decode jdk_33_method_47_code 66 = .ok (.iinc 1 (-2), 3) := by decide +kernel
theorem d7_69 : decode jdk_33_method_47_code 69 = .ok (.iload_n 0, 1) := by decide +kernel
theorem d7_70 : decode jdk_33_method_47_code 70 = .ok (.iconst 2, 1) := by decide +kernel
theorem d7_71 : decode jdk_33_method_47_code 71 = .ok (.iushr, 1) := by decide +kernel
theorem d7_72 : decode jdk_33_method_47_code 72 = .ok (.istore_n 0, 1) := by decide +kernel
theorem d7_54 : decode jdk_33_method_47_code 54 = .ok (.iinc 1 (-4), 3) := by decide +kernel
theorem d7_57 : decode jdk_33_method_47_code 57 = .ok (.iload_n 0, 1) := by decide +kernel
theorem d7_58 : decode jdk_33_method_47_code 58 = .ok (.iconst 4, 1) := by decide +kernel
theorem d7_59 : decode jdk_33_method_47_code 59 = .ok (.iushr, 1) := by decide +kernel
theorem d7_60 : decode jdk_33_method_47_code 60 = .ok (.istore_n 0, 1) := by decide +kernel
theorem d7_40 : decode jdk_33_method_47_code 40 = .ok (.iinc 1 (-8), 3) := by decide +kernel
theorem d7_43 : decode jdk_33_method_47_code 43 = .ok (.iload_n 0, 1) := by decide +kernel
theorem d7_44 : decode jdk_33_method_47_code 44 = .ok (.bipush 8, 2) := by decide +kernel
theorem d7_46 : decode jdk_33_method_47_code 46 = .ok (.iushr, 1) := by decide +kernel
theorem d7_47 : decode jdk_33_method_47_code 47 = .ok (.istore_n 0, 1) := by decide +kernel
theorem d7_25 : decode jdk_33_method_47_code 25 = .ok (.iinc 1 (-16), 3) := by decide +kernel
theorem d7_28 : decode jdk_33_method_47_code 28 = .ok (.iload_n 0, 1) := by decide +kernel
theorem d7_29 : decode jdk_33_method_47_code 29 = .ok (.bipush 16, 2) := by decide +kernel
theorem d7_31 : decode jdk_33_method_47_code 31 = .ok (.iushr, 1) := by decide +kernel
theorem d7_32 : decode jdk_33_method_47_code 32 = .ok (.istore_n 0, 1) := by decide +kernel
theorem d7_4 : decode jdk_33_method_47_code 4 = .ok (.iload_n 0, 1) := by decide +kernel
theorem d7_5 : decode jdk_33_method_47_code 5 = .ok (.ifCond .ne 8, 3) := by decide +kernel
theorem d7_8 : decode jdk_33_method_47_code 8 = .ok (.bipush 32, 2) := by decide +kernel
theorem d7_10 : decode jdk_33_method_47_code 10 = .ok (.goto 4, 3) := by decide +kernel
theorem d7_14 : decode jdk_33_method_47_code 14 = .ok (.ireturn, 1) := by decide +kernel
theorem d7_13 : decode jdk_33_method_47_code 13 = .ok (.iconst 0, 1) := by decide +kernel
def F7_73 (i0 : Int32) (i1 : Int32) : Int32 := (i1 - ((i0.toUInt32 >>> ((1 : Int32) &&& 31).toUInt32).toInt32))
set_option maxRecDepth 65536 in
set_option maxHeartbeats 40000000 in
theorem b7_73 {p : Program} {l : Launch} {e : Env} {s : State} {m : MethodId} {args : Array Value} {below : List Frame} {meth : Method} {c : Code} {T : State} {h : Heap} {Z : State} {a0 : Array Value} {Q : Option Value → Heap → List Loc → Prop} (hw : ∀ d ∈ tables_1, d.before a0 Z = true) (i0 : Int32) (i1 : Int32) (P : own_S Z "java/lang/Integer" "numberOfLeadingZeros" jdk_33_method_47_code 2 (some .int) p l e ({ frames := 0, cells := 0, slots := 0, locals := 0 } : Room) s m args below meth c T h [] 0 0) (hQ : Q (some (.int (F7_73 i0 i1))) h []) :
    own_Go p e below (own_K s Q 0 0) (T.setTop (mkF m 73 #[.val (.int i0), .val (.int i1)] [])) := by
  unfold F7_73 at hQ
  refine own_iloadN P d7_73 rfl rfl ?_
  refine own_iloadN P d7_74 rfl rfl ?_
  refine own_iconst P d7_75 rfl (v := (1 : Int32)) rfl ?_
  refine own_iushr P d7_76 rfl ?_
  refine own_isub P d7_77 rfl ?_
  exact own_retI P d7_78 (by decide) (by decide) hQ
def F7_61 (i0 : Int32) (i1 : Int32) : Int32 := (if i0 < (4 : Int32) then (F7_73 i0 i1) else (F7_73 ((i0.toUInt32 >>> ((2 : Int32) &&& 31).toUInt32).toInt32) (i1 + (-2 : Int32))))
set_option maxRecDepth 65536 in
set_option maxHeartbeats 40000000 in
theorem b7_61 {p : Program} {l : Launch} {e : Env} {s : State} {m : MethodId} {args : Array Value} {below : List Frame} {meth : Method} {c : Code} {T : State} {h : Heap} {Z : State} {a0 : Array Value} {Q : Option Value → Heap → List Loc → Prop} (hw : ∀ d ∈ tables_1, d.before a0 Z = true) (i0 : Int32) (i1 : Int32) (P : own_S Z "java/lang/Integer" "numberOfLeadingZeros" jdk_33_method_47_code 2 (some .int) p l e ({ frames := 0, cells := 0, slots := 0, locals := 0 } : Room) s m args below meth c T h [] 0 0) (hQ : Q (some (.int (F7_61 i0 i1))) h []) :
    own_Go p e below (own_K s Q 0 0) (T.setTop (mkF m 61 #[.val (.int i0), .val (.int i1)] [])) := by
  unfold F7_61 at hQ
  refine own_iloadN P d7_61 rfl rfl ?_
  refine own_iconst P d7_62 rfl (v := (4 : Int32)) rfl ?_
  by_cases hc6 : i0 < (4 : Int32)
  · rw [if_pos hc6] at hQ
    refine own_icmpY P (pc' := 73) d7_63 hc6 (by decide) (by decide) ?_
    exact b7_73 hw i0 i1 P hQ
  · rw [if_neg hc6] at hQ
    refine own_icmpN P (pc' := 66) d7_63 hc6 rfl ?_
    refine own_iinc P d7_66 rfl rfl (v := (-2 : Int32)) rfl (Ls' := #[.val (.int i0), .val (.int (i1 + (-2 : Int32)))]) rfl ?_
    refine own_iloadN P d7_69 rfl rfl ?_
    refine own_iconst P d7_70 rfl (v := (2 : Int32)) rfl ?_
    refine own_iushr P d7_71 rfl ?_
    refine own_istoreN P d7_72 rfl (Ls' := #[.val (.int ((i0.toUInt32 >>> ((2 : Int32) &&& 31).toUInt32).toInt32)), .val (.int (i1 + (-2 : Int32)))]) rfl ?_
    exact b7_73 hw ((i0.toUInt32 >>> ((2 : Int32) &&& 31).toUInt32).toInt32) (i1 + (-2 : Int32)) P hQ
def F7_48 (i0 : Int32) (i1 : Int32) : Int32 := (if i0 < (16 : Int32) then (F7_61 i0 i1) else (F7_61 ((i0.toUInt32 >>> ((4 : Int32) &&& 31).toUInt32).toInt32) (i1 + (-4 : Int32))))
set_option maxRecDepth 65536 in
set_option maxHeartbeats 40000000 in
theorem b7_48 {p : Program} {l : Launch} {e : Env} {s : State} {m : MethodId} {args : Array Value} {below : List Frame} {meth : Method} {c : Code} {T : State} {h : Heap} {Z : State} {a0 : Array Value} {Q : Option Value → Heap → List Loc → Prop} (hw : ∀ d ∈ tables_1, d.before a0 Z = true) (i0 : Int32) (i1 : Int32) (P : own_S Z "java/lang/Integer" "numberOfLeadingZeros" jdk_33_method_47_code 2 (some .int) p l e ({ frames := 0, cells := 0, slots := 0, locals := 0 } : Room) s m args below meth c T h [] 0 0) (hQ : Q (some (.int (F7_48 i0 i1))) h []) :
    own_Go p e below (own_K s Q 0 0) (T.setTop (mkF m 48 #[.val (.int i0), .val (.int i1)] [])) := by
  unfold F7_48 at hQ
  refine own_iloadN P d7_48 rfl rfl ?_
  refine own_bipush P d7_49 rfl (v := (16 : Int32)) rfl ?_
  by_cases hc5 : i0 < (16 : Int32)
  · rw [if_pos hc5] at hQ
    refine own_icmpY P (pc' := 61) d7_51 hc5 (by decide) (by decide) ?_
    exact b7_61 hw i0 i1 P hQ
  · rw [if_neg hc5] at hQ
    refine own_icmpN P (pc' := 54) d7_51 hc5 rfl ?_
    refine own_iinc P d7_54 rfl rfl (v := (-4 : Int32)) rfl (Ls' := #[.val (.int i0), .val (.int (i1 + (-4 : Int32)))]) rfl ?_
    refine own_iloadN P d7_57 rfl rfl ?_
    refine own_iconst P d7_58 rfl (v := (4 : Int32)) rfl ?_
    refine own_iushr P d7_59 rfl ?_
    refine own_istoreN P d7_60 rfl (Ls' := #[.val (.int ((i0.toUInt32 >>> ((4 : Int32) &&& 31).toUInt32).toInt32)), .val (.int (i1 + (-4 : Int32)))]) rfl ?_
    exact b7_61 hw ((i0.toUInt32 >>> ((4 : Int32) &&& 31).toUInt32).toInt32) (i1 + (-4 : Int32)) P hQ
def F7_33 (i0 : Int32) (i1 : Int32) : Int32 := (if i0 < (256 : Int32) then (F7_48 i0 i1) else (F7_48 ((i0.toUInt32 >>> ((8 : Int32) &&& 31).toUInt32).toInt32) (i1 + (-8 : Int32))))
set_option maxRecDepth 65536 in
set_option maxHeartbeats 40000000 in
theorem b7_33 {p : Program} {l : Launch} {e : Env} {s : State} {m : MethodId} {args : Array Value} {below : List Frame} {meth : Method} {c : Code} {T : State} {h : Heap} {Z : State} {a0 : Array Value} {Q : Option Value → Heap → List Loc → Prop} (hw : ∀ d ∈ tables_1, d.before a0 Z = true) (i0 : Int32) (i1 : Int32) (P : own_S Z "java/lang/Integer" "numberOfLeadingZeros" jdk_33_method_47_code 2 (some .int) p l e ({ frames := 0, cells := 0, slots := 0, locals := 0 } : Room) s m args below meth c T h [] 0 0) (hQ : Q (some (.int (F7_33 i0 i1))) h []) :
    own_Go p e below (own_K s Q 0 0) (T.setTop (mkF m 33 #[.val (.int i0), .val (.int i1)] [])) := by
  unfold F7_33 at hQ
  refine own_iloadN P d7_33 rfl rfl ?_
  refine own_sipush P d7_34 rfl (v := (256 : Int32)) rfl ?_
  by_cases hc4 : i0 < (256 : Int32)
  · rw [if_pos hc4] at hQ
    refine own_icmpY P (pc' := 48) d7_37 hc4 (by decide) (by decide) ?_
    exact b7_48 hw i0 i1 P hQ
  · rw [if_neg hc4] at hQ
    refine own_icmpN P (pc' := 40) d7_37 hc4 rfl ?_
    refine own_iinc P d7_40 rfl rfl (v := (-8 : Int32)) rfl (Ls' := #[.val (.int i0), .val (.int (i1 + (-8 : Int32)))]) rfl ?_
    refine own_iloadN P d7_43 rfl rfl ?_
    refine own_bipush P d7_44 rfl (v := (8 : Int32)) rfl ?_
    refine own_iushr P d7_46 rfl ?_
    refine own_istoreN P d7_47 rfl (Ls' := #[.val (.int ((i0.toUInt32 >>> ((8 : Int32) &&& 31).toUInt32).toInt32)), .val (.int (i1 + (-8 : Int32)))]) rfl ?_
    exact b7_48 hw ((i0.toUInt32 >>> ((8 : Int32) &&& 31).toUInt32).toInt32) (i1 + (-8 : Int32)) P hQ
def F7_0 (i0 : Int32) : Int32 := (if (0 : Int32) < i0 then (if i0 < (65536 : Int32) then (F7_33 i0 (31 : Int32)) else (F7_33 ((i0.toUInt32 >>> ((16 : Int32) &&& 31).toUInt32).toInt32) ((31 : Int32) + (-16 : Int32)))) else (if i0 = (0 : Int32) then (32 : Int32) else (0 : Int32)))
set_option maxRecDepth 65536 in
set_option maxHeartbeats 40000000 in
theorem b7_0 {p : Program} {l : Launch} {e : Env} {s : State} {m : MethodId} {args : Array Value} {below : List Frame} {meth : Method} {c : Code} {T : State} {h : Heap} {Z : State} {a0 : Array Value} {Q : Option Value → Heap → List Loc → Prop} (hw : ∀ d ∈ tables_1, d.before a0 Z = true) (i0 : Int32) (P : own_S Z "java/lang/Integer" "numberOfLeadingZeros" jdk_33_method_47_code 2 (some .int) p l e ({ frames := 0, cells := 0, slots := 0, locals := 0 } : Room) s m args below meth c T h [] 0 0) (hQ : Q (some (.int (F7_0 i0))) h []) :
    own_Go p e below (own_K s Q 0 0) (T.setTop (mkF m 0 #[.val (.int i0), .unset] [])) := by
  unfold F7_0 at hQ
  refine own_iloadN P d7_0 rfl rfl ?_
  by_cases hc2 : (0 : Int32) < i0
  · rw [if_pos hc2] at hQ
    refine own_if0Y P (pc' := 15) d7_1 hc2 (by decide) (by decide) ?_
    refine own_bipush P d7_15 rfl (v := (31 : Int32)) rfl ?_
    refine own_istoreN P d7_17 rfl (Ls' := #[.val (.int i0), .val (.int (31 : Int32))]) rfl ?_
    refine own_iloadN P d7_18 rfl rfl ?_
    refine own_ldcw P (v := (65536 : Int32)) (hw _ (List.mem_of_getElem? (i := 45) rfl)) d7_19 rfl ?_
    by_cases hc3 : i0 < (65536 : Int32)
    · rw [if_pos hc3] at hQ
      refine own_icmpY P (pc' := 33) d7_22 hc3 (by decide) (by decide) ?_
      exact b7_33 hw i0 (31 : Int32) P hQ
    · rw [if_neg hc3] at hQ
      refine own_icmpN P (pc' := 25) d7_22 hc3 rfl ?_
      refine own_iinc P d7_25 rfl rfl (v := (-16 : Int32)) rfl (Ls' := #[.val (.int i0), .val (.int ((31 : Int32) + (-16 : Int32)))]) rfl ?_
      refine own_iloadN P d7_28 rfl rfl ?_
      refine own_bipush P d7_29 rfl (v := (16 : Int32)) rfl ?_
      refine own_iushr P d7_31 rfl ?_
      refine own_istoreN P d7_32 rfl (Ls' := #[.val (.int ((i0.toUInt32 >>> ((16 : Int32) &&& 31).toUInt32).toInt32)), .val (.int ((31 : Int32) + (-16 : Int32)))]) rfl ?_
      exact b7_33 hw ((i0.toUInt32 >>> ((16 : Int32) &&& 31).toUInt32).toInt32) ((31 : Int32) + (-16 : Int32)) P hQ
  · rw [if_neg hc2] at hQ
    refine own_if0N P (pc' := 4) d7_1 hc2 rfl ?_
    refine own_iloadN P d7_4 rfl rfl ?_
    by_cases hc7 : i0 = (0 : Int32)
    · rw [if_pos hc7] at hQ
      refine own_if0N P (pc' := 8) d7_5 (not_not_intro hc7) rfl ?_
      refine own_bipush P d7_8 rfl (v := (32 : Int32)) rfl ?_
      refine own_goto P (pc' := 14) d7_10 (by decide) (by decide) ?_
      exact own_retI P d7_14 (by decide) (by decide) hQ
    · rw [if_neg hc7] at hQ
      refine own_if0Y P (pc' := 13) d7_5 hc7 (by decide) (by decide) ?_
      refine own_iconst P d7_13 rfl (v := (0 : Int32)) rfl ?_
      exact own_retI P d7_14 (by decide) (by decide) hQ
theorem own_pf7 : plainFor (⟨"java/lang/Integer", "numberOfLeadingZeros", "(I)I"⟩ : MethodName) = true := by decide +kernel
theorem rm7 (l : Launch) (Z : State) (a0 : Array Value) (hw : ∀ d ∈ tables_1, d.before a0 Z = true) (i0 : Int32) (h : Heap) :
    own_Con l Z (⟨"java/lang/Integer", "numberOfLeadingZeros", "(I)I"⟩ : MethodName) jdk_33_method_47_code 2 (some .int) [] ({ frames := 0, cells := 0, slots := 0, locals := 0 } : Room) #[(.int i0)] h (own_P (some (.int (F7_0 i0))) h) :=
  own_enter own_pf7 #[.val (.int i0), .unset] (fun m => by first | (simp [entryFrame, mkF, argsToLocals, Value.category]; done) | rfl) (fun p e s m below meth c T P => b7_0 hw i0 P ⟨rfl, rfl, rfl⟩)
theorem d6_0 : decode jdk_33_method_45_code 0 = .ok (.iload_n 0, 1) := by decide +kernel
theorem d6_1 : decode jdk_33_method_45_code 1 = .ok (.ldc 127, 2) := by decide +kernel
theorem d6_3 : decode jdk_33_method_45_code 3 = .ok (.iload_n 0, 1) := by decide +kernel
theorem d6_4 : decode jdk_33_method_45_code 4 = .ok (.invokestatic 51, 3) := by decide +kernel
theorem own_pd0 : parseMethodDescriptor "(I)I" = some ⟨[.int], some .int⟩ := by decide +kernel
theorem d6_7 : decode jdk_33_method_45_code 7 = .ok (.iushr, 1) := by decide +kernel
theorem d6_8 : decode jdk_33_method_45_code 8 = .ok (.iand, 1) := by decide +kernel
theorem d6_9 : decode jdk_33_method_45_code 9 = .ok (.ireturn, 1) := by decide +kernel
def F6_0 (i0 : Int32) : Int32 := (i0 &&& (((-2147483648 : Int32).toUInt32 >>> ((F7_0 i0) &&& 31).toUInt32).toInt32))
set_option maxRecDepth 65536 in
set_option maxHeartbeats 40000000 in
theorem b6_0 {p : Program} {l : Launch} {e : Env} {s : State} {m : MethodId} {args : Array Value} {below : List Frame} {meth : Method} {c : Code} {T : State} {h : Heap} {Z : State} {a0 : Array Value} {Q : Option Value → Heap → List Loc → Prop} (hw : ∀ d ∈ tables_1, d.before a0 Z = true) (i0 : Int32) (P : own_S Z "java/lang/Integer" "highestOneBit" jdk_33_method_45_code 1 (some .int) p l e ({ frames := 1, cells := 0, slots := 0, locals := 15 } : Room) s m args below meth c T h [] 0 0) (hQ : Q (some (.int (F6_0 i0))) h []) :
    own_Go p e below (own_K s Q 0 0) (T.setTop (mkF m 0 #[.val (.int i0)] [])) := by
  unfold F6_0 at hQ
  refine own_iloadN P d6_0 rfl rfl ?_
  refine own_ldc P (v := (-2147483648 : Int32)) (hw _ (List.mem_of_getElem? (i := 41) rfl)) d6_1 rfl ?_
  refine own_iloadN P d6_3 rfl rfl ?_
  refine own_callP P (hw _ (List.mem_of_getElem? (i := 42) rfl)) (hw _ (List.mem_of_getElem? (i := 43) rfl)) (hw _ (List.mem_of_getElem? (i := 39) rfl)) (hw _ (List.mem_of_getElem? (i := 44) rfl)) (by decide) (argsL := [(.int i0)]) (rest := [(.int (-2147483648 : Int32)), (.int i0)]) (rm7 l Z a0 hw i0 h) d6_4 rfl own_pd0 rfl rfl rfl (by decide) 2 rfl (by decide) rfl rfl (by decide) (by decide) (fun T9 P8 => ?_)
  show own_Go p e below _ (T9.setTop (mkF m 7 #[.val (.int i0)] [(.int (F7_0 i0)), (.int (-2147483648 : Int32)), (.int i0)]))
  refine own_iushr P8 d6_7 rfl ?_
  refine own_iand P8 d6_8 rfl ?_
  exact own_retI P8 d6_9 (by decide) (by decide) hQ
theorem own_pf6 : plainFor (⟨"java/lang/Integer", "highestOneBit", "(I)I"⟩ : MethodName) = true := by decide +kernel
theorem rm6 (l : Launch) (Z : State) (a0 : Array Value) (hw : ∀ d ∈ tables_1, d.before a0 Z = true) (i0 : Int32) (h : Heap) :
    own_Con l Z (⟨"java/lang/Integer", "highestOneBit", "(I)I"⟩ : MethodName) jdk_33_method_45_code 1 (some .int) [] ({ frames := 1, cells := 0, slots := 0, locals := 15 } : Room) #[(.int i0)] h (own_P (some (.int (F6_0 i0))) h) :=
  own_enter own_pf6 #[.val (.int i0)] (fun m => by first | (simp [entryFrame, mkF, argsToLocals, Value.category]; done) | rfl) (fun p e s m below meth c T P => b6_0 hw i0 P ⟨rfl, rfl, rfl⟩)
def own_hv (x : Int32) : Int32 := (((31 : Int32) + x) * (-1640531527 : Int32)) ^^^ (((((31 : Int32) + x) * (-1640531527 : Int32)).toUInt32 >>> ((16 : Int32) &&& 31).toUInt32).toInt32)
def own_ho (c : Int32) : Int32 := if (0 : Int32) < c then (1 : Int32) else (0 : Int32)
theorem own_15 (y : Int32) : 0 ≤ (y &&& (15 : Int32)).toInt ∧ (y &&& (15 : Int32)).toInt.toNat < 16 := by
  rw [Jvm.Kit.i32_mask y _ (k := 4) (by decide) (by decide)]; omega
theorem own_15b {y : Int32} {sl : List Int32} (h : sl.length = 16) : (y &&& (15 : Int32)).toInt.toNat < sl.length := by rw [h]; exact (own_15 y).2
theorem own_z16 (i : Nat) : ([0, 0, 0, 0, 0, 0, 0, 0, 0, 0, 0, 0, 0, 0, 0, 0] : List Int32).getD i 0 = 0 := by
  show (List.replicate 16 (0 : Int32)).getD i 0 = 0
  rw [List.getD_eq_getElem?_getD]
  by_cases h : i < 16
  · rw [List.getElem?_replicate, if_pos h]; rfl
  · rw [List.getElem?_replicate, if_neg h]; rfl
theorem own_hpos {c : Int32} (h : (0 : Int32) < c) : ¬ (own_ho c = (0 : Int32)) := by unfold own_ho; rw [if_pos h]; decide
theorem d1_0 : decode prog_73_method_1_code 0 = .ok (.aload_n 0, 1) := by decide +kernel
theorem d1_1 : decode prog_73_method_1_code 1 = .ok (.invokespecial 1, 3) := by decide +kernel
theorem d1_4 : decode prog_73_method_1_code 4 = .ok (.aload_n 0, 1) := by decide +kernel
theorem d1_5 : decode prog_73_method_1_code 5 = .ok (.iload_n 1, 1) := by decide +kernel
theorem d1_6 : decode prog_73_method_1_code 6 = .ok (.putfield 7, 3) := by decide +kernel
theorem d1_9 : decode prog_73_method_1_code 9 = .ok (.aload_n 0, 1) := by decide +kernel
theorem d1_10 : decode prog_73_method_1_code 10 = .ok (.iload_n 1, 1) := by decide +kernel
theorem d1_11 : decode prog_73_method_1_code 11 = .ok (.iconst 4, 1) := by decide +kernel
theorem d1_12 : decode prog_73_method_1_code 12 = .ok (.imul, 1) := by decide +kernel
theorem d1_13 : decode prog_73_method_1_code 13 = .ok (.newarray .int, 2) := by decide +kernel
theorem d1_15 : decode prog_73_method_1_code 15 = .ok (.putfield 13, 3) := by decide +kernel
theorem d1_18 : decode prog_73_method_1_code 18 = .ok (.aload_n 0, 1) := by decide +kernel
theorem d1_19 : decode prog_73_method_1_code 19 = .ok (.iconst 4, 1) := by decide +kernel
theorem d1_20 : decode prog_73_method_1_code 20 = .ok (.newarray .int, 2) := by decide +kernel
theorem d1_22 : decode prog_73_method_1_code 22 = .ok (.putfield 17, 3) := by decide +kernel
theorem d1_25 : decode prog_73_method_1_code 25 = .ok (.aload_n 0, 1) := by decide +kernel
theorem d1_26 : decode prog_73_method_1_code 26 = .ok (.iload_n 1, 1) := by decide +kernel
theorem d1_27 : decode prog_73_method_1_code 27 = .ok (.anewarray 20, 3) := by decide +kernel
theorem d1_30 : decode prog_73_method_1_code 30 = .ok (.putfield 22, 3) := by decide +kernel
theorem d1_33 : decode prog_73_method_1_code 33 = .ok (.return_, 1) := by decide +kernel
theorem own_pn2 : plainName "com/example/projectum/projectum/reasoning/Relation" = true := by first | (simp [plainName, overriddenIn]; done) | decide +kernel
set_option maxRecDepth 65536 in
set_option maxHeartbeats 40000000 in
theorem rmInit (l : Launch) (Z : State) (a0 : Array Value) (hw : ∀ d ∈ tables_1, d.before a0 Z = true) (o0 : Addr)  (h : Heap) (n0 : Nat) (Z0 : n0 ≤ h.size) (g_o0 : n0 ≤ o0) (q0 : Exa Z h o0 "com/example/projectum/projectum/reasoning/Relation") (q1 : Fld Z h o0 "com/example/projectum/projectum/reasoning/Relation" "arity" "I" (.int (0 : Int32))) (q2 : Fld Z h o0 "com/example/projectum/projectum/reasoning/Relation" "rows" "[I" .null) (q3 : Fld Z h o0 "com/example/projectum/projectum/reasoning/Relation" "counts" "[I" .null) (q4 : Fld Z h o0 "com/example/projectum/projectum/reasoning/Relation" "byPosition" "[Lcom/example/projectum/projectum/reasoning/Relation$NodeIndex;" .null) (q5 : Fld Z h o0 "com/example/projectum/projectum/reasoning/Relation" "size" "I" (.int (0 : Int32))) (q6 : Fld Z h o0 "com/example/projectum/projectum/reasoning/Relation" "slots" "[I" .null) (q7 : Fld Z h o0 "com/example/projectum/projectum/reasoning/Relation" "freeSlot" "I" (.int (0 : Int32))) :
    own_Con l Z (⟨"com/example/projectum/projectum/reasoning/Relation", "<init>", "(I)V"⟩ : MethodName) prog_73_method_1_code 2 none [] ({ frames := 1, cells := 3, slots := 9, locals := 12 } : Room) #[(.ref o0), (.int (1 : Int32))] h (fun v h' L => v = none ∧ Fr n0 L ∧ Keep h h' [o0] ∧ ∃ ro co bp : Addr, (n0 ≤ ro ∧ n0 ≤ co) ∧ (o0 ≠ ro ∧ o0 ≠ co ∧ ro ≠ co ∧ o0 ≠ bp ∧ ro ≠ bp ∧ co ≠ bp) ∧ Exa Z h' o0 "com/example/projectum/projectum/reasoning/Relation" ∧ Fld Z h' o0 "com/example/projectum/projectum/reasoning/Relation" "arity" "I" (.int (1 : Int32)) ∧ Fld Z h' o0 "com/example/projectum/projectum/reasoning/Relation" "rows" "[I" (.ref ro) ∧ Fld Z h' o0 "com/example/projectum/projectum/reasoning/Relation" "counts" "[I" (.ref co) ∧ Fld Z h' o0 "com/example/projectum/projectum/reasoning/Relation" "byPosition" "[Lcom/example/projectum/projectum/reasoning/Relation$NodeIndex;" (.ref bp) ∧ Fld Z h' o0 "com/example/projectum/projectum/reasoning/Relation" "size" "I" (.int (0 : Int32)) ∧ Fld Z h' o0 "com/example/projectum/projectum/reasoning/Relation" "slots" "[I" .null ∧ Fld Z h' o0 "com/example/projectum/projectum/reasoning/Relation" "freeSlot" "I" (.int (0 : Int32)) ∧ own_Ar Z h' ro .int [(0 : Int32), (0 : Int32), (0 : Int32), (0 : Int32)] ∧ own_Ar Z h' co .int [(0 : Int32), (0 : Int32), (0 : Int32), (0 : Int32)] ∧ own_Nl Z h' bp (.object "com/example/projectum/projectum/reasoning/Relation$NodeIndex")) := by
  refine own_enter (plainFor_of_name own_pn2) #[.val (.ref o0), .val (.int (1 : Int32))] (fun m => by first | (simp [entryFrame, mkF, argsToLocals, Value.category]; done) | rfl) ?_
  intro p e s m below meth c T P
  replace P : own_S Z "com/example/projectum/projectum/reasoning/Relation" "<init>" prog_73_method_1_code 2 none p l e ({ frames := 1, cells := 3, slots := 9, locals := 12 } : Room) s m #[(.ref o0), (.int (1 : Int32))] below meth c T h [] 0 0 := P
  have N0 : Fr n0 [] := Fr.nil n0
  refine own_aloadN P d1_0 rfl rfl rfl ?_
  refine own_initO P (hw _ (List.mem_of_getElem? (i := 6) rfl)) (hw _ (List.mem_of_getElem? (i := 7) rfl)) (hw _ (List.mem_of_getElem? (i := 8) rfl)) d1_1 rfl rfl (by decide) 0 rfl (by decide) (fun T11 P10 => ?_)
  refine own_aloadN P10 d1_4 rfl rfl rfl ?_
  refine own_iloadN P10 d1_5 rfl rfl ?_
  refine own_putF P10 (hw _ (List.mem_of_getElem? (i := 9) rfl)) q1 q0 (Or.inr ⟨(hw _ (List.mem_of_getElem? (i := 10) rfl)), rfl, rfl⟩) (hw _ (List.mem_of_getElem? (i := 1) rfl)) (ty := .int) (by decide) rfl rfl d1_6 rfl (fun T13 h14 W15 P12 => ?_)
  have f16 := q1.same W15
  have N17 := Fr.snoc P12.st N0 g_o0
  have K18 := (Keep.refl h [o0]).wr W15 (Or.inl (List.mem_of_getElem? (i := 0) rfl))
  have f19 := q0.wr W15
  have f20 := q2.other W15 (Or.inr (slot_ne (Or.inl (hw _ (List.mem_of_getElem? (i := 13) rfl))) (Or.inr (hw _ (List.mem_of_getElem? (i := 10) rfl))) (by decide) (t := (.array .int)) (t' := .int) (by decide) (by decide)))
  have f21 := q3.other W15 (Or.inr (slot_ne (Or.inl (hw _ (List.mem_of_getElem? (i := 15) rfl))) (Or.inr (hw _ (List.mem_of_getElem? (i := 10) rfl))) (by decide) (t := (.array .int)) (t' := .int) (by decide) (by decide)))
  have f22 := q4.other W15 (Or.inr (slot_ne (Or.inr (hw _ (List.mem_of_getElem? (i := 19) rfl))) (Or.inr (hw _ (List.mem_of_getElem? (i := 10) rfl))) (by decide) (t := (.array (.object "com/example/projectum/projectum/reasoning/Relation$NodeIndex"))) (t' := .int) (by decide) (by decide)))
  have f23 := q5.other W15 (Or.inr (slot_ne (Or.inl (hw _ (List.mem_of_getElem? (i := 32) rfl))) (Or.inr (hw _ (List.mem_of_getElem? (i := 10) rfl))) (by decide) (t := .int) (t' := .int) (by decide) (by decide)))
  have f24 := q6.other W15 (Or.inr (slot_ne (Or.inl (hw _ (List.mem_of_getElem? (i := 30) rfl))) (Or.inr (hw _ (List.mem_of_getElem? (i := 10) rfl))) (by decide) (t := (.array .int)) (t' := .int) (by decide) (by decide)))
  have f25 := q7.other W15 (Or.inr (slot_ne (Or.inl (hw _ (List.mem_of_getElem? (i := 56) rfl))) (Or.inr (hw _ (List.mem_of_getElem? (i := 10) rfl))) (by decide) (t := .int) (t' := .int) (by decide) (by decide)))
  refine own_aloadN P12 d1_9 rfl rfl rfl ?_
  refine own_iloadN P12 d1_10 rfl rfl ?_
  refine own_iconst P12 d1_11 rfl (v := (4 : Int32)) rfl ?_
  refine own_imul P12 d1_12 rfl ?_
  rw [show ((1 : Int32) * (4 : Int32)) = (4 : Int32) by decide]
  refine own_arrNew P12 4 (hw _ (List.mem_of_getElem? (i := 11) rfl)) rfl rfl d1_13 rfl (by decide) (by decide) (by decide) (by decide) (by decide) (fun T31 h32 b26 ha27 E28 A29 P30 => ?_)
  have ne33 : o0 ≠ b26 := by rw [ha27]; exact Nat.ne_of_lt f19.lt
  have g34 : n0 ≤ b26 := by rw [ha27]; exact (Nat.le_trans Z0 (Keep.of_wr W15).1)
  have sz35 : h.size ≤ b26 := by rw [ha27]; exact K18.1
  have f36 := f19.ext E28
  have f37 := f20.ext E28
  have f38 := f21.ext E28
  have f39 := f22.ext E28
  have f40 := f23.ext E28
  have f41 := f24.ext E28
  have f42 := f25.ext E28
  have f43 := f16.ext E28
  have K44 := K18.ext E28
  have f45 : own_Ar Z h32 b26 .int [(0 : Int32), (0 : Int32), (0 : Int32), (0 : Int32)] := A29
  refine own_putF P30 (hw _ (List.mem_of_getElem? (i := 12) rfl)) f37 f36 (Or.inl (hw _ (List.mem_of_getElem? (i := 13) rfl))) (hw _ (List.mem_of_getElem? (i := 1) rfl)) (ty := (.array .int)) (by decide) rfl rfl d1_15 rfl (fun T47 h48 W49 P46 => ?_)
  have f50 := f37.same W49
  have N51 := Fr.snoc P46.st N17 g_o0
  have K52 := K44.wr W49 (Or.inl (List.mem_of_getElem? (i := 0) rfl))
  have f53 := f36.wr W49
  have f54 := f38.other W49 (Or.inr (slot_ne (Or.inl (hw _ (List.mem_of_getElem? (i := 15) rfl))) (Or.inl (hw _ (List.mem_of_getElem? (i := 13) rfl))) (by decide) (t := (.array .int)) (t' := (.array .int)) (by decide) (by decide)))
  have f55 := f39.other W49 (Or.inr (slot_ne (Or.inr (hw _ (List.mem_of_getElem? (i := 19) rfl))) (Or.inl (hw _ (List.mem_of_getElem? (i := 13) rfl))) (by decide) (t := (.array (.object "com/example/projectum/projectum/reasoning/Relation$NodeIndex"))) (t' := (.array .int)) (by decide) (by decide)))
  have f56 := f40.other W49 (Or.inr (slot_ne (Or.inl (hw _ (List.mem_of_getElem? (i := 32) rfl))) (Or.inl (hw _ (List.mem_of_getElem? (i := 13) rfl))) (by decide) (t := .int) (t' := (.array .int)) (by decide) (by decide)))
  have f57 := f41.other W49 (Or.inr (slot_ne (Or.inl (hw _ (List.mem_of_getElem? (i := 30) rfl))) (Or.inl (hw _ (List.mem_of_getElem? (i := 13) rfl))) (by decide) (t := (.array .int)) (t' := (.array .int)) (by decide) (by decide)))
  have f58 := f42.other W49 (Or.inr (slot_ne (Or.inl (hw _ (List.mem_of_getElem? (i := 56) rfl))) (Or.inl (hw _ (List.mem_of_getElem? (i := 13) rfl))) (by decide) (t := .int) (t' := (.array .int)) (by decide) (by decide)))
  have f59 := f43.other W49 (Or.inr (slot_ne (Or.inr (hw _ (List.mem_of_getElem? (i := 10) rfl))) (Or.inl (hw _ (List.mem_of_getElem? (i := 13) rfl))) (by decide) (t := .int) (t' := (.array .int)) (by decide) (by decide)))
  have f60 := f45.other W49 (Ne.symm ne33)
  refine own_aloadN P46 d1_18 rfl rfl rfl ?_
  refine own_iconst P46 d1_19 rfl (v := (4 : Int32)) rfl ?_
  refine own_arrNew P46 4 (hw _ (List.mem_of_getElem? (i := 11) rfl)) rfl rfl d1_20 rfl (by decide) (by decide) (by decide) (by decide) (by decide) (fun T66 h67 b61 ha62 E63 A64 P65 => ?_)
  have ne68 : o0 ≠ b61 := by rw [ha62]; exact Nat.ne_of_lt f53.lt
  have ne69 : b26 ≠ b61 := by rw [ha62]; exact Nat.ne_of_lt f60.lt
  have g70 : n0 ≤ b61 := by rw [ha62]; exact (Nat.le_trans (Nat.le_trans (Nat.le_trans Z0 (Keep.of_wr W15).1) E28.1) (Keep.of_wr W49).1)
  have sz71 : h.size ≤ b61 := by rw [ha62]; exact K52.1
  have f72 := f53.ext E63
  have f73 := f54.ext E63
  have f74 := f55.ext E63
  have f75 := f56.ext E63
  have f76 := f57.ext E63
  have f77 := f58.ext E63
  have f78 := f59.ext E63
  have f79 := f60.ext E63
  have f80 := f50.ext E63
  have K81 := K52.ext E63
  have f82 : own_Ar Z h67 b61 .int [(0 : Int32), (0 : Int32), (0 : Int32), (0 : Int32)] := A64
  refine own_putF P65 (hw _ (List.mem_of_getElem? (i := 14) rfl)) f73 f72 (Or.inl (hw _ (List.mem_of_getElem? (i := 15) rfl))) (hw _ (List.mem_of_getElem? (i := 1) rfl)) (ty := (.array .int)) (by decide) rfl rfl d1_22 rfl (fun T84 h85 W86 P83 => ?_)
  have f87 := f73.same W86
  have N88 := Fr.snoc P83.st N51 g_o0
  have K89 := K81.wr W86 (Or.inl (List.mem_of_getElem? (i := 0) rfl))
  have f90 := f72.wr W86
  have f91 := f74.other W86 (Or.inr (slot_ne (Or.inr (hw _ (List.mem_of_getElem? (i := 19) rfl))) (Or.inl (hw _ (List.mem_of_getElem? (i := 15) rfl))) (by decide) (t := (.array (.object "com/example/projectum/projectum/reasoning/Relation$NodeIndex"))) (t' := (.array .int)) (by decide) (by decide)))
  have f92 := f75.other W86 (Or.inr (slot_ne (Or.inl (hw _ (List.mem_of_getElem? (i := 32) rfl))) (Or.inl (hw _ (List.mem_of_getElem? (i := 15) rfl))) (by decide) (t := .int) (t' := (.array .int)) (by decide) (by decide)))
  have f93 := f76.other W86 (Or.inr (slot_ne (Or.inl (hw _ (List.mem_of_getElem? (i := 30) rfl))) (Or.inl (hw _ (List.mem_of_getElem? (i := 15) rfl))) (by decide) (t := (.array .int)) (t' := (.array .int)) (by decide) (by decide)))
  have f94 := f77.other W86 (Or.inr (slot_ne (Or.inl (hw _ (List.mem_of_getElem? (i := 56) rfl))) (Or.inl (hw _ (List.mem_of_getElem? (i := 15) rfl))) (by decide) (t := .int) (t' := (.array .int)) (by decide) (by decide)))
  have f95 := f78.other W86 (Or.inr (slot_ne (Or.inr (hw _ (List.mem_of_getElem? (i := 10) rfl))) (Or.inl (hw _ (List.mem_of_getElem? (i := 15) rfl))) (by decide) (t := .int) (t' := (.array .int)) (by decide) (by decide)))
  have f96 := f79.other W86 (Ne.symm ne33)
  have f97 := f80.other W86 (Or.inr (slot_ne (Or.inl (hw _ (List.mem_of_getElem? (i := 13) rfl))) (Or.inl (hw _ (List.mem_of_getElem? (i := 15) rfl))) (by decide) (t := (.array .int)) (t' := (.array .int)) (by decide) (by decide)))
  have f98 := f82.other W86 (Ne.symm ne68)
  refine own_aloadN P83 d1_25 rfl rfl rfl ?_
  refine own_iloadN P83 d1_26 rfl rfl ?_
  refine own_anew P83 (hw _ (List.mem_of_getElem? (i := 16) rfl)) (hw _ (List.mem_of_getElem? (i := 17) rfl)) d1_27 rfl rfl (by decide) (by decide) (fun T104 h105 b99 ha100 E101 A102 P103 => ?_)
  have ne106 : o0 ≠ b99 := by rw [ha100]; exact Nat.ne_of_lt f90.lt
  have ne107 : b26 ≠ b99 := by rw [ha100]; exact Nat.ne_of_lt f96.lt
  have ne108 : b61 ≠ b99 := by rw [ha100]; exact Nat.ne_of_lt f98.lt
  have g109 : n0 ≤ b99 := by rw [ha100]; exact (Nat.le_trans (Nat.le_trans (Nat.le_trans (Nat.le_trans (Nat.le_trans Z0 (Keep.of_wr W15).1) E28.1) (Keep.of_wr W49).1) E63.1) (Keep.of_wr W86).1)
  have sz110 : h.size ≤ b99 := by rw [ha100]; exact K89.1
  have f111 := f90.ext E101
  have f112 := f91.ext E101
  have f113 := f92.ext E101
  have f114 := f93.ext E101
  have f115 := f94.ext E101
  have f116 := f95.ext E101
  have f117 := f96.ext E101
  have f118 := f97.ext E101
  have f119 := f98.ext E101
  have f120 := f87.ext E101
  have K121 := K89.ext E101
  refine own_putF P103 (hw _ (List.mem_of_getElem? (i := 18) rfl)) f112 f111 (Or.inr ⟨(hw _ (List.mem_of_getElem? (i := 19) rfl)), rfl, rfl⟩) (hw _ (List.mem_of_getElem? (i := 1) rfl)) (ty := (.array (.object "com/example/projectum/projectum/reasoning/Relation$NodeIndex"))) (by decide) rfl rfl d1_30 rfl (fun T123 h124 W125 P122 => ?_)
  have f126 := f112.same W125
  have N127 := Fr.snoc P122.st N88 g_o0
  have K128 := K121.wr W125 (Or.inl (List.mem_of_getElem? (i := 0) rfl))
  have f129 := f111.wr W125
  have f130 := f113.other W125 (Or.inr (slot_ne (Or.inl (hw _ (List.mem_of_getElem? (i := 32) rfl))) (Or.inr (hw _ (List.mem_of_getElem? (i := 19) rfl))) (by decide) (t := .int) (t' := (.array (.object "com/example/projectum/projectum/reasoning/Relation$NodeIndex"))) (by decide) (by decide)))
  have f131 := f114.other W125 (Or.inr (slot_ne (Or.inl (hw _ (List.mem_of_getElem? (i := 30) rfl))) (Or.inr (hw _ (List.mem_of_getElem? (i := 19) rfl))) (by decide) (t := (.array .int)) (t' := (.array (.object "com/example/projectum/projectum/reasoning/Relation$NodeIndex"))) (by decide) (by decide)))
  have f132 := f115.other W125 (Or.inr (slot_ne (Or.inl (hw _ (List.mem_of_getElem? (i := 56) rfl))) (Or.inr (hw _ (List.mem_of_getElem? (i := 19) rfl))) (by decide) (t := .int) (t' := (.array (.object "com/example/projectum/projectum/reasoning/Relation$NodeIndex"))) (by decide) (by decide)))
  have f133 := f116.other W125 (Or.inr (slot_ne (Or.inr (hw _ (List.mem_of_getElem? (i := 10) rfl))) (Or.inr (hw _ (List.mem_of_getElem? (i := 19) rfl))) (by decide) (t := .int) (t' := (.array (.object "com/example/projectum/projectum/reasoning/Relation$NodeIndex"))) (by decide) (by decide)))
  have f134 := f117.other W125 (Ne.symm ne33)
  have f135 := f118.other W125 (Or.inr (slot_ne (Or.inl (hw _ (List.mem_of_getElem? (i := 13) rfl))) (Or.inr (hw _ (List.mem_of_getElem? (i := 19) rfl))) (by decide) (t := (.array .int)) (t' := (.array (.object "com/example/projectum/projectum/reasoning/Relation$NodeIndex"))) (by decide) (by decide)))
  have f136 := f119.other W125 (Ne.symm ne68)
  have f137 := f120.other W125 (Or.inr (slot_ne (Or.inl (hw _ (List.mem_of_getElem? (i := 15) rfl))) (Or.inr (hw _ (List.mem_of_getElem? (i := 19) rfl))) (by decide) (t := (.array .int)) (t' := (.array (.object "com/example/projectum/projectum/reasoning/Relation$NodeIndex"))) (by decide) (by decide)))
  have f138 := A102.other W125 (Ne.symm ne106)
  exact own_retV P122 d1_33 (by decide) (by decide) ⟨rfl, N127, K128, b26, b61, b99, ⟨g34, g70⟩, ⟨ne33, ne68, ne69, ne106, ne107, ne108⟩, f129, f133, f135, f137, f126, f130, f131, f132, f134, f136, f138⟩
theorem d9_0 : decode prog_73_method_23_code 0 = .ok (.iconst 1, 1) := by decide +kernel
theorem d9_1 : decode prog_73_method_23_code 1 = .ok (.istore_n 3, 1) := by decide +kernel
theorem d9_2 : decode prog_73_method_23_code 2 = .ok (.iload_n 2, 1) := by decide +kernel
theorem d9_3 : decode prog_73_method_23_code 3 = .ok (.istore 4, 2) := by decide +kernel
theorem d9_5 : decode prog_73_method_23_code 5 = .ok (.iload 4, 2) := by decide +kernel
theorem d9_7 : decode prog_73_method_23_code 7 = .ok (.iload_n 2, 1) := by decide +kernel
theorem d9_8 : decode prog_73_method_23_code 8 = .ok (.aload_n 0, 1) := by decide +kernel
theorem d9_9 : decode prog_73_method_23_code 9 = .ok (.getfield 7, 3) := by decide +kernel
theorem d9_12 : decode prog_73_method_23_code 12 = .ok (.iadd, 1) := by decide +kernel
theorem d9_13 : decode prog_73_method_23_code 13 = .ok (.if_icmp .ge 19, 3) := by decide +kernel
theorem d9_16 : decode prog_73_method_23_code 16 = .ok (.bipush 31, 2) := by decide +kernel
theorem d9_18 : decode prog_73_method_23_code 18 = .ok (.iload_n 3, 1) := by decide +kernel
theorem d9_19 : decode prog_73_method_23_code 19 = .ok (.imul, 1) := by decide +kernel
theorem d9_20 : decode prog_73_method_23_code 20 = .ok (.aload_n 1, 1) := by decide +kernel
theorem d9_21 : decode prog_73_method_23_code 21 = .ok (.iload 4, 2) := by decide +kernel
theorem d9_23 : decode prog_73_method_23_code 23 = .ok (.iaload, 1) := by decide +kernel
theorem d9_24 : decode prog_73_method_23_code 24 = .ok (.iadd, 1) := by decide +kernel
theorem d9_25 : decode prog_73_method_23_code 25 = .ok (.istore_n 3, 1) := by decide +kernel
theorem d9_26 : decode prog_73_method_23_code 26 = .ok (.iinc 4 1, 3) := by decide +kernel
theorem d9_29 : decode prog_73_method_23_code 29 = .ok (.goto (-24), 3) := by decide +kernel
theorem d9_32 : decode prog_73_method_23_code 32 = .ok (.iload_n 3, 1) := by decide +kernel
theorem d9_33 : decode prog_73_method_23_code 33 = .ok (.ldc 139, 2) := by decide +kernel
theorem d9_35 : decode prog_73_method_23_code 35 = .ok (.imul, 1) := by decide +kernel
theorem d9_36 : decode prog_73_method_23_code 36 = .ok (.istore_n 3, 1) := by decide +kernel
theorem d9_37 : decode prog_73_method_23_code 37 = .ok (.iload_n 3, 1) := by decide +kernel
theorem d9_38 : decode prog_73_method_23_code 38 = .ok (.iload_n 3, 1) := by decide +kernel
theorem d9_39 : decode prog_73_method_23_code 39 = .ok (.bipush 16, 2) := by decide +kernel
theorem d9_41 : decode prog_73_method_23_code 41 = .ok (.iushr, 1) := by decide +kernel
theorem d9_42 : decode prog_73_method_23_code 42 = .ok (.ixor, 1) := by decide +kernel
theorem d9_43 : decode prog_73_method_23_code 43 = .ok (.ireturn, 1) := by decide +kernel
set_option maxRecDepth 65536 in
set_option maxHeartbeats 40000000 in
theorem rmHash (l : Launch) (Z : State) (a0 : Array Value) (hw : ∀ d ∈ tables_1, d.before a0 Z = true) (o0 : Addr) (o1 : Addr) (x : Int32) (h : Heap) (q0 : Fld Z h o0 "com/example/projectum/projectum/reasoning/Relation" "arity" "I" (.int (1 : Int32))) (q1 : own_Ar Z h o1 .int [x]) :
    own_Con l Z (⟨"com/example/projectum/projectum/reasoning/Relation", "hash", "([II)I"⟩ : MethodName) prog_73_method_23_code 5 (some .int) [] ({ frames := 0, cells := 0, slots := 0, locals := 0 } : Room) #[(.ref o0), (.ref o1), (.int (0 : Int32))] h (own_P (some (.int (own_hv x))) h) := by
  refine own_enter (plainFor_of_name own_pn2) #[.val (.ref o0), .val (.ref o1), .val (.int (0 : Int32)), .unset, .unset] (fun m => by first | (simp [entryFrame, mkF, argsToLocals, Value.category]; done) | rfl) ?_
  intro p e s m below meth c T P
  replace P : own_S Z "com/example/projectum/projectum/reasoning/Relation" "hash" prog_73_method_23_code 5 (some .int) p l e ({ frames := 0, cells := 0, slots := 0, locals := 0 } : Room) s m #[(.ref o0), (.ref o1), (.int (0 : Int32))] below meth c T h [] 0 0 := P
  refine own_iconst P d9_0 rfl (v := (1 : Int32)) rfl ?_
  refine own_istoreN P d9_1 rfl (Ls' := #[.val (.ref o0), .val (.ref o1), .val (.int (0 : Int32)), .val (.int (1 : Int32)), .unset]) rfl ?_
  refine own_iloadN P d9_2 rfl rfl ?_
  refine own_istore P d9_3 rfl (Ls' := #[.val (.ref o0), .val (.ref o1), .val (.int (0 : Int32)), .val (.int (1 : Int32)), .val (.int (0 : Int32))]) rfl ?_
  refine own_iload P d9_5 rfl rfl ?_
  refine own_iloadN P d9_7 rfl rfl ?_
  refine own_aloadN P d9_8 rfl rfl rfl ?_
  refine own_getF P (hw _ (List.mem_of_getElem? (i := 9) rfl)) q0 d9_9 rfl (fun T140 P139 => ?_)
  refine own_iadd P139 d9_12 rfl ?_
  rw [show ((0 : Int32) + (1 : Int32)) = (1 : Int32) by decide]
  refine own_icmpN P139 (pc' := 16) d9_13 (not_not_intro (by decide : (0 : Int32) < (1 : Int32))) rfl ?_
  refine own_bipush P139 d9_16 rfl (v := (31 : Int32)) rfl ?_
  refine own_iloadN P139 d9_18 rfl rfl ?_
  refine own_imul P139 d9_19 rfl ?_
  rw [show ((31 : Int32) * (1 : Int32)) = (31 : Int32) by decide]
  refine own_aloadN P139 d9_20 rfl rfl rfl ?_
  refine own_iload P139 d9_21 rfl rfl ?_
  refine own_iaload P139 q1 d9_23 rfl (by decide) (Nat.le_of_ble_eq_true rfl) (x := x) rfl ?_
  refine own_iadd P139 d9_24 rfl ?_
  refine own_istoreN P139 d9_25 rfl (Ls' := #[.val (.ref o0), .val (.ref o1), .val (.int (0 : Int32)), .val (.int ((31 : Int32) + x)), .val (.int (0 : Int32))]) rfl ?_
  refine own_iinc P139 d9_26 rfl rfl (v := (1 : Int32)) rfl (Ls' := #[.val (.ref o0), .val (.ref o1), .val (.int (0 : Int32)), .val (.int ((31 : Int32) + x)), .val (.int ((0 : Int32) + (1 : Int32)))]) rfl ?_
  rw [show ((0 : Int32) + (1 : Int32)) = (1 : Int32) by decide]
  refine own_goto P139 (pc' := 5) d9_29 (by decide) (by decide) ?_
  refine own_iload P139 d9_5 rfl rfl ?_
  refine own_iloadN P139 d9_7 rfl rfl ?_
  refine own_aloadN P139 d9_8 rfl rfl rfl ?_
  refine own_getF P139 (hw _ (List.mem_of_getElem? (i := 9) rfl)) q0 d9_9 rfl (fun T142 P141 => ?_)
  refine own_iadd P141 d9_12 rfl ?_
  rw [show ((0 : Int32) + (1 : Int32)) = (1 : Int32) by decide]
  refine own_icmpY P141 (pc' := 32) d9_13 (by decide : ¬ ((1 : Int32) < (1 : Int32))) (by decide) (by decide) ?_
  refine own_iloadN P141 d9_32 rfl rfl ?_
  refine own_ldc P141 (v := (-1640531527 : Int32)) (hw _ (List.mem_of_getElem? (i := 54) rfl)) d9_33 rfl ?_
  refine own_imul P141 d9_35 rfl ?_
  refine own_istoreN P141 d9_36 rfl (Ls' := #[.val (.ref o0), .val (.ref o1), .val (.int (0 : Int32)), .val (.int (((31 : Int32) + x) * (-1640531527 : Int32))), .val (.int (1 : Int32))]) rfl ?_
  refine own_iloadN P141 d9_37 rfl rfl ?_
  refine own_iloadN P141 d9_38 rfl rfl ?_
  refine own_bipush P141 d9_39 rfl (v := (16 : Int32)) rfl ?_
  refine own_iushr P141 d9_41 rfl ?_
  refine own_ixor P141 d9_42 rfl ?_
  exact own_retI P141 d9_43 (by decide) (by decide) ⟨rfl, rfl, rfl⟩
theorem d8_0 : decode prog_73_method_21_code 0 = .ok (.aload_n 0, 1) := by decide +kernel
theorem d8_1 : decode prog_73_method_21_code 1 = .ok (.iload_n 1, 1) := by decide +kernel
theorem d8_2 : decode prog_73_method_21_code 2 = .ok (.newarray .int, 2) := by decide +kernel
theorem d8_4 : decode prog_73_method_21_code 4 = .ok (.putfield 46, 3) := by decide +kernel
theorem d8_7 : decode prog_73_method_21_code 7 = .ok (.iconst 0, 1) := by decide +kernel
theorem d8_8 : decode prog_73_method_21_code 8 = .ok (.istore_n 2, 1) := by decide +kernel
theorem d8_9 : decode prog_73_method_21_code 9 = .ok (.iload_n 2, 1) := by decide +kernel
theorem d8_10 : decode prog_73_method_21_code 10 = .ok (.aload_n 0, 1) := by decide +kernel
theorem d8_11 : decode prog_73_method_21_code 11 = .ok (.getfield 26, 3) := by decide +kernel
theorem d8_14 : decode prog_73_method_21_code 14 = .ok (.if_icmp .ge 14, 3) := by decide +kernel
theorem d8_28 : decode prog_73_method_21_code 28 = .ok (.return_, 1) := by decide +kernel
set_option maxRecDepth 65536 in
set_option maxHeartbeats 40000000 in
theorem rmReh (l : Launch) (Z : State) (a0 : Array Value) (hw : ∀ d ∈ tables_1, d.before a0 Z = true) (o0 : Addr) (ro : Addr) (co : Addr) (bp : Addr) (h : Heap) (n0 : Nat) (Z0 : n0 ≤ h.size) (g_o0 : n0 ≤ o0) (q0 : Exa Z h o0 "com/example/projectum/projectum/reasoning/Relation") (q1 : Fld Z h o0 "com/example/projectum/projectum/reasoning/Relation" "arity" "I" (.int (1 : Int32))) (q2 : Fld Z h o0 "com/example/projectum/projectum/reasoning/Relation" "rows" "[I" (.ref ro)) (q3 : Fld Z h o0 "com/example/projectum/projectum/reasoning/Relation" "counts" "[I" (.ref co)) (q4 : Fld Z h o0 "com/example/projectum/projectum/reasoning/Relation" "byPosition" "[Lcom/example/projectum/projectum/reasoning/Relation$NodeIndex;" (.ref bp)) (q5 : Fld Z h o0 "com/example/projectum/projectum/reasoning/Relation" "size" "I" (.int (0 : Int32))) (q6 : Fld Z h o0 "com/example/projectum/projectum/reasoning/Relation" "slots" "[I" .null) (q7 : Fld Z h o0 "com/example/projectum/projectum/reasoning/Relation" "freeSlot" "I" (.int (0 : Int32))) :
    own_Con l Z (⟨"com/example/projectum/projectum/reasoning/Relation", "rehash", "(I)V"⟩ : MethodName) prog_73_method_21_code 3 none [] ({ frames := 0, cells := 1, slots := 16, locals := 0 } : Room) #[(.ref o0), (.int (16 : Int32))] h (fun v h' L => v = none ∧ Fr n0 L ∧ Keep h h' [o0] ∧ ∃ so : Addr, n0 ≤ so ∧ h.size ≤ so ∧ Exa Z h' o0 "com/example/projectum/projectum/reasoning/Relation" ∧ Fld Z h' o0 "com/example/projectum/projectum/reasoning/Relation" "arity" "I" (.int (1 : Int32)) ∧ Fld Z h' o0 "com/example/projectum/projectum/reasoning/Relation" "rows" "[I" (.ref ro) ∧ Fld Z h' o0 "com/example/projectum/projectum/reasoning/Relation" "counts" "[I" (.ref co) ∧ Fld Z h' o0 "com/example/projectum/projectum/reasoning/Relation" "byPosition" "[Lcom/example/projectum/projectum/reasoning/Relation$NodeIndex;" (.ref bp) ∧ Fld Z h' o0 "com/example/projectum/projectum/reasoning/Relation" "size" "I" (.int (0 : Int32)) ∧ Fld Z h' o0 "com/example/projectum/projectum/reasoning/Relation" "slots" "[I" (.ref so) ∧ Fld Z h' o0 "com/example/projectum/projectum/reasoning/Relation" "freeSlot" "I" (.int (0 : Int32)) ∧ own_Ar Z h' so .int [(0 : Int32), (0 : Int32), (0 : Int32), (0 : Int32), (0 : Int32), (0 : Int32), (0 : Int32), (0 : Int32), (0 : Int32), (0 : Int32), (0 : Int32), (0 : Int32), (0 : Int32), (0 : Int32), (0 : Int32), (0 : Int32)]) := by
  refine own_enter (plainFor_of_name own_pn2) #[.val (.ref o0), .val (.int (16 : Int32)), .unset] (fun m => by first | (simp [entryFrame, mkF, argsToLocals, Value.category]; done) | rfl) ?_
  intro p e s m below meth c T P
  replace P : own_S Z "com/example/projectum/projectum/reasoning/Relation" "rehash" prog_73_method_21_code 3 none p l e ({ frames := 0, cells := 1, slots := 16, locals := 0 } : Room) s m #[(.ref o0), (.int (16 : Int32))] below meth c T h [] 0 0 := P
  have N0 : Fr n0 [] := Fr.nil n0
  refine own_aloadN P d8_0 rfl rfl rfl ?_
  refine own_iloadN P d8_1 rfl rfl ?_
  refine own_arrNew P 16 (hw _ (List.mem_of_getElem? (i := 11) rfl)) rfl rfl d8_2 rfl (by decide) (by decide) (by decide) (by decide) (by decide) (fun T148 h149 b143 ha144 E145 A146 P147 => ?_)
  have ne150 : o0 ≠ b143 := by rw [ha144]; exact Nat.ne_of_lt q0.lt
  have g151 : n0 ≤ b143 := by rw [ha144]; exact Z0
  have sz152 : h.size ≤ b143 := by rw [ha144]; exact (Keep.refl h [o0]).1
  have f153 := q0.ext E145
  have f154 := q1.ext E145
  have f155 := q2.ext E145
  have f156 := q3.ext E145
  have f157 := q4.ext E145
  have f158 := q5.ext E145
  have f159 := q6.ext E145
  have f160 := q7.ext E145
  have K161 := (Keep.refl h [o0]).ext E145
  have f162 : own_Ar Z h149 b143 .int [(0 : Int32), (0 : Int32), (0 : Int32), (0 : Int32), (0 : Int32), (0 : Int32), (0 : Int32), (0 : Int32), (0 : Int32), (0 : Int32), (0 : Int32), (0 : Int32), (0 : Int32), (0 : Int32), (0 : Int32), (0 : Int32)] := A146
  refine own_putF P147 (hw _ (List.mem_of_getElem? (i := 29) rfl)) f159 f153 (Or.inl (hw _ (List.mem_of_getElem? (i := 30) rfl))) (hw _ (List.mem_of_getElem? (i := 1) rfl)) (ty := (.array .int)) (by decide) rfl rfl d8_4 rfl (fun T164 h165 W166 P163 => ?_)
  have f167 := f159.same W166
  have N168 := Fr.snoc P163.st N0 g_o0
  have K169 := K161.wr W166 (Or.inl (List.mem_of_getElem? (i := 0) rfl))
  have f170 := f153.wr W166
  have f171 := f154.other W166 (Or.inr (slot_ne (Or.inr (hw _ (List.mem_of_getElem? (i := 10) rfl))) (Or.inl (hw _ (List.mem_of_getElem? (i := 30) rfl))) (by decide) (t := .int) (t' := (.array .int)) (by decide) (by decide)))
  have f172 := f155.other W166 (Or.inr (slot_ne (Or.inl (hw _ (List.mem_of_getElem? (i := 13) rfl))) (Or.inl (hw _ (List.mem_of_getElem? (i := 30) rfl))) (by decide) (t := (.array .int)) (t' := (.array .int)) (by decide) (by decide)))
  have f173 := f156.other W166 (Or.inr (slot_ne (Or.inl (hw _ (List.mem_of_getElem? (i := 15) rfl))) (Or.inl (hw _ (List.mem_of_getElem? (i := 30) rfl))) (by decide) (t := (.array .int)) (t' := (.array .int)) (by decide) (by decide)))
  have f174 := f157.other W166 (Or.inr (slot_ne (Or.inr (hw _ (List.mem_of_getElem? (i := 19) rfl))) (Or.inl (hw _ (List.mem_of_getElem? (i := 30) rfl))) (by decide) (t := (.array (.object "com/example/projectum/projectum/reasoning/Relation$NodeIndex"))) (t' := (.array .int)) (by decide) (by decide)))
  have f175 := f158.other W166 (Or.inr (slot_ne (Or.inl (hw _ (List.mem_of_getElem? (i := 32) rfl))) (Or.inl (hw _ (List.mem_of_getElem? (i := 30) rfl))) (by decide) (t := .int) (t' := (.array .int)) (by decide) (by decide)))
  have f176 := f160.other W166 (Or.inr (slot_ne (Or.inl (hw _ (List.mem_of_getElem? (i := 56) rfl))) (Or.inl (hw _ (List.mem_of_getElem? (i := 30) rfl))) (by decide) (t := .int) (t' := (.array .int)) (by decide) (by decide)))
  have f177 := f162.other W166 (Ne.symm ne150)
  refine own_iconst P163 d8_7 rfl (v := (0 : Int32)) rfl ?_
  refine own_istoreN P163 d8_8 rfl (Ls' := #[.val (.ref o0), .val (.int (16 : Int32)), .val (.int (0 : Int32))]) rfl ?_
  refine own_iloadN P163 d8_9 rfl rfl ?_
  refine own_aloadN P163 d8_10 rfl rfl rfl ?_
  refine own_getF P163 (hw _ (List.mem_of_getElem? (i := 31) rfl)) f175 d8_11 rfl (fun T179 P178 => ?_)
  refine own_icmpY P178 (pc' := 28) d8_14 (by decide : ¬ ((0 : Int32) < (0 : Int32))) (by decide) (by decide) ?_
  exact own_retV P178 d8_28 (by decide) (by decide) ⟨rfl, N168, K169, b143, g151, sz152, f170, f171, f172, f173, f174, f175, f167, f176, f177⟩
theorem d4_0 : decode prog_73_method_17_code 0 = .ok (.aload_n 0, 1) := by decide +kernel
theorem d4_1 : decode prog_73_method_17_code 1 = .ok (.getfield 46, 3) := by decide +kernel
theorem d4_4 : decode prog_73_method_17_code 4 = .ok (.ifnonnull 25, 3) := by decide +kernel
theorem d4_29 : decode prog_73_method_17_code 29 = .ok (.aload_n 0, 1) := by decide +kernel
theorem d4_30 : decode prog_73_method_17_code 30 = .ok (.getfield 46, 3) := by decide +kernel
theorem d4_33 : decode prog_73_method_17_code 33 = .ok (.arraylength, 1) := by decide +kernel
theorem d4_34 : decode prog_73_method_17_code 34 = .ok (.iconst 1, 1) := by decide +kernel
theorem d4_35 : decode prog_73_method_17_code 35 = .ok (.isub, 1) := by decide +kernel
theorem d4_36 : decode prog_73_method_17_code 36 = .ok (.istore_n 2, 1) := by decide +kernel
theorem d4_37 : decode prog_73_method_17_code 37 = .ok (.aload_n 0, 1) := by decide +kernel
theorem d4_38 : decode prog_73_method_17_code 38 = .ok (.aload_n 1, 1) := by decide +kernel
theorem d4_39 : decode prog_73_method_17_code 39 = .ok (.iconst 0, 1) := by decide +kernel
theorem d4_40 : decode prog_73_method_17_code 40 = .ok (.invokevirtual 124, 3) := by decide +kernel
theorem own_pd1 : parseMethodDescriptor "([II)I" = some ⟨[(.array .int), .int], some .int⟩ := by decide +kernel
theorem d4_43 : decode prog_73_method_17_code 43 = .ok (.iload_n 2, 1) := by decide +kernel
theorem d4_44 : decode prog_73_method_17_code 44 = .ok (.iand, 1) := by decide +kernel
theorem d4_45 : decode prog_73_method_17_code 45 = .ok (.istore_n 3, 1) := by decide +kernel
theorem d4_46 : decode prog_73_method_17_code 46 = .ok (.aload_n 0, 1) := by decide +kernel
theorem d4_47 : decode prog_73_method_17_code 47 = .ok (.getfield 46, 3) := by decide +kernel
theorem d4_50 : decode prog_73_method_17_code 50 = .ok (.iload_n 3, 1) := by decide +kernel
theorem d4_51 : decode prog_73_method_17_code 51 = .ok (.iaload, 1) := by decide +kernel
theorem d4_52 : decode prog_73_method_17_code 52 = .ok (.istore 4, 2) := by decide +kernel
theorem d4_54 : decode prog_73_method_17_code 54 = .ok (.iload 4, 2) := by decide +kernel
theorem d4_56 : decode prog_73_method_17_code 56 = .ok (.ifCond .eq 80, 3) := by decide +kernel
theorem d4_59 : decode prog_73_method_17_code 59 = .ok (.iload 4, 2) := by decide +kernel
theorem d4_61 : decode prog_73_method_17_code 61 = .ok (.iconst 1, 1) := by decide +kernel
theorem d4_62 : decode prog_73_method_17_code 62 = .ok (.isub, 1) := by decide +kernel
theorem d4_63 : decode prog_73_method_17_code 63 = .ok (.aload_n 0, 1) := by decide +kernel
theorem d4_64 : decode prog_73_method_17_code 64 = .ok (.getfield 7, 3) := by decide +kernel
theorem d4_67 : decode prog_73_method_17_code 67 = .ok (.imul, 1) := by decide +kernel
theorem d4_68 : decode prog_73_method_17_code 68 = .ok (.istore 5, 2) := by decide +kernel
theorem d4_70 : decode prog_73_method_17_code 70 = .ok (.iconst 0, 1) := by decide +kernel
theorem d4_71 : decode prog_73_method_17_code 71 = .ok (.istore 6, 2) := by decide +kernel
theorem d4_73 : decode prog_73_method_17_code 73 = .ok (.iload 6, 2) := by decide +kernel
theorem d4_75 : decode prog_73_method_17_code 75 = .ok (.aload_n 0, 1) := by decide +kernel
theorem d4_76 : decode prog_73_method_17_code 76 = .ok (.getfield 7, 3) := by decide +kernel
theorem d4_79 : decode prog_73_method_17_code 79 = .ok (.if_icmp .ge 26, 3) := by decide +kernel
theorem d4_82 : decode prog_73_method_17_code 82 = .ok (.aload_n 0, 1) := by decide +kernel
theorem d4_83 : decode prog_73_method_17_code 83 = .ok (.getfield 13, 3) := by decide +kernel
theorem d4_86 : decode prog_73_method_17_code 86 = .ok (.iload 5, 2) := by decide +kernel
theorem d4_88 : decode prog_73_method_17_code 88 = .ok (.iload 6, 2) := by decide +kernel
theorem d4_90 : decode prog_73_method_17_code 90 = .ok (.iadd, 1) := by decide +kernel
theorem d4_91 : decode prog_73_method_17_code 91 = .ok (.iaload, 1) := by decide +kernel
theorem d4_92 : decode prog_73_method_17_code 92 = .ok (.aload_n 1, 1) := by decide +kernel
theorem d4_93 : decode prog_73_method_17_code 93 = .ok (.iload 6, 2) := by decide +kernel
theorem d4_95 : decode prog_73_method_17_code 95 = .ok (.iaload, 1) := by decide +kernel
theorem d4_96 : decode prog_73_method_17_code 96 = .ok (.if_icmp .ne 9, 3) := by decide +kernel
theorem d4_99 : decode prog_73_method_17_code 99 = .ok (.iinc 6 1, 3) := by decide +kernel
theorem d4_102 : decode prog_73_method_17_code 102 = .ok (.goto (-29), 3) := by decide +kernel
theorem d4_105 : decode prog_73_method_17_code 105 = .ok (.iload 6, 2) := by decide +kernel
theorem d4_107 : decode prog_73_method_17_code 107 = .ok (.aload_n 0, 1) := by decide +kernel
theorem d4_108 : decode prog_73_method_17_code 108 = .ok (.getfield 7, 3) := by decide +kernel
theorem d4_111 : decode prog_73_method_17_code 111 = .ok (.if_icmp .ne 8, 3) := by decide +kernel
theorem d4_114 : decode prog_73_method_17_code 114 = .ok (.iload 4, 2) := by decide +kernel
theorem d4_116 : decode prog_73_method_17_code 116 = .ok (.iconst 1, 1) := by decide +kernel
theorem d4_117 : decode prog_73_method_17_code 117 = .ok (.isub, 1) := by decide +kernel
theorem d4_118 : decode prog_73_method_17_code 118 = .ok (.ireturn, 1) := by decide +kernel
set_option maxRecDepth 65536 in
set_option maxHeartbeats 40000000 in
theorem rmIA (l : Launch) (Z : State) (a0 : Array Value) (hw : ∀ d ∈ tables_1, d.before a0 Z = true) (o0 : Addr) (o1 : Addr) (ro : Addr) (co : Addr) (bp : Addr) (so : Addr) (x : Int32) (r0 : Int32) (r1 : Int32) (r2 : Int32) (r3 : Int32) (c0 : Int32) (c1 : Int32) (c2 : Int32) (c3 : Int32) (n : Int32) (f : Int32) (sl : List Int32) (h : Heap) (ne_o0_ro : o0 ≠ ro) (ne_o0_co : o0 ≠ co) (ne_ro_co : ro ≠ co) (ne_o0_bp : o0 ≠ bp) (ne_ro_bp : ro ≠ bp) (ne_co_bp : co ≠ bp) (ne_o0_so : o0 ≠ so) (ne_ro_so : ro ≠ so) (ne_co_so : co ≠ so) (ne_bp_so : bp ≠ so) (ne_o0_o1 : o0 ≠ o1) (ne_ro_o1 : ro ≠ o1) (ne_co_o1 : co ≠ o1) (ne_bp_o1 : bp ≠ o1) (ne_so_o1 : so ≠ o1) (q0 : Exa Z h o0 "com/example/projectum/projectum/reasoning/Relation") (q1 : Fld Z h o0 "com/example/projectum/projectum/reasoning/Relation" "arity" "I" (.int (1 : Int32))) (q2 : Fld Z h o0 "com/example/projectum/projectum/reasoning/Relation" "rows" "[I" (.ref ro)) (q3 : Fld Z h o0 "com/example/projectum/projectum/reasoning/Relation" "counts" "[I" (.ref co)) (q4 : Fld Z h o0 "com/example/projectum/projectum/reasoning/Relation" "byPosition" "[Lcom/example/projectum/projectum/reasoning/Relation$NodeIndex;" (.ref bp)) (q5 : Fld Z h o0 "com/example/projectum/projectum/reasoning/Relation" "size" "I" (.int n)) (q6 : Fld Z h o0 "com/example/projectum/projectum/reasoning/Relation" "slots" "[I" (.ref so)) (q7 : Fld Z h o0 "com/example/projectum/projectum/reasoning/Relation" "freeSlot" "I" (.int f)) (q8 : own_Ar Z h ro .int [r0, r1, r2, r3]) (q9 : own_Ar Z h co .int [c0, c1, c2, c3]) (q10 : own_Nl Z h bp (.object "com/example/projectum/projectum/reasoning/Relation$NodeIndex")) (q11 : own_Ar Z h so .int sl) (q12 : own_Ar Z h o1 .int [x]) (hsl : sl.length = 16) (hr : r0 = x) (hp1 : sl.getD ((own_hv x) &&& (15 : Int32)).toInt.toNat 0 = (1 : Int32)) :
    own_Con l Z (⟨"com/example/projectum/projectum/reasoning/Relation", "indexOf", "([I)I"⟩ : MethodName) prog_73_method_17_code 7 (some .int) [] ({ frames := 1, cells := 0, slots := 0, locals := 16 } : Room) #[(.ref o0), (.ref o1)] h (own_P (some (.int (0 : Int32))) h) := by
  refine own_enter (plainFor_of_name own_pn2) #[.val (.ref o0), .val (.ref o1), .unset, .unset, .unset, .unset, .unset] (fun m => by first | (simp [entryFrame, mkF, argsToLocals, Value.category]; done) | rfl) ?_
  intro p e s m below meth c T P
  replace P : own_S Z "com/example/projectum/projectum/reasoning/Relation" "indexOf" prog_73_method_17_code 7 (some .int) p l e ({ frames := 1, cells := 0, slots := 0, locals := 16 } : Room) s m #[(.ref o0), (.ref o1)] below meth c T h [] 0 0 := P
  refine own_aloadN P d4_0 rfl rfl rfl ?_
  refine own_getF P (hw _ (List.mem_of_getElem? (i := 29) rfl)) q6 d4_1 rfl (fun T181 P180 => ?_)
  refine own_nnY P180 (pc' := 29) d4_4 (by decide) (by decide) ?_
  refine own_aloadN P180 d4_29 rfl rfl rfl ?_
  refine own_getF P180 (hw _ (List.mem_of_getElem? (i := 29) rfl)) q6 d4_30 rfl (fun T183 P182 => ?_)
  refine own_alen P182 q11 d4_33 rfl (v := (16 : Int32)) (by rw [hsl]; rfl) ?_
  refine own_iconst P182 d4_34 rfl (v := (1 : Int32)) rfl ?_
  refine own_isub P182 d4_35 rfl ?_
  rw [show ((16 : Int32) - (1 : Int32)) = (15 : Int32) by decide]
  refine own_istoreN P182 d4_36 rfl (Ls' := #[.val (.ref o0), .val (.ref o1), .val (.int (15 : Int32)), .unset, .unset, .unset, .unset]) rfl ?_
  refine own_aloadN P182 d4_37 rfl rfl rfl ?_
  refine own_aloadN P182 d4_38 rfl rfl rfl ?_
  refine own_iconst P182 d4_39 rfl (v := (0 : Int32)) rfl ?_
  refine own_privP P182 (hw _ (List.mem_of_getElem? (i := 50) rfl)) (hw _ (List.mem_of_getElem? (i := 51) rfl)) (hw _ (List.mem_of_getElem? (i := 52) rfl)) (hw _ (List.mem_of_getElem? (i := 1) rfl)) (hw _ (List.mem_of_getElem? (i := 2) rfl)) (hw _ (List.mem_of_getElem? (i := 53) rfl)) (by decide) q0 (argsL := [(.ref o1), (.int (0 : Int32))]) (rest := []) (rmHash l Z a0 hw o0 o1 x h q1 q12) d4_40 rfl own_pd1 rfl rfl rfl (by decide) 0 rfl (by decide) rfl rfl (by decide) (by decide) (fun T185 P184 => ?_)
  show own_Go p e below _ (T185.setTop (mkF m 43 #[.val (.ref o0), .val (.ref o1), .val (.int (15 : Int32)), .unset, .unset, .unset, .unset] [(.int (own_hv x))]))
  refine own_iloadN P184 d4_43 rfl rfl ?_
  refine own_iand P184 d4_44 rfl ?_
  refine own_istoreN P184 d4_45 rfl (Ls' := #[.val (.ref o0), .val (.ref o1), .val (.int (15 : Int32)), .val (.int ((own_hv x) &&& (15 : Int32))), .unset, .unset, .unset]) rfl ?_
  refine own_aloadN P184 d4_46 rfl rfl rfl ?_
  refine own_getF P184 (hw _ (List.mem_of_getElem? (i := 29) rfl)) q6 d4_47 rfl (fun T191 P190 => ?_)
  refine own_iloadN P190 d4_50 rfl rfl ?_
  refine own_iaload P190 q11 d4_51 rfl (own_15 _).1 (own_15b hsl) (x := (1 : Int32)) hp1 ?_
  refine own_istore P190 d4_52 rfl (Ls' := #[.val (.ref o0), .val (.ref o1), .val (.int (15 : Int32)), .val (.int ((own_hv x) &&& (15 : Int32))), .val (.int (1 : Int32)), .unset, .unset]) rfl ?_
  refine own_iload P190 d4_54 rfl rfl ?_
  refine own_if0N P190 (pc' := 59) d4_56 (by decide : ¬ ((1 : Int32) = (0 : Int32))) rfl ?_
  refine own_iload P190 d4_59 rfl rfl ?_
  refine own_iconst P190 d4_61 rfl (v := (1 : Int32)) rfl ?_
  refine own_isub P190 d4_62 rfl ?_
  rw [show ((1 : Int32) - (1 : Int32)) = (0 : Int32) by decide]
  refine own_aloadN P190 d4_63 rfl rfl rfl ?_
  refine own_getF P190 (hw _ (List.mem_of_getElem? (i := 9) rfl)) q1 d4_64 rfl (fun T193 P192 => ?_)
  refine own_imul P192 d4_67 rfl ?_
  rw [show ((0 : Int32) * (1 : Int32)) = (0 : Int32) by decide]
  refine own_istore P192 d4_68 rfl (Ls' := #[.val (.ref o0), .val (.ref o1), .val (.int (15 : Int32)), .val (.int ((own_hv x) &&& (15 : Int32))), .val (.int (1 : Int32)), .val (.int (0 : Int32)), .unset]) rfl ?_
  refine own_iconst P192 d4_70 rfl (v := (0 : Int32)) rfl ?_
  refine own_istore P192 d4_71 rfl (Ls' := #[.val (.ref o0), .val (.ref o1), .val (.int (15 : Int32)), .val (.int ((own_hv x) &&& (15 : Int32))), .val (.int (1 : Int32)), .val (.int (0 : Int32)), .val (.int (0 : Int32))]) rfl ?_
  refine own_iload P192 d4_73 rfl rfl ?_
  refine own_aloadN P192 d4_75 rfl rfl rfl ?_
  refine own_getF P192 (hw _ (List.mem_of_getElem? (i := 9) rfl)) q1 d4_76 rfl (fun T195 P194 => ?_)
  refine own_icmpN P194 (pc' := 82) d4_79 (not_not_intro (by decide : (0 : Int32) < (1 : Int32))) rfl ?_
  refine own_aloadN P194 d4_82 rfl rfl rfl ?_
  refine own_getF P194 (hw _ (List.mem_of_getElem? (i := 12) rfl)) q2 d4_83 rfl (fun T197 P196 => ?_)
  refine own_iload P196 d4_86 rfl rfl ?_
  refine own_iload P196 d4_88 rfl rfl ?_
  refine own_iadd P196 d4_90 rfl ?_
  rw [show ((0 : Int32) + (0 : Int32)) = (0 : Int32) by decide]
  refine own_iaload P196 q8 d4_91 rfl (by decide) (Nat.le_of_ble_eq_true rfl) (x := r0) rfl ?_
  refine own_aloadN P196 d4_92 rfl rfl rfl ?_
  refine own_iload P196 d4_93 rfl rfl ?_
  refine own_iaload P196 q12 d4_95 rfl (by decide) (Nat.le_of_ble_eq_true rfl) (x := x) rfl ?_
  refine own_icmpN P196 (pc' := 99) d4_96 (not_not_intro hr) rfl ?_
  refine own_iinc P196 d4_99 rfl rfl (v := (1 : Int32)) rfl (Ls' := #[.val (.ref o0), .val (.ref o1), .val (.int (15 : Int32)), .val (.int ((own_hv x) &&& (15 : Int32))), .val (.int (1 : Int32)), .val (.int (0 : Int32)), .val (.int ((0 : Int32) + (1 : Int32)))]) rfl ?_
  rw [show ((0 : Int32) + (1 : Int32)) = (1 : Int32) by decide]
  refine own_goto P196 (pc' := 73) d4_102 (by decide) (by decide) ?_
  refine own_iload P196 d4_73 rfl rfl ?_
  refine own_aloadN P196 d4_75 rfl rfl rfl ?_
  refine own_getF P196 (hw _ (List.mem_of_getElem? (i := 9) rfl)) q1 d4_76 rfl (fun T199 P198 => ?_)
  refine own_icmpY P198 (pc' := 105) d4_79 (by decide : ¬ ((1 : Int32) < (1 : Int32))) (by decide) (by decide) ?_
  refine own_iload P198 d4_105 rfl rfl ?_
  refine own_aloadN P198 d4_107 rfl rfl rfl ?_
  refine own_getF P198 (hw _ (List.mem_of_getElem? (i := 9) rfl)) q1 d4_108 rfl (fun T201 P200 => ?_)
  refine own_icmpN P200 (pc' := 114) d4_111 (not_not_intro (by decide : (1 : Int32) = (1 : Int32))) rfl ?_
  refine own_iload P200 d4_114 rfl rfl ?_
  refine own_iconst P200 d4_116 rfl (v := (1 : Int32)) rfl ?_
  refine own_isub P200 d4_117 rfl ?_
  rw [show ((1 : Int32) - (1 : Int32)) = (0 : Int32) by decide]
  exact own_retI P200 d4_118 (by decide) (by decide) ⟨rfl, rfl, rfl⟩
set_option maxRecDepth 65536 in
set_option maxHeartbeats 40000000 in
theorem rmIB1 (l : Launch) (Z : State) (a0 : Array Value) (hw : ∀ d ∈ tables_1, d.before a0 Z = true) (o0 : Addr) (o1 : Addr) (ro : Addr) (co : Addr) (bp : Addr) (so : Addr) (x : Int32) (r0 : Int32) (r1 : Int32) (r2 : Int32) (r3 : Int32) (c0 : Int32) (c1 : Int32) (c2 : Int32) (c3 : Int32) (n : Int32) (f : Int32) (sl : List Int32) (h : Heap) (ne_o0_ro : o0 ≠ ro) (ne_o0_co : o0 ≠ co) (ne_ro_co : ro ≠ co) (ne_o0_bp : o0 ≠ bp) (ne_ro_bp : ro ≠ bp) (ne_co_bp : co ≠ bp) (ne_o0_so : o0 ≠ so) (ne_ro_so : ro ≠ so) (ne_co_so : co ≠ so) (ne_bp_so : bp ≠ so) (ne_o0_o1 : o0 ≠ o1) (ne_ro_o1 : ro ≠ o1) (ne_co_o1 : co ≠ o1) (ne_bp_o1 : bp ≠ o1) (ne_so_o1 : so ≠ o1) (q0 : Exa Z h o0 "com/example/projectum/projectum/reasoning/Relation") (q1 : Fld Z h o0 "com/example/projectum/projectum/reasoning/Relation" "arity" "I" (.int (1 : Int32))) (q2 : Fld Z h o0 "com/example/projectum/projectum/reasoning/Relation" "rows" "[I" (.ref ro)) (q3 : Fld Z h o0 "com/example/projectum/projectum/reasoning/Relation" "counts" "[I" (.ref co)) (q4 : Fld Z h o0 "com/example/projectum/projectum/reasoning/Relation" "byPosition" "[Lcom/example/projectum/projectum/reasoning/Relation$NodeIndex;" (.ref bp)) (q5 : Fld Z h o0 "com/example/projectum/projectum/reasoning/Relation" "size" "I" (.int n)) (q6 : Fld Z h o0 "com/example/projectum/projectum/reasoning/Relation" "slots" "[I" (.ref so)) (q7 : Fld Z h o0 "com/example/projectum/projectum/reasoning/Relation" "freeSlot" "I" (.int f)) (q8 : own_Ar Z h ro .int [r0, r1, r2, r3]) (q9 : own_Ar Z h co .int [c0, c1, c2, c3]) (q10 : own_Nl Z h bp (.object "com/example/projectum/projectum/reasoning/Relation$NodeIndex")) (q11 : own_Ar Z h so .int sl) (q12 : own_Ar Z h o1 .int [x]) (hsl : sl.length = 16) (hr : r1 = x) (hp1 : sl.getD ((own_hv x) &&& (15 : Int32)).toInt.toNat 0 = (2 : Int32)) :
    own_Con l Z (⟨"com/example/projectum/projectum/reasoning/Relation", "indexOf", "([I)I"⟩ : MethodName) prog_73_method_17_code 7 (some .int) [] ({ frames := 1, cells := 0, slots := 0, locals := 16 } : Room) #[(.ref o0), (.ref o1)] h (own_P (some (.int (1 : Int32))) h) := by
  refine own_enter (plainFor_of_name own_pn2) #[.val (.ref o0), .val (.ref o1), .unset, .unset, .unset, .unset, .unset] (fun m => by first | (simp [entryFrame, mkF, argsToLocals, Value.category]; done) | rfl) ?_
  intro p e s m below meth c T P
  replace P : own_S Z "com/example/projectum/projectum/reasoning/Relation" "indexOf" prog_73_method_17_code 7 (some .int) p l e ({ frames := 1, cells := 0, slots := 0, locals := 16 } : Room) s m #[(.ref o0), (.ref o1)] below meth c T h [] 0 0 := P
  refine own_aloadN P d4_0 rfl rfl rfl ?_
  refine own_getF P (hw _ (List.mem_of_getElem? (i := 29) rfl)) q6 d4_1 rfl (fun T203 P202 => ?_)
  refine own_nnY P202 (pc' := 29) d4_4 (by decide) (by decide) ?_
  refine own_aloadN P202 d4_29 rfl rfl rfl ?_
  refine own_getF P202 (hw _ (List.mem_of_getElem? (i := 29) rfl)) q6 d4_30 rfl (fun T205 P204 => ?_)
  refine own_alen P204 q11 d4_33 rfl (v := (16 : Int32)) (by rw [hsl]; rfl) ?_
  refine own_iconst P204 d4_34 rfl (v := (1 : Int32)) rfl ?_
  refine own_isub P204 d4_35 rfl ?_
  rw [show ((16 : Int32) - (1 : Int32)) = (15 : Int32) by decide]
  refine own_istoreN P204 d4_36 rfl (Ls' := #[.val (.ref o0), .val (.ref o1), .val (.int (15 : Int32)), .unset, .unset, .unset, .unset]) rfl ?_
  refine own_aloadN P204 d4_37 rfl rfl rfl ?_
  refine own_aloadN P204 d4_38 rfl rfl rfl ?_
  refine own_iconst P204 d4_39 rfl (v := (0 : Int32)) rfl ?_
  refine own_privP P204 (hw _ (List.mem_of_getElem? (i := 50) rfl)) (hw _ (List.mem_of_getElem? (i := 51) rfl)) (hw _ (List.mem_of_getElem? (i := 52) rfl)) (hw _ (List.mem_of_getElem? (i := 1) rfl)) (hw _ (List.mem_of_getElem? (i := 2) rfl)) (hw _ (List.mem_of_getElem? (i := 53) rfl)) (by decide) q0 (argsL := [(.ref o1), (.int (0 : Int32))]) (rest := []) (rmHash l Z a0 hw o0 o1 x h q1 q12) d4_40 rfl own_pd1 rfl rfl rfl (by decide) 0 rfl (by decide) rfl rfl (by decide) (by decide) (fun T207 P206 => ?_)
  show own_Go p e below _ (T207.setTop (mkF m 43 #[.val (.ref o0), .val (.ref o1), .val (.int (15 : Int32)), .unset, .unset, .unset, .unset] [(.int (own_hv x))]))
  refine own_iloadN P206 d4_43 rfl rfl ?_
  refine own_iand P206 d4_44 rfl ?_
  refine own_istoreN P206 d4_45 rfl (Ls' := #[.val (.ref o0), .val (.ref o1), .val (.int (15 : Int32)), .val (.int ((own_hv x) &&& (15 : Int32))), .unset, .unset, .unset]) rfl ?_
  refine own_aloadN P206 d4_46 rfl rfl rfl ?_
  refine own_getF P206 (hw _ (List.mem_of_getElem? (i := 29) rfl)) q6 d4_47 rfl (fun T213 P212 => ?_)
  refine own_iloadN P212 d4_50 rfl rfl ?_
  refine own_iaload P212 q11 d4_51 rfl (own_15 _).1 (own_15b hsl) (x := (2 : Int32)) hp1 ?_
  refine own_istore P212 d4_52 rfl (Ls' := #[.val (.ref o0), .val (.ref o1), .val (.int (15 : Int32)), .val (.int ((own_hv x) &&& (15 : Int32))), .val (.int (2 : Int32)), .unset, .unset]) rfl ?_
  refine own_iload P212 d4_54 rfl rfl ?_
  refine own_if0N P212 (pc' := 59) d4_56 (by decide : ¬ ((2 : Int32) = (0 : Int32))) rfl ?_
  refine own_iload P212 d4_59 rfl rfl ?_
  refine own_iconst P212 d4_61 rfl (v := (1 : Int32)) rfl ?_
  refine own_isub P212 d4_62 rfl ?_
  rw [show ((2 : Int32) - (1 : Int32)) = (1 : Int32) by decide]
  refine own_aloadN P212 d4_63 rfl rfl rfl ?_
  refine own_getF P212 (hw _ (List.mem_of_getElem? (i := 9) rfl)) q1 d4_64 rfl (fun T215 P214 => ?_)
  refine own_imul P214 d4_67 rfl ?_
  rw [show ((1 : Int32) * (1 : Int32)) = (1 : Int32) by decide]
  refine own_istore P214 d4_68 rfl (Ls' := #[.val (.ref o0), .val (.ref o1), .val (.int (15 : Int32)), .val (.int ((own_hv x) &&& (15 : Int32))), .val (.int (2 : Int32)), .val (.int (1 : Int32)), .unset]) rfl ?_
  refine own_iconst P214 d4_70 rfl (v := (0 : Int32)) rfl ?_
  refine own_istore P214 d4_71 rfl (Ls' := #[.val (.ref o0), .val (.ref o1), .val (.int (15 : Int32)), .val (.int ((own_hv x) &&& (15 : Int32))), .val (.int (2 : Int32)), .val (.int (1 : Int32)), .val (.int (0 : Int32))]) rfl ?_
  refine own_iload P214 d4_73 rfl rfl ?_
  refine own_aloadN P214 d4_75 rfl rfl rfl ?_
  refine own_getF P214 (hw _ (List.mem_of_getElem? (i := 9) rfl)) q1 d4_76 rfl (fun T217 P216 => ?_)
  refine own_icmpN P216 (pc' := 82) d4_79 (not_not_intro (by decide : (0 : Int32) < (1 : Int32))) rfl ?_
  refine own_aloadN P216 d4_82 rfl rfl rfl ?_
  refine own_getF P216 (hw _ (List.mem_of_getElem? (i := 12) rfl)) q2 d4_83 rfl (fun T219 P218 => ?_)
  refine own_iload P218 d4_86 rfl rfl ?_
  refine own_iload P218 d4_88 rfl rfl ?_
  refine own_iadd P218 d4_90 rfl ?_
  rw [show ((1 : Int32) + (0 : Int32)) = (1 : Int32) by decide]
  refine own_iaload P218 q8 d4_91 rfl (by decide) (Nat.le_of_ble_eq_true rfl) (x := r1) rfl ?_
  refine own_aloadN P218 d4_92 rfl rfl rfl ?_
  refine own_iload P218 d4_93 rfl rfl ?_
  refine own_iaload P218 q12 d4_95 rfl (by decide) (Nat.le_of_ble_eq_true rfl) (x := x) rfl ?_
  refine own_icmpN P218 (pc' := 99) d4_96 (not_not_intro hr) rfl ?_
  refine own_iinc P218 d4_99 rfl rfl (v := (1 : Int32)) rfl (Ls' := #[.val (.ref o0), .val (.ref o1), .val (.int (15 : Int32)), .val (.int ((own_hv x) &&& (15 : Int32))), .val (.int (2 : Int32)), .val (.int (1 : Int32)), .val (.int ((0 : Int32) + (1 : Int32)))]) rfl ?_
  rw [show ((0 : Int32) + (1 : Int32)) = (1 : Int32) by decide]
  refine own_goto P218 (pc' := 73) d4_102 (by decide) (by decide) ?_
  refine own_iload P218 d4_73 rfl rfl ?_
  refine own_aloadN P218 d4_75 rfl rfl rfl ?_
  refine own_getF P218 (hw _ (List.mem_of_getElem? (i := 9) rfl)) q1 d4_76 rfl (fun T221 P220 => ?_)
  refine own_icmpY P220 (pc' := 105) d4_79 (by decide : ¬ ((1 : Int32) < (1 : Int32))) (by decide) (by decide) ?_
  refine own_iload P220 d4_105 rfl rfl ?_
  refine own_aloadN P220 d4_107 rfl rfl rfl ?_
  refine own_getF P220 (hw _ (List.mem_of_getElem? (i := 9) rfl)) q1 d4_108 rfl (fun T223 P222 => ?_)
  refine own_icmpN P222 (pc' := 114) d4_111 (not_not_intro (by decide : (1 : Int32) = (1 : Int32))) rfl ?_
  refine own_iload P222 d4_114 rfl rfl ?_
  refine own_iconst P222 d4_116 rfl (v := (1 : Int32)) rfl ?_
  refine own_isub P222 d4_117 rfl ?_
  rw [show ((2 : Int32) - (1 : Int32)) = (1 : Int32) by decide]
  exact own_retI P222 d4_118 (by decide) (by decide) ⟨rfl, rfl, rfl⟩
theorem d4_119 : decode prog_73_method_17_code 119 = .ok (.iload_n 3, 1) := by decide +kernel
theorem d4_120 : decode prog_73_method_17_code 120 = .ok (.iconst 1, 1) := by decide +kernel
theorem d4_121 : decode prog_73_method_17_code 121 = .ok (.iadd, 1) := by decide +kernel
theorem d4_122 : decode prog_73_method_17_code 122 = .ok (.iload_n 2, 1) := by decide +kernel
theorem d4_123 : decode prog_73_method_17_code 123 = .ok (.iand, 1) := by decide +kernel
theorem d4_124 : decode prog_73_method_17_code 124 = .ok (.istore_n 3, 1) := by decide +kernel
theorem d4_125 : decode prog_73_method_17_code 125 = .ok (.aload_n 0, 1) := by decide +kernel
theorem d4_126 : decode prog_73_method_17_code 126 = .ok (.getfield 46, 3) := by decide +kernel
theorem d4_129 : decode prog_73_method_17_code 129 = .ok (.iload_n 3, 1) := by decide +kernel
theorem d4_130 : decode prog_73_method_17_code 130 = .ok (.iaload, 1) := by decide +kernel
theorem d4_131 : decode prog_73_method_17_code 131 = .ok (.istore 4, 2) := by decide +kernel
theorem d4_133 : decode prog_73_method_17_code 133 = .ok (.goto (-79), 3) := by decide +kernel
set_option maxRecDepth 65536 in
set_option maxHeartbeats 40000000 in
theorem rmIB2 (l : Launch) (Z : State) (a0 : Array Value) (hw : ∀ d ∈ tables_1, d.before a0 Z = true) (o0 : Addr) (o1 : Addr) (ro : Addr) (co : Addr) (bp : Addr) (so : Addr) (x : Int32) (r0 : Int32) (r1 : Int32) (r2 : Int32) (r3 : Int32) (c0 : Int32) (c1 : Int32) (c2 : Int32) (c3 : Int32) (n : Int32) (f : Int32) (sl : List Int32) (h : Heap) (ne_o0_ro : o0 ≠ ro) (ne_o0_co : o0 ≠ co) (ne_ro_co : ro ≠ co) (ne_o0_bp : o0 ≠ bp) (ne_ro_bp : ro ≠ bp) (ne_co_bp : co ≠ bp) (ne_o0_so : o0 ≠ so) (ne_ro_so : ro ≠ so) (ne_co_so : co ≠ so) (ne_bp_so : bp ≠ so) (ne_o0_o1 : o0 ≠ o1) (ne_ro_o1 : ro ≠ o1) (ne_co_o1 : co ≠ o1) (ne_bp_o1 : bp ≠ o1) (ne_so_o1 : so ≠ o1) (q0 : Exa Z h o0 "com/example/projectum/projectum/reasoning/Relation") (q1 : Fld Z h o0 "com/example/projectum/projectum/reasoning/Relation" "arity" "I" (.int (1 : Int32))) (q2 : Fld Z h o0 "com/example/projectum/projectum/reasoning/Relation" "rows" "[I" (.ref ro)) (q3 : Fld Z h o0 "com/example/projectum/projectum/reasoning/Relation" "counts" "[I" (.ref co)) (q4 : Fld Z h o0 "com/example/projectum/projectum/reasoning/Relation" "byPosition" "[Lcom/example/projectum/projectum/reasoning/Relation$NodeIndex;" (.ref bp)) (q5 : Fld Z h o0 "com/example/projectum/projectum/reasoning/Relation" "size" "I" (.int n)) (q6 : Fld Z h o0 "com/example/projectum/projectum/reasoning/Relation" "slots" "[I" (.ref so)) (q7 : Fld Z h o0 "com/example/projectum/projectum/reasoning/Relation" "freeSlot" "I" (.int f)) (q8 : own_Ar Z h ro .int [r0, r1, r2, r3]) (q9 : own_Ar Z h co .int [c0, c1, c2, c3]) (q10 : own_Nl Z h bp (.object "com/example/projectum/projectum/reasoning/Relation$NodeIndex")) (q11 : own_Ar Z h so .int sl) (q12 : own_Ar Z h o1 .int [x]) (hsl : sl.length = 16) (hr : r1 = x) (hp1 : sl.getD ((own_hv x) &&& (15 : Int32)).toInt.toNat 0 = (1 : Int32)) (hx : ¬ (r0 = x)) (hp2 : sl.getD ((((own_hv x) &&& (15 : Int32)) + (1 : Int32)) &&& (15 : Int32)).toInt.toNat 0 = (2 : Int32)) :
    own_Con l Z (⟨"com/example/projectum/projectum/reasoning/Relation", "indexOf", "([I)I"⟩ : MethodName) prog_73_method_17_code 7 (some .int) [] ({ frames := 1, cells := 0, slots := 0, locals := 16 } : Room) #[(.ref o0), (.ref o1)] h (own_P (some (.int (1 : Int32))) h) := by
  refine own_enter (plainFor_of_name own_pn2) #[.val (.ref o0), .val (.ref o1), .unset, .unset, .unset, .unset, .unset] (fun m => by first | (simp [entryFrame, mkF, argsToLocals, Value.category]; done) | rfl) ?_
  intro p e s m below meth c T P
  replace P : own_S Z "com/example/projectum/projectum/reasoning/Relation" "indexOf" prog_73_method_17_code 7 (some .int) p l e ({ frames := 1, cells := 0, slots := 0, locals := 16 } : Room) s m #[(.ref o0), (.ref o1)] below meth c T h [] 0 0 := P
  refine own_aloadN P d4_0 rfl rfl rfl ?_
  refine own_getF P (hw _ (List.mem_of_getElem? (i := 29) rfl)) q6 d4_1 rfl (fun T225 P224 => ?_)
  refine own_nnY P224 (pc' := 29) d4_4 (by decide) (by decide) ?_
  refine own_aloadN P224 d4_29 rfl rfl rfl ?_
  refine own_getF P224 (hw _ (List.mem_of_getElem? (i := 29) rfl)) q6 d4_30 rfl (fun T227 P226 => ?_)
  refine own_alen P226 q11 d4_33 rfl (v := (16 : Int32)) (by rw [hsl]; rfl) ?_
  refine own_iconst P226 d4_34 rfl (v := (1 : Int32)) rfl ?_
  refine own_isub P226 d4_35 rfl ?_
  rw [show ((16 : Int32) - (1 : Int32)) = (15 : Int32) by decide]
  refine own_istoreN P226 d4_36 rfl (Ls' := #[.val (.ref o0), .val (.ref o1), .val (.int (15 : Int32)), .unset, .unset, .unset, .unset]) rfl ?_
  refine own_aloadN P226 d4_37 rfl rfl rfl ?_
  refine own_aloadN P226 d4_38 rfl rfl rfl ?_
  refine own_iconst P226 d4_39 rfl (v := (0 : Int32)) rfl ?_
  refine own_privP P226 (hw _ (List.mem_of_getElem? (i := 50) rfl)) (hw _ (List.mem_of_getElem? (i := 51) rfl)) (hw _ (List.mem_of_getElem? (i := 52) rfl)) (hw _ (List.mem_of_getElem? (i := 1) rfl)) (hw _ (List.mem_of_getElem? (i := 2) rfl)) (hw _ (List.mem_of_getElem? (i := 53) rfl)) (by decide) q0 (argsL := [(.ref o1), (.int (0 : Int32))]) (rest := []) (rmHash l Z a0 hw o0 o1 x h q1 q12) d4_40 rfl own_pd1 rfl rfl rfl (by decide) 0 rfl (by decide) rfl rfl (by decide) (by decide) (fun T229 P228 => ?_)
  show own_Go p e below _ (T229.setTop (mkF m 43 #[.val (.ref o0), .val (.ref o1), .val (.int (15 : Int32)), .unset, .unset, .unset, .unset] [(.int (own_hv x))]))
  refine own_iloadN P228 d4_43 rfl rfl ?_
  refine own_iand P228 d4_44 rfl ?_
  refine own_istoreN P228 d4_45 rfl (Ls' := #[.val (.ref o0), .val (.ref o1), .val (.int (15 : Int32)), .val (.int ((own_hv x) &&& (15 : Int32))), .unset, .unset, .unset]) rfl ?_
  refine own_aloadN P228 d4_46 rfl rfl rfl ?_
  refine own_getF P228 (hw _ (List.mem_of_getElem? (i := 29) rfl)) q6 d4_47 rfl (fun T235 P234 => ?_)
  refine own_iloadN P234 d4_50 rfl rfl ?_
  refine own_iaload P234 q11 d4_51 rfl (own_15 _).1 (own_15b hsl) (x := (1 : Int32)) hp1 ?_
  refine own_istore P234 d4_52 rfl (Ls' := #[.val (.ref o0), .val (.ref o1), .val (.int (15 : Int32)), .val (.int ((own_hv x) &&& (15 : Int32))), .val (.int (1 : Int32)), .unset, .unset]) rfl ?_
  refine own_iload P234 d4_54 rfl rfl ?_
  refine own_if0N P234 (pc' := 59) d4_56 (by decide : ¬ ((1 : Int32) = (0 : Int32))) rfl ?_
  refine own_iload P234 d4_59 rfl rfl ?_
  refine own_iconst P234 d4_61 rfl (v := (1 : Int32)) rfl ?_
  refine own_isub P234 d4_62 rfl ?_
  rw [show ((1 : Int32) - (1 : Int32)) = (0 : Int32) by decide]
  refine own_aloadN P234 d4_63 rfl rfl rfl ?_
  refine own_getF P234 (hw _ (List.mem_of_getElem? (i := 9) rfl)) q1 d4_64 rfl (fun T237 P236 => ?_)
  refine own_imul P236 d4_67 rfl ?_
  rw [show ((0 : Int32) * (1 : Int32)) = (0 : Int32) by decide]
  refine own_istore P236 d4_68 rfl (Ls' := #[.val (.ref o0), .val (.ref o1), .val (.int (15 : Int32)), .val (.int ((own_hv x) &&& (15 : Int32))), .val (.int (1 : Int32)), .val (.int (0 : Int32)), .unset]) rfl ?_
  refine own_iconst P236 d4_70 rfl (v := (0 : Int32)) rfl ?_
  refine own_istore P236 d4_71 rfl (Ls' := #[.val (.ref o0), .val (.ref o1), .val (.int (15 : Int32)), .val (.int ((own_hv x) &&& (15 : Int32))), .val (.int (1 : Int32)), .val (.int (0 : Int32)), .val (.int (0 : Int32))]) rfl ?_
  refine own_iload P236 d4_73 rfl rfl ?_
  refine own_aloadN P236 d4_75 rfl rfl rfl ?_
  refine own_getF P236 (hw _ (List.mem_of_getElem? (i := 9) rfl)) q1 d4_76 rfl (fun T239 P238 => ?_)
  refine own_icmpN P238 (pc' := 82) d4_79 (not_not_intro (by decide : (0 : Int32) < (1 : Int32))) rfl ?_
  refine own_aloadN P238 d4_82 rfl rfl rfl ?_
  refine own_getF P238 (hw _ (List.mem_of_getElem? (i := 12) rfl)) q2 d4_83 rfl (fun T241 P240 => ?_)
  refine own_iload P240 d4_86 rfl rfl ?_
  refine own_iload P240 d4_88 rfl rfl ?_
  refine own_iadd P240 d4_90 rfl ?_
  rw [show ((0 : Int32) + (0 : Int32)) = (0 : Int32) by decide]
  refine own_iaload P240 q8 d4_91 rfl (by decide) (Nat.le_of_ble_eq_true rfl) (x := r0) rfl ?_
  refine own_aloadN P240 d4_92 rfl rfl rfl ?_
  refine own_iload P240 d4_93 rfl rfl ?_
  refine own_iaload P240 q12 d4_95 rfl (by decide) (Nat.le_of_ble_eq_true rfl) (x := x) rfl ?_
  refine own_icmpY P240 (pc' := 105) d4_96 hx (by decide) (by decide) ?_
  refine own_iload P240 d4_105 rfl rfl ?_
  refine own_aloadN P240 d4_107 rfl rfl rfl ?_
  refine own_getF P240 (hw _ (List.mem_of_getElem? (i := 9) rfl)) q1 d4_108 rfl (fun T243 P242 => ?_)
  refine own_icmpY P242 (pc' := 119) d4_111 (by decide : ¬ ((0 : Int32) = (1 : Int32))) (by decide) (by decide) ?_
  refine own_iloadN P242 d4_119 rfl rfl ?_
  refine own_iconst P242 d4_120 rfl (v := (1 : Int32)) rfl ?_
  refine own_iadd P242 d4_121 rfl ?_
  refine own_iloadN P242 d4_122 rfl rfl ?_
  refine own_iand P242 d4_123 rfl ?_
  refine own_istoreN P242 d4_124 rfl (Ls' := #[.val (.ref o0), .val (.ref o1), .val (.int (15 : Int32)), .val (.int ((((own_hv x) &&& (15 : Int32)) + (1 : Int32)) &&& (15 : Int32))), .val (.int (1 : Int32)), .val (.int (0 : Int32)), .val (.int (0 : Int32))]) rfl ?_
  refine own_aloadN P242 d4_125 rfl rfl rfl ?_
  refine own_getF P242 (hw _ (List.mem_of_getElem? (i := 29) rfl)) q6 d4_126 rfl (fun T245 P244 => ?_)
  refine own_iloadN P244 d4_129 rfl rfl ?_
  refine own_iaload P244 q11 d4_130 rfl (own_15 _).1 (own_15b hsl) (x := (2 : Int32)) hp2 ?_
  refine own_istore P244 d4_131 rfl (Ls' := #[.val (.ref o0), .val (.ref o1), .val (.int (15 : Int32)), .val (.int ((((own_hv x) &&& (15 : Int32)) + (1 : Int32)) &&& (15 : Int32))), .val (.int (2 : Int32)), .val (.int (0 : Int32)), .val (.int (0 : Int32))]) rfl ?_
  refine own_goto P244 (pc' := 54) d4_133 (by decide) (by decide) ?_
  refine own_iload P244 d4_54 rfl rfl ?_
  refine own_if0N P244 (pc' := 59) d4_56 (by decide : ¬ ((2 : Int32) = (0 : Int32))) rfl ?_
  refine own_iload P244 d4_59 rfl rfl ?_
  refine own_iconst P244 d4_61 rfl (v := (1 : Int32)) rfl ?_
  refine own_isub P244 d4_62 rfl ?_
  rw [show ((2 : Int32) - (1 : Int32)) = (1 : Int32) by decide]
  refine own_aloadN P244 d4_63 rfl rfl rfl ?_
  refine own_getF P244 (hw _ (List.mem_of_getElem? (i := 9) rfl)) q1 d4_64 rfl (fun T247 P246 => ?_)
  refine own_imul P246 d4_67 rfl ?_
  rw [show ((1 : Int32) * (1 : Int32)) = (1 : Int32) by decide]
  refine own_istore P246 d4_68 rfl (Ls' := #[.val (.ref o0), .val (.ref o1), .val (.int (15 : Int32)), .val (.int ((((own_hv x) &&& (15 : Int32)) + (1 : Int32)) &&& (15 : Int32))), .val (.int (2 : Int32)), .val (.int (1 : Int32)), .val (.int (0 : Int32))]) rfl ?_
  refine own_iconst P246 d4_70 rfl (v := (0 : Int32)) rfl ?_
  refine own_istore P246 d4_71 rfl (Ls' := #[.val (.ref o0), .val (.ref o1), .val (.int (15 : Int32)), .val (.int ((((own_hv x) &&& (15 : Int32)) + (1 : Int32)) &&& (15 : Int32))), .val (.int (2 : Int32)), .val (.int (1 : Int32)), .val (.int (0 : Int32))]) rfl ?_
  refine own_iload P246 d4_73 rfl rfl ?_
  refine own_aloadN P246 d4_75 rfl rfl rfl ?_
  refine own_getF P246 (hw _ (List.mem_of_getElem? (i := 9) rfl)) q1 d4_76 rfl (fun T249 P248 => ?_)
  refine own_icmpN P248 (pc' := 82) d4_79 (not_not_intro (by decide : (0 : Int32) < (1 : Int32))) rfl ?_
  refine own_aloadN P248 d4_82 rfl rfl rfl ?_
  refine own_getF P248 (hw _ (List.mem_of_getElem? (i := 12) rfl)) q2 d4_83 rfl (fun T251 P250 => ?_)
  refine own_iload P250 d4_86 rfl rfl ?_
  refine own_iload P250 d4_88 rfl rfl ?_
  refine own_iadd P250 d4_90 rfl ?_
  rw [show ((1 : Int32) + (0 : Int32)) = (1 : Int32) by decide]
  refine own_iaload P250 q8 d4_91 rfl (by decide) (Nat.le_of_ble_eq_true rfl) (x := r1) rfl ?_
  refine own_aloadN P250 d4_92 rfl rfl rfl ?_
  refine own_iload P250 d4_93 rfl rfl ?_
  refine own_iaload P250 q12 d4_95 rfl (by decide) (Nat.le_of_ble_eq_true rfl) (x := x) rfl ?_
  refine own_icmpN P250 (pc' := 99) d4_96 (not_not_intro hr) rfl ?_
  refine own_iinc P250 d4_99 rfl rfl (v := (1 : Int32)) rfl (Ls' := #[.val (.ref o0), .val (.ref o1), .val (.int (15 : Int32)), .val (.int ((((own_hv x) &&& (15 : Int32)) + (1 : Int32)) &&& (15 : Int32))), .val (.int (2 : Int32)), .val (.int (1 : Int32)), .val (.int ((0 : Int32) + (1 : Int32)))]) rfl ?_
  rw [show ((0 : Int32) + (1 : Int32)) = (1 : Int32) by decide]
  refine own_goto P250 (pc' := 73) d4_102 (by decide) (by decide) ?_
  refine own_iload P250 d4_73 rfl rfl ?_
  refine own_aloadN P250 d4_75 rfl rfl rfl ?_
  refine own_getF P250 (hw _ (List.mem_of_getElem? (i := 9) rfl)) q1 d4_76 rfl (fun T253 P252 => ?_)
  refine own_icmpY P252 (pc' := 105) d4_79 (by decide : ¬ ((1 : Int32) < (1 : Int32))) (by decide) (by decide) ?_
  refine own_iload P252 d4_105 rfl rfl ?_
  refine own_aloadN P252 d4_107 rfl rfl rfl ?_
  refine own_getF P252 (hw _ (List.mem_of_getElem? (i := 9) rfl)) q1 d4_108 rfl (fun T255 P254 => ?_)
  refine own_icmpN P254 (pc' := 114) d4_111 (not_not_intro (by decide : (1 : Int32) = (1 : Int32))) rfl ?_
  refine own_iload P254 d4_114 rfl rfl ?_
  refine own_iconst P254 d4_116 rfl (v := (1 : Int32)) rfl ?_
  refine own_isub P254 d4_117 rfl ?_
  rw [show ((2 : Int32) - (1 : Int32)) = (1 : Int32) by decide]
  exact own_retI P254 d4_118 (by decide) (by decide) ⟨rfl, rfl, rfl⟩
theorem d4_136 : decode prog_73_method_17_code 136 = .ok (.aload_n 0, 1) := by decide +kernel
theorem d4_137 : decode prog_73_method_17_code 137 = .ok (.iload_n 3, 1) := by decide +kernel
theorem d4_138 : decode prog_73_method_17_code 138 = .ok (.putfield 91, 3) := by decide +kernel
theorem d4_141 : decode prog_73_method_17_code 141 = .ok (.iconst (-1), 1) := by decide +kernel
theorem d4_142 : decode prog_73_method_17_code 142 = .ok (.ireturn, 1) := by decide +kernel
set_option maxRecDepth 65536 in
set_option maxHeartbeats 40000000 in
theorem rmIM1 (l : Launch) (Z : State) (a0 : Array Value) (hw : ∀ d ∈ tables_1, d.before a0 Z = true) (o0 : Addr) (o1 : Addr) (ro : Addr) (co : Addr) (bp : Addr) (so : Addr) (x : Int32) (r0 : Int32) (r1 : Int32) (r2 : Int32) (r3 : Int32) (c0 : Int32) (c1 : Int32) (c2 : Int32) (c3 : Int32) (n : Int32) (f : Int32) (sl : List Int32) (h : Heap) (n0 : Nat) (Z0 : n0 ≤ h.size) (g_o0 : n0 ≤ o0) (g_ro : n0 ≤ ro) (g_co : n0 ≤ co) (g_so : n0 ≤ so) (ne_o0_ro : o0 ≠ ro) (ne_o0_co : o0 ≠ co) (ne_ro_co : ro ≠ co) (ne_o0_bp : o0 ≠ bp) (ne_ro_bp : ro ≠ bp) (ne_co_bp : co ≠ bp) (ne_o0_so : o0 ≠ so) (ne_ro_so : ro ≠ so) (ne_co_so : co ≠ so) (ne_bp_so : bp ≠ so) (ne_o0_o1 : o0 ≠ o1) (ne_ro_o1 : ro ≠ o1) (ne_co_o1 : co ≠ o1) (ne_bp_o1 : bp ≠ o1) (ne_so_o1 : so ≠ o1) (q0 : Exa Z h o0 "com/example/projectum/projectum/reasoning/Relation") (q1 : Fld Z h o0 "com/example/projectum/projectum/reasoning/Relation" "arity" "I" (.int (1 : Int32))) (q2 : Fld Z h o0 "com/example/projectum/projectum/reasoning/Relation" "rows" "[I" (.ref ro)) (q3 : Fld Z h o0 "com/example/projectum/projectum/reasoning/Relation" "counts" "[I" (.ref co)) (q4 : Fld Z h o0 "com/example/projectum/projectum/reasoning/Relation" "byPosition" "[Lcom/example/projectum/projectum/reasoning/Relation$NodeIndex;" (.ref bp)) (q5 : Fld Z h o0 "com/example/projectum/projectum/reasoning/Relation" "size" "I" (.int n)) (q6 : Fld Z h o0 "com/example/projectum/projectum/reasoning/Relation" "slots" "[I" (.ref so)) (q7 : Fld Z h o0 "com/example/projectum/projectum/reasoning/Relation" "freeSlot" "I" (.int f)) (q8 : own_Ar Z h ro .int [r0, r1, r2, r3]) (q9 : own_Ar Z h co .int [c0, c1, c2, c3]) (q10 : own_Nl Z h bp (.object "com/example/projectum/projectum/reasoning/Relation$NodeIndex")) (q11 : own_Ar Z h so .int sl) (q12 : own_Ar Z h o1 .int [x]) (hsl : sl.length = 16) (hp1 : sl.getD ((own_hv x) &&& (15 : Int32)).toInt.toNat 0 = (0 : Int32)) :
    own_Con l Z (⟨"com/example/projectum/projectum/reasoning/Relation", "indexOf", "([I)I"⟩ : MethodName) prog_73_method_17_code 7 (some .int) [] ({ frames := 1, cells := 0, slots := 0, locals := 16 } : Room) #[(.ref o0), (.ref o1)] h (fun v h' L => v = some (.int (-1 : Int32)) ∧ Fr n0 L ∧ Keep h h' [o0] ∧ Exa Z h' o0 "com/example/projectum/projectum/reasoning/Relation" ∧ Fld Z h' o0 "com/example/projectum/projectum/reasoning/Relation" "arity" "I" (.int (1 : Int32)) ∧ Fld Z h' o0 "com/example/projectum/projectum/reasoning/Relation" "rows" "[I" (.ref ro) ∧ Fld Z h' o0 "com/example/projectum/projectum/reasoning/Relation" "counts" "[I" (.ref co) ∧ Fld Z h' o0 "com/example/projectum/projectum/reasoning/Relation" "byPosition" "[Lcom/example/projectum/projectum/reasoning/Relation$NodeIndex;" (.ref bp) ∧ Fld Z h' o0 "com/example/projectum/projectum/reasoning/Relation" "size" "I" (.int n) ∧ Fld Z h' o0 "com/example/projectum/projectum/reasoning/Relation" "slots" "[I" (.ref so) ∧ Fld Z h' o0 "com/example/projectum/projectum/reasoning/Relation" "freeSlot" "I" (.int ((own_hv x) &&& (15 : Int32))) ∧ own_Ar Z h' ro .int [r0, r1, r2, r3] ∧ own_Ar Z h' co .int [c0, c1, c2, c3] ∧ own_Nl Z h' bp (.object "com/example/projectum/projectum/reasoning/Relation$NodeIndex") ∧ own_Ar Z h' so .int sl) := by
  refine own_enter (plainFor_of_name own_pn2) #[.val (.ref o0), .val (.ref o1), .unset, .unset, .unset, .unset, .unset] (fun m => by first | (simp [entryFrame, mkF, argsToLocals, Value.category]; done) | rfl) ?_
  intro p e s m below meth c T P
  replace P : own_S Z "com/example/projectum/projectum/reasoning/Relation" "indexOf" prog_73_method_17_code 7 (some .int) p l e ({ frames := 1, cells := 0, slots := 0, locals := 16 } : Room) s m #[(.ref o0), (.ref o1)] below meth c T h [] 0 0 := P
  have N0 : Fr n0 [] := Fr.nil n0
  refine own_aloadN P d4_0 rfl rfl rfl ?_
  refine own_getF P (hw _ (List.mem_of_getElem? (i := 29) rfl)) q6 d4_1 rfl (fun T257 P256 => ?_)
  refine own_nnY P256 (pc' := 29) d4_4 (by decide) (by decide) ?_
  refine own_aloadN P256 d4_29 rfl rfl rfl ?_
  refine own_getF P256 (hw _ (List.mem_of_getElem? (i := 29) rfl)) q6 d4_30 rfl (fun T259 P258 => ?_)
  refine own_alen P258 q11 d4_33 rfl (v := (16 : Int32)) (by rw [hsl]; rfl) ?_
  refine own_iconst P258 d4_34 rfl (v := (1 : Int32)) rfl ?_
  refine own_isub P258 d4_35 rfl ?_
  rw [show ((16 : Int32) - (1 : Int32)) = (15 : Int32) by decide]
  refine own_istoreN P258 d4_36 rfl (Ls' := #[.val (.ref o0), .val (.ref o1), .val (.int (15 : Int32)), .unset, .unset, .unset, .unset]) rfl ?_
  refine own_aloadN P258 d4_37 rfl rfl rfl ?_
  refine own_aloadN P258 d4_38 rfl rfl rfl ?_
  refine own_iconst P258 d4_39 rfl (v := (0 : Int32)) rfl ?_
  refine own_privP P258 (hw _ (List.mem_of_getElem? (i := 50) rfl)) (hw _ (List.mem_of_getElem? (i := 51) rfl)) (hw _ (List.mem_of_getElem? (i := 52) rfl)) (hw _ (List.mem_of_getElem? (i := 1) rfl)) (hw _ (List.mem_of_getElem? (i := 2) rfl)) (hw _ (List.mem_of_getElem? (i := 53) rfl)) (by decide) q0 (argsL := [(.ref o1), (.int (0 : Int32))]) (rest := []) (rmHash l Z a0 hw o0 o1 x h q1 q12) d4_40 rfl own_pd1 rfl rfl rfl (by decide) 0 rfl (by decide) rfl rfl (by decide) (by decide) (fun T261 P260 => ?_)
  show own_Go p e below _ (T261.setTop (mkF m 43 #[.val (.ref o0), .val (.ref o1), .val (.int (15 : Int32)), .unset, .unset, .unset, .unset] [(.int (own_hv x))]))
  refine own_iloadN P260 d4_43 rfl rfl ?_
  refine own_iand P260 d4_44 rfl ?_
  refine own_istoreN P260 d4_45 rfl (Ls' := #[.val (.ref o0), .val (.ref o1), .val (.int (15 : Int32)), .val (.int ((own_hv x) &&& (15 : Int32))), .unset, .unset, .unset]) rfl ?_
  refine own_aloadN P260 d4_46 rfl rfl rfl ?_
  refine own_getF P260 (hw _ (List.mem_of_getElem? (i := 29) rfl)) q6 d4_47 rfl (fun T267 P266 => ?_)
  refine own_iloadN P266 d4_50 rfl rfl ?_
  refine own_iaload P266 q11 d4_51 rfl (own_15 _).1 (own_15b hsl) (x := (0 : Int32)) hp1 ?_
  refine own_istore P266 d4_52 rfl (Ls' := #[.val (.ref o0), .val (.ref o1), .val (.int (15 : Int32)), .val (.int ((own_hv x) &&& (15 : Int32))), .val (.int (0 : Int32)), .unset, .unset]) rfl ?_
  refine own_iload P266 d4_54 rfl rfl ?_
  refine own_if0Y P266 (pc' := 136) d4_56 (by decide : (0 : Int32) = (0 : Int32)) (by decide) (by decide) ?_
  refine own_aloadN P266 d4_136 rfl rfl rfl ?_
  refine own_iloadN P266 d4_137 rfl rfl ?_
  refine own_putF P266 (hw _ (List.mem_of_getElem? (i := 55) rfl)) q7 q0 (Or.inl (hw _ (List.mem_of_getElem? (i := 56) rfl))) (hw _ (List.mem_of_getElem? (i := 1) rfl)) (ty := .int) (by decide) rfl rfl d4_138 rfl (fun T269 h270 W271 P268 => ?_)
  have f272 := q7.same W271
  have N273 := Fr.snoc P268.st N0 g_o0
  have K274 := (Keep.refl h [o0]).wr W271 (Or.inl (List.mem_of_getElem? (i := 0) rfl))
  have f275 := q0.wr W271
  have f276 := q1.other W271 (Or.inr (slot_ne (Or.inr (hw _ (List.mem_of_getElem? (i := 10) rfl))) (Or.inl (hw _ (List.mem_of_getElem? (i := 56) rfl))) (by decide) (t := .int) (t' := .int) (by decide) (by decide)))
  have f277 := q2.other W271 (Or.inr (slot_ne (Or.inl (hw _ (List.mem_of_getElem? (i := 13) rfl))) (Or.inl (hw _ (List.mem_of_getElem? (i := 56) rfl))) (by decide) (t := (.array .int)) (t' := .int) (by decide) (by decide)))
  have f278 := q3.other W271 (Or.inr (slot_ne (Or.inl (hw _ (List.mem_of_getElem? (i := 15) rfl))) (Or.inl (hw _ (List.mem_of_getElem? (i := 56) rfl))) (by decide) (t := (.array .int)) (t' := .int) (by decide) (by decide)))
  have f279 := q4.other W271 (Or.inr (slot_ne (Or.inr (hw _ (List.mem_of_getElem? (i := 19) rfl))) (Or.inl (hw _ (List.mem_of_getElem? (i := 56) rfl))) (by decide) (t := (.array (.object "com/example/projectum/projectum/reasoning/Relation$NodeIndex"))) (t' := .int) (by decide) (by decide)))
  have f280 := q5.other W271 (Or.inr (slot_ne (Or.inl (hw _ (List.mem_of_getElem? (i := 32) rfl))) (Or.inl (hw _ (List.mem_of_getElem? (i := 56) rfl))) (by decide) (t := .int) (t' := .int) (by decide) (by decide)))
  have f281 := q6.other W271 (Or.inr (slot_ne (Or.inl (hw _ (List.mem_of_getElem? (i := 30) rfl))) (Or.inl (hw _ (List.mem_of_getElem? (i := 56) rfl))) (by decide) (t := (.array .int)) (t' := .int) (by decide) (by decide)))
  have f282 := q8.other W271 (Ne.symm ne_o0_ro)
  have f283 := q9.other W271 (Ne.symm ne_o0_co)
  have f284 := q10.other W271 (Ne.symm ne_o0_bp)
  have f285 := q11.other W271 (Ne.symm ne_o0_so)
  have f286 := q12.other W271 (Ne.symm ne_o0_o1)
  refine own_iconst P268 d4_141 rfl (v := (-1 : Int32)) rfl ?_
  exact own_retI P268 d4_142 (by decide) (by decide) ⟨rfl, N273, K274, f275, f276, f277, f278, f279, f280, f281, f272, f282, f283, f284, f285⟩
set_option maxRecDepth 65536 in
set_option maxHeartbeats 40000000 in
theorem rmIM2 (l : Launch) (Z : State) (a0 : Array Value) (hw : ∀ d ∈ tables_1, d.before a0 Z = true) (o0 : Addr) (o1 : Addr) (ro : Addr) (co : Addr) (bp : Addr) (so : Addr) (x : Int32) (r0 : Int32) (r1 : Int32) (r2 : Int32) (r3 : Int32) (c0 : Int32) (c1 : Int32) (c2 : Int32) (c3 : Int32) (n : Int32) (f : Int32) (sl : List Int32) (h : Heap) (n0 : Nat) (Z0 : n0 ≤ h.size) (g_o0 : n0 ≤ o0) (g_ro : n0 ≤ ro) (g_co : n0 ≤ co) (g_so : n0 ≤ so) (ne_o0_ro : o0 ≠ ro) (ne_o0_co : o0 ≠ co) (ne_ro_co : ro ≠ co) (ne_o0_bp : o0 ≠ bp) (ne_ro_bp : ro ≠ bp) (ne_co_bp : co ≠ bp) (ne_o0_so : o0 ≠ so) (ne_ro_so : ro ≠ so) (ne_co_so : co ≠ so) (ne_bp_so : bp ≠ so) (ne_o0_o1 : o0 ≠ o1) (ne_ro_o1 : ro ≠ o1) (ne_co_o1 : co ≠ o1) (ne_bp_o1 : bp ≠ o1) (ne_so_o1 : so ≠ o1) (q0 : Exa Z h o0 "com/example/projectum/projectum/reasoning/Relation") (q1 : Fld Z h o0 "com/example/projectum/projectum/reasoning/Relation" "arity" "I" (.int (1 : Int32))) (q2 : Fld Z h o0 "com/example/projectum/projectum/reasoning/Relation" "rows" "[I" (.ref ro)) (q3 : Fld Z h o0 "com/example/projectum/projectum/reasoning/Relation" "counts" "[I" (.ref co)) (q4 : Fld Z h o0 "com/example/projectum/projectum/reasoning/Relation" "byPosition" "[Lcom/example/projectum/projectum/reasoning/Relation$NodeIndex;" (.ref bp)) (q5 : Fld Z h o0 "com/example/projectum/projectum/reasoning/Relation" "size" "I" (.int n)) (q6 : Fld Z h o0 "com/example/projectum/projectum/reasoning/Relation" "slots" "[I" (.ref so)) (q7 : Fld Z h o0 "com/example/projectum/projectum/reasoning/Relation" "freeSlot" "I" (.int f)) (q8 : own_Ar Z h ro .int [r0, r1, r2, r3]) (q9 : own_Ar Z h co .int [c0, c1, c2, c3]) (q10 : own_Nl Z h bp (.object "com/example/projectum/projectum/reasoning/Relation$NodeIndex")) (q11 : own_Ar Z h so .int sl) (q12 : own_Ar Z h o1 .int [x]) (hsl : sl.length = 16) (hp1 : sl.getD ((own_hv x) &&& (15 : Int32)).toInt.toNat 0 = (1 : Int32)) (hx : ¬ (r0 = x)) (hp2 : sl.getD ((((own_hv x) &&& (15 : Int32)) + (1 : Int32)) &&& (15 : Int32)).toInt.toNat 0 = (0 : Int32)) :
    own_Con l Z (⟨"com/example/projectum/projectum/reasoning/Relation", "indexOf", "([I)I"⟩ : MethodName) prog_73_method_17_code 7 (some .int) [] ({ frames := 1, cells := 0, slots := 0, locals := 16 } : Room) #[(.ref o0), (.ref o1)] h (fun v h' L => v = some (.int (-1 : Int32)) ∧ Fr n0 L ∧ Keep h h' [o0] ∧ Exa Z h' o0 "com/example/projectum/projectum/reasoning/Relation" ∧ Fld Z h' o0 "com/example/projectum/projectum/reasoning/Relation" "arity" "I" (.int (1 : Int32)) ∧ Fld Z h' o0 "com/example/projectum/projectum/reasoning/Relation" "rows" "[I" (.ref ro) ∧ Fld Z h' o0 "com/example/projectum/projectum/reasoning/Relation" "counts" "[I" (.ref co) ∧ Fld Z h' o0 "com/example/projectum/projectum/reasoning/Relation" "byPosition" "[Lcom/example/projectum/projectum/reasoning/Relation$NodeIndex;" (.ref bp) ∧ Fld Z h' o0 "com/example/projectum/projectum/reasoning/Relation" "size" "I" (.int n) ∧ Fld Z h' o0 "com/example/projectum/projectum/reasoning/Relation" "slots" "[I" (.ref so) ∧ Fld Z h' o0 "com/example/projectum/projectum/reasoning/Relation" "freeSlot" "I" (.int ((((own_hv x) &&& (15 : Int32)) + (1 : Int32)) &&& (15 : Int32))) ∧ own_Ar Z h' ro .int [r0, r1, r2, r3] ∧ own_Ar Z h' co .int [c0, c1, c2, c3] ∧ own_Nl Z h' bp (.object "com/example/projectum/projectum/reasoning/Relation$NodeIndex") ∧ own_Ar Z h' so .int sl) := by
  refine own_enter (plainFor_of_name own_pn2) #[.val (.ref o0), .val (.ref o1), .unset, .unset, .unset, .unset, .unset] (fun m => by first | (simp [entryFrame, mkF, argsToLocals, Value.category]; done) | rfl) ?_
  intro p e s m below meth c T P
  replace P : own_S Z "com/example/projectum/projectum/reasoning/Relation" "indexOf" prog_73_method_17_code 7 (some .int) p l e ({ frames := 1, cells := 0, slots := 0, locals := 16 } : Room) s m #[(.ref o0), (.ref o1)] below meth c T h [] 0 0 := P
  have N0 : Fr n0 [] := Fr.nil n0
  refine own_aloadN P d4_0 rfl rfl rfl ?_
  refine own_getF P (hw _ (List.mem_of_getElem? (i := 29) rfl)) q6 d4_1 rfl (fun T288 P287 => ?_)
  refine own_nnY P287 (pc' := 29) d4_4 (by decide) (by decide) ?_
  refine own_aloadN P287 d4_29 rfl rfl rfl ?_
  refine own_getF P287 (hw _ (List.mem_of_getElem? (i := 29) rfl)) q6 d4_30 rfl (fun T290 P289 => ?_)
  refine own_alen P289 q11 d4_33 rfl (v := (16 : Int32)) (by rw [hsl]; rfl) ?_
  refine own_iconst P289 d4_34 rfl (v := (1 : Int32)) rfl ?_
  refine own_isub P289 d4_35 rfl ?_
  rw [show ((16 : Int32) - (1 : Int32)) = (15 : Int32) by decide]
  refine own_istoreN P289 d4_36 rfl (Ls' := #[.val (.ref o0), .val (.ref o1), .val (.int (15 : Int32)), .unset, .unset, .unset, .unset]) rfl ?_
  refine own_aloadN P289 d4_37 rfl rfl rfl ?_
  refine own_aloadN P289 d4_38 rfl rfl rfl ?_
  refine own_iconst P289 d4_39 rfl (v := (0 : Int32)) rfl ?_
  refine own_privP P289 (hw _ (List.mem_of_getElem? (i := 50) rfl)) (hw _ (List.mem_of_getElem? (i := 51) rfl)) (hw _ (List.mem_of_getElem? (i := 52) rfl)) (hw _ (List.mem_of_getElem? (i := 1) rfl)) (hw _ (List.mem_of_getElem? (i := 2) rfl)) (hw _ (List.mem_of_getElem? (i := 53) rfl)) (by decide) q0 (argsL := [(.ref o1), (.int (0 : Int32))]) (rest := []) (rmHash l Z a0 hw o0 o1 x h q1 q12) d4_40 rfl own_pd1 rfl rfl rfl (by decide) 0 rfl (by decide) rfl rfl (by decide) (by decide) (fun T292 P291 => ?_)
  show own_Go p e below _ (T292.setTop (mkF m 43 #[.val (.ref o0), .val (.ref o1), .val (.int (15 : Int32)), .unset, .unset, .unset, .unset] [(.int (own_hv x))]))
  refine own_iloadN P291 d4_43 rfl rfl ?_
  refine own_iand P291 d4_44 rfl ?_
  refine own_istoreN P291 d4_45 rfl (Ls' := #[.val (.ref o0), .val (.ref o1), .val (.int (15 : Int32)), .val (.int ((own_hv x) &&& (15 : Int32))), .unset, .unset, .unset]) rfl ?_
  refine own_aloadN P291 d4_46 rfl rfl rfl ?_
  refine own_getF P291 (hw _ (List.mem_of_getElem? (i := 29) rfl)) q6 d4_47 rfl (fun T298 P297 => ?_)
  refine own_iloadN P297 d4_50 rfl rfl ?_
  refine own_iaload P297 q11 d4_51 rfl (own_15 _).1 (own_15b hsl) (x := (1 : Int32)) hp1 ?_
  refine own_istore P297 d4_52 rfl (Ls' := #[.val (.ref o0), .val (.ref o1), .val (.int (15 : Int32)), .val (.int ((own_hv x) &&& (15 : Int32))), .val (.int (1 : Int32)), .unset, .unset]) rfl ?_
  refine own_iload P297 d4_54 rfl rfl ?_
  refine own_if0N P297 (pc' := 59) d4_56 (by decide : ¬ ((1 : Int32) = (0 : Int32))) rfl ?_
  refine own_iload P297 d4_59 rfl rfl ?_
  refine own_iconst P297 d4_61 rfl (v := (1 : Int32)) rfl ?_
  refine own_isub P297 d4_62 rfl ?_
  rw [show ((1 : Int32) - (1 : Int32)) = (0 : Int32) by decide]
  refine own_aloadN P297 d4_63 rfl rfl rfl ?_
  refine own_getF P297 (hw _ (List.mem_of_getElem? (i := 9) rfl)) q1 d4_64 rfl (fun T300 P299 => ?_)
  refine own_imul P299 d4_67 rfl ?_
  rw [show ((0 : Int32) * (1 : Int32)) = (0 : Int32) by decide]
  refine own_istore P299 d4_68 rfl (Ls' := #[.val (.ref o0), .val (.ref o1), .val (.int (15 : Int32)), .val (.int ((own_hv x) &&& (15 : Int32))), .val (.int (1 : Int32)), .val (.int (0 : Int32)), .unset]) rfl ?_
  refine own_iconst P299 d4_70 rfl (v := (0 : Int32)) rfl ?_
  refine own_istore P299 d4_71 rfl (Ls' := #[.val (.ref o0), .val (.ref o1), .val (.int (15 : Int32)), .val (.int ((own_hv x) &&& (15 : Int32))), .val (.int (1 : Int32)), .val (.int (0 : Int32)), .val (.int (0 : Int32))]) rfl ?_
  refine own_iload P299 d4_73 rfl rfl ?_
  refine own_aloadN P299 d4_75 rfl rfl rfl ?_
  refine own_getF P299 (hw _ (List.mem_of_getElem? (i := 9) rfl)) q1 d4_76 rfl (fun T302 P301 => ?_)
  refine own_icmpN P301 (pc' := 82) d4_79 (not_not_intro (by decide : (0 : Int32) < (1 : Int32))) rfl ?_
  refine own_aloadN P301 d4_82 rfl rfl rfl ?_
  refine own_getF P301 (hw _ (List.mem_of_getElem? (i := 12) rfl)) q2 d4_83 rfl (fun T304 P303 => ?_)
  refine own_iload P303 d4_86 rfl rfl ?_
  refine own_iload P303 d4_88 rfl rfl ?_
  refine own_iadd P303 d4_90 rfl ?_
  rw [show ((0 : Int32) + (0 : Int32)) = (0 : Int32) by decide]
  refine own_iaload P303 q8 d4_91 rfl (by decide) (Nat.le_of_ble_eq_true rfl) (x := r0) rfl ?_
  refine own_aloadN P303 d4_92 rfl rfl rfl ?_
  refine own_iload P303 d4_93 rfl rfl ?_
  refine own_iaload P303 q12 d4_95 rfl (by decide) (Nat.le_of_ble_eq_true rfl) (x := x) rfl ?_
  refine own_icmpY P303 (pc' := 105) d4_96 hx (by decide) (by decide) ?_
  refine own_iload P303 d4_105 rfl rfl ?_
  refine own_aloadN P303 d4_107 rfl rfl rfl ?_
  refine own_getF P303 (hw _ (List.mem_of_getElem? (i := 9) rfl)) q1 d4_108 rfl (fun T306 P305 => ?_)
  refine own_icmpY P305 (pc' := 119) d4_111 (by decide : ¬ ((0 : Int32) = (1 : Int32))) (by decide) (by decide) ?_
  refine own_iloadN P305 d4_119 rfl rfl ?_
  refine own_iconst P305 d4_120 rfl (v := (1 : Int32)) rfl ?_
  refine own_iadd P305 d4_121 rfl ?_
  refine own_iloadN P305 d4_122 rfl rfl ?_
  refine own_iand P305 d4_123 rfl ?_
  refine own_istoreN P305 d4_124 rfl (Ls' := #[.val (.ref o0), .val (.ref o1), .val (.int (15 : Int32)), .val (.int ((((own_hv x) &&& (15 : Int32)) + (1 : Int32)) &&& (15 : Int32))), .val (.int (1 : Int32)), .val (.int (0 : Int32)), .val (.int (0 : Int32))]) rfl ?_
  refine own_aloadN P305 d4_125 rfl rfl rfl ?_
  refine own_getF P305 (hw _ (List.mem_of_getElem? (i := 29) rfl)) q6 d4_126 rfl (fun T308 P307 => ?_)
  refine own_iloadN P307 d4_129 rfl rfl ?_
  refine own_iaload P307 q11 d4_130 rfl (own_15 _).1 (own_15b hsl) (x := (0 : Int32)) hp2 ?_
  refine own_istore P307 d4_131 rfl (Ls' := #[.val (.ref o0), .val (.ref o1), .val (.int (15 : Int32)), .val (.int ((((own_hv x) &&& (15 : Int32)) + (1 : Int32)) &&& (15 : Int32))), .val (.int (0 : Int32)), .val (.int (0 : Int32)), .val (.int (0 : Int32))]) rfl ?_
  refine own_goto P307 (pc' := 54) d4_133 (by decide) (by decide) ?_
  refine own_iload P307 d4_54 rfl rfl ?_
  refine own_if0Y P307 (pc' := 136) d4_56 (by decide : (0 : Int32) = (0 : Int32)) (by decide) (by decide) ?_
  refine own_aloadN P307 d4_136 rfl rfl rfl ?_
  refine own_iloadN P307 d4_137 rfl rfl ?_
  refine own_putF P307 (hw _ (List.mem_of_getElem? (i := 55) rfl)) q7 q0 (Or.inl (hw _ (List.mem_of_getElem? (i := 56) rfl))) (hw _ (List.mem_of_getElem? (i := 1) rfl)) (ty := .int) (by decide) rfl rfl d4_138 rfl (fun T310 h311 W312 P309 => ?_)
  have f313 := q7.same W312
  have N314 := Fr.snoc P309.st N0 g_o0
  have K315 := (Keep.refl h [o0]).wr W312 (Or.inl (List.mem_of_getElem? (i := 0) rfl))
  have f316 := q0.wr W312
  have f317 := q1.other W312 (Or.inr (slot_ne (Or.inr (hw _ (List.mem_of_getElem? (i := 10) rfl))) (Or.inl (hw _ (List.mem_of_getElem? (i := 56) rfl))) (by decide) (t := .int) (t' := .int) (by decide) (by decide)))
  have f318 := q2.other W312 (Or.inr (slot_ne (Or.inl (hw _ (List.mem_of_getElem? (i := 13) rfl))) (Or.inl (hw _ (List.mem_of_getElem? (i := 56) rfl))) (by decide) (t := (.array .int)) (t' := .int) (by decide) (by decide)))
  have f319 := q3.other W312 (Or.inr (slot_ne (Or.inl (hw _ (List.mem_of_getElem? (i := 15) rfl))) (Or.inl (hw _ (List.mem_of_getElem? (i := 56) rfl))) (by decide) (t := (.array .int)) (t' := .int) (by decide) (by decide)))
  have f320 := q4.other W312 (Or.inr (slot_ne (Or.inr (hw _ (List.mem_of_getElem? (i := 19) rfl))) (Or.inl (hw _ (List.mem_of_getElem? (i := 56) rfl))) (by decide) (t := (.array (.object "com/example/projectum/projectum/reasoning/Relation$NodeIndex"))) (t' := .int) (by decide) (by decide)))
  have f321 := q5.other W312 (Or.inr (slot_ne (Or.inl (hw _ (List.mem_of_getElem? (i := 32) rfl))) (Or.inl (hw _ (List.mem_of_getElem? (i := 56) rfl))) (by decide) (t := .int) (t' := .int) (by decide) (by decide)))
  have f322 := q6.other W312 (Or.inr (slot_ne (Or.inl (hw _ (List.mem_of_getElem? (i := 30) rfl))) (Or.inl (hw _ (List.mem_of_getElem? (i := 56) rfl))) (by decide) (t := (.array .int)) (t' := .int) (by decide) (by decide)))
  have f323 := q8.other W312 (Ne.symm ne_o0_ro)
  have f324 := q9.other W312 (Ne.symm ne_o0_co)
  have f325 := q10.other W312 (Ne.symm ne_o0_bp)
  have f326 := q11.other W312 (Ne.symm ne_o0_so)
  have f327 := q12.other W312 (Ne.symm ne_o0_o1)
  refine own_iconst P309 d4_141 rfl (v := (-1 : Int32)) rfl ?_
  exact own_retI P309 d4_142 (by decide) (by decide) ⟨rfl, N314, K315, f316, f317, f318, f319, f320, f321, f322, f313, f323, f324, f325, f326⟩
theorem rmIB (l : Launch) (Z : State) (a0 : Array Value) (hw : ∀ d ∈ tables_1, d.before a0 Z = true) (o0 o1 : Addr) (ro : Addr) (co : Addr) (bp : Addr) (so : Addr) (x : Int32) (r0 : Int32) (r1 : Int32) (r2 : Int32) (r3 : Int32) (c0 : Int32) (c1 : Int32) (c2 : Int32) (c3 : Int32) (n : Int32) (f : Int32) (sl : List Int32) (h : Heap) (ne_o0_ro : o0 ≠ ro) (ne_o0_co : o0 ≠ co) (ne_ro_co : ro ≠ co) (ne_o0_bp : o0 ≠ bp) (ne_ro_bp : ro ≠ bp) (ne_co_bp : co ≠ bp) (ne_o0_so : o0 ≠ so) (ne_ro_so : ro ≠ so) (ne_co_so : co ≠ so) (ne_bp_so : bp ≠ so) (ne_o0_o1 : o0 ≠ o1) (ne_ro_o1 : ro ≠ o1) (ne_co_o1 : co ≠ o1) (ne_bp_o1 : bp ≠ o1) (ne_so_o1 : so ≠ o1) (q0 : Exa Z h o0 "com/example/projectum/projectum/reasoning/Relation") (q1 : Fld Z h o0 "com/example/projectum/projectum/reasoning/Relation" "arity" "I" (.int (1 : Int32))) (q2 : Fld Z h o0 "com/example/projectum/projectum/reasoning/Relation" "rows" "[I" (.ref ro)) (q3 : Fld Z h o0 "com/example/projectum/projectum/reasoning/Relation" "counts" "[I" (.ref co)) (q4 : Fld Z h o0 "com/example/projectum/projectum/reasoning/Relation" "byPosition" "[Lcom/example/projectum/projectum/reasoning/Relation$NodeIndex;" (.ref bp)) (q5 : Fld Z h o0 "com/example/projectum/projectum/reasoning/Relation" "size" "I" (.int n)) (q6 : Fld Z h o0 "com/example/projectum/projectum/reasoning/Relation" "slots" "[I" (.ref so)) (q7 : Fld Z h o0 "com/example/projectum/projectum/reasoning/Relation" "freeSlot" "I" (.int f)) (q8 : own_Ar Z h ro .int [r0, r1, r2, r3]) (q9 : own_Ar Z h co .int [c0, c1, c2, c3]) (q10 : own_Nl Z h bp (.object "com/example/projectum/projectum/reasoning/Relation$NodeIndex")) (q11 : own_Ar Z h so .int sl) (q12 : own_Ar Z h o1 .int [x]) (hsl : sl.length = 16) (hr : r1 = x) (hb : (sl.getD ((own_hv x) &&& (15 : Int32)).toInt.toNat 0 = (2 : Int32) ∨ (sl.getD ((own_hv x) &&& (15 : Int32)).toInt.toNat 0 = (1 : Int32) ∧ ¬ (r0 = x) ∧ sl.getD ((((own_hv x) &&& (15 : Int32)) + (1 : Int32)) &&& (15 : Int32)).toInt.toNat 0 = (2 : Int32)))) :
    own_Con l Z (⟨"com/example/projectum/projectum/reasoning/Relation", "indexOf", "([I)I"⟩ : MethodName) prog_73_method_17_code 7 (some .int) [] ({ frames := 1, cells := 0, slots := 0, locals := 16 } : Room) #[.ref o0, .ref o1] h (own_P (some (.int (1 : Int32))) h) := by
  rcases hb with hb | ⟨hb1, hb2, hb3⟩
  · exact rmIB1 l Z a0 hw o0 o1 ro co bp so x r0 r1 r2 r3 c0 c1 c2 c3 n f sl h ne_o0_ro ne_o0_co ne_ro_co ne_o0_bp ne_ro_bp ne_co_bp ne_o0_so ne_ro_so ne_co_so ne_bp_so ne_o0_o1 ne_ro_o1 ne_co_o1 ne_bp_o1 ne_so_o1 q0 q1 q2 q3 q4 q5 q6 q7 q8 q9 q10 q11 q12 hsl hr hb
  · exact rmIB2 l Z a0 hw o0 o1 ro co bp so x r0 r1 r2 r3 c0 c1 c2 c3 n f sl h ne_o0_ro ne_o0_co ne_ro_co ne_o0_bp ne_ro_bp ne_co_bp ne_o0_so ne_ro_so ne_co_so ne_bp_so ne_o0_o1 ne_ro_o1 ne_co_o1 ne_bp_o1 ne_so_o1 q0 q1 q2 q3 q4 q5 q6 q7 q8 q9 q10 q11 q12 hsl hr hb1 hb2 hb3
theorem rmIM (l : Launch) (Z : State) (a0 : Array Value) (hw : ∀ d ∈ tables_1, d.before a0 Z = true) (o0 o1 : Addr) (ro : Addr) (co : Addr) (bp : Addr) (so : Addr) (x : Int32) (r0 : Int32) (r1 : Int32) (r2 : Int32) (r3 : Int32) (c0 : Int32) (c1 : Int32) (c2 : Int32) (c3 : Int32) (n : Int32) (f : Int32) (sl : List Int32) (q : Int32) (h : Heap) (n0 : Nat) (Z0 : n0 ≤ h.size) (g_o0 : n0 ≤ o0) (g_ro : n0 ≤ ro) (g_co : n0 ≤ co) (g_so : n0 ≤ so) (ne_o0_ro : o0 ≠ ro) (ne_o0_co : o0 ≠ co) (ne_ro_co : ro ≠ co) (ne_o0_bp : o0 ≠ bp) (ne_ro_bp : ro ≠ bp) (ne_co_bp : co ≠ bp) (ne_o0_so : o0 ≠ so) (ne_ro_so : ro ≠ so) (ne_co_so : co ≠ so) (ne_bp_so : bp ≠ so) (ne_o0_o1 : o0 ≠ o1) (ne_ro_o1 : ro ≠ o1) (ne_co_o1 : co ≠ o1) (ne_bp_o1 : bp ≠ o1) (ne_so_o1 : so ≠ o1) (q0 : Exa Z h o0 "com/example/projectum/projectum/reasoning/Relation") (q1 : Fld Z h o0 "com/example/projectum/projectum/reasoning/Relation" "arity" "I" (.int (1 : Int32))) (q2 : Fld Z h o0 "com/example/projectum/projectum/reasoning/Relation" "rows" "[I" (.ref ro)) (q3 : Fld Z h o0 "com/example/projectum/projectum/reasoning/Relation" "counts" "[I" (.ref co)) (q4 : Fld Z h o0 "com/example/projectum/projectum/reasoning/Relation" "byPosition" "[Lcom/example/projectum/projectum/reasoning/Relation$NodeIndex;" (.ref bp)) (q5 : Fld Z h o0 "com/example/projectum/projectum/reasoning/Relation" "size" "I" (.int n)) (q6 : Fld Z h o0 "com/example/projectum/projectum/reasoning/Relation" "slots" "[I" (.ref so)) (q7 : Fld Z h o0 "com/example/projectum/projectum/reasoning/Relation" "freeSlot" "I" (.int f)) (q8 : own_Ar Z h ro .int [r0, r1, r2, r3]) (q9 : own_Ar Z h co .int [c0, c1, c2, c3]) (q10 : own_Nl Z h bp (.object "com/example/projectum/projectum/reasoning/Relation$NodeIndex")) (q11 : own_Ar Z h so .int sl) (q12 : own_Ar Z h o1 .int [x]) (hsl : sl.length = 16) (hm : ((sl.getD ((own_hv x) &&& (15 : Int32)).toInt.toNat 0 = (0 : Int32) ∧ q = ((own_hv x) &&& (15 : Int32))) ∨ (sl.getD ((own_hv x) &&& (15 : Int32)).toInt.toNat 0 = (1 : Int32) ∧ ¬ (r0 = x) ∧ sl.getD ((((own_hv x) &&& (15 : Int32)) + (1 : Int32)) &&& (15 : Int32)).toInt.toNat 0 = (0 : Int32) ∧ q = ((((own_hv x) &&& (15 : Int32)) + (1 : Int32)) &&& (15 : Int32))))) :
    own_Con l Z (⟨"com/example/projectum/projectum/reasoning/Relation", "indexOf", "([I)I"⟩ : MethodName) prog_73_method_17_code 7 (some .int) [] ({ frames := 1, cells := 0, slots := 0, locals := 16 } : Room) #[.ref o0, .ref o1] h (fun v h' L => v = some (.int (-1 : Int32)) ∧ Fr n0 L ∧ Keep h h' [o0] ∧ Exa Z h' o0 "com/example/projectum/projectum/reasoning/Relation" ∧ Fld Z h' o0 "com/example/projectum/projectum/reasoning/Relation" "arity" "I" (.int (1 : Int32)) ∧ Fld Z h' o0 "com/example/projectum/projectum/reasoning/Relation" "rows" "[I" (.ref ro) ∧ Fld Z h' o0 "com/example/projectum/projectum/reasoning/Relation" "counts" "[I" (.ref co) ∧ Fld Z h' o0 "com/example/projectum/projectum/reasoning/Relation" "byPosition" "[Lcom/example/projectum/projectum/reasoning/Relation$NodeIndex;" (.ref bp) ∧ Fld Z h' o0 "com/example/projectum/projectum/reasoning/Relation" "size" "I" (.int n) ∧ Fld Z h' o0 "com/example/projectum/projectum/reasoning/Relation" "slots" "[I" (.ref so) ∧ Fld Z h' o0 "com/example/projectum/projectum/reasoning/Relation" "freeSlot" "I" (.int q) ∧ own_Ar Z h' ro .int [r0, r1, r2, r3] ∧ own_Ar Z h' co .int [c0, c1, c2, c3] ∧ own_Nl Z h' bp (.object "com/example/projectum/projectum/reasoning/Relation$NodeIndex") ∧ own_Ar Z h' so .int sl) := by
  rcases hm with ⟨h1, rfl⟩ | ⟨h1, h2, h3, rfl⟩
  · exact rmIM1 l Z a0 hw o0 o1 ro co bp so x r0 r1 r2 r3 c0 c1 c2 c3 n f sl h n0 Z0 g_o0 g_ro g_co g_so ne_o0_ro ne_o0_co ne_ro_co ne_o0_bp ne_ro_bp ne_co_bp ne_o0_so ne_ro_so ne_co_so ne_bp_so ne_o0_o1 ne_ro_o1 ne_co_o1 ne_bp_o1 ne_so_o1 q0 q1 q2 q3 q4 q5 q6 q7 q8 q9 q10 q11 q12 hsl h1
  · exact rmIM2 l Z a0 hw o0 o1 ro co bp so x r0 r1 r2 r3 c0 c1 c2 c3 n f sl h n0 Z0 g_o0 g_ro g_co g_so ne_o0_ro ne_o0_co ne_ro_co ne_o0_bp ne_ro_bp ne_co_bp ne_o0_so ne_ro_so ne_co_so ne_bp_so ne_o0_o1 ne_ro_o1 ne_co_o1 ne_bp_o1 ne_so_o1 q0 q1 q2 q3 q4 q5 q6 q7 q8 q9 q10 q11 q12 hsl h1 h2 h3
theorem d4_7 : decode prog_73_method_17_code 7 = .ok (.aload_n 0, 1) := by decide +kernel
theorem d4_8 : decode prog_73_method_17_code 8 = .ok (.bipush 16, 2) := by decide +kernel
theorem d4_10 : decode prog_73_method_17_code 10 = .ok (.iconst 1, 1) := by decide +kernel
theorem d4_11 : decode prog_73_method_17_code 11 = .ok (.aload_n 0, 1) := by decide +kernel
theorem d4_12 : decode prog_73_method_17_code 12 = .ok (.getfield 26, 3) := by decide +kernel
theorem d4_15 : decode prog_73_method_17_code 15 = .ok (.invokestatic 81, 3) := by decide +kernel
theorem own_pd2 : parseMethodDescriptor "(II)I" = some ⟨[.int, .int], some .int⟩ := by decide +kernel
theorem d4_18 : decode prog_73_method_17_code 18 = .ok (.invokestatic 120, 3) := by decide +kernel
theorem d4_21 : decode prog_73_method_17_code 21 = .ok (.iconst 4, 1) := by decide +kernel
theorem d4_22 : decode prog_73_method_17_code 22 = .ok (.imul, 1) := by decide +kernel
theorem d4_23 : decode prog_73_method_17_code 23 = .ok (.invokestatic 81, 3) := by decide +kernel
theorem d4_26 : decode prog_73_method_17_code 26 = .ok (.invokevirtual 88, 3) := by decide +kernel
theorem own_pd3 : parseMethodDescriptor "(I)V" = some ⟨[.int], none⟩ := by decide +kernel
set_option maxRecDepth 65536 in
set_option maxHeartbeats 40000000 in
theorem rmIF (l : Launch) (Z : State) (a0 : Array Value) (hw : ∀ d ∈ tables_1, d.before a0 Z = true) (o0 : Addr) (o1 : Addr) (ro : Addr) (co : Addr) (bp : Addr) (x : Int32) (r0 : Int32) (r1 : Int32) (r2 : Int32) (r3 : Int32) (c0 : Int32) (c1 : Int32) (c2 : Int32) (c3 : Int32) (h : Heap) (n0 : Nat) (Z0 : n0 ≤ h.size) (g_o0 : n0 ≤ o0) (g_ro : n0 ≤ ro) (g_co : n0 ≤ co) (ne_o0_ro : o0 ≠ ro) (ne_o0_co : o0 ≠ co) (ne_ro_co : ro ≠ co) (ne_o0_bp : o0 ≠ bp) (ne_ro_bp : ro ≠ bp) (ne_co_bp : co ≠ bp) (ne_o0_o1 : o0 ≠ o1) (ne_ro_o1 : ro ≠ o1) (ne_co_o1 : co ≠ o1) (ne_bp_o1 : bp ≠ o1) (q0 : Exa Z h o0 "com/example/projectum/projectum/reasoning/Relation") (q1 : Fld Z h o0 "com/example/projectum/projectum/reasoning/Relation" "arity" "I" (.int (1 : Int32))) (q2 : Fld Z h o0 "com/example/projectum/projectum/reasoning/Relation" "rows" "[I" (.ref ro)) (q3 : Fld Z h o0 "com/example/projectum/projectum/reasoning/Relation" "counts" "[I" (.ref co)) (q4 : Fld Z h o0 "com/example/projectum/projectum/reasoning/Relation" "byPosition" "[Lcom/example/projectum/projectum/reasoning/Relation$NodeIndex;" (.ref bp)) (q5 : Fld Z h o0 "com/example/projectum/projectum/reasoning/Relation" "size" "I" (.int (0 : Int32))) (q6 : Fld Z h o0 "com/example/projectum/projectum/reasoning/Relation" "slots" "[I" .null) (q7 : Fld Z h o0 "com/example/projectum/projectum/reasoning/Relation" "freeSlot" "I" (.int (0 : Int32))) (q8 : own_Ar Z h ro .int [r0, r1, r2, r3]) (q9 : own_Ar Z h co .int [c0, c1, c2, c3]) (q10 : own_Nl Z h bp (.object "com/example/projectum/projectum/reasoning/Relation$NodeIndex")) (q11 : own_Ar Z h o1 .int [x]) :
    own_Con l Z (⟨"com/example/projectum/projectum/reasoning/Relation", "indexOf", "([I)I"⟩ : MethodName) prog_73_method_17_code 7 (some .int) [] ({ frames := 2, cells := 1, slots := 16, locals := 29 } : Room) #[(.ref o0), (.ref o1)] h (fun v h' L => v = some (.int (-1 : Int32)) ∧ Fr n0 L ∧ Keep h h' [o0] ∧ ∃ so : Addr, n0 ≤ so ∧ h.size ≤ so ∧ Exa Z h' o0 "com/example/projectum/projectum/reasoning/Relation" ∧ Fld Z h' o0 "com/example/projectum/projectum/reasoning/Relation" "arity" "I" (.int (1 : Int32)) ∧ Fld Z h' o0 "com/example/projectum/projectum/reasoning/Relation" "rows" "[I" (.ref ro) ∧ Fld Z h' o0 "com/example/projectum/projectum/reasoning/Relation" "counts" "[I" (.ref co) ∧ Fld Z h' o0 "com/example/projectum/projectum/reasoning/Relation" "byPosition" "[Lcom/example/projectum/projectum/reasoning/Relation$NodeIndex;" (.ref bp) ∧ Fld Z h' o0 "com/example/projectum/projectum/reasoning/Relation" "size" "I" (.int (0 : Int32)) ∧ Fld Z h' o0 "com/example/projectum/projectum/reasoning/Relation" "slots" "[I" (.ref so) ∧ Fld Z h' o0 "com/example/projectum/projectum/reasoning/Relation" "freeSlot" "I" (.int ((own_hv x) &&& (15 : Int32))) ∧ own_Ar Z h' ro .int [r0, r1, r2, r3] ∧ own_Ar Z h' co .int [c0, c1, c2, c3] ∧ own_Nl Z h' bp (.object "com/example/projectum/projectum/reasoning/Relation$NodeIndex") ∧ own_Ar Z h' so .int [(0 : Int32), (0 : Int32), (0 : Int32), (0 : Int32), (0 : Int32), (0 : Int32), (0 : Int32), (0 : Int32), (0 : Int32), (0 : Int32), (0 : Int32), (0 : Int32), (0 : Int32), (0 : Int32), (0 : Int32), (0 : Int32)]) := by
  refine own_enter (plainFor_of_name own_pn2) #[.val (.ref o0), .val (.ref o1), .unset, .unset, .unset, .unset, .unset] (fun m => by first | (simp [entryFrame, mkF, argsToLocals, Value.category]; done) | rfl) ?_
  intro p e s m below meth c T P
  replace P : own_S Z "com/example/projectum/projectum/reasoning/Relation" "indexOf" prog_73_method_17_code 7 (some .int) p l e ({ frames := 2, cells := 1, slots := 16, locals := 29 } : Room) s m #[(.ref o0), (.ref o1)] below meth c T h [] 0 0 := P
  have N0 : Fr n0 [] := Fr.nil n0
  refine own_aloadN P d4_0 rfl rfl rfl ?_
  refine own_getF P (hw _ (List.mem_of_getElem? (i := 29) rfl)) q6 d4_1 rfl (fun T329 P328 => ?_)
  refine own_nnN P328 (pc' := 7) d4_4 rfl ?_
  refine own_aloadN P328 d4_7 rfl rfl rfl ?_
  refine own_bipush P328 d4_8 rfl (v := (16 : Int32)) rfl ?_
  refine own_iconst P328 d4_10 rfl (v := (1 : Int32)) rfl ?_
  refine own_aloadN P328 d4_11 rfl rfl rfl ?_
  refine own_getF P328 (hw _ (List.mem_of_getElem? (i := 31) rfl)) q5 d4_12 rfl (fun T331 P330 => ?_)
  refine own_callP P330 (hw _ (List.mem_of_getElem? (i := 33) rfl)) (hw _ (List.mem_of_getElem? (i := 34) rfl)) (hw _ (List.mem_of_getElem? (i := 35) rfl)) (hw _ (List.mem_of_getElem? (i := 36) rfl)) (by decide) (argsL := [(.int (1 : Int32)), (.int (0 : Int32))]) (rest := [(.int (16 : Int32)), (.ref o0)]) (rm5 l Z a0 hw (1 : Int32) (0 : Int32) h) d4_15 rfl own_pd2 rfl rfl rfl (by decide) 2 rfl (by decide) rfl rfl (by decide) (by decide) (fun T333 P332 => ?_)
  show own_Go p e below _ (T333.setTop (mkF m 18 #[.val (.ref o0), .val (.ref o1), .unset, .unset, .unset, .unset, .unset] [(.int (F5_0 (1 : Int32) (0 : Int32))), (.int (16 : Int32)), (.ref o0)]))
  rw [show (F5_0 (1 : Int32) (0 : Int32)) = (1 : Int32) by decide +kernel]
  refine own_callP P332 (hw _ (List.mem_of_getElem? (i := 37) rfl)) (hw _ (List.mem_of_getElem? (i := 38) rfl)) (hw _ (List.mem_of_getElem? (i := 39) rfl)) (hw _ (List.mem_of_getElem? (i := 40) rfl)) (by decide) (argsL := [(.int (1 : Int32))]) (rest := [(.int (16 : Int32)), (.ref o0)]) (rm6 l Z a0 hw (1 : Int32) h) d4_18 rfl own_pd0 rfl rfl rfl (by decide) 2 rfl (by decide) rfl rfl (by decide) (by decide) (fun T335 P334 => ?_)
  show own_Go p e below _ (T335.setTop (mkF m 21 #[.val (.ref o0), .val (.ref o1), .unset, .unset, .unset, .unset, .unset] [(.int (F6_0 (1 : Int32))), (.int (16 : Int32)), (.ref o0)]))
  rw [show (F6_0 (1 : Int32)) = (1 : Int32) by decide +kernel]
  refine own_iconst P334 d4_21 rfl (v := (4 : Int32)) rfl ?_
  refine own_imul P334 d4_22 rfl ?_
  rw [show ((1 : Int32) * (4 : Int32)) = (4 : Int32) by decide]
  refine own_callP P334 (hw _ (List.mem_of_getElem? (i := 33) rfl)) (hw _ (List.mem_of_getElem? (i := 34) rfl)) (hw _ (List.mem_of_getElem? (i := 35) rfl)) (hw _ (List.mem_of_getElem? (i := 36) rfl)) (by decide) (argsL := [(.int (16 : Int32)), (.int (4 : Int32))]) (rest := [(.ref o0)]) (rm5 l Z a0 hw (16 : Int32) (4 : Int32) h) d4_23 rfl own_pd2 rfl rfl rfl (by decide) 1 rfl (by decide) rfl rfl (by decide) (by decide) (fun T337 P336 => ?_)
  show own_Go p e below _ (T337.setTop (mkF m 26 #[.val (.ref o0), .val (.ref o1), .unset, .unset, .unset, .unset, .unset] [(.int (F5_0 (16 : Int32) (4 : Int32))), (.ref o0)]))
  rw [show (F5_0 (16 : Int32) (4 : Int32)) = (16 : Int32) by decide +kernel]
  refine own_priv P336 (hw _ (List.mem_of_getElem? (i := 46) rfl)) (hw _ (List.mem_of_getElem? (i := 47) rfl)) (hw _ (List.mem_of_getElem? (i := 48) rfl)) (hw _ (List.mem_of_getElem? (i := 1) rfl)) (hw _ (List.mem_of_getElem? (i := 2) rfl)) (hw _ (List.mem_of_getElem? (i := 49) rfl)) (by decide) q0 (argsL := [(.int (16 : Int32))]) (rest := []) (rmReh l Z a0 hw o0 ro co bp h n0 Z0 g_o0 q0 q1 q2 q3 q4 q5 q6 q7) d4_26 rfl own_pd3 rfl rfl rfl (by decide) 0 rfl (by decide) (by decide) (by decide) (fun T339 h340 v341 L342 hq343 P338 => ?_)
  obtain ⟨rfl, n345, k346, so344, hg347, hz348, f349, f350, f351, f352, f353, f354, f355, f356, f357⟩ := hq343
  have ne358 : o0 ≠ so344 := Nat.ne_of_lt (Nat.lt_of_lt_of_le q0.lt hz348)
  have ne359 : ro ≠ so344 := Nat.ne_of_lt (Nat.lt_of_lt_of_le q8.lt hz348)
  have ne360 : co ≠ so344 := Nat.ne_of_lt (Nat.lt_of_lt_of_le q9.lt hz348)
  have ne361 : bp ≠ so344 := Nat.ne_of_lt (Nat.lt_of_lt_of_le q10.lt hz348)
  have ne362 : o1 ≠ so344 := Nat.ne_of_lt (Nat.lt_of_lt_of_le q11.lt hz348)
  have sz363 : h.size ≤ so344 := Nat.le_trans (Keep.refl h [o0]).1 hz348
  have N364 := Fr.app N0 n345
  have f365 := q0.keep k346
  have f366 := q8.keep k346 (ninS (Ne.symm ne_o0_ro) nin0)
  have f367 := q9.keep k346 (ninS (Ne.symm ne_o0_co) nin0)
  have f368 := q10.keep k346 (ninS (Ne.symm ne_o0_bp) nin0)
  have f369 := q11.keep k346 (ninS (Ne.symm ne_o0_o1) nin0)
  have K370 := (Keep.refl h [o0]).trans k346 (allS (Or.inl (List.mem_of_getElem? (i := 0) rfl)) all0)
  show own_Go p e below _ (T339.setTop (mkF m 29 #[.val (.ref o0), .val (.ref o1), .unset, .unset, .unset, .unset, .unset] []))
  refine own_aloadN P338 d4_29 rfl rfl rfl ?_
  refine own_getF P338 (hw _ (List.mem_of_getElem? (i := 29) rfl)) f355 d4_30 rfl (fun T372 P371 => ?_)
  refine own_alen P371 f357 d4_33 rfl (v := (16 : Int32)) rfl ?_
  refine own_iconst P371 d4_34 rfl (v := (1 : Int32)) rfl ?_
  refine own_isub P371 d4_35 rfl ?_
  rw [show ((16 : Int32) - (1 : Int32)) = (15 : Int32) by decide]
  refine own_istoreN P371 d4_36 rfl (Ls' := #[.val (.ref o0), .val (.ref o1), .val (.int (15 : Int32)), .unset, .unset, .unset, .unset]) rfl ?_
  refine own_aloadN P371 d4_37 rfl rfl rfl ?_
  refine own_aloadN P371 d4_38 rfl rfl rfl ?_
  refine own_iconst P371 d4_39 rfl (v := (0 : Int32)) rfl ?_
  refine own_privP P371 (hw _ (List.mem_of_getElem? (i := 50) rfl)) (hw _ (List.mem_of_getElem? (i := 51) rfl)) (hw _ (List.mem_of_getElem? (i := 52) rfl)) (hw _ (List.mem_of_getElem? (i := 1) rfl)) (hw _ (List.mem_of_getElem? (i := 2) rfl)) (hw _ (List.mem_of_getElem? (i := 53) rfl)) (by decide) f349 (argsL := [(.ref o1), (.int (0 : Int32))]) (rest := []) (rmHash l Z a0 hw o0 o1 x h340 f350 f369) d4_40 rfl own_pd1 rfl rfl rfl (by decide) 0 rfl (by decide) rfl rfl (by decide) (by decide) (fun T374 P373 => ?_)
  show own_Go p e below _ (T374.setTop (mkF m 43 #[.val (.ref o0), .val (.ref o1), .val (.int (15 : Int32)), .unset, .unset, .unset, .unset] [(.int (own_hv x))]))
  refine own_iloadN P373 d4_43 rfl rfl ?_
  refine own_iand P373 d4_44 rfl ?_
  refine own_istoreN P373 d4_45 rfl (Ls' := #[.val (.ref o0), .val (.ref o1), .val (.int (15 : Int32)), .val (.int ((own_hv x) &&& (15 : Int32))), .unset, .unset, .unset]) rfl ?_
  refine own_aloadN P373 d4_46 rfl rfl rfl ?_
  refine own_getF P373 (hw _ (List.mem_of_getElem? (i := 29) rfl)) f355 d4_47 rfl (fun T380 P379 => ?_)
  refine own_iloadN P379 d4_50 rfl rfl ?_
  refine own_iaload P379 f357 d4_51 rfl (own_15 _).1 (own_15b rfl) (x := (0 : Int32)) (own_z16 _) ?_
  refine own_istore P379 d4_52 rfl (Ls' := #[.val (.ref o0), .val (.ref o1), .val (.int (15 : Int32)), .val (.int ((own_hv x) &&& (15 : Int32))), .val (.int (0 : Int32)), .unset, .unset]) rfl ?_
  refine own_iload P379 d4_54 rfl rfl ?_
  refine own_if0Y P379 (pc' := 136) d4_56 (by decide : (0 : Int32) = (0 : Int32)) (by decide) (by decide) ?_
  refine own_aloadN P379 d4_136 rfl rfl rfl ?_
  refine own_iloadN P379 d4_137 rfl rfl ?_
  refine own_putF P379 (hw _ (List.mem_of_getElem? (i := 55) rfl)) f356 f349 (Or.inl (hw _ (List.mem_of_getElem? (i := 56) rfl))) (hw _ (List.mem_of_getElem? (i := 1) rfl)) (ty := .int) (by decide) rfl rfl d4_138 rfl (fun T382 h383 W384 P381 => ?_)
  have f385 := f356.same W384
  have N386 := Fr.snoc P381.st N364 g_o0
  have K387 := K370.wr W384 (Or.inl (List.mem_of_getElem? (i := 0) rfl))
  have f388 := f349.wr W384
  have f389 := f366.other W384 (Ne.symm ne_o0_ro)
  have f390 := f367.other W384 (Ne.symm ne_o0_co)
  have f391 := f368.other W384 (Ne.symm ne_o0_bp)
  have f392 := f369.other W384 (Ne.symm ne_o0_o1)
  have f393 := f350.other W384 (Or.inr (slot_ne (Or.inr (hw _ (List.mem_of_getElem? (i := 10) rfl))) (Or.inl (hw _ (List.mem_of_getElem? (i := 56) rfl))) (by decide) (t := .int) (t' := .int) (by decide) (by decide)))
  have f394 := f351.other W384 (Or.inr (slot_ne (Or.inl (hw _ (List.mem_of_getElem? (i := 13) rfl))) (Or.inl (hw _ (List.mem_of_getElem? (i := 56) rfl))) (by decide) (t := (.array .int)) (t' := .int) (by decide) (by decide)))
  have f395 := f352.other W384 (Or.inr (slot_ne (Or.inl (hw _ (List.mem_of_getElem? (i := 15) rfl))) (Or.inl (hw _ (List.mem_of_getElem? (i := 56) rfl))) (by decide) (t := (.array .int)) (t' := .int) (by decide) (by decide)))
  have f396 := f353.other W384 (Or.inr (slot_ne (Or.inr (hw _ (List.mem_of_getElem? (i := 19) rfl))) (Or.inl (hw _ (List.mem_of_getElem? (i := 56) rfl))) (by decide) (t := (.array (.object "com/example/projectum/projectum/reasoning/Relation$NodeIndex"))) (t' := .int) (by decide) (by decide)))
  have f397 := f354.other W384 (Or.inr (slot_ne (Or.inl (hw _ (List.mem_of_getElem? (i := 32) rfl))) (Or.inl (hw _ (List.mem_of_getElem? (i := 56) rfl))) (by decide) (t := .int) (t' := .int) (by decide) (by decide)))
  have f398 := f355.other W384 (Or.inr (slot_ne (Or.inl (hw _ (List.mem_of_getElem? (i := 30) rfl))) (Or.inl (hw _ (List.mem_of_getElem? (i := 56) rfl))) (by decide) (t := (.array .int)) (t' := .int) (by decide) (by decide)))
  have f399 := f357.other W384 (Ne.symm ne358)
  refine own_iconst P381 d4_141 rfl (v := (-1 : Int32)) rfl ?_
  exact own_retI P381 d4_142 (by decide) (by decide) ⟨rfl, N386, K387, so344, hg347, sz363, f388, f393, f394, f395, f396, f397, f398, f385, f389, f390, f391, f399⟩
theorem d15_0 : decode prog_73_method_13_code 0 = .ok (.aload_n 0, 1) := by decide +kernel
theorem d15_1 : decode prog_73_method_13_code 1 = .ok (.getfield 17, 3) := by decide +kernel
theorem d15_4 : decode prog_73_method_13_code 4 = .ok (.iload_n 1, 1) := by decide +kernel
theorem d15_5 : decode prog_73_method_13_code 5 = .ok (.dup2, 1) := by decide +kernel
theorem d15_6 : decode prog_73_method_13_code 6 = .ok (.iaload, 1) := by decide +kernel
theorem d15_7 : decode prog_73_method_13_code 7 = .ok (.dup_x2, 1) := by decide +kernel
theorem d15_8 : decode prog_73_method_13_code 8 = .ok (.iconst 1, 1) := by decide +kernel
theorem d15_9 : decode prog_73_method_13_code 9 = .ok (.iadd, 1) := by decide +kernel
theorem d15_10 : decode prog_73_method_13_code 10 = .ok (.iastore, 1) := by decide +kernel
theorem d15_11 : decode prog_73_method_13_code 11 = .ok (.ifCond .ne 44, 3) := by decide +kernel
theorem d15_14 : decode prog_73_method_13_code 14 = .ok (.iconst 0, 1) := by decide +kernel
theorem d15_15 : decode prog_73_method_13_code 15 = .ok (.istore_n 3, 1) := by decide +kernel
theorem d15_16 : decode prog_73_method_13_code 16 = .ok (.iload_n 3, 1) := by decide +kernel
theorem d15_17 : decode prog_73_method_13_code 17 = .ok (.aload_n 0, 1) := by decide +kernel
theorem d15_18 : decode prog_73_method_13_code 18 = .ok (.getfield 7, 3) := by decide +kernel
theorem d15_21 : decode prog_73_method_13_code 21 = .ok (.if_icmp .ge 34, 3) := by decide +kernel
theorem d15_24 : decode prog_73_method_13_code 24 = .ok (.aload_n 0, 1) := by decide +kernel
theorem d15_25 : decode prog_73_method_13_code 25 = .ok (.getfield 22, 3) := by decide +kernel
theorem d15_28 : decode prog_73_method_13_code 28 = .ok (.iload_n 3, 1) := by decide +kernel
theorem d15_29 : decode prog_73_method_13_code 29 = .ok (.aaload, 1) := by decide +kernel
theorem d15_30 : decode prog_73_method_13_code 30 = .ok (.ifnull 19, 3) := by decide +kernel
theorem d15_49 : decode prog_73_method_13_code 49 = .ok (.iinc 3 1, 3) := by decide +kernel
theorem d15_52 : decode prog_73_method_13_code 52 = .ok (.goto (-36), 3) := by decide +kernel
theorem d15_55 : decode prog_73_method_13_code 55 = .ok (.iload_n 1, 1) := by decide +kernel
theorem d15_56 : decode prog_73_method_13_code 56 = .ok (.ireturn, 1) := by decide +kernel
set_option maxRecDepth 65536 in
set_option maxHeartbeats 40000000 in
theorem rmRaise (l : Launch) (Z : State) (a0 : Array Value) (hw : ∀ d ∈ tables_1, d.before a0 Z = true) (o0 : Addr) (o1 : Addr) (ro : Addr) (co : Addr) (bp : Addr) (so : Addr) (x : Int32) (r0 : Int32) (r1 : Int32) (r2 : Int32) (r3 : Int32) (c0 : Int32) (c1 : Int32) (c2 : Int32) (c3 : Int32) (n : Int32) (f : Int32) (sl : List Int32) (h : Heap) (n0 : Nat) (Z0 : n0 ≤ h.size) (g_o0 : n0 ≤ o0) (g_ro : n0 ≤ ro) (g_co : n0 ≤ co) (g_so : n0 ≤ so) (ne_o0_ro : o0 ≠ ro) (ne_o0_co : o0 ≠ co) (ne_ro_co : ro ≠ co) (ne_o0_bp : o0 ≠ bp) (ne_ro_bp : ro ≠ bp) (ne_co_bp : co ≠ bp) (ne_o0_so : o0 ≠ so) (ne_ro_so : ro ≠ so) (ne_co_so : co ≠ so) (ne_bp_so : bp ≠ so) (ne_o0_o1 : o0 ≠ o1) (ne_ro_o1 : ro ≠ o1) (ne_co_o1 : co ≠ o1) (ne_bp_o1 : bp ≠ o1) (ne_so_o1 : so ≠ o1) (q0 : Exa Z h o0 "com/example/projectum/projectum/reasoning/Relation") (q1 : Fld Z h o0 "com/example/projectum/projectum/reasoning/Relation" "arity" "I" (.int (1 : Int32))) (q2 : Fld Z h o0 "com/example/projectum/projectum/reasoning/Relation" "rows" "[I" (.ref ro)) (q3 : Fld Z h o0 "com/example/projectum/projectum/reasoning/Relation" "counts" "[I" (.ref co)) (q4 : Fld Z h o0 "com/example/projectum/projectum/reasoning/Relation" "byPosition" "[Lcom/example/projectum/projectum/reasoning/Relation$NodeIndex;" (.ref bp)) (q5 : Fld Z h o0 "com/example/projectum/projectum/reasoning/Relation" "size" "I" (.int n)) (q6 : Fld Z h o0 "com/example/projectum/projectum/reasoning/Relation" "slots" "[I" (.ref so)) (q7 : Fld Z h o0 "com/example/projectum/projectum/reasoning/Relation" "freeSlot" "I" (.int f)) (q8 : own_Ar Z h ro .int [r0, r1, r2, r3]) (q9 : own_Ar Z h co .int [c0, c1, c2, c3]) (q10 : own_Nl Z h bp (.object "com/example/projectum/projectum/reasoning/Relation$NodeIndex")) (q11 : own_Ar Z h so .int sl) (q12 : own_Ar Z h o1 .int [x]) (hsl : sl.length = 16) :
    own_Con l Z (⟨"com/example/projectum/projectum/reasoning/Relation", "raise", "(I[I)I"⟩ : MethodName) prog_73_method_13_code 4 (some .int) [] ({ frames := 0, cells := 0, slots := 0, locals := 0 } : Room) #[(.ref o0), (.int (0 : Int32)), (.ref o1)] h (fun v h' L => v = some (.int (0 : Int32)) ∧ Fr n0 L ∧ Keep h h' [co] ∧ own_Ar Z h' co .int [(c0 + (1 : Int32)), c1, c2, c3]) := by
  refine own_enter (plainFor_of_name own_pn2) #[.val (.ref o0), .val (.int (0 : Int32)), .val (.ref o1), .unset] (fun m => by first | (simp [entryFrame, mkF, argsToLocals, Value.category]; done) | rfl) ?_
  intro p e s m below meth c T P
  replace P : own_S Z "com/example/projectum/projectum/reasoning/Relation" "raise" prog_73_method_13_code 4 (some .int) p l e ({ frames := 0, cells := 0, slots := 0, locals := 0 } : Room) s m #[(.ref o0), (.int (0 : Int32)), (.ref o1)] below meth c T h [] 0 0 := P
  have N0 : Fr n0 [] := Fr.nil n0
  refine own_aloadN P d15_0 rfl rfl rfl ?_
  refine own_getF P (hw _ (List.mem_of_getElem? (i := 14) rfl)) q3 d15_1 rfl (fun T401 P400 => ?_)
  refine own_iloadN P400 d15_4 rfl rfl ?_
  refine own_dup2 P400 d15_5 rfl rfl rfl ?_
  refine own_iaload P400 q9 d15_6 rfl (by decide) (Nat.le_of_ble_eq_true rfl) (x := c0) rfl ?_
  refine own_dupX2 P400 d15_7 rfl rfl rfl rfl ?_
  refine own_iconst P400 d15_8 rfl (v := (1 : Int32)) rfl ?_
  refine own_iadd P400 d15_9 rfl ?_
  refine own_iastore P400 q9 d15_10 rfl (by decide) (Nat.le_of_ble_eq_true rfl) (z := (c0 + (1 : Int32))) rfl (fun T403 h404 W405 A406 P402 => ?_)
  have N407 := Fr.snoc P402.st N0 g_co
  have K408 := (Keep.refl h [co]).wr W405 (Or.inl (List.mem_of_getElem? (i := 0) rfl))
  have f409 := q0.wr W405
  have f410 := q1.other W405 (Or.inl ne_o0_co)
  have f411 := q2.other W405 (Or.inl ne_o0_co)
  have f412 := q3.other W405 (Or.inl ne_o0_co)
  have f413 := q4.other W405 (Or.inl ne_o0_co)
  have f414 := q5.other W405 (Or.inl ne_o0_co)
  have f415 := q6.other W405 (Or.inl ne_o0_co)
  have f416 := q7.other W405 (Or.inl ne_o0_co)
  have f417 := q8.other W405 ne_ro_co
  have f418 := q10.other W405 (Ne.symm ne_co_bp)
  have f419 := q11.other W405 (Ne.symm ne_co_so)
  have f420 := q12.other W405 (Ne.symm ne_co_o1)
  have f421 : own_Ar Z h404 co .int [(c0 + (1 : Int32)), c1, c2, c3] := A406
  by_cases hc422 : c0 = (0 : Int32)
  · refine own_if0N P402 (pc' := 14) d15_11 (not_not_intro hc422) rfl ?_
    refine own_iconst P402 d15_14 rfl (v := (0 : Int32)) rfl ?_
    refine own_istoreN P402 d15_15 rfl (Ls' := #[.val (.ref o0), .val (.int (0 : Int32)), .val (.ref o1), .val (.int (0 : Int32))]) rfl ?_
    refine own_iloadN P402 d15_16 rfl rfl ?_
    refine own_aloadN P402 d15_17 rfl rfl rfl ?_
    refine own_getF P402 (hw _ (List.mem_of_getElem? (i := 9) rfl)) f410 d15_18 rfl (fun T424 P423 => ?_)
    refine own_icmpN P423 (pc' := 24) d15_21 (not_not_intro (by decide : (0 : Int32) < (1 : Int32))) rfl ?_
    refine own_aloadN P423 d15_24 rfl rfl rfl ?_
    refine own_getF P423 (hw _ (List.mem_of_getElem? (i := 18) rfl)) f413 d15_25 rfl (fun T426 P425 => ?_)
    refine own_iloadN P425 d15_28 rfl rfl ?_
    refine own_aaloadN P425 f418 rfl d15_29 rfl rfl ?_
    refine own_nullY P425 (pc' := 49) d15_30 (by decide) (by decide) ?_
    refine own_iinc P425 d15_49 rfl rfl (v := (1 : Int32)) rfl (Ls' := #[.val (.ref o0), .val (.int (0 : Int32)), .val (.ref o1), .val (.int ((0 : Int32) + (1 : Int32)))]) rfl ?_
    rw [show ((0 : Int32) + (1 : Int32)) = (1 : Int32) by decide]
    refine own_goto P425 (pc' := 16) d15_52 (by decide) (by decide) ?_
    refine own_iloadN P425 d15_16 rfl rfl ?_
    refine own_aloadN P425 d15_17 rfl rfl rfl ?_
    refine own_getF P425 (hw _ (List.mem_of_getElem? (i := 9) rfl)) f410 d15_18 rfl (fun T428 P427 => ?_)
    refine own_icmpY P427 (pc' := 55) d15_21 (by decide : ¬ ((1 : Int32) < (1 : Int32))) (by decide) (by decide) ?_
    refine own_iloadN P427 d15_55 rfl rfl ?_
    exact own_retI P427 d15_56 (by decide) (by decide) ⟨rfl, N407, K408, f421⟩
  · refine own_if0Y P402 (pc' := 55) d15_11 hc422 (by decide) (by decide) ?_
    refine own_iloadN P402 d15_55 rfl rfl ?_
    exact own_retI P402 d15_56 (by decide) (by decide) ⟨rfl, N407, K408, f421⟩
theorem d10_0 : decode prog_73_method_14_code 0 = .ok (.aload_n 0, 1) := by decide +kernel
theorem d10_1 : decode prog_73_method_14_code 1 = .ok (.getfield 26, 3) := by decide +kernel
theorem d10_4 : decode prog_73_method_14_code 4 = .ok (.iconst 1, 1) := by decide +kernel
theorem d10_5 : decode prog_73_method_14_code 5 = .ok (.iadd, 1) := by decide +kernel
theorem d10_6 : decode prog_73_method_14_code 6 = .ok (.aload_n 0, 1) := by decide +kernel
theorem d10_7 : decode prog_73_method_14_code 7 = .ok (.getfield 7, 3) := by decide +kernel
theorem d10_10 : decode prog_73_method_14_code 10 = .ok (.imul, 1) := by decide +kernel
theorem d10_11 : decode prog_73_method_14_code 11 = .ok (.aload_n 0, 1) := by decide +kernel
theorem d10_12 : decode prog_73_method_14_code 12 = .ok (.getfield 13, 3) := by decide +kernel
theorem d10_15 : decode prog_73_method_14_code 15 = .ok (.arraylength, 1) := by decide +kernel
theorem d10_16 : decode prog_73_method_14_code 16 = .ok (.if_icmp .le 35, 3) := by decide +kernel
theorem d10_51 : decode prog_73_method_14_code 51 = .ok (.aload_n 0, 1) := by decide +kernel
theorem d10_52 : decode prog_73_method_14_code 52 = .ok (.getfield 26, 3) := by decide +kernel
theorem d10_55 : decode prog_73_method_14_code 55 = .ok (.aload_n 0, 1) := by decide +kernel
theorem d10_56 : decode prog_73_method_14_code 56 = .ok (.getfield 17, 3) := by decide +kernel
theorem d10_59 : decode prog_73_method_14_code 59 = .ok (.arraylength, 1) := by decide +kernel
theorem d10_60 : decode prog_73_method_14_code 60 = .ok (.if_icmp .ne 20, 3) := by decide +kernel
theorem d10_80 : decode prog_73_method_14_code 80 = .ok (.aload_n 1, 1) := by decide +kernel
theorem d10_81 : decode prog_73_method_14_code 81 = .ok (.iconst 0, 1) := by decide +kernel
theorem d10_82 : decode prog_73_method_14_code 82 = .ok (.aload_n 0, 1) := by decide +kernel
theorem d10_83 : decode prog_73_method_14_code 83 = .ok (.getfield 13, 3) := by decide +kernel
theorem d10_86 : decode prog_73_method_14_code 86 = .ok (.aload_n 0, 1) := by decide +kernel
theorem d10_87 : decode prog_73_method_14_code 87 = .ok (.getfield 26, 3) := by decide +kernel
theorem d10_90 : decode prog_73_method_14_code 90 = .ok (.aload_n 0, 1) := by decide +kernel
theorem d10_91 : decode prog_73_method_14_code 91 = .ok (.getfield 7, 3) := by decide +kernel
theorem d10_94 : decode prog_73_method_14_code 94 = .ok (.imul, 1) := by decide +kernel
theorem d10_95 : decode prog_73_method_14_code 95 = .ok (.aload_n 0, 1) := by decide +kernel
theorem d10_96 : decode prog_73_method_14_code 96 = .ok (.getfield 7, 3) := by decide +kernel
theorem d10_99 : decode prog_73_method_14_code 99 = .ok (.invokestatic 59, 3) := by decide +kernel
theorem d10_102 : decode prog_73_method_14_code 102 = .ok (.aload_n 0, 1) := by decide +kernel
theorem d10_103 : decode prog_73_method_14_code 103 = .ok (.getfield 17, 3) := by decide +kernel
theorem d10_106 : decode prog_73_method_14_code 106 = .ok (.aload_n 0, 1) := by decide +kernel
theorem d10_107 : decode prog_73_method_14_code 107 = .ok (.getfield 26, 3) := by decide +kernel
theorem d10_110 : decode prog_73_method_14_code 110 = .ok (.iconst 1, 1) := by decide +kernel
theorem d10_111 : decode prog_73_method_14_code 111 = .ok (.iastore, 1) := by decide +kernel
theorem d10_112 : decode prog_73_method_14_code 112 = .ok (.aload_n 0, 1) := by decide +kernel
theorem d10_113 : decode prog_73_method_14_code 113 = .ok (.dup, 1) := by decide +kernel
theorem d10_114 : decode prog_73_method_14_code 114 = .ok (.getfield 26, 3) := by decide +kernel
theorem d10_117 : decode prog_73_method_14_code 117 = .ok (.dup_x1, 1) := by decide +kernel
theorem d10_118 : decode prog_73_method_14_code 118 = .ok (.iconst 1, 1) := by decide +kernel
theorem d10_119 : decode prog_73_method_14_code 119 = .ok (.iadd, 1) := by decide +kernel
theorem d10_120 : decode prog_73_method_14_code 120 = .ok (.putfield 26, 3) := by decide +kernel
theorem d10_123 : decode prog_73_method_14_code 123 = .ok (.istore_n 2, 1) := by decide +kernel
theorem d10_124 : decode prog_73_method_14_code 124 = .ok (.aload_n 0, 1) := by decide +kernel
theorem d10_125 : decode prog_73_method_14_code 125 = .ok (.getfield 46, 3) := by decide +kernel
theorem d10_128 : decode prog_73_method_14_code 128 = .ok (.ifnull 43, 3) := by decide +kernel
theorem d10_131 : decode prog_73_method_14_code 131 = .ok (.aload_n 0, 1) := by decide +kernel
theorem d10_132 : decode prog_73_method_14_code 132 = .ok (.getfield 26, 3) := by decide +kernel
theorem d10_135 : decode prog_73_method_14_code 135 = .ok (.iconst 2, 1) := by decide +kernel
theorem d10_136 : decode prog_73_method_14_code 136 = .ok (.imul, 1) := by decide +kernel
theorem d10_137 : decode prog_73_method_14_code 137 = .ok (.aload_n 0, 1) := by decide +kernel
theorem d10_138 : decode prog_73_method_14_code 138 = .ok (.getfield 46, 3) := by decide +kernel
theorem d10_141 : decode prog_73_method_14_code 141 = .ok (.arraylength, 1) := by decide +kernel
theorem d10_142 : decode prog_73_method_14_code 142 = .ok (.if_icmp .le 17, 3) := by decide +kernel
theorem d10_159 : decode prog_73_method_14_code 159 = .ok (.aload_n 0, 1) := by decide +kernel
theorem d10_160 : decode prog_73_method_14_code 160 = .ok (.getfield 46, 3) := by decide +kernel
theorem d10_163 : decode prog_73_method_14_code 163 = .ok (.aload_n 0, 1) := by decide +kernel
theorem d10_164 : decode prog_73_method_14_code 164 = .ok (.getfield 91, 3) := by decide +kernel
theorem d10_167 : decode prog_73_method_14_code 167 = .ok (.iload_n 2, 1) := by decide +kernel
theorem d10_168 : decode prog_73_method_14_code 168 = .ok (.iconst 1, 1) := by decide +kernel
theorem d10_169 : decode prog_73_method_14_code 169 = .ok (.iadd, 1) := by decide +kernel
theorem d10_170 : decode prog_73_method_14_code 170 = .ok (.iastore, 1) := by decide +kernel
theorem d10_171 : decode prog_73_method_14_code 171 = .ok (.iconst 0, 1) := by decide +kernel
theorem d10_172 : decode prog_73_method_14_code 172 = .ok (.istore_n 3, 1) := by decide +kernel
theorem d10_173 : decode prog_73_method_14_code 173 = .ok (.iload_n 3, 1) := by decide +kernel
theorem d10_174 : decode prog_73_method_14_code 174 = .ok (.aload_n 0, 1) := by decide +kernel
theorem d10_175 : decode prog_73_method_14_code 175 = .ok (.getfield 7, 3) := by decide +kernel
theorem d10_178 : decode prog_73_method_14_code 178 = .ok (.if_icmp .ge 34, 3) := by decide +kernel
theorem d10_181 : decode prog_73_method_14_code 181 = .ok (.aload_n 0, 1) := by decide +kernel
theorem d10_182 : decode prog_73_method_14_code 182 = .ok (.getfield 22, 3) := by decide +kernel
theorem d10_185 : decode prog_73_method_14_code 185 = .ok (.iload_n 3, 1) := by decide +kernel
theorem d10_186 : decode prog_73_method_14_code 186 = .ok (.aaload, 1) := by decide +kernel
theorem d10_187 : decode prog_73_method_14_code 187 = .ok (.ifnull 19, 3) := by decide +kernel
theorem d10_206 : decode prog_73_method_14_code 206 = .ok (.iinc 3 1, 3) := by decide +kernel
theorem d10_209 : decode prog_73_method_14_code 209 = .ok (.goto (-36), 3) := by decide +kernel
theorem d10_212 : decode prog_73_method_14_code 212 = .ok (.iload_n 2, 1) := by decide +kernel
theorem d10_213 : decode prog_73_method_14_code 213 = .ok (.ireturn, 1) := by decide +kernel
set_option maxRecDepth 65536 in
set_option maxHeartbeats 40000000 in
theorem rmApp0 (l : Launch) (Z : State) (a0 : Array Value) (hw : ∀ d ∈ tables_1, d.before a0 Z = true) (o0 : Addr) (o1 : Addr) (ro : Addr) (co : Addr) (bp : Addr) (so : Addr) (x : Int32) (r0 : Int32) (r1 : Int32) (r2 : Int32) (r3 : Int32) (c0 : Int32) (c1 : Int32) (c2 : Int32) (c3 : Int32) (f : Int32) (sl : List Int32) (h : Heap) (n0 : Nat) (Z0 : n0 ≤ h.size) (g_o0 : n0 ≤ o0) (g_ro : n0 ≤ ro) (g_co : n0 ≤ co) (g_so : n0 ≤ so) (ne_o0_ro : o0 ≠ ro) (ne_o0_co : o0 ≠ co) (ne_ro_co : ro ≠ co) (ne_o0_bp : o0 ≠ bp) (ne_ro_bp : ro ≠ bp) (ne_co_bp : co ≠ bp) (ne_o0_so : o0 ≠ so) (ne_ro_so : ro ≠ so) (ne_co_so : co ≠ so) (ne_bp_so : bp ≠ so) (ne_o0_o1 : o0 ≠ o1) (ne_ro_o1 : ro ≠ o1) (ne_co_o1 : co ≠ o1) (ne_bp_o1 : bp ≠ o1) (ne_so_o1 : so ≠ o1) (q0 : Exa Z h o0 "com/example/projectum/projectum/reasoning/Relation") (q1 : Fld Z h o0 "com/example/projectum/projectum/reasoning/Relation" "arity" "I" (.int (1 : Int32))) (q2 : Fld Z h o0 "com/example/projectum/projectum/reasoning/Relation" "rows" "[I" (.ref ro)) (q3 : Fld Z h o0 "com/example/projectum/projectum/reasoning/Relation" "counts" "[I" (.ref co)) (q4 : Fld Z h o0 "com/example/projectum/projectum/reasoning/Relation" "byPosition" "[Lcom/example/projectum/projectum/reasoning/Relation$NodeIndex;" (.ref bp)) (q5 : Fld Z h o0 "com/example/projectum/projectum/reasoning/Relation" "size" "I" (.int (0 : Int32))) (q6 : Fld Z h o0 "com/example/projectum/projectum/reasoning/Relation" "slots" "[I" (.ref so)) (q7 : Fld Z h o0 "com/example/projectum/projectum/reasoning/Relation" "freeSlot" "I" (.int f)) (q8 : own_Ar Z h ro .int [r0, r1, r2, r3]) (q9 : own_Ar Z h co .int [c0, c1, c2, c3]) (q10 : own_Nl Z h bp (.object "com/example/projectum/projectum/reasoning/Relation$NodeIndex")) (q11 : own_Ar Z h so .int sl) (q12 : own_Ar Z h o1 .int [x]) (hsl : sl.length = 16) (hf : 0 ≤ f.toInt ∧ f.toInt.toNat < 16) :
    own_Con l Z (⟨"com/example/projectum/projectum/reasoning/Relation", "append", "([I)I"⟩ : MethodName) prog_73_method_14_code 4 (some .int) [] ({ frames := 1, cells := 0, slots := 0, locals := 18 } : Room) #[(.ref o0), (.ref o1)] h (fun v h' L => v = some (.int (0 : Int32)) ∧ Fr n0 L ∧ Keep h h' [o0, ro, co, so] ∧ Exa Z h' o0 "com/example/projectum/projectum/reasoning/Relation" ∧ Fld Z h' o0 "com/example/projectum/projectum/reasoning/Relation" "arity" "I" (.int (1 : Int32)) ∧ Fld Z h' o0 "com/example/projectum/projectum/reasoning/Relation" "rows" "[I" (.ref ro) ∧ Fld Z h' o0 "com/example/projectum/projectum/reasoning/Relation" "counts" "[I" (.ref co) ∧ Fld Z h' o0 "com/example/projectum/projectum/reasoning/Relation" "byPosition" "[Lcom/example/projectum/projectum/reasoning/Relation$NodeIndex;" (.ref bp) ∧ Fld Z h' o0 "com/example/projectum/projectum/reasoning/Relation" "size" "I" (.int (1 : Int32)) ∧ Fld Z h' o0 "com/example/projectum/projectum/reasoning/Relation" "slots" "[I" (.ref so) ∧ Fld Z h' o0 "com/example/projectum/projectum/reasoning/Relation" "freeSlot" "I" (.int f) ∧ own_Ar Z h' ro .int [x, r1, r2, r3] ∧ own_Ar Z h' co .int [(1 : Int32), c1, c2, c3] ∧ own_Nl Z h' bp (.object "com/example/projectum/projectum/reasoning/Relation$NodeIndex") ∧ own_Ar Z h' so .int (sl.set f.toInt.toNat (1 : Int32))) := by
  refine own_enter (plainFor_of_name own_pn2) #[.val (.ref o0), .val (.ref o1), .unset, .unset] (fun m => by first | (simp [entryFrame, mkF, argsToLocals, Value.category]; done) | rfl) ?_
  intro p e s m below meth c T P
  replace P : own_S Z "com/example/projectum/projectum/reasoning/Relation" "append" prog_73_method_14_code 4 (some .int) p l e ({ frames := 1, cells := 0, slots := 0, locals := 18 } : Room) s m #[(.ref o0), (.ref o1)] below meth c T h [] 0 0 := P
  have N0 : Fr n0 [] := Fr.nil n0
  refine own_aloadN P d10_0 rfl rfl rfl ?_
  refine own_getF P (hw _ (List.mem_of_getElem? (i := 31) rfl)) q5 d10_1 rfl (fun T430 P429 => ?_)
  refine own_iconst P429 d10_4 rfl (v := (1 : Int32)) rfl ?_
  refine own_iadd P429 d10_5 rfl ?_
  rw [show ((0 : Int32) + (1 : Int32)) = (1 : Int32) by decide]
  refine own_aloadN P429 d10_6 rfl rfl rfl ?_
  refine own_getF P429 (hw _ (List.mem_of_getElem? (i := 9) rfl)) q1 d10_7 rfl (fun T432 P431 => ?_)
  refine own_imul P431 d10_10 rfl ?_
  rw [show ((1 : Int32) * (1 : Int32)) = (1 : Int32) by decide]
  refine own_aloadN P431 d10_11 rfl rfl rfl ?_
  refine own_getF P431 (hw _ (List.mem_of_getElem? (i := 12) rfl)) q2 d10_12 rfl (fun T434 P433 => ?_)
  refine own_alen P433 q8 d10_15 rfl (v := (4 : Int32)) rfl ?_
  refine own_icmpY P433 (pc' := 51) d10_16 (by decide : ¬ ((4 : Int32) < (1 : Int32))) (by decide) (by decide) ?_
  refine own_aloadN P433 d10_51 rfl rfl rfl ?_
  refine own_getF P433 (hw _ (List.mem_of_getElem? (i := 31) rfl)) q5 d10_52 rfl (fun T436 P435 => ?_)
  refine own_aloadN P435 d10_55 rfl rfl rfl ?_
  refine own_getF P435 (hw _ (List.mem_of_getElem? (i := 14) rfl)) q3 d10_56 rfl (fun T438 P437 => ?_)
  refine own_alen P437 q9 d10_59 rfl (v := (4 : Int32)) rfl ?_
  refine own_icmpY P437 (pc' := 80) d10_60 (by decide : ¬ ((0 : Int32) = (4 : Int32))) (by decide) (by decide) ?_
  refine own_aloadN P437 d10_80 rfl rfl rfl ?_
  refine own_iconst P437 d10_81 rfl (v := (0 : Int32)) rfl ?_
  refine own_aloadN P437 d10_82 rfl rfl rfl ?_
  refine own_getF P437 (hw _ (List.mem_of_getElem? (i := 12) rfl)) q2 d10_83 rfl (fun T440 P439 => ?_)
  refine own_aloadN P439 d10_86 rfl rfl rfl ?_
  refine own_getF P439 (hw _ (List.mem_of_getElem? (i := 31) rfl)) q5 d10_87 rfl (fun T442 P441 => ?_)
  refine own_aloadN P441 d10_90 rfl rfl rfl ?_
  refine own_getF P441 (hw _ (List.mem_of_getElem? (i := 9) rfl)) q1 d10_91 rfl (fun T444 P443 => ?_)
  refine own_imul P443 d10_94 rfl ?_
  rw [show ((0 : Int32) * (1 : Int32)) = (0 : Int32) by decide]
  refine own_aloadN P443 d10_95 rfl rfl rfl ?_
  refine own_getF P443 (hw _ (List.mem_of_getElem? (i := 9) rfl)) q1 d10_96 rfl (fun T446 P445 => ?_)
  refine own_acopy P445 (hw _ (List.mem_of_getElem? (i := 61) rfl)) (hw _ (List.mem_of_getElem? (i := 64) rfl)) (hw _ (List.mem_of_getElem? (i := 62) rfl)) (hw _ (List.mem_of_getElem? (i := 63) rfl)) q12 q8 (Nat.le_of_ble_eq_true rfl) (by decide) (Nat.le_of_ble_eq_true rfl) N0 g_ro d10_99 rfl rfl (by decide) 0 rfl (by decide) (fun T447 h448 L449 N450 K451 A452 P453 => ?_)
  have f454 := q0.keep K451
  have f455 := q1.keep K451 (ninS ne_o0_ro nin0)
  have f456 := q2.keep K451 (ninS ne_o0_ro nin0)
  have f457 := q3.keep K451 (ninS ne_o0_ro nin0)
  have f458 := q4.keep K451 (ninS ne_o0_ro nin0)
  have f459 := q5.keep K451 (ninS ne_o0_ro nin0)
  have f460 := q6.keep K451 (ninS ne_o0_ro nin0)
  have f461 := q7.keep K451 (ninS ne_o0_ro nin0)
  have f462 := q9.keep K451 (ninS (Ne.symm ne_ro_co) nin0)
  have f463 := q10.keep K451 (ninS (Ne.symm ne_ro_bp) nin0)
  have f464 := q11.keep K451 (ninS (Ne.symm ne_ro_so) nin0)
  have f465 := q12.keep K451 (ninS (Ne.symm ne_ro_o1) nin0)
  have K466 := (Keep.refl h [o0, ro, co, so]).trans K451 (allS (Or.inl (List.mem_of_getElem? (i := 1) rfl)) all0)
  have f467 : own_Ar Z h448 ro .int [x, r1, r2, r3] := A452
  refine own_aloadN P453 d10_102 rfl rfl rfl ?_
  refine own_getF P453 (hw _ (List.mem_of_getElem? (i := 14) rfl)) f457 d10_103 rfl (fun T469 P468 => ?_)
  refine own_aloadN P468 d10_106 rfl rfl rfl ?_
  refine own_getF P468 (hw _ (List.mem_of_getElem? (i := 31) rfl)) f459 d10_107 rfl (fun T471 P470 => ?_)
  refine own_iconst P470 d10_110 rfl (v := (1 : Int32)) rfl ?_
  refine own_iastore P470 f462 d10_111 rfl (by decide) (Nat.le_of_ble_eq_true rfl) (z := (1 : Int32)) rfl (fun T473 h474 W475 A476 P472 => ?_)
  have N477 := Fr.snoc P472.st N450 g_co
  have K478 := K466.wr W475 (Or.inl (List.mem_of_getElem? (i := 2) rfl))
  have f479 := f454.wr W475
  have f480 := f455.other W475 (Or.inl ne_o0_co)
  have f481 := f456.other W475 (Or.inl ne_o0_co)
  have f482 := f457.other W475 (Or.inl ne_o0_co)
  have f483 := f458.other W475 (Or.inl ne_o0_co)
  have f484 := f459.other W475 (Or.inl ne_o0_co)
  have f485 := f460.other W475 (Or.inl ne_o0_co)
  have f486 := f461.other W475 (Or.inl ne_o0_co)
  have f487 := f463.other W475 (Ne.symm ne_co_bp)
  have f488 := f464.other W475 (Ne.symm ne_co_so)
  have f489 := f465.other W475 (Ne.symm ne_co_o1)
  have f490 := f467.other W475 ne_ro_co
  have f491 : own_Ar Z h474 co .int [(1 : Int32), c1, c2, c3] := A476
  refine own_aloadN P472 d10_112 rfl rfl rfl ?_
  refine own_dup P472 d10_113 rfl rfl ?_
  refine own_getF P472 (hw _ (List.mem_of_getElem? (i := 31) rfl)) f484 d10_114 rfl (fun T493 P492 => ?_)
  refine own_dupX1 P492 d10_117 rfl rfl rfl ?_
  refine own_iconst P492 d10_118 rfl (v := (1 : Int32)) rfl ?_
  refine own_iadd P492 d10_119 rfl ?_
  rw [show ((0 : Int32) + (1 : Int32)) = (1 : Int32) by decide]
  refine own_putF P492 (hw _ (List.mem_of_getElem? (i := 31) rfl)) f484 f479 (Or.inl (hw _ (List.mem_of_getElem? (i := 32) rfl))) (hw _ (List.mem_of_getElem? (i := 1) rfl)) (ty := .int) (by decide) rfl rfl d10_120 rfl (fun T495 h496 W497 P494 => ?_)
  have f498 := f484.same W497
  have N499 := Fr.snoc P494.st N477 g_o0
  have K500 := K478.wr W497 (Or.inl (List.mem_of_getElem? (i := 0) rfl))
  have f501 := f479.wr W497
  have f502 := f480.other W497 (Or.inr (slot_ne (Or.inr (hw _ (List.mem_of_getElem? (i := 10) rfl))) (Or.inl (hw _ (List.mem_of_getElem? (i := 32) rfl))) (by decide) (t := .int) (t' := .int) (by decide) (by decide)))
  have f503 := f481.other W497 (Or.inr (slot_ne (Or.inl (hw _ (List.mem_of_getElem? (i := 13) rfl))) (Or.inl (hw _ (List.mem_of_getElem? (i := 32) rfl))) (by decide) (t := (.array .int)) (t' := .int) (by decide) (by decide)))
  have f504 := f482.other W497 (Or.inr (slot_ne (Or.inl (hw _ (List.mem_of_getElem? (i := 15) rfl))) (Or.inl (hw _ (List.mem_of_getElem? (i := 32) rfl))) (by decide) (t := (.array .int)) (t' := .int) (by decide) (by decide)))
  have f505 := f483.other W497 (Or.inr (slot_ne (Or.inr (hw _ (List.mem_of_getElem? (i := 19) rfl))) (Or.inl (hw _ (List.mem_of_getElem? (i := 32) rfl))) (by decide) (t := (.array (.object "com/example/projectum/projectum/reasoning/Relation$NodeIndex"))) (t' := .int) (by decide) (by decide)))
  have f506 := f485.other W497 (Or.inr (slot_ne (Or.inl (hw _ (List.mem_of_getElem? (i := 30) rfl))) (Or.inl (hw _ (List.mem_of_getElem? (i := 32) rfl))) (by decide) (t := (.array .int)) (t' := .int) (by decide) (by decide)))
  have f507 := f486.other W497 (Or.inr (slot_ne (Or.inl (hw _ (List.mem_of_getElem? (i := 56) rfl))) (Or.inl (hw _ (List.mem_of_getElem? (i := 32) rfl))) (by decide) (t := .int) (t' := .int) (by decide) (by decide)))
  have f508 := f487.other W497 (Ne.symm ne_o0_bp)
  have f509 := f488.other W497 (Ne.symm ne_o0_so)
  have f510 := f489.other W497 (Ne.symm ne_o0_o1)
  have f511 := f490.other W497 (Ne.symm ne_o0_ro)
  have f512 := f491.other W497 (Ne.symm ne_o0_co)
  refine own_istoreN P494 d10_123 rfl (Ls' := #[.val (.ref o0), .val (.ref o1), .val (.int (0 : Int32)), .unset]) rfl ?_
  refine own_aloadN P494 d10_124 rfl rfl rfl ?_
  refine own_getF P494 (hw _ (List.mem_of_getElem? (i := 29) rfl)) f506 d10_125 rfl (fun T514 P513 => ?_)
  refine own_nullN P513 (pc' := 131) d10_128 rfl ?_
  refine own_aloadN P513 d10_131 rfl rfl rfl ?_
  refine own_getF P513 (hw _ (List.mem_of_getElem? (i := 31) rfl)) f498 d10_132 rfl (fun T516 P515 => ?_)
  refine own_iconst P515 d10_135 rfl (v := (2 : Int32)) rfl ?_
  refine own_imul P515 d10_136 rfl ?_
  rw [show ((1 : Int32) * (2 : Int32)) = (2 : Int32) by decide]
  refine own_aloadN P515 d10_137 rfl rfl rfl ?_
  refine own_getF P515 (hw _ (List.mem_of_getElem? (i := 29) rfl)) f506 d10_138 rfl (fun T518 P517 => ?_)
  refine own_alen P517 f509 d10_141 rfl (v := (16 : Int32)) (by rw [hsl]; rfl) ?_
  refine own_icmpY P517 (pc' := 159) d10_142 (by decide : ¬ ((16 : Int32) < (2 : Int32))) (by decide) (by decide) ?_
  refine own_aloadN P517 d10_159 rfl rfl rfl ?_
  refine own_getF P517 (hw _ (List.mem_of_getElem? (i := 29) rfl)) f506 d10_160 rfl (fun T520 P519 => ?_)
  refine own_aloadN P519 d10_163 rfl rfl rfl ?_
  refine own_getF P519 (hw _ (List.mem_of_getElem? (i := 55) rfl)) f507 d10_164 rfl (fun T522 P521 => ?_)
  refine own_iloadN P521 d10_167 rfl rfl ?_
  refine own_iconst P521 d10_168 rfl (v := (1 : Int32)) rfl ?_
  refine own_iadd P521 d10_169 rfl ?_
  rw [show ((0 : Int32) + (1 : Int32)) = (1 : Int32) by decide]
  refine own_iastore P521 f509 d10_170 rfl hf.1 (by rw [hsl]; exact hf.2) (z := (1 : Int32)) rfl (fun T524 h525 W526 A527 P523 => ?_)
  have N528 := Fr.snoc P523.st N499 g_so
  have K529 := K500.wr W526 (Or.inl (List.mem_of_getElem? (i := 3) rfl))
  have f530 := f501.wr W526
  have f531 := f502.other W526 (Or.inl ne_o0_so)
  have f532 := f503.other W526 (Or.inl ne_o0_so)
  have f533 := f504.other W526 (Or.inl ne_o0_so)
  have f534 := f505.other W526 (Or.inl ne_o0_so)
  have f535 := f506.other W526 (Or.inl ne_o0_so)
  have f536 := f507.other W526 (Or.inl ne_o0_so)
  have f537 := f508.other W526 ne_bp_so
  have f538 := f510.other W526 (Ne.symm ne_so_o1)
  have f539 := f511.other W526 ne_ro_so
  have f540 := f512.other W526 ne_co_so
  have f541 := f498.other W526 (Or.inl ne_o0_so)
  have f542 : own_Ar Z h525 so .int (sl.set f.toInt.toNat (1 : Int32)) := A527
  refine own_iconst P523 d10_171 rfl (v := (0 : Int32)) rfl ?_
  refine own_istoreN P523 d10_172 rfl (Ls' := #[.val (.ref o0), .val (.ref o1), .val (.int (0 : Int32)), .val (.int (0 : Int32))]) rfl ?_
  refine own_iloadN P523 d10_173 rfl rfl ?_
  refine own_aloadN P523 d10_174 rfl rfl rfl ?_
  refine own_getF P523 (hw _ (List.mem_of_getElem? (i := 9) rfl)) f531 d10_175 rfl (fun T544 P543 => ?_)
  refine own_icmpN P543 (pc' := 181) d10_178 (not_not_intro (by decide : (0 : Int32) < (1 : Int32))) rfl ?_
  refine own_aloadN P543 d10_181 rfl rfl rfl ?_
  refine own_getF P543 (hw _ (List.mem_of_getElem? (i := 18) rfl)) f534 d10_182 rfl (fun T546 P545 => ?_)
  refine own_iloadN P545 d10_185 rfl rfl ?_
  refine own_aaloadN P545 f537 rfl d10_186 rfl rfl ?_
  refine own_nullY P545 (pc' := 206) d10_187 (by decide) (by decide) ?_
  refine own_iinc P545 d10_206 rfl rfl (v := (1 : Int32)) rfl (Ls' := #[.val (.ref o0), .val (.ref o1), .val (.int (0 : Int32)), .val (.int ((0 : Int32) + (1 : Int32)))]) rfl ?_
  rw [show ((0 : Int32) + (1 : Int32)) = (1 : Int32) by decide]
  refine own_goto P545 (pc' := 173) d10_209 (by decide) (by decide) ?_
  refine own_iloadN P545 d10_173 rfl rfl ?_
  refine own_aloadN P545 d10_174 rfl rfl rfl ?_
  refine own_getF P545 (hw _ (List.mem_of_getElem? (i := 9) rfl)) f531 d10_175 rfl (fun T548 P547 => ?_)
  refine own_icmpY P547 (pc' := 212) d10_178 (by decide : ¬ ((1 : Int32) < (1 : Int32))) (by decide) (by decide) ?_
  refine own_iloadN P547 d10_212 rfl rfl ?_
  exact own_retI P547 d10_213 (by decide) (by decide) ⟨rfl, N528, K529, f530, f531, f532, f533, f534, f541, f535, f536, f539, f540, f537, f542⟩
set_option maxRecDepth 65536 in
set_option maxHeartbeats 40000000 in
theorem rmApp1 (l : Launch) (Z : State) (a0 : Array Value) (hw : ∀ d ∈ tables_1, d.before a0 Z = true) (o0 : Addr) (o1 : Addr) (ro : Addr) (co : Addr) (bp : Addr) (so : Addr) (x : Int32) (r0 : Int32) (r1 : Int32) (r2 : Int32) (r3 : Int32) (c0 : Int32) (c1 : Int32) (c2 : Int32) (c3 : Int32) (f : Int32) (sl : List Int32) (h : Heap) (n0 : Nat) (Z0 : n0 ≤ h.size) (g_o0 : n0 ≤ o0) (g_ro : n0 ≤ ro) (g_co : n0 ≤ co) (g_so : n0 ≤ so) (ne_o0_ro : o0 ≠ ro) (ne_o0_co : o0 ≠ co) (ne_ro_co : ro ≠ co) (ne_o0_bp : o0 ≠ bp) (ne_ro_bp : ro ≠ bp) (ne_co_bp : co ≠ bp) (ne_o0_so : o0 ≠ so) (ne_ro_so : ro ≠ so) (ne_co_so : co ≠ so) (ne_bp_so : bp ≠ so) (ne_o0_o1 : o0 ≠ o1) (ne_ro_o1 : ro ≠ o1) (ne_co_o1 : co ≠ o1) (ne_bp_o1 : bp ≠ o1) (ne_so_o1 : so ≠ o1) (q0 : Exa Z h o0 "com/example/projectum/projectum/reasoning/Relation") (q1 : Fld Z h o0 "com/example/projectum/projectum/reasoning/Relation" "arity" "I" (.int (1 : Int32))) (q2 : Fld Z h o0 "com/example/projectum/projectum/reasoning/Relation" "rows" "[I" (.ref ro)) (q3 : Fld Z h o0 "com/example/projectum/projectum/reasoning/Relation" "counts" "[I" (.ref co)) (q4 : Fld Z h o0 "com/example/projectum/projectum/reasoning/Relation" "byPosition" "[Lcom/example/projectum/projectum/reasoning/Relation$NodeIndex;" (.ref bp)) (q5 : Fld Z h o0 "com/example/projectum/projectum/reasoning/Relation" "size" "I" (.int (1 : Int32))) (q6 : Fld Z h o0 "com/example/projectum/projectum/reasoning/Relation" "slots" "[I" (.ref so)) (q7 : Fld Z h o0 "com/example/projectum/projectum/reasoning/Relation" "freeSlot" "I" (.int f)) (q8 : own_Ar Z h ro .int [r0, r1, r2, r3]) (q9 : own_Ar Z h co .int [c0, c1, c2, c3]) (q10 : own_Nl Z h bp (.object "com/example/projectum/projectum/reasoning/Relation$NodeIndex")) (q11 : own_Ar Z h so .int sl) (q12 : own_Ar Z h o1 .int [x]) (hsl : sl.length = 16) (hf : 0 ≤ f.toInt ∧ f.toInt.toNat < 16) :
    own_Con l Z (⟨"com/example/projectum/projectum/reasoning/Relation", "append", "([I)I"⟩ : MethodName) prog_73_method_14_code 4 (some .int) [] ({ frames := 1, cells := 0, slots := 0, locals := 18 } : Room) #[(.ref o0), (.ref o1)] h (fun v h' L => v = some (.int (1 : Int32)) ∧ Fr n0 L ∧ Keep h h' [o0, ro, co, so] ∧ Exa Z h' o0 "com/example/projectum/projectum/reasoning/Relation" ∧ Fld Z h' o0 "com/example/projectum/projectum/reasoning/Relation" "arity" "I" (.int (1 : Int32)) ∧ Fld Z h' o0 "com/example/projectum/projectum/reasoning/Relation" "rows" "[I" (.ref ro) ∧ Fld Z h' o0 "com/example/projectum/projectum/reasoning/Relation" "counts" "[I" (.ref co) ∧ Fld Z h' o0 "com/example/projectum/projectum/reasoning/Relation" "byPosition" "[Lcom/example/projectum/projectum/reasoning/Relation$NodeIndex;" (.ref bp) ∧ Fld Z h' o0 "com/example/projectum/projectum/reasoning/Relation" "size" "I" (.int (2 : Int32)) ∧ Fld Z h' o0 "com/example/projectum/projectum/reasoning/Relation" "slots" "[I" (.ref so) ∧ Fld Z h' o0 "com/example/projectum/projectum/reasoning/Relation" "freeSlot" "I" (.int f) ∧ own_Ar Z h' ro .int [r0, x, r2, r3] ∧ own_Ar Z h' co .int [c0, (1 : Int32), c2, c3] ∧ own_Nl Z h' bp (.object "com/example/projectum/projectum/reasoning/Relation$NodeIndex") ∧ own_Ar Z h' so .int (sl.set f.toInt.toNat (2 : Int32))) := by
  refine own_enter (plainFor_of_name own_pn2) #[.val (.ref o0), .val (.ref o1), .unset, .unset] (fun m => by first | (simp [entryFrame, mkF, argsToLocals, Value.category]; done) | rfl) ?_
  intro p e s m below meth c T P
  replace P : own_S Z "com/example/projectum/projectum/reasoning/Relation" "append" prog_73_method_14_code 4 (some .int) p l e ({ frames := 1, cells := 0, slots := 0, locals := 18 } : Room) s m #[(.ref o0), (.ref o1)] below meth c T h [] 0 0 := P
  have N0 : Fr n0 [] := Fr.nil n0
  refine own_aloadN P d10_0 rfl rfl rfl ?_
  refine own_getF P (hw _ (List.mem_of_getElem? (i := 31) rfl)) q5 d10_1 rfl (fun T550 P549 => ?_)
  refine own_iconst P549 d10_4 rfl (v := (1 : Int32)) rfl ?_
  refine own_iadd P549 d10_5 rfl ?_
  rw [show ((1 : Int32) + (1 : Int32)) = (2 : Int32) by decide]
  refine own_aloadN P549 d10_6 rfl rfl rfl ?_
  refine own_getF P549 (hw _ (List.mem_of_getElem? (i := 9) rfl)) q1 d10_7 rfl (fun T552 P551 => ?_)
  refine own_imul P551 d10_10 rfl ?_
  rw [show ((2 : Int32) * (1 : Int32)) = (2 : Int32) by decide]
  refine own_aloadN P551 d10_11 rfl rfl rfl ?_
  refine own_getF P551 (hw _ (List.mem_of_getElem? (i := 12) rfl)) q2 d10_12 rfl (fun T554 P553 => ?_)
  refine own_alen P553 q8 d10_15 rfl (v := (4 : Int32)) rfl ?_
  refine own_icmpY P553 (pc' := 51) d10_16 (by decide : ¬ ((4 : Int32) < (2 : Int32))) (by decide) (by decide) ?_
  refine own_aloadN P553 d10_51 rfl rfl rfl ?_
  refine own_getF P553 (hw _ (List.mem_of_getElem? (i := 31) rfl)) q5 d10_52 rfl (fun T556 P555 => ?_)
  refine own_aloadN P555 d10_55 rfl rfl rfl ?_
  refine own_getF P555 (hw _ (List.mem_of_getElem? (i := 14) rfl)) q3 d10_56 rfl (fun T558 P557 => ?_)
  refine own_alen P557 q9 d10_59 rfl (v := (4 : Int32)) rfl ?_
  refine own_icmpY P557 (pc' := 80) d10_60 (by decide : ¬ ((1 : Int32) = (4 : Int32))) (by decide) (by decide) ?_
  refine own_aloadN P557 d10_80 rfl rfl rfl ?_
  refine own_iconst P557 d10_81 rfl (v := (0 : Int32)) rfl ?_
  refine own_aloadN P557 d10_82 rfl rfl rfl ?_
  refine own_getF P557 (hw _ (List.mem_of_getElem? (i := 12) rfl)) q2 d10_83 rfl (fun T560 P559 => ?_)
  refine own_aloadN P559 d10_86 rfl rfl rfl ?_
  refine own_getF P559 (hw _ (List.mem_of_getElem? (i := 31) rfl)) q5 d10_87 rfl (fun T562 P561 => ?_)
  refine own_aloadN P561 d10_90 rfl rfl rfl ?_
  refine own_getF P561 (hw _ (List.mem_of_getElem? (i := 9) rfl)) q1 d10_91 rfl (fun T564 P563 => ?_)
  refine own_imul P563 d10_94 rfl ?_
  rw [show ((1 : Int32) * (1 : Int32)) = (1 : Int32) by decide]
  refine own_aloadN P563 d10_95 rfl rfl rfl ?_
  refine own_getF P563 (hw _ (List.mem_of_getElem? (i := 9) rfl)) q1 d10_96 rfl (fun T566 P565 => ?_)
  refine own_acopy P565 (hw _ (List.mem_of_getElem? (i := 61) rfl)) (hw _ (List.mem_of_getElem? (i := 64) rfl)) (hw _ (List.mem_of_getElem? (i := 62) rfl)) (hw _ (List.mem_of_getElem? (i := 63) rfl)) q12 q8 (Nat.le_of_ble_eq_true rfl) (by decide) (Nat.le_of_ble_eq_true rfl) N0 g_ro d10_99 rfl rfl (by decide) 0 rfl (by decide) (fun T567 h568 L569 N570 K571 A572 P573 => ?_)
  have f574 := q0.keep K571
  have f575 := q1.keep K571 (ninS ne_o0_ro nin0)
  have f576 := q2.keep K571 (ninS ne_o0_ro nin0)
  have f577 := q3.keep K571 (ninS ne_o0_ro nin0)
  have f578 := q4.keep K571 (ninS ne_o0_ro nin0)
  have f579 := q5.keep K571 (ninS ne_o0_ro nin0)
  have f580 := q6.keep K571 (ninS ne_o0_ro nin0)
  have f581 := q7.keep K571 (ninS ne_o0_ro nin0)
  have f582 := q9.keep K571 (ninS (Ne.symm ne_ro_co) nin0)
  have f583 := q10.keep K571 (ninS (Ne.symm ne_ro_bp) nin0)
  have f584 := q11.keep K571 (ninS (Ne.symm ne_ro_so) nin0)
  have f585 := q12.keep K571 (ninS (Ne.symm ne_ro_o1) nin0)
  have K586 := (Keep.refl h [o0, ro, co, so]).trans K571 (allS (Or.inl (List.mem_of_getElem? (i := 1) rfl)) all0)
  have f587 : own_Ar Z h568 ro .int [r0, x, r2, r3] := A572
  refine own_aloadN P573 d10_102 rfl rfl rfl ?_
  refine own_getF P573 (hw _ (List.mem_of_getElem? (i := 14) rfl)) f577 d10_103 rfl (fun T589 P588 => ?_)
  refine own_aloadN P588 d10_106 rfl rfl rfl ?_
  refine own_getF P588 (hw _ (List.mem_of_getElem? (i := 31) rfl)) f579 d10_107 rfl (fun T591 P590 => ?_)
  refine own_iconst P590 d10_110 rfl (v := (1 : Int32)) rfl ?_
  refine own_iastore P590 f582 d10_111 rfl (by decide) (Nat.le_of_ble_eq_true rfl) (z := (1 : Int32)) rfl (fun T593 h594 W595 A596 P592 => ?_)
  have N597 := Fr.snoc P592.st N570 g_co
  have K598 := K586.wr W595 (Or.inl (List.mem_of_getElem? (i := 2) rfl))
  have f599 := f574.wr W595
  have f600 := f575.other W595 (Or.inl ne_o0_co)
  have f601 := f576.other W595 (Or.inl ne_o0_co)
  have f602 := f577.other W595 (Or.inl ne_o0_co)
  have f603 := f578.other W595 (Or.inl ne_o0_co)
  have f604 := f579.other W595 (Or.inl ne_o0_co)
  have f605 := f580.other W595 (Or.inl ne_o0_co)
  have f606 := f581.other W595 (Or.inl ne_o0_co)
  have f607 := f583.other W595 (Ne.symm ne_co_bp)
  have f608 := f584.other W595 (Ne.symm ne_co_so)
  have f609 := f585.other W595 (Ne.symm ne_co_o1)
  have f610 := f587.other W595 ne_ro_co
  have f611 : own_Ar Z h594 co .int [c0, (1 : Int32), c2, c3] := A596
  refine own_aloadN P592 d10_112 rfl rfl rfl ?_
  refine own_dup P592 d10_113 rfl rfl ?_
  refine own_getF P592 (hw _ (List.mem_of_getElem? (i := 31) rfl)) f604 d10_114 rfl (fun T613 P612 => ?_)
  refine own_dupX1 P612 d10_117 rfl rfl rfl ?_
  refine own_iconst P612 d10_118 rfl (v := (1 : Int32)) rfl ?_
  refine own_iadd P612 d10_119 rfl ?_
  rw [show ((1 : Int32) + (1 : Int32)) = (2 : Int32) by decide]
  refine own_putF P612 (hw _ (List.mem_of_getElem? (i := 31) rfl)) f604 f599 (Or.inl (hw _ (List.mem_of_getElem? (i := 32) rfl))) (hw _ (List.mem_of_getElem? (i := 1) rfl)) (ty := .int) (by decide) rfl rfl d10_120 rfl (fun T615 h616 W617 P614 => ?_)
  have f618 := f604.same W617
  have N619 := Fr.snoc P614.st N597 g_o0
  have K620 := K598.wr W617 (Or.inl (List.mem_of_getElem? (i := 0) rfl))
  have f621 := f599.wr W617
  have f622 := f600.other W617 (Or.inr (slot_ne (Or.inr (hw _ (List.mem_of_getElem? (i := 10) rfl))) (Or.inl (hw _ (List.mem_of_getElem? (i := 32) rfl))) (by decide) (t := .int) (t' := .int) (by decide) (by decide)))
  have f623 := f601.other W617 (Or.inr (slot_ne (Or.inl (hw _ (List.mem_of_getElem? (i := 13) rfl))) (Or.inl (hw _ (List.mem_of_getElem? (i := 32) rfl))) (by decide) (t := (.array .int)) (t' := .int) (by decide) (by decide)))
  have f624 := f602.other W617 (Or.inr (slot_ne (Or.inl (hw _ (List.mem_of_getElem? (i := 15) rfl))) (Or.inl (hw _ (List.mem_of_getElem? (i := 32) rfl))) (by decide) (t := (.array .int)) (t' := .int) (by decide) (by decide)))
  have f625 := f603.other W617 (Or.inr (slot_ne (Or.inr (hw _ (List.mem_of_getElem? (i := 19) rfl))) (Or.inl (hw _ (List.mem_of_getElem? (i := 32) rfl))) (by decide) (t := (.array (.object "com/example/projectum/projectum/reasoning/Relation$NodeIndex"))) (t' := .int) (by decide) (by decide)))
  have f626 := f605.other W617 (Or.inr (slot_ne (Or.inl (hw _ (List.mem_of_getElem? (i := 30) rfl))) (Or.inl (hw _ (List.mem_of_getElem? (i := 32) rfl))) (by decide) (t := (.array .int)) (t' := .int) (by decide) (by decide)))
  have f627 := f606.other W617 (Or.inr (slot_ne (Or.inl (hw _ (List.mem_of_getElem? (i := 56) rfl))) (Or.inl (hw _ (List.mem_of_getElem? (i := 32) rfl))) (by decide) (t := .int) (t' := .int) (by decide) (by decide)))
  have f628 := f607.other W617 (Ne.symm ne_o0_bp)
  have f629 := f608.other W617 (Ne.symm ne_o0_so)
  have f630 := f609.other W617 (Ne.symm ne_o0_o1)
  have f631 := f610.other W617 (Ne.symm ne_o0_ro)
  have f632 := f611.other W617 (Ne.symm ne_o0_co)
  refine own_istoreN P614 d10_123 rfl (Ls' := #[.val (.ref o0), .val (.ref o1), .val (.int (1 : Int32)), .unset]) rfl ?_
  refine own_aloadN P614 d10_124 rfl rfl rfl ?_
  refine own_getF P614 (hw _ (List.mem_of_getElem? (i := 29) rfl)) f626 d10_125 rfl (fun T634 P633 => ?_)
  refine own_nullN P633 (pc' := 131) d10_128 rfl ?_
  refine own_aloadN P633 d10_131 rfl rfl rfl ?_
  refine own_getF P633 (hw _ (List.mem_of_getElem? (i := 31) rfl)) f618 d10_132 rfl (fun T636 P635 => ?_)
  refine own_iconst P635 d10_135 rfl (v := (2 : Int32)) rfl ?_
  refine own_imul P635 d10_136 rfl ?_
  rw [show ((2 : Int32) * (2 : Int32)) = (4 : Int32) by decide]
  refine own_aloadN P635 d10_137 rfl rfl rfl ?_
  refine own_getF P635 (hw _ (List.mem_of_getElem? (i := 29) rfl)) f626 d10_138 rfl (fun T638 P637 => ?_)
  refine own_alen P637 f629 d10_141 rfl (v := (16 : Int32)) (by rw [hsl]; rfl) ?_
  refine own_icmpY P637 (pc' := 159) d10_142 (by decide : ¬ ((16 : Int32) < (4 : Int32))) (by decide) (by decide) ?_
  refine own_aloadN P637 d10_159 rfl rfl rfl ?_
  refine own_getF P637 (hw _ (List.mem_of_getElem? (i := 29) rfl)) f626 d10_160 rfl (fun T640 P639 => ?_)
  refine own_aloadN P639 d10_163 rfl rfl rfl ?_
  refine own_getF P639 (hw _ (List.mem_of_getElem? (i := 55) rfl)) f627 d10_164 rfl (fun T642 P641 => ?_)
  refine own_iloadN P641 d10_167 rfl rfl ?_
  refine own_iconst P641 d10_168 rfl (v := (1 : Int32)) rfl ?_
  refine own_iadd P641 d10_169 rfl ?_
  rw [show ((1 : Int32) + (1 : Int32)) = (2 : Int32) by decide]
  refine own_iastore P641 f629 d10_170 rfl hf.1 (by rw [hsl]; exact hf.2) (z := (2 : Int32)) rfl (fun T644 h645 W646 A647 P643 => ?_)
  have N648 := Fr.snoc P643.st N619 g_so
  have K649 := K620.wr W646 (Or.inl (List.mem_of_getElem? (i := 3) rfl))
  have f650 := f621.wr W646
  have f651 := f622.other W646 (Or.inl ne_o0_so)
  have f652 := f623.other W646 (Or.inl ne_o0_so)
  have f653 := f624.other W646 (Or.inl ne_o0_so)
  have f654 := f625.other W646 (Or.inl ne_o0_so)
  have f655 := f626.other W646 (Or.inl ne_o0_so)
  have f656 := f627.other W646 (Or.inl ne_o0_so)
  have f657 := f628.other W646 ne_bp_so
  have f658 := f630.other W646 (Ne.symm ne_so_o1)
  have f659 := f631.other W646 ne_ro_so
  have f660 := f632.other W646 ne_co_so
  have f661 := f618.other W646 (Or.inl ne_o0_so)
  have f662 : own_Ar Z h645 so .int (sl.set f.toInt.toNat (2 : Int32)) := A647
  refine own_iconst P643 d10_171 rfl (v := (0 : Int32)) rfl ?_
  refine own_istoreN P643 d10_172 rfl (Ls' := #[.val (.ref o0), .val (.ref o1), .val (.int (1 : Int32)), .val (.int (0 : Int32))]) rfl ?_
  refine own_iloadN P643 d10_173 rfl rfl ?_
  refine own_aloadN P643 d10_174 rfl rfl rfl ?_
  refine own_getF P643 (hw _ (List.mem_of_getElem? (i := 9) rfl)) f651 d10_175 rfl (fun T664 P663 => ?_)
  refine own_icmpN P663 (pc' := 181) d10_178 (not_not_intro (by decide : (0 : Int32) < (1 : Int32))) rfl ?_
  refine own_aloadN P663 d10_181 rfl rfl rfl ?_
  refine own_getF P663 (hw _ (List.mem_of_getElem? (i := 18) rfl)) f654 d10_182 rfl (fun T666 P665 => ?_)
  refine own_iloadN P665 d10_185 rfl rfl ?_
  refine own_aaloadN P665 f657 rfl d10_186 rfl rfl ?_
  refine own_nullY P665 (pc' := 206) d10_187 (by decide) (by decide) ?_
  refine own_iinc P665 d10_206 rfl rfl (v := (1 : Int32)) rfl (Ls' := #[.val (.ref o0), .val (.ref o1), .val (.int (1 : Int32)), .val (.int ((0 : Int32) + (1 : Int32)))]) rfl ?_
  rw [show ((0 : Int32) + (1 : Int32)) = (1 : Int32) by decide]
  refine own_goto P665 (pc' := 173) d10_209 (by decide) (by decide) ?_
  refine own_iloadN P665 d10_173 rfl rfl ?_
  refine own_aloadN P665 d10_174 rfl rfl rfl ?_
  refine own_getF P665 (hw _ (List.mem_of_getElem? (i := 9) rfl)) f651 d10_175 rfl (fun T668 P667 => ?_)
  refine own_icmpY P667 (pc' := 212) d10_178 (by decide : ¬ ((1 : Int32) < (1 : Int32))) (by decide) (by decide) ?_
  refine own_iloadN P667 d10_212 rfl rfl ?_
  exact own_retI P667 d10_213 (by decide) (by decide) ⟨rfl, N648, K649, f650, f651, f652, f653, f654, f661, f655, f656, f659, f660, f657, f662⟩
theorem d3_0 : decode prog_73_method_7_code 0 = .ok (.aload_n 0, 1) := by decide +kernel
theorem d3_1 : decode prog_73_method_7_code 1 = .ok (.aload_n 1, 1) := by decide +kernel
theorem d3_2 : decode prog_73_method_7_code 2 = .ok (.invokevirtual 35, 3) := by decide +kernel
theorem own_pd4 : parseMethodDescriptor "([I)I" = some ⟨[(.array .int)], some .int⟩ := by decide +kernel
theorem d3_5 : decode prog_73_method_7_code 5 = .ok (.istore_n 2, 1) := by decide +kernel
theorem d3_6 : decode prog_73_method_7_code 6 = .ok (.iload_n 2, 1) := by decide +kernel
theorem d3_7 : decode prog_73_method_7_code 7 = .ok (.ifCond .lt 12, 3) := by decide +kernel
theorem d3_19 : decode prog_73_method_7_code 19 = .ok (.aload_n 0, 1) := by decide +kernel
theorem d3_20 : decode prog_73_method_7_code 20 = .ok (.aload_n 1, 1) := by decide +kernel
theorem d3_21 : decode prog_73_method_7_code 21 = .ok (.invokevirtual 43, 3) := by decide +kernel
theorem d3_24 : decode prog_73_method_7_code 24 = .ok (.ireturn, 1) := by decide +kernel
set_option maxRecDepth 65536 in
set_option maxHeartbeats 40000000 in
theorem rmAddF (l : Launch) (Z : State) (a0 : Array Value) (hw : ∀ d ∈ tables_1, d.before a0 Z = true) (o0 : Addr) (o1 : Addr) (ro : Addr) (co : Addr) (bp : Addr) (x : Int32) (r0 : Int32) (r1 : Int32) (r2 : Int32) (r3 : Int32) (c0 : Int32) (c1 : Int32) (c2 : Int32) (c3 : Int32) (h : Heap) (n0 : Nat) (Z0 : n0 ≤ h.size) (g_o0 : n0 ≤ o0) (g_ro : n0 ≤ ro) (g_co : n0 ≤ co) (ne_o0_ro : o0 ≠ ro) (ne_o0_co : o0 ≠ co) (ne_ro_co : ro ≠ co) (ne_o0_bp : o0 ≠ bp) (ne_ro_bp : ro ≠ bp) (ne_co_bp : co ≠ bp) (ne_o0_o1 : o0 ≠ o1) (ne_ro_o1 : ro ≠ o1) (ne_co_o1 : co ≠ o1) (ne_bp_o1 : bp ≠ o1) (q0 : Exa Z h o0 "com/example/projectum/projectum/reasoning/Relation") (q1 : Fld Z h o0 "com/example/projectum/projectum/reasoning/Relation" "arity" "I" (.int (1 : Int32))) (q2 : Fld Z h o0 "com/example/projectum/projectum/reasoning/Relation" "rows" "[I" (.ref ro)) (q3 : Fld Z h o0 "com/example/projectum/projectum/reasoning/Relation" "counts" "[I" (.ref co)) (q4 : Fld Z h o0 "com/example/projectum/projectum/reasoning/Relation" "byPosition" "[Lcom/example/projectum/projectum/reasoning/Relation$NodeIndex;" (.ref bp)) (q5 : Fld Z h o0 "com/example/projectum/projectum/reasoning/Relation" "size" "I" (.int (0 : Int32))) (q6 : Fld Z h o0 "com/example/projectum/projectum/reasoning/Relation" "slots" "[I" .null) (q7 : Fld Z h o0 "com/example/projectum/projectum/reasoning/Relation" "freeSlot" "I" (.int (0 : Int32))) (q8 : own_Ar Z h ro .int [r0, r1, r2, r3]) (q9 : own_Ar Z h co .int [c0, c1, c2, c3]) (q10 : own_Nl Z h bp (.object "com/example/projectum/projectum/reasoning/Relation$NodeIndex")) (q11 : own_Ar Z h o1 .int [x]) :
    own_Con l Z (⟨"com/example/projectum/projectum/reasoning/Relation", "add", "([I)I"⟩ : MethodName) prog_73_method_7_code 3 (some .int) [] ({ frames := 3, cells := 1, slots := 16, locals := 47 } : Room) #[(.ref o0), (.ref o1)] h (fun v h' L => v = some (.int (0 : Int32)) ∧ Fr n0 L ∧ Keep h h' [o0, ro, co] ∧ ∃ so : Addr, n0 ≤ so ∧ h.size ≤ so ∧ Exa Z h' o0 "com/example/projectum/projectum/reasoning/Relation" ∧ Fld Z h' o0 "com/example/projectum/projectum/reasoning/Relation" "arity" "I" (.int (1 : Int32)) ∧ Fld Z h' o0 "com/example/projectum/projectum/reasoning/Relation" "rows" "[I" (.ref ro) ∧ Fld Z h' o0 "com/example/projectum/projectum/reasoning/Relation" "counts" "[I" (.ref co) ∧ Fld Z h' o0 "com/example/projectum/projectum/reasoning/Relation" "byPosition" "[Lcom/example/projectum/projectum/reasoning/Relation$NodeIndex;" (.ref bp) ∧ Fld Z h' o0 "com/example/projectum/projectum/reasoning/Relation" "size" "I" (.int (1 : Int32)) ∧ Fld Z h' o0 "com/example/projectum/projectum/reasoning/Relation" "slots" "[I" (.ref so) ∧ Fld Z h' o0 "com/example/projectum/projectum/reasoning/Relation" "freeSlot" "I" (.int ((own_hv x) &&& (15 : Int32))) ∧ own_Ar Z h' ro .int [x, r1, r2, r3] ∧ own_Ar Z h' co .int [(1 : Int32), c1, c2, c3] ∧ own_Nl Z h' bp (.object "com/example/projectum/projectum/reasoning/Relation$NodeIndex") ∧ own_Ar Z h' so .int ([(0 : Int32), (0 : Int32), (0 : Int32), (0 : Int32), (0 : Int32), (0 : Int32), (0 : Int32), (0 : Int32), (0 : Int32), (0 : Int32), (0 : Int32), (0 : Int32), (0 : Int32), (0 : Int32), (0 : Int32), (0 : Int32)].set ((own_hv x) &&& (15 : Int32)).toInt.toNat (1 : Int32))) := by
  refine own_enter (plainFor_of_name own_pn2) #[.val (.ref o0), .val (.ref o1), .unset] (fun m => by first | (simp [entryFrame, mkF, argsToLocals, Value.category]; done) | rfl) ?_
  intro p e s m below meth c T P
  replace P : own_S Z "com/example/projectum/projectum/reasoning/Relation" "add" prog_73_method_7_code 3 (some .int) p l e ({ frames := 3, cells := 1, slots := 16, locals := 47 } : Room) s m #[(.ref o0), (.ref o1)] below meth c T h [] 0 0 := P
  have N0 : Fr n0 [] := Fr.nil n0
  refine own_aloadN P d3_0 rfl rfl rfl ?_
  refine own_aloadN P d3_1 rfl rfl rfl ?_
  refine own_priv P (hw _ (List.mem_of_getElem? (i := 25) rfl)) (hw _ (List.mem_of_getElem? (i := 26) rfl)) (hw _ (List.mem_of_getElem? (i := 27) rfl)) (hw _ (List.mem_of_getElem? (i := 1) rfl)) (hw _ (List.mem_of_getElem? (i := 2) rfl)) (hw _ (List.mem_of_getElem? (i := 28) rfl)) (by decide) q0 (argsL := [(.ref o1)]) (rest := []) (rmIF l Z a0 hw o0 o1 ro co bp x r0 r1 r2 r3 c0 c1 c2 c3 h n0 Z0 g_o0 g_ro g_co ne_o0_ro ne_o0_co ne_ro_co ne_o0_bp ne_ro_bp ne_co_bp ne_o0_o1 ne_ro_o1 ne_co_o1 ne_bp_o1 q0 q1 q2 q3 q4 q5 q6 q7 q8 q9 q10 q11) d3_2 rfl own_pd4 rfl rfl rfl (by decide) 0 rfl (by decide) (by decide) (by decide) (fun T670 h671 v672 L673 hq674 P669 => ?_)
  obtain ⟨rfl, n676, k677, so675, hg678, hz679, f680, f681, f682, f683, f684, f685, f686, f687, f688, f689, f690, f691⟩ := hq674
  have ne692 : o0 ≠ so675 := Nat.ne_of_lt (Nat.lt_of_lt_of_le q0.lt hz679)
  have ne693 : ro ≠ so675 := Nat.ne_of_lt (Nat.lt_of_lt_of_le q8.lt hz679)
  have ne694 : co ≠ so675 := Nat.ne_of_lt (Nat.lt_of_lt_of_le q9.lt hz679)
  have ne695 : bp ≠ so675 := Nat.ne_of_lt (Nat.lt_of_lt_of_le q10.lt hz679)
  have ne696 : o1 ≠ so675 := Nat.ne_of_lt (Nat.lt_of_lt_of_le q11.lt hz679)
  have sz697 : h.size ≤ so675 := Nat.le_trans (Keep.refl h [o0, ro, co]).1 hz679
  have N698 := Fr.app N0 n676
  have f699 := q0.keep k677
  have f700 := q8.keep k677 (ninS (Ne.symm ne_o0_ro) nin0)
  have f701 := q9.keep k677 (ninS (Ne.symm ne_o0_co) nin0)
  have f702 := q10.keep k677 (ninS (Ne.symm ne_o0_bp) nin0)
  have f703 := q11.keep k677 (ninS (Ne.symm ne_o0_o1) nin0)
  have K704 := (Keep.refl h [o0, ro, co]).trans k677 (allS (Or.inl (List.mem_of_getElem? (i := 0) rfl)) all0)
  show own_Go p e below _ (T670.setTop (mkF m 5 #[.val (.ref o0), .val (.ref o1), .unset] [(.int (-1 : Int32))]))
  refine own_istoreN P669 d3_5 rfl (Ls' := #[.val (.ref o0), .val (.ref o1), .val (.int (-1 : Int32))]) rfl ?_
  refine own_iloadN P669 d3_6 rfl rfl ?_
  refine own_if0Y P669 (pc' := 19) d3_7 (by decide : (-1 : Int32) < (0 : Int32)) (by decide) (by decide) ?_
  refine own_aloadN P669 d3_19 rfl rfl rfl ?_
  refine own_aloadN P669 d3_20 rfl rfl rfl ?_
  refine own_priv P669 (hw _ (List.mem_of_getElem? (i := 57) rfl)) (hw _ (List.mem_of_getElem? (i := 58) rfl)) (hw _ (List.mem_of_getElem? (i := 59) rfl)) (hw _ (List.mem_of_getElem? (i := 1) rfl)) (hw _ (List.mem_of_getElem? (i := 2) rfl)) (hw _ (List.mem_of_getElem? (i := 60) rfl)) (by decide) f680 (argsL := [(.ref o1)]) (rest := []) (rmApp0 l Z a0 hw o0 o1 ro co bp so675 x r0 r1 r2 r3 c0 c1 c2 c3 ((own_hv x) &&& (15 : Int32)) [(0 : Int32), (0 : Int32), (0 : Int32), (0 : Int32), (0 : Int32), (0 : Int32), (0 : Int32), (0 : Int32), (0 : Int32), (0 : Int32), (0 : Int32), (0 : Int32), (0 : Int32), (0 : Int32), (0 : Int32), (0 : Int32)] h671 n0 (Nat.le_trans Z0 k677.1) g_o0 g_ro g_co hg678 ne_o0_ro ne_o0_co ne_ro_co ne_o0_bp ne_ro_bp ne_co_bp ne692 ne693 ne694 ne695 ne_o0_o1 ne_ro_o1 ne_co_o1 ne_bp_o1 (Ne.symm ne696) f680 f681 f682 f683 f684 f685 f686 f687 f688 f689 f690 f691 f703 rfl (own_15 _)) d3_21 rfl own_pd4 rfl rfl rfl (by decide) 0 rfl (by decide) (by decide) (by decide) (fun T706 h707 v708 L709 hq710 P705 => ?_)
  obtain ⟨rfl, n711, k712, f713, f714, f715, f716, f717, f718, f719, f720, f721, f722, f723, f724⟩ := hq710
  have N725 := Fr.app N698 n711
  have f726 := f680.keep k712
  have f727 := f690.keep k712 (ninS (Ne.symm ne_o0_bp) (ninS (Ne.symm ne_ro_bp) (ninS (Ne.symm ne_co_bp) (ninS ne695 nin0))))
  have f728 := f703.keep k712 (ninS (Ne.symm ne_o0_o1) (ninS (Ne.symm ne_ro_o1) (ninS (Ne.symm ne_co_o1) (ninS ne696 nin0))))
  have K729 := K704.trans k712 (allS (Or.inl (List.mem_of_getElem? (i := 0) rfl)) (allS (Or.inl (List.mem_of_getElem? (i := 1) rfl)) (allS (Or.inl (List.mem_of_getElem? (i := 2) rfl)) (allS (Or.inr sz697) all0))))
  show own_Go p e below _ (T706.setTop (mkF m 24 #[.val (.ref o0), .val (.ref o1), .val (.int (-1 : Int32))] [(.int (0 : Int32))]))
  exact own_retI P705 d3_24 (by decide) (by decide) ⟨rfl, N725, K729, so675, hg678, sz697, f713, f714, f715, f716, f717, f718, f719, f720, f721, f722, f723, f724⟩
theorem d3_10 : decode prog_73_method_7_code 10 = .ok (.aload_n 0, 1) := by decide +kernel
theorem d3_11 : decode prog_73_method_7_code 11 = .ok (.iload_n 2, 1) := by decide +kernel
theorem d3_12 : decode prog_73_method_7_code 12 = .ok (.aload_n 1, 1) := by decide +kernel
theorem d3_13 : decode prog_73_method_7_code 13 = .ok (.invokevirtual 39, 3) := by decide +kernel
theorem own_pd5 : parseMethodDescriptor "(I[I)I" = some ⟨[.int, (.array .int)], some .int⟩ := by decide +kernel
theorem d3_16 : decode prog_73_method_7_code 16 = .ok (.goto 8, 3) := by decide +kernel
set_option maxRecDepth 65536 in
set_option maxHeartbeats 40000000 in
theorem rmAddA (l : Launch) (Z : State) (a0 : Array Value) (hw : ∀ d ∈ tables_1, d.before a0 Z = true) (o0 : Addr) (o1 : Addr) (ro : Addr) (co : Addr) (bp : Addr) (so : Addr) (x : Int32) (r0 : Int32) (r1 : Int32) (r2 : Int32) (r3 : Int32) (c0 : Int32) (c1 : Int32) (c2 : Int32) (c3 : Int32) (n : Int32) (f : Int32) (sl : List Int32) (h : Heap) (n0 : Nat) (Z0 : n0 ≤ h.size) (g_o0 : n0 ≤ o0) (g_ro : n0 ≤ ro) (g_co : n0 ≤ co) (g_so : n0 ≤ so) (ne_o0_ro : o0 ≠ ro) (ne_o0_co : o0 ≠ co) (ne_ro_co : ro ≠ co) (ne_o0_bp : o0 ≠ bp) (ne_ro_bp : ro ≠ bp) (ne_co_bp : co ≠ bp) (ne_o0_so : o0 ≠ so) (ne_ro_so : ro ≠ so) (ne_co_so : co ≠ so) (ne_bp_so : bp ≠ so) (ne_o0_o1 : o0 ≠ o1) (ne_ro_o1 : ro ≠ o1) (ne_co_o1 : co ≠ o1) (ne_bp_o1 : bp ≠ o1) (ne_so_o1 : so ≠ o1) (q0 : Exa Z h o0 "com/example/projectum/projectum/reasoning/Relation") (q1 : Fld Z h o0 "com/example/projectum/projectum/reasoning/Relation" "arity" "I" (.int (1 : Int32))) (q2 : Fld Z h o0 "com/example/projectum/projectum/reasoning/Relation" "rows" "[I" (.ref ro)) (q3 : Fld Z h o0 "com/example/projectum/projectum/reasoning/Relation" "counts" "[I" (.ref co)) (q4 : Fld Z h o0 "com/example/projectum/projectum/reasoning/Relation" "byPosition" "[Lcom/example/projectum/projectum/reasoning/Relation$NodeIndex;" (.ref bp)) (q5 : Fld Z h o0 "com/example/projectum/projectum/reasoning/Relation" "size" "I" (.int n)) (q6 : Fld Z h o0 "com/example/projectum/projectum/reasoning/Relation" "slots" "[I" (.ref so)) (q7 : Fld Z h o0 "com/example/projectum/projectum/reasoning/Relation" "freeSlot" "I" (.int f)) (q8 : own_Ar Z h ro .int [r0, r1, r2, r3]) (q9 : own_Ar Z h co .int [c0, c1, c2, c3]) (q10 : own_Nl Z h bp (.object "com/example/projectum/projectum/reasoning/Relation$NodeIndex")) (q11 : own_Ar Z h so .int sl) (q12 : own_Ar Z h o1 .int [x]) (hsl : sl.length = 16) (hr : r0 = x) (hp1 : sl.getD ((own_hv x) &&& (15 : Int32)).toInt.toNat 0 = (1 : Int32)) :
    own_Con l Z (⟨"com/example/projectum/projectum/reasoning/Relation", "add", "([I)I"⟩ : MethodName) prog_73_method_7_code 3 (some .int) [] ({ frames := 3, cells := 0, slots := 0, locals := 47 } : Room) #[(.ref o0), (.ref o1)] h (fun v h' L => v = some (.int (0 : Int32)) ∧ Fr n0 L ∧ Keep h h' [co] ∧ own_Ar Z h' co .int [(c0 + (1 : Int32)), c1, c2, c3]) := by
  refine own_enter (plainFor_of_name own_pn2) #[.val (.ref o0), .val (.ref o1), .unset] (fun m => by first | (simp [entryFrame, mkF, argsToLocals, Value.category]; done) | rfl) ?_
  intro p e s m below meth c T P
  replace P : own_S Z "com/example/projectum/projectum/reasoning/Relation" "add" prog_73_method_7_code 3 (some .int) p l e ({ frames := 3, cells := 0, slots := 0, locals := 47 } : Room) s m #[(.ref o0), (.ref o1)] below meth c T h [] 0 0 := P
  have N0 : Fr n0 [] := Fr.nil n0
  refine own_aloadN P d3_0 rfl rfl rfl ?_
  refine own_aloadN P d3_1 rfl rfl rfl ?_
  refine own_privP P (hw _ (List.mem_of_getElem? (i := 25) rfl)) (hw _ (List.mem_of_getElem? (i := 26) rfl)) (hw _ (List.mem_of_getElem? (i := 27) rfl)) (hw _ (List.mem_of_getElem? (i := 1) rfl)) (hw _ (List.mem_of_getElem? (i := 2) rfl)) (hw _ (List.mem_of_getElem? (i := 28) rfl)) (by decide) q0 (argsL := [(.ref o1)]) (rest := []) (rmIA l Z a0 hw o0 o1 ro co bp so x r0 r1 r2 r3 c0 c1 c2 c3 n f sl h  ne_o0_ro ne_o0_co ne_ro_co ne_o0_bp ne_ro_bp ne_co_bp ne_o0_so ne_ro_so ne_co_so ne_bp_so ne_o0_o1 ne_ro_o1 ne_co_o1 ne_bp_o1 ne_so_o1 q0 q1 q2 q3 q4 q5 q6 q7 q8 q9 q10 q11 q12 hsl hr hp1) d3_2 rfl own_pd4 rfl rfl rfl (by decide) 0 rfl (by decide) rfl rfl (by decide) (by decide) (fun T731 P730 => ?_)
  show own_Go p e below _ (T731.setTop (mkF m 5 #[.val (.ref o0), .val (.ref o1), .unset] [(.int (0 : Int32))]))
  refine own_istoreN P730 d3_5 rfl (Ls' := #[.val (.ref o0), .val (.ref o1), .val (.int (0 : Int32))]) rfl ?_
  refine own_iloadN P730 d3_6 rfl rfl ?_
  refine own_if0N P730 (pc' := 10) d3_7 (by decide : ¬ ((0 : Int32) < (0 : Int32))) rfl ?_
  refine own_aloadN P730 d3_10 rfl rfl rfl ?_
  refine own_iloadN P730 d3_11 rfl rfl ?_
  refine own_aloadN P730 d3_12 rfl rfl rfl ?_
  refine own_priv P730 (hw _ (List.mem_of_getElem? (i := 86) rfl)) (hw _ (List.mem_of_getElem? (i := 87) rfl)) (hw _ (List.mem_of_getElem? (i := 88) rfl)) (hw _ (List.mem_of_getElem? (i := 1) rfl)) (hw _ (List.mem_of_getElem? (i := 2) rfl)) (hw _ (List.mem_of_getElem? (i := 89) rfl)) (by decide) q0 (argsL := [(.int (0 : Int32)), (.ref o1)]) (rest := []) (rmRaise l Z a0 hw o0 o1 ro co bp so x r0 r1 r2 r3 c0 c1 c2 c3 n f sl h n0 Z0 g_o0 g_ro g_co g_so ne_o0_ro ne_o0_co ne_ro_co ne_o0_bp ne_ro_bp ne_co_bp ne_o0_so ne_ro_so ne_co_so ne_bp_so ne_o0_o1 ne_ro_o1 ne_co_o1 ne_bp_o1 ne_so_o1 q0 q1 q2 q3 q4 q5 q6 q7 q8 q9 q10 q11 q12 hsl) d3_13 rfl own_pd5 rfl rfl rfl (by decide) 0 rfl (by decide) (by decide) (by decide) (fun T737 h738 v739 L740 hq741 P736 => ?_)
  obtain ⟨rfl, n742, k743, f744⟩ := hq741
  have N745 := Fr.app N0 n742
  have f746 := q0.keep k743
  have f747 := q1.keep k743 (ninS ne_o0_co nin0)
  have f748 := q2.keep k743 (ninS ne_o0_co nin0)
  have f749 := q3.keep k743 (ninS ne_o0_co nin0)
  have f750 := q4.keep k743 (ninS ne_o0_co nin0)
  have f751 := q5.keep k743 (ninS ne_o0_co nin0)
  have f752 := q6.keep k743 (ninS ne_o0_co nin0)
  have f753 := q7.keep k743 (ninS ne_o0_co nin0)
  have f754 := q8.keep k743 (ninS ne_ro_co nin0)
  have f755 := q10.keep k743 (ninS (Ne.symm ne_co_bp) nin0)
  have f756 := q11.keep k743 (ninS (Ne.symm ne_co_so) nin0)
  have f757 := q12.keep k743 (ninS (Ne.symm ne_co_o1) nin0)
  have K758 := (Keep.refl h [co]).trans k743 (allS (Or.inl (List.mem_of_getElem? (i := 0) rfl)) all0)
  show own_Go p e below _ (T737.setTop (mkF m 16 #[.val (.ref o0), .val (.ref o1), .val (.int (0 : Int32))] [(.int (0 : Int32))]))
  refine own_goto P736 (pc' := 24) d3_16 (by decide) (by decide) ?_
  exact own_retI P736 d3_24 (by decide) (by decide) ⟨rfl, N745, K758, f744⟩
set_option maxRecDepth 65536 in
set_option maxHeartbeats 40000000 in
theorem rmAddM (l : Launch) (Z : State) (a0 : Array Value) (hw : ∀ d ∈ tables_1, d.before a0 Z = true) (o0 : Addr) (o1 : Addr) (ro : Addr) (co : Addr) (bp : Addr) (so : Addr) (x : Int32) (r0 : Int32) (r1 : Int32) (r2 : Int32) (r3 : Int32) (c0 : Int32) (c1 : Int32) (c2 : Int32) (c3 : Int32) (f : Int32) (sl : List Int32) (q : Int32) (h : Heap) (n0 : Nat) (Z0 : n0 ≤ h.size) (g_o0 : n0 ≤ o0) (g_ro : n0 ≤ ro) (g_co : n0 ≤ co) (g_so : n0 ≤ so) (ne_o0_ro : o0 ≠ ro) (ne_o0_co : o0 ≠ co) (ne_ro_co : ro ≠ co) (ne_o0_bp : o0 ≠ bp) (ne_ro_bp : ro ≠ bp) (ne_co_bp : co ≠ bp) (ne_o0_so : o0 ≠ so) (ne_ro_so : ro ≠ so) (ne_co_so : co ≠ so) (ne_bp_so : bp ≠ so) (ne_o0_o1 : o0 ≠ o1) (ne_ro_o1 : ro ≠ o1) (ne_co_o1 : co ≠ o1) (ne_bp_o1 : bp ≠ o1) (ne_so_o1 : so ≠ o1) (q0 : Exa Z h o0 "com/example/projectum/projectum/reasoning/Relation") (q1 : Fld Z h o0 "com/example/projectum/projectum/reasoning/Relation" "arity" "I" (.int (1 : Int32))) (q2 : Fld Z h o0 "com/example/projectum/projectum/reasoning/Relation" "rows" "[I" (.ref ro)) (q3 : Fld Z h o0 "com/example/projectum/projectum/reasoning/Relation" "counts" "[I" (.ref co)) (q4 : Fld Z h o0 "com/example/projectum/projectum/reasoning/Relation" "byPosition" "[Lcom/example/projectum/projectum/reasoning/Relation$NodeIndex;" (.ref bp)) (q5 : Fld Z h o0 "com/example/projectum/projectum/reasoning/Relation" "size" "I" (.int (1 : Int32))) (q6 : Fld Z h o0 "com/example/projectum/projectum/reasoning/Relation" "slots" "[I" (.ref so)) (q7 : Fld Z h o0 "com/example/projectum/projectum/reasoning/Relation" "freeSlot" "I" (.int f)) (q8 : own_Ar Z h ro .int [r0, r1, r2, r3]) (q9 : own_Ar Z h co .int [c0, c1, c2, c3]) (q10 : own_Nl Z h bp (.object "com/example/projectum/projectum/reasoning/Relation$NodeIndex")) (q11 : own_Ar Z h so .int sl) (q12 : own_Ar Z h o1 .int [x]) (hsl : sl.length = 16) (hm : ((sl.getD ((own_hv x) &&& (15 : Int32)).toInt.toNat 0 = (0 : Int32) ∧ q = ((own_hv x) &&& (15 : Int32))) ∨ (sl.getD ((own_hv x) &&& (15 : Int32)).toInt.toNat 0 = (1 : Int32) ∧ ¬ (r0 = x) ∧ sl.getD ((((own_hv x) &&& (15 : Int32)) + (1 : Int32)) &&& (15 : Int32)).toInt.toNat 0 = (0 : Int32) ∧ q = ((((own_hv x) &&& (15 : Int32)) + (1 : Int32)) &&& (15 : Int32))))) (hq : 0 ≤ q.toInt ∧ q.toInt.toNat < 16) :
    own_Con l Z (⟨"com/example/projectum/projectum/reasoning/Relation", "add", "([I)I"⟩ : MethodName) prog_73_method_7_code 3 (some .int) [] ({ frames := 3, cells := 0, slots := 0, locals := 47 } : Room) #[(.ref o0), (.ref o1)] h (fun v h' L => v = some (.int (1 : Int32)) ∧ Fr n0 L ∧ Keep h h' [o0, ro, co, so] ∧ Exa Z h' o0 "com/example/projectum/projectum/reasoning/Relation" ∧ Fld Z h' o0 "com/example/projectum/projectum/reasoning/Relation" "arity" "I" (.int (1 : Int32)) ∧ Fld Z h' o0 "com/example/projectum/projectum/reasoning/Relation" "rows" "[I" (.ref ro) ∧ Fld Z h' o0 "com/example/projectum/projectum/reasoning/Relation" "counts" "[I" (.ref co) ∧ Fld Z h' o0 "com/example/projectum/projectum/reasoning/Relation" "byPosition" "[Lcom/example/projectum/projectum/reasoning/Relation$NodeIndex;" (.ref bp) ∧ Fld Z h' o0 "com/example/projectum/projectum/reasoning/Relation" "size" "I" (.int (2 : Int32)) ∧ Fld Z h' o0 "com/example/projectum/projectum/reasoning/Relation" "slots" "[I" (.ref so) ∧ Fld Z h' o0 "com/example/projectum/projectum/reasoning/Relation" "freeSlot" "I" (.int q) ∧ own_Ar Z h' ro .int [r0, x, r2, r3] ∧ own_Ar Z h' co .int [c0, (1 : Int32), c2, c3] ∧ own_Nl Z h' bp (.object "com/example/projectum/projectum/reasoning/Relation$NodeIndex") ∧ own_Ar Z h' so .int (sl.set q.toInt.toNat (2 : Int32))) := by
  refine own_enter (plainFor_of_name own_pn2) #[.val (.ref o0), .val (.ref o1), .unset] (fun m => by first | (simp [entryFrame, mkF, argsToLocals, Value.category]; done) | rfl) ?_
  intro p e s m below meth c T P
  replace P : own_S Z "com/example/projectum/projectum/reasoning/Relation" "add" prog_73_method_7_code 3 (some .int) p l e ({ frames := 3, cells := 0, slots := 0, locals := 47 } : Room) s m #[(.ref o0), (.ref o1)] below meth c T h [] 0 0 := P
  have N0 : Fr n0 [] := Fr.nil n0
  refine own_aloadN P d3_0 rfl rfl rfl ?_
  refine own_aloadN P d3_1 rfl rfl rfl ?_
  refine own_priv P (hw _ (List.mem_of_getElem? (i := 25) rfl)) (hw _ (List.mem_of_getElem? (i := 26) rfl)) (hw _ (List.mem_of_getElem? (i := 27) rfl)) (hw _ (List.mem_of_getElem? (i := 1) rfl)) (hw _ (List.mem_of_getElem? (i := 2) rfl)) (hw _ (List.mem_of_getElem? (i := 28) rfl)) (by decide) q0 (argsL := [(.ref o1)]) (rest := []) (rmIM l Z a0 hw o0 o1 ro co bp so x r0 r1 r2 r3 c0 c1 c2 c3 (1 : Int32) f sl q h n0 Z0 g_o0 g_ro g_co g_so ne_o0_ro ne_o0_co ne_ro_co ne_o0_bp ne_ro_bp ne_co_bp ne_o0_so ne_ro_so ne_co_so ne_bp_so ne_o0_o1 ne_ro_o1 ne_co_o1 ne_bp_o1 ne_so_o1 q0 q1 q2 q3 q4 q5 q6 q7 q8 q9 q10 q11 q12 hsl hm) d3_2 rfl own_pd4 rfl rfl rfl (by decide) 0 rfl (by decide) (by decide) (by decide) (fun T760 h761 v762 L763 hq764 P759 => ?_)
  obtain ⟨rfl, n765, k766, f767, f768, f769, f770, f771, f772, f773, f774, f775, f776, f777, f778⟩ := hq764
  have N779 := Fr.app N0 n765
  have f780 := q0.keep k766
  have f781 := q8.keep k766 (ninS (Ne.symm ne_o0_ro) nin0)
  have f782 := q9.keep k766 (ninS (Ne.symm ne_o0_co) nin0)
  have f783 := q10.keep k766 (ninS (Ne.symm ne_o0_bp) nin0)
  have f784 := q11.keep k766 (ninS (Ne.symm ne_o0_so) nin0)
  have f785 := q12.keep k766 (ninS (Ne.symm ne_o0_o1) nin0)
  have K786 := (Keep.refl h [o0, ro, co, so]).trans k766 (allS (Or.inl (List.mem_of_getElem? (i := 0) rfl)) all0)
  show own_Go p e below _ (T760.setTop (mkF m 5 #[.val (.ref o0), .val (.ref o1), .unset] [(.int (-1 : Int32))]))
  refine own_istoreN P759 d3_5 rfl (Ls' := #[.val (.ref o0), .val (.ref o1), .val (.int (-1 : Int32))]) rfl ?_
  refine own_iloadN P759 d3_6 rfl rfl ?_
  refine own_if0Y P759 (pc' := 19) d3_7 (by decide : (-1 : Int32) < (0 : Int32)) (by decide) (by decide) ?_
  refine own_aloadN P759 d3_19 rfl rfl rfl ?_
  refine own_aloadN P759 d3_20 rfl rfl rfl ?_
  refine own_priv P759 (hw _ (List.mem_of_getElem? (i := 57) rfl)) (hw _ (List.mem_of_getElem? (i := 58) rfl)) (hw _ (List.mem_of_getElem? (i := 59) rfl)) (hw _ (List.mem_of_getElem? (i := 1) rfl)) (hw _ (List.mem_of_getElem? (i := 2) rfl)) (hw _ (List.mem_of_getElem? (i := 60) rfl)) (by decide) f767 (argsL := [(.ref o1)]) (rest := []) (rmApp1 l Z a0 hw o0 o1 ro co bp so x r0 r1 r2 r3 c0 c1 c2 c3 q sl h761 n0 (Nat.le_trans Z0 k766.1) g_o0 g_ro g_co g_so ne_o0_ro ne_o0_co ne_ro_co ne_o0_bp ne_ro_bp ne_co_bp ne_o0_so ne_ro_so ne_co_so ne_bp_so ne_o0_o1 ne_ro_o1 ne_co_o1 ne_bp_o1 ne_so_o1 f767 f768 f769 f770 f771 f772 f773 f774 f775 f776 f777 f778 f785 hsl hq) d3_21 rfl own_pd4 rfl rfl rfl (by decide) 0 rfl (by decide) (by decide) (by decide) (fun T788 h789 v790 L791 hq792 P787 => ?_)
  obtain ⟨rfl, n793, k794, f795, f796, f797, f798, f799, f800, f801, f802, f803, f804, f805, f806⟩ := hq792
  have N807 := Fr.app N779 n793
  have f808 := f767.keep k794
  have f809 := f777.keep k794 (ninS (Ne.symm ne_o0_bp) (ninS (Ne.symm ne_ro_bp) (ninS (Ne.symm ne_co_bp) (ninS ne_bp_so nin0))))
  have f810 := f785.keep k794 (ninS (Ne.symm ne_o0_o1) (ninS (Ne.symm ne_ro_o1) (ninS (Ne.symm ne_co_o1) (ninS (Ne.symm ne_so_o1) nin0))))
  have K811 := K786.trans k794 (allS (Or.inl (List.mem_of_getElem? (i := 0) rfl)) (allS (Or.inl (List.mem_of_getElem? (i := 1) rfl)) (allS (Or.inl (List.mem_of_getElem? (i := 2) rfl)) (allS (Or.inl (List.mem_of_getElem? (i := 3) rfl)) all0))))
  show own_Go p e below _ (T788.setTop (mkF m 24 #[.val (.ref o0), .val (.ref o1), .val (.int (-1 : Int32))] [(.int (1 : Int32))]))
  exact own_retI P787 d3_24 (by decide) (by decide) ⟨rfl, N807, K811, f795, f796, f797, f798, f799, f800, f801, f802, f803, f804, f805, f806⟩
theorem d13_0 : decode prog_73_method_6_code 0 = .ok (.aload_n 0, 1) := by decide +kernel
theorem d13_1 : decode prog_73_method_6_code 1 = .ok (.getfield 17, 3) := by decide +kernel
theorem d13_4 : decode prog_73_method_6_code 4 = .ok (.iload_n 1, 1) := by decide +kernel
theorem d13_5 : decode prog_73_method_6_code 5 = .ok (.iaload, 1) := by decide +kernel
theorem d13_6 : decode prog_73_method_6_code 6 = .ok (.ifCond .le 7, 3) := by decide +kernel
theorem d13_9 : decode prog_73_method_6_code 9 = .ok (.iconst 1, 1) := by decide +kernel
theorem d13_10 : decode prog_73_method_6_code 10 = .ok (.goto 4, 3) := by decide +kernel
theorem d13_14 : decode prog_73_method_6_code 14 = .ok (.ireturn, 1) := by decide +kernel
theorem d13_13 : decode prog_73_method_6_code 13 = .ok (.iconst 0, 1) := by decide +kernel
set_option maxRecDepth 65536 in
set_option maxHeartbeats 40000000 in
theorem rmHolds0 (l : Launch) (Z : State) (a0 : Array Value) (hw : ∀ d ∈ tables_1, d.before a0 Z = true) (o0 : Addr) (co : Addr) (c0 : Int32) (c1 : Int32) (c2 : Int32) (c3 : Int32) (h : Heap) (q0 : Fld Z h o0 "com/example/projectum/projectum/reasoning/Relation" "counts" "[I" (.ref co)) (q1 : own_Ar Z h co .int [c0, c1, c2, c3]) :
    own_Con l Z (⟨"com/example/projectum/projectum/reasoning/Relation", "holds", "(I)Z"⟩ : MethodName) prog_73_method_6_code 2 (some .boolean) [] ({ frames := 0, cells := 0, slots := 0, locals := 0 } : Room) #[(.ref o0), (.int (0 : Int32))] h (own_P (some (.int (own_ho c0))) h) := by
  refine own_enter (plainFor_of_name own_pn2) #[.val (.ref o0), .val (.int (0 : Int32))] (fun m => by first | (simp [entryFrame, mkF, argsToLocals, Value.category]; done) | rfl) ?_
  intro p e s m below meth c T P
  replace P : own_S Z "com/example/projectum/projectum/reasoning/Relation" "holds" prog_73_method_6_code 2 (some .boolean) p l e ({ frames := 0, cells := 0, slots := 0, locals := 0 } : Room) s m #[(.ref o0), (.int (0 : Int32))] below meth c T h [] 0 0 := P
  refine own_aloadN P d13_0 rfl rfl rfl ?_
  refine own_getF P (hw _ (List.mem_of_getElem? (i := 14) rfl)) q0 d13_1 rfl (fun T813 P812 => ?_)
  refine own_iloadN P812 d13_4 rfl rfl ?_
  refine own_iaload P812 q1 d13_5 rfl (by decide) (Nat.le_of_ble_eq_true rfl) (x := c0) rfl ?_
  by_cases hc814 : (0 : Int32) < c0
  · refine own_if0N P812 (pc' := 9) d13_6 (not_not_intro hc814) rfl ?_
    refine own_iconst P812 d13_9 rfl (v := (1 : Int32)) rfl ?_
    refine own_goto P812 (pc' := 14) d13_10 (by decide) (by decide) ?_
    exact own_retZ P812 d13_14 (z := (1 : Int32)) rfl (by decide) (by decide) ⟨by unfold own_ho; rw [if_pos hc814], rfl, rfl⟩
  · refine own_if0Y P812 (pc' := 13) d13_6 hc814 (by decide) (by decide) ?_
    refine own_iconst P812 d13_13 rfl (v := (0 : Int32)) rfl ?_
    exact own_retZ P812 d13_14 (z := (0 : Int32)) rfl (by decide) (by decide) ⟨by unfold own_ho; rw [if_neg hc814], rfl, rfl⟩
set_option maxRecDepth 65536 in
set_option maxHeartbeats 40000000 in
theorem rmHolds1 (l : Launch) (Z : State) (a0 : Array Value) (hw : ∀ d ∈ tables_1, d.before a0 Z = true) (o0 : Addr) (co : Addr) (c0 : Int32) (c1 : Int32) (c2 : Int32) (c3 : Int32) (h : Heap) (q0 : Fld Z h o0 "com/example/projectum/projectum/reasoning/Relation" "counts" "[I" (.ref co)) (q1 : own_Ar Z h co .int [c0, c1, c2, c3]) :
    own_Con l Z (⟨"com/example/projectum/projectum/reasoning/Relation", "holds", "(I)Z"⟩ : MethodName) prog_73_method_6_code 2 (some .boolean) [] ({ frames := 0, cells := 0, slots := 0, locals := 0 } : Room) #[(.ref o0), (.int (1 : Int32))] h (own_P (some (.int (own_ho c1))) h) := by
  refine own_enter (plainFor_of_name own_pn2) #[.val (.ref o0), .val (.int (1 : Int32))] (fun m => by first | (simp [entryFrame, mkF, argsToLocals, Value.category]; done) | rfl) ?_
  intro p e s m below meth c T P
  replace P : own_S Z "com/example/projectum/projectum/reasoning/Relation" "holds" prog_73_method_6_code 2 (some .boolean) p l e ({ frames := 0, cells := 0, slots := 0, locals := 0 } : Room) s m #[(.ref o0), (.int (1 : Int32))] below meth c T h [] 0 0 := P
  refine own_aloadN P d13_0 rfl rfl rfl ?_
  refine own_getF P (hw _ (List.mem_of_getElem? (i := 14) rfl)) q0 d13_1 rfl (fun T816 P815 => ?_)
  refine own_iloadN P815 d13_4 rfl rfl ?_
  refine own_iaload P815 q1 d13_5 rfl (by decide) (Nat.le_of_ble_eq_true rfl) (x := c1) rfl ?_
  by_cases hc817 : (0 : Int32) < c1
  · refine own_if0N P815 (pc' := 9) d13_6 (not_not_intro hc817) rfl ?_
    refine own_iconst P815 d13_9 rfl (v := (1 : Int32)) rfl ?_
    refine own_goto P815 (pc' := 14) d13_10 (by decide) (by decide) ?_
    exact own_retZ P815 d13_14 (z := (1 : Int32)) rfl (by decide) (by decide) ⟨by unfold own_ho; rw [if_pos hc817], rfl, rfl⟩
  · refine own_if0Y P815 (pc' := 13) d13_6 hc817 (by decide) (by decide) ?_
    refine own_iconst P815 d13_13 rfl (v := (0 : Int32)) rfl ?_
    exact own_retZ P815 d13_14 (z := (0 : Int32)) rfl (by decide) (by decide) ⟨by unfold own_ho; rw [if_neg hc817], rfl, rfl⟩
theorem d14_0 : decode prog_73_method_3_code 0 = .ok (.aload_n 0, 1) := by decide +kernel
theorem d14_1 : decode prog_73_method_3_code 1 = .ok (.getfield 26, 3) := by decide +kernel
theorem d14_4 : decode prog_73_method_3_code 4 = .ok (.ireturn, 1) := by decide +kernel
set_option maxRecDepth 65536 in
set_option maxHeartbeats 40000000 in
theorem rmSize (l : Launch) (Z : State) (a0 : Array Value) (hw : ∀ d ∈ tables_1, d.before a0 Z = true) (o0 : Addr) (n : Int32) (h : Heap) (q0 : Fld Z h o0 "com/example/projectum/projectum/reasoning/Relation" "size" "I" (.int n)) :
    own_Con l Z (⟨"com/example/projectum/projectum/reasoning/Relation", "size", "()I"⟩ : MethodName) prog_73_method_3_code 1 (some .int) [] ({ frames := 0, cells := 0, slots := 0, locals := 0 } : Room) #[(.ref o0)] h (own_P (some (.int n)) h) := by
  refine own_enter (plainFor_of_name own_pn2) #[.val (.ref o0)] (fun m => by first | (simp [entryFrame, mkF, argsToLocals, Value.category]; done) | rfl) ?_
  intro p e s m below meth c T P
  replace P : own_S Z "com/example/projectum/projectum/reasoning/Relation" "size" prog_73_method_3_code 1 (some .int) p l e ({ frames := 0, cells := 0, slots := 0, locals := 0 } : Room) s m #[(.ref o0)] below meth c T h [] 0 0 := P
  refine own_aloadN P d14_0 rfl rfl rfl ?_
  refine own_getF P (hw _ (List.mem_of_getElem? (i := 31) rfl)) q0 d14_1 rfl (fun T819 P818 => ?_)
  exact own_retI P818 d14_4 (by decide) (by decide) ⟨rfl, rfl, rfl⟩
theorem d12_0 : decode prog_73_method_16_code 0 = .ok (.aload_n 0, 1) := by decide +kernel
theorem d12_1 : decode prog_73_method_16_code 1 = .ok (.aload_n 1, 1) := by decide +kernel
theorem d12_2 : decode prog_73_method_16_code 2 = .ok (.invokevirtual 35, 3) := by decide +kernel
theorem d12_5 : decode prog_73_method_16_code 5 = .ok (.istore_n 2, 1) := by decide +kernel
theorem d12_6 : decode prog_73_method_16_code 6 = .ok (.iload_n 2, 1) := by decide +kernel
theorem d12_7 : decode prog_73_method_16_code 7 = .ok (.ifCond .lt 15, 3) := by decide +kernel
theorem d12_10 : decode prog_73_method_16_code 10 = .ok (.aload_n 0, 1) := by decide +kernel
theorem d12_11 : decode prog_73_method_16_code 11 = .ok (.iload_n 2, 1) := by decide +kernel
theorem d12_12 : decode prog_73_method_16_code 12 = .ok (.invokevirtual 116, 3) := by decide +kernel
theorem own_pd6 : parseMethodDescriptor "(I)Z" = some ⟨[.int], some .boolean⟩ := by decide +kernel
theorem d12_15 : decode prog_73_method_16_code 15 = .ok (.ifCond .eq 7, 3) := by decide +kernel
theorem d12_18 : decode prog_73_method_16_code 18 = .ok (.iload_n 2, 1) := by decide +kernel
theorem d12_19 : decode prog_73_method_16_code 19 = .ok (.goto 4, 3) := by decide +kernel
theorem d12_23 : decode prog_73_method_16_code 23 = .ok (.ireturn, 1) := by decide +kernel
set_option maxRecDepth 65536 in
set_option maxHeartbeats 40000000 in
theorem rmFind0 (l : Launch) (Z : State) (a0 : Array Value) (hw : ∀ d ∈ tables_1, d.before a0 Z = true) (o0 : Addr) (o1 : Addr) (ro : Addr) (co : Addr) (bp : Addr) (so : Addr) (x : Int32) (r0 : Int32) (r1 : Int32) (r2 : Int32) (r3 : Int32) (c0 : Int32) (c1 : Int32) (c2 : Int32) (c3 : Int32) (n : Int32) (f : Int32) (sl : List Int32) (h : Heap) (ne_o0_ro : o0 ≠ ro) (ne_o0_co : o0 ≠ co) (ne_ro_co : ro ≠ co) (ne_o0_bp : o0 ≠ bp) (ne_ro_bp : ro ≠ bp) (ne_co_bp : co ≠ bp) (ne_o0_so : o0 ≠ so) (ne_ro_so : ro ≠ so) (ne_co_so : co ≠ so) (ne_bp_so : bp ≠ so) (ne_o0_o1 : o0 ≠ o1) (ne_ro_o1 : ro ≠ o1) (ne_co_o1 : co ≠ o1) (ne_bp_o1 : bp ≠ o1) (ne_so_o1 : so ≠ o1) (q0 : Exa Z h o0 "com/example/projectum/projectum/reasoning/Relation") (q1 : Fld Z h o0 "com/example/projectum/projectum/reasoning/Relation" "arity" "I" (.int (1 : Int32))) (q2 : Fld Z h o0 "com/example/projectum/projectum/reasoning/Relation" "rows" "[I" (.ref ro)) (q3 : Fld Z h o0 "com/example/projectum/projectum/reasoning/Relation" "counts" "[I" (.ref co)) (q4 : Fld Z h o0 "com/example/projectum/projectum/reasoning/Relation" "byPosition" "[Lcom/example/projectum/projectum/reasoning/Relation$NodeIndex;" (.ref bp)) (q5 : Fld Z h o0 "com/example/projectum/projectum/reasoning/Relation" "size" "I" (.int n)) (q6 : Fld Z h o0 "com/example/projectum/projectum/reasoning/Relation" "slots" "[I" (.ref so)) (q7 : Fld Z h o0 "com/example/projectum/projectum/reasoning/Relation" "freeSlot" "I" (.int f)) (q8 : own_Ar Z h ro .int [r0, r1, r2, r3]) (q9 : own_Ar Z h co .int [c0, c1, c2, c3]) (q10 : own_Nl Z h bp (.object "com/example/projectum/projectum/reasoning/Relation$NodeIndex")) (q11 : own_Ar Z h so .int sl) (q12 : own_Ar Z h o1 .int [x]) (hsl : sl.length = 16) (hr : r0 = x) (hp1 : sl.getD ((own_hv x) &&& (15 : Int32)).toInt.toNat 0 = (1 : Int32)) (hpos : (0 : Int32) < c0) :
    own_Con l Z (⟨"com/example/projectum/projectum/reasoning/Relation", "find", "([I)I"⟩ : MethodName) prog_73_method_16_code 3 (some .int) [] ({ frames := 3, cells := 0, slots := 0, locals := 47 } : Room) #[(.ref o0), (.ref o1)] h (own_P (some (.int (0 : Int32))) h) := by
  refine own_enter (plainFor_of_name own_pn2) #[.val (.ref o0), .val (.ref o1), .unset] (fun m => by first | (simp [entryFrame, mkF, argsToLocals, Value.category]; done) | rfl) ?_
  intro p e s m below meth c T P
  replace P : own_S Z "com/example/projectum/projectum/reasoning/Relation" "find" prog_73_method_16_code 3 (some .int) p l e ({ frames := 3, cells := 0, slots := 0, locals := 47 } : Room) s m #[(.ref o0), (.ref o1)] below meth c T h [] 0 0 := P
  refine own_aloadN P d12_0 rfl rfl rfl ?_
  refine own_aloadN P d12_1 rfl rfl rfl ?_
  refine own_privP P (hw _ (List.mem_of_getElem? (i := 25) rfl)) (hw _ (List.mem_of_getElem? (i := 26) rfl)) (hw _ (List.mem_of_getElem? (i := 27) rfl)) (hw _ (List.mem_of_getElem? (i := 1) rfl)) (hw _ (List.mem_of_getElem? (i := 2) rfl)) (hw _ (List.mem_of_getElem? (i := 28) rfl)) (by decide) q0 (argsL := [(.ref o1)]) (rest := []) (rmIA l Z a0 hw o0 o1 ro co bp so x r0 r1 r2 r3 c0 c1 c2 c3 n f sl h  ne_o0_ro ne_o0_co ne_ro_co ne_o0_bp ne_ro_bp ne_co_bp ne_o0_so ne_ro_so ne_co_so ne_bp_so ne_o0_o1 ne_ro_o1 ne_co_o1 ne_bp_o1 ne_so_o1 q0 q1 q2 q3 q4 q5 q6 q7 q8 q9 q10 q11 q12 hsl hr hp1) d12_2 rfl own_pd4 rfl rfl rfl (by decide) 0 rfl (by decide) rfl rfl (by decide) (by decide) (fun T821 P820 => ?_)
  show own_Go p e below _ (T821.setTop (mkF m 5 #[.val (.ref o0), .val (.ref o1), .unset] [(.int (0 : Int32))]))
  refine own_istoreN P820 d12_5 rfl (Ls' := #[.val (.ref o0), .val (.ref o1), .val (.int (0 : Int32))]) rfl ?_
  refine own_iloadN P820 d12_6 rfl rfl ?_
  refine own_if0N P820 (pc' := 10) d12_7 (by decide : ¬ ((0 : Int32) < (0 : Int32))) rfl ?_
  refine own_aloadN P820 d12_10 rfl rfl rfl ?_
  refine own_iloadN P820 d12_11 rfl rfl ?_
  refine own_virtP P820 (hw _ (List.mem_of_getElem? (i := 75) rfl)) (hw _ (List.mem_of_getElem? (i := 76) rfl)) (hw _ (List.mem_of_getElem? (i := 78) rfl)) (hw _ (List.mem_of_getElem? (i := 77) rfl)) (hw _ (List.mem_of_getElem? (i := 2) rfl)) (hw _ (List.mem_of_getElem? (i := 79) rfl)) (by decide) q0 (argsL := [(.int (0 : Int32))]) (rest := []) (rmHolds0 l Z a0 hw o0 co c0 c1 c2 c3 h q3 q9) d12_12 rfl own_pd6 rfl rfl rfl (by decide) 0 rfl (by decide) rfl rfl (by decide) (by decide) (fun T827 P826 => ?_)
  show own_Go p e below _ (T827.setTop (mkF m 15 #[.val (.ref o0), .val (.ref o1), .val (.int (0 : Int32))] [(.int (own_ho c0))]))
  refine own_if0N P826 (pc' := 18) d12_15 (own_hpos hpos) rfl ?_
  refine own_iloadN P826 d12_18 rfl rfl ?_
  refine own_goto P826 (pc' := 23) d12_19 (by decide) (by decide) ?_
  exact own_retI P826 d12_23 (by decide) (by decide) ⟨rfl, rfl, rfl⟩
theorem d11_0 : decode prog_73_method_15_code 0 = .ok (.aload_n 0, 1) := by decide +kernel
theorem d11_1 : decode prog_73_method_15_code 1 = .ok (.aload_n 1, 1) := by decide +kernel
theorem d11_2 : decode prog_73_method_15_code 2 = .ok (.invokevirtual 97, 3) := by decide +kernel
theorem d11_5 : decode prog_73_method_15_code 5 = .ok (.istore_n 2, 1) := by decide +kernel
theorem d11_6 : decode prog_73_method_15_code 6 = .ok (.iload_n 2, 1) := by decide +kernel
theorem d11_7 : decode prog_73_method_15_code 7 = .ok (.ifCond .ge 20, 3) := by decide +kernel
theorem d11_27 : decode prog_73_method_15_code 27 = .ok (.aload_n 0, 1) := by decide +kernel
theorem d11_28 : decode prog_73_method_15_code 28 = .ok (.getfield 17, 3) := by decide +kernel
theorem d11_31 : decode prog_73_method_15_code 31 = .ok (.iload_n 2, 1) := by decide +kernel
theorem d11_32 : decode prog_73_method_15_code 32 = .ok (.dup2, 1) := by decide +kernel
theorem d11_33 : decode prog_73_method_15_code 33 = .ok (.iaload, 1) := by decide +kernel
theorem d11_34 : decode prog_73_method_15_code 34 = .ok (.iconst 1, 1) := by decide +kernel
theorem d11_35 : decode prog_73_method_15_code 35 = .ok (.isub, 1) := by decide +kernel
theorem d11_36 : decode prog_73_method_15_code 36 = .ok (.dup_x2, 1) := by decide +kernel
theorem d11_37 : decode prog_73_method_15_code 37 = .ok (.iastore, 1) := by decide +kernel
theorem d11_38 : decode prog_73_method_15_code 38 = .ok (.ifCond .ne 44, 3) := by decide +kernel
theorem d11_41 : decode prog_73_method_15_code 41 = .ok (.iconst 0, 1) := by decide +kernel
theorem d11_42 : decode prog_73_method_15_code 42 = .ok (.istore_n 3, 1) := by decide +kernel
theorem d11_43 : decode prog_73_method_15_code 43 = .ok (.iload_n 3, 1) := by decide +kernel
theorem d11_44 : decode prog_73_method_15_code 44 = .ok (.aload_n 0, 1) := by decide +kernel
theorem d11_45 : decode prog_73_method_15_code 45 = .ok (.getfield 7, 3) := by decide +kernel
theorem d11_48 : decode prog_73_method_15_code 48 = .ok (.if_icmp .ge 34, 3) := by decide +kernel
theorem d11_51 : decode prog_73_method_15_code 51 = .ok (.aload_n 0, 1) := by decide +kernel
theorem d11_52 : decode prog_73_method_15_code 52 = .ok (.getfield 22, 3) := by decide +kernel
theorem d11_55 : decode prog_73_method_15_code 55 = .ok (.iload_n 3, 1) := by decide +kernel
theorem d11_56 : decode prog_73_method_15_code 56 = .ok (.aaload, 1) := by decide +kernel
theorem d11_57 : decode prog_73_method_15_code 57 = .ok (.ifnull 19, 3) := by decide +kernel
theorem d11_76 : decode prog_73_method_15_code 76 = .ok (.iinc 3 1, 3) := by decide +kernel
theorem d11_79 : decode prog_73_method_15_code 79 = .ok (.goto (-36), 3) := by decide +kernel
theorem d11_82 : decode prog_73_method_15_code 82 = .ok (.iload_n 2, 1) := by decide +kernel
theorem d11_83 : decode prog_73_method_15_code 83 = .ok (.ireturn, 1) := by decide +kernel
set_option maxRecDepth 65536 in
set_option maxHeartbeats 40000000 in
theorem rmRem0 (l : Launch) (Z : State) (a0 : Array Value) (hw : ∀ d ∈ tables_1, d.before a0 Z = true) (o0 : Addr) (o1 : Addr) (ro : Addr) (co : Addr) (bp : Addr) (so : Addr) (x : Int32) (r0 : Int32) (r1 : Int32) (r2 : Int32) (r3 : Int32) (c0 : Int32) (c1 : Int32) (c2 : Int32) (c3 : Int32) (n : Int32) (f : Int32) (sl : List Int32) (h : Heap) (n0 : Nat) (Z0 : n0 ≤ h.size) (g_o0 : n0 ≤ o0) (g_ro : n0 ≤ ro) (g_co : n0 ≤ co) (g_so : n0 ≤ so) (ne_o0_ro : o0 ≠ ro) (ne_o0_co : o0 ≠ co) (ne_ro_co : ro ≠ co) (ne_o0_bp : o0 ≠ bp) (ne_ro_bp : ro ≠ bp) (ne_co_bp : co ≠ bp) (ne_o0_so : o0 ≠ so) (ne_ro_so : ro ≠ so) (ne_co_so : co ≠ so) (ne_bp_so : bp ≠ so) (ne_o0_o1 : o0 ≠ o1) (ne_ro_o1 : ro ≠ o1) (ne_co_o1 : co ≠ o1) (ne_bp_o1 : bp ≠ o1) (ne_so_o1 : so ≠ o1) (q0 : Exa Z h o0 "com/example/projectum/projectum/reasoning/Relation") (q1 : Fld Z h o0 "com/example/projectum/projectum/reasoning/Relation" "arity" "I" (.int (1 : Int32))) (q2 : Fld Z h o0 "com/example/projectum/projectum/reasoning/Relation" "rows" "[I" (.ref ro)) (q3 : Fld Z h o0 "com/example/projectum/projectum/reasoning/Relation" "counts" "[I" (.ref co)) (q4 : Fld Z h o0 "com/example/projectum/projectum/reasoning/Relation" "byPosition" "[Lcom/example/projectum/projectum/reasoning/Relation$NodeIndex;" (.ref bp)) (q5 : Fld Z h o0 "com/example/projectum/projectum/reasoning/Relation" "size" "I" (.int n)) (q6 : Fld Z h o0 "com/example/projectum/projectum/reasoning/Relation" "slots" "[I" (.ref so)) (q7 : Fld Z h o0 "com/example/projectum/projectum/reasoning/Relation" "freeSlot" "I" (.int f)) (q8 : own_Ar Z h ro .int [r0, r1, r2, r3]) (q9 : own_Ar Z h co .int [c0, c1, c2, c3]) (q10 : own_Nl Z h bp (.object "com/example/projectum/projectum/reasoning/Relation$NodeIndex")) (q11 : own_Ar Z h so .int sl) (q12 : own_Ar Z h o1 .int [x]) (hsl : sl.length = 16) (hr : r0 = x) (hp1 : sl.getD ((own_hv x) &&& (15 : Int32)).toInt.toNat 0 = (1 : Int32)) (hpos : (0 : Int32) < c0) :
    own_Con l Z (⟨"com/example/projectum/projectum/reasoning/Relation", "remove", "([I)I"⟩ : MethodName) prog_73_method_15_code 4 (some .int) [] ({ frames := 4, cells := 0, slots := 0, locals := 61 } : Room) #[(.ref o0), (.ref o1)] h (fun v h' L => v = some (.int (0 : Int32)) ∧ Fr n0 L ∧ Keep h h' [co] ∧ own_Ar Z h' co .int [(c0 - (1 : Int32)), c1, c2, c3]) := by
  refine own_enter (plainFor_of_name own_pn2) #[.val (.ref o0), .val (.ref o1), .unset, .unset] (fun m => by first | (simp [entryFrame, mkF, argsToLocals, Value.category]; done) | rfl) ?_
  intro p e s m below meth c T P
  replace P : own_S Z "com/example/projectum/projectum/reasoning/Relation" "remove" prog_73_method_15_code 4 (some .int) p l e ({ frames := 4, cells := 0, slots := 0, locals := 61 } : Room) s m #[(.ref o0), (.ref o1)] below meth c T h [] 0 0 := P
  have N0 : Fr n0 [] := Fr.nil n0
  refine own_aloadN P d11_0 rfl rfl rfl ?_
  refine own_aloadN P d11_1 rfl rfl rfl ?_
  refine own_virtP P (hw _ (List.mem_of_getElem? (i := 70) rfl)) (hw _ (List.mem_of_getElem? (i := 71) rfl)) (hw _ (List.mem_of_getElem? (i := 73) rfl)) (hw _ (List.mem_of_getElem? (i := 72) rfl)) (hw _ (List.mem_of_getElem? (i := 2) rfl)) (hw _ (List.mem_of_getElem? (i := 74) rfl)) (by decide) q0 (argsL := [(.ref o1)]) (rest := []) (rmFind0 l Z a0 hw o0 o1 ro co bp so x r0 r1 r2 r3 c0 c1 c2 c3 n f sl h  ne_o0_ro ne_o0_co ne_ro_co ne_o0_bp ne_ro_bp ne_co_bp ne_o0_so ne_ro_so ne_co_so ne_bp_so ne_o0_o1 ne_ro_o1 ne_co_o1 ne_bp_o1 ne_so_o1 q0 q1 q2 q3 q4 q5 q6 q7 q8 q9 q10 q11 q12 hsl hr hp1 hpos) d11_2 rfl own_pd4 rfl rfl rfl (by decide) 0 rfl (by decide) rfl rfl (by decide) (by decide) (fun T833 P832 => ?_)
  show own_Go p e below _ (T833.setTop (mkF m 5 #[.val (.ref o0), .val (.ref o1), .unset, .unset] [(.int (0 : Int32))]))
  refine own_istoreN P832 d11_5 rfl (Ls' := #[.val (.ref o0), .val (.ref o1), .val (.int (0 : Int32)), .unset]) rfl ?_
  refine own_iloadN P832 d11_6 rfl rfl ?_
  refine own_if0Y P832 (pc' := 27) d11_7 (by decide : ¬ ((0 : Int32) < (0 : Int32))) (by decide) (by decide) ?_
  refine own_aloadN P832 d11_27 rfl rfl rfl ?_
  refine own_getF P832 (hw _ (List.mem_of_getElem? (i := 14) rfl)) q3 d11_28 rfl (fun T839 P838 => ?_)
  refine own_iloadN P838 d11_31 rfl rfl ?_
  refine own_dup2 P838 d11_32 rfl rfl rfl ?_
  refine own_iaload P838 q9 d11_33 rfl (by decide) (Nat.le_of_ble_eq_true rfl) (x := c0) rfl ?_
  refine own_iconst P838 d11_34 rfl (v := (1 : Int32)) rfl ?_
  refine own_isub P838 d11_35 rfl ?_
  refine own_dupX2 P838 d11_36 rfl rfl rfl rfl ?_
  refine own_iastore P838 q9 d11_37 rfl (by decide) (Nat.le_of_ble_eq_true rfl) (z := (c0 - (1 : Int32))) rfl (fun T841 h842 W843 A844 P840 => ?_)
  have N845 := Fr.snoc P840.st N0 g_co
  have K846 := (Keep.refl h [co]).wr W843 (Or.inl (List.mem_of_getElem? (i := 0) rfl))
  have f847 := q0.wr W843
  have f848 := q1.other W843 (Or.inl ne_o0_co)
  have f849 := q2.other W843 (Or.inl ne_o0_co)
  have f850 := q3.other W843 (Or.inl ne_o0_co)
  have f851 := q4.other W843 (Or.inl ne_o0_co)
  have f852 := q5.other W843 (Or.inl ne_o0_co)
  have f853 := q6.other W843 (Or.inl ne_o0_co)
  have f854 := q7.other W843 (Or.inl ne_o0_co)
  have f855 := q8.other W843 ne_ro_co
  have f856 := q10.other W843 (Ne.symm ne_co_bp)
  have f857 := q11.other W843 (Ne.symm ne_co_so)
  have f858 := q12.other W843 (Ne.symm ne_co_o1)
  have f859 : own_Ar Z h842 co .int [(c0 - (1 : Int32)), c1, c2, c3] := A844
  by_cases hc860 : (c0 - (1 : Int32)) = (0 : Int32)
  · refine own_if0N P840 (pc' := 41) d11_38 (not_not_intro hc860) rfl ?_
    refine own_iconst P840 d11_41 rfl (v := (0 : Int32)) rfl ?_
    refine own_istoreN P840 d11_42 rfl (Ls' := #[.val (.ref o0), .val (.ref o1), .val (.int (0 : Int32)), .val (.int (0 : Int32))]) rfl ?_
    refine own_iloadN P840 d11_43 rfl rfl ?_
    refine own_aloadN P840 d11_44 rfl rfl rfl ?_
    refine own_getF P840 (hw _ (List.mem_of_getElem? (i := 9) rfl)) f848 d11_45 rfl (fun T862 P861 => ?_)
    refine own_icmpN P861 (pc' := 51) d11_48 (not_not_intro (by decide : (0 : Int32) < (1 : Int32))) rfl ?_
    refine own_aloadN P861 d11_51 rfl rfl rfl ?_
    refine own_getF P861 (hw _ (List.mem_of_getElem? (i := 18) rfl)) f851 d11_52 rfl (fun T864 P863 => ?_)
    refine own_iloadN P863 d11_55 rfl rfl ?_
    refine own_aaloadN P863 f856 rfl d11_56 rfl rfl ?_
    refine own_nullY P863 (pc' := 76) d11_57 (by decide) (by decide) ?_
    refine own_iinc P863 d11_76 rfl rfl (v := (1 : Int32)) rfl (Ls' := #[.val (.ref o0), .val (.ref o1), .val (.int (0 : Int32)), .val (.int ((0 : Int32) + (1 : Int32)))]) rfl ?_
    rw [show ((0 : Int32) + (1 : Int32)) = (1 : Int32) by decide]
    refine own_goto P863 (pc' := 43) d11_79 (by decide) (by decide) ?_
    refine own_iloadN P863 d11_43 rfl rfl ?_
    refine own_aloadN P863 d11_44 rfl rfl rfl ?_
    refine own_getF P863 (hw _ (List.mem_of_getElem? (i := 9) rfl)) f848 d11_45 rfl (fun T866 P865 => ?_)
    refine own_icmpY P865 (pc' := 82) d11_48 (by decide : ¬ ((1 : Int32) < (1 : Int32))) (by decide) (by decide) ?_
    refine own_iloadN P865 d11_82 rfl rfl ?_
    exact own_retI P865 d11_83 (by decide) (by decide) ⟨rfl, N845, K846, f859⟩
  · refine own_if0Y P840 (pc' := 82) d11_38 hc860 (by decide) (by decide) ?_
    refine own_iloadN P840 d11_82 rfl rfl ?_
    exact own_retI P840 d11_83 (by decide) (by decide) ⟨rfl, N845, K846, f859⟩
set_option maxRecDepth 65536 in
set_option maxHeartbeats 40000000 in
theorem rmFind1 (l : Launch) (Z : State) (a0 : Array Value) (hw : ∀ d ∈ tables_1, d.before a0 Z = true) (o0 : Addr) (o1 : Addr) (ro : Addr) (co : Addr) (bp : Addr) (so : Addr) (x : Int32) (r0 : Int32) (r1 : Int32) (r2 : Int32) (r3 : Int32) (c0 : Int32) (c1 : Int32) (c2 : Int32) (c3 : Int32) (n : Int32) (f : Int32) (sl : List Int32) (h : Heap) (ne_o0_ro : o0 ≠ ro) (ne_o0_co : o0 ≠ co) (ne_ro_co : ro ≠ co) (ne_o0_bp : o0 ≠ bp) (ne_ro_bp : ro ≠ bp) (ne_co_bp : co ≠ bp) (ne_o0_so : o0 ≠ so) (ne_ro_so : ro ≠ so) (ne_co_so : co ≠ so) (ne_bp_so : bp ≠ so) (ne_o0_o1 : o0 ≠ o1) (ne_ro_o1 : ro ≠ o1) (ne_co_o1 : co ≠ o1) (ne_bp_o1 : bp ≠ o1) (ne_so_o1 : so ≠ o1) (q0 : Exa Z h o0 "com/example/projectum/projectum/reasoning/Relation") (q1 : Fld Z h o0 "com/example/projectum/projectum/reasoning/Relation" "arity" "I" (.int (1 : Int32))) (q2 : Fld Z h o0 "com/example/projectum/projectum/reasoning/Relation" "rows" "[I" (.ref ro)) (q3 : Fld Z h o0 "com/example/projectum/projectum/reasoning/Relation" "counts" "[I" (.ref co)) (q4 : Fld Z h o0 "com/example/projectum/projectum/reasoning/Relation" "byPosition" "[Lcom/example/projectum/projectum/reasoning/Relation$NodeIndex;" (.ref bp)) (q5 : Fld Z h o0 "com/example/projectum/projectum/reasoning/Relation" "size" "I" (.int n)) (q6 : Fld Z h o0 "com/example/projectum/projectum/reasoning/Relation" "slots" "[I" (.ref so)) (q7 : Fld Z h o0 "com/example/projectum/projectum/reasoning/Relation" "freeSlot" "I" (.int f)) (q8 : own_Ar Z h ro .int [r0, r1, r2, r3]) (q9 : own_Ar Z h co .int [c0, c1, c2, c3]) (q10 : own_Nl Z h bp (.object "com/example/projectum/projectum/reasoning/Relation$NodeIndex")) (q11 : own_Ar Z h so .int sl) (q12 : own_Ar Z h o1 .int [x]) (hsl : sl.length = 16) (hr : r1 = x) (hb : (sl.getD ((own_hv x) &&& (15 : Int32)).toInt.toNat 0 = (2 : Int32) ∨ (sl.getD ((own_hv x) &&& (15 : Int32)).toInt.toNat 0 = (1 : Int32) ∧ ¬ (r0 = x) ∧ sl.getD ((((own_hv x) &&& (15 : Int32)) + (1 : Int32)) &&& (15 : Int32)).toInt.toNat 0 = (2 : Int32)))) (hpos : (0 : Int32) < c1) :
    own_Con l Z (⟨"com/example/projectum/projectum/reasoning/Relation", "find", "([I)I"⟩ : MethodName) prog_73_method_16_code 3 (some .int) [] ({ frames := 3, cells := 0, slots := 0, locals := 47 } : Room) #[(.ref o0), (.ref o1)] h (own_P (some (.int (1 : Int32))) h) := by
  refine own_enter (plainFor_of_name own_pn2) #[.val (.ref o0), .val (.ref o1), .unset] (fun m => by first | (simp [entryFrame, mkF, argsToLocals, Value.category]; done) | rfl) ?_
  intro p e s m below meth c T P
  replace P : own_S Z "com/example/projectum/projectum/reasoning/Relation" "find" prog_73_method_16_code 3 (some .int) p l e ({ frames := 3, cells := 0, slots := 0, locals := 47 } : Room) s m #[(.ref o0), (.ref o1)] below meth c T h [] 0 0 := P
  refine own_aloadN P d12_0 rfl rfl rfl ?_
  refine own_aloadN P d12_1 rfl rfl rfl ?_
  refine own_privP P (hw _ (List.mem_of_getElem? (i := 25) rfl)) (hw _ (List.mem_of_getElem? (i := 26) rfl)) (hw _ (List.mem_of_getElem? (i := 27) rfl)) (hw _ (List.mem_of_getElem? (i := 1) rfl)) (hw _ (List.mem_of_getElem? (i := 2) rfl)) (hw _ (List.mem_of_getElem? (i := 28) rfl)) (by decide) q0 (argsL := [(.ref o1)]) (rest := []) (rmIB l Z a0 hw o0 o1 ro co bp so x r0 r1 r2 r3 c0 c1 c2 c3 n f sl h  ne_o0_ro ne_o0_co ne_ro_co ne_o0_bp ne_ro_bp ne_co_bp ne_o0_so ne_ro_so ne_co_so ne_bp_so ne_o0_o1 ne_ro_o1 ne_co_o1 ne_bp_o1 ne_so_o1 q0 q1 q2 q3 q4 q5 q6 q7 q8 q9 q10 q11 q12 hsl hr hb) d12_2 rfl own_pd4 rfl rfl rfl (by decide) 0 rfl (by decide) rfl rfl (by decide) (by decide) (fun T868 P867 => ?_)
  show own_Go p e below _ (T868.setTop (mkF m 5 #[.val (.ref o0), .val (.ref o1), .unset] [(.int (1 : Int32))]))
  refine own_istoreN P867 d12_5 rfl (Ls' := #[.val (.ref o0), .val (.ref o1), .val (.int (1 : Int32))]) rfl ?_
  refine own_iloadN P867 d12_6 rfl rfl ?_
  refine own_if0N P867 (pc' := 10) d12_7 (by decide : ¬ ((1 : Int32) < (0 : Int32))) rfl ?_
  refine own_aloadN P867 d12_10 rfl rfl rfl ?_
  refine own_iloadN P867 d12_11 rfl rfl ?_
  refine own_virtP P867 (hw _ (List.mem_of_getElem? (i := 75) rfl)) (hw _ (List.mem_of_getElem? (i := 76) rfl)) (hw _ (List.mem_of_getElem? (i := 78) rfl)) (hw _ (List.mem_of_getElem? (i := 77) rfl)) (hw _ (List.mem_of_getElem? (i := 2) rfl)) (hw _ (List.mem_of_getElem? (i := 79) rfl)) (by decide) q0 (argsL := [(.int (1 : Int32))]) (rest := []) (rmHolds1 l Z a0 hw o0 co c0 c1 c2 c3 h q3 q9) d12_12 rfl own_pd6 rfl rfl rfl (by decide) 0 rfl (by decide) rfl rfl (by decide) (by decide) (fun T874 P873 => ?_)
  show own_Go p e below _ (T874.setTop (mkF m 15 #[.val (.ref o0), .val (.ref o1), .val (.int (1 : Int32))] [(.int (own_ho c1))]))
  refine own_if0N P873 (pc' := 18) d12_15 (own_hpos hpos) rfl ?_
  refine own_iloadN P873 d12_18 rfl rfl ?_
  refine own_goto P873 (pc' := 23) d12_19 (by decide) (by decide) ?_
  exact own_retI P873 d12_23 (by decide) (by decide) ⟨rfl, rfl, rfl⟩
set_option maxRecDepth 65536 in
set_option maxHeartbeats 40000000 in
theorem rmRem1 (l : Launch) (Z : State) (a0 : Array Value) (hw : ∀ d ∈ tables_1, d.before a0 Z = true) (o0 : Addr) (o1 : Addr) (ro : Addr) (co : Addr) (bp : Addr) (so : Addr) (x : Int32) (r0 : Int32) (r1 : Int32) (r2 : Int32) (r3 : Int32) (c0 : Int32) (c1 : Int32) (c2 : Int32) (c3 : Int32) (n : Int32) (f : Int32) (sl : List Int32) (h : Heap) (n0 : Nat) (Z0 : n0 ≤ h.size) (g_o0 : n0 ≤ o0) (g_ro : n0 ≤ ro) (g_co : n0 ≤ co) (g_so : n0 ≤ so) (ne_o0_ro : o0 ≠ ro) (ne_o0_co : o0 ≠ co) (ne_ro_co : ro ≠ co) (ne_o0_bp : o0 ≠ bp) (ne_ro_bp : ro ≠ bp) (ne_co_bp : co ≠ bp) (ne_o0_so : o0 ≠ so) (ne_ro_so : ro ≠ so) (ne_co_so : co ≠ so) (ne_bp_so : bp ≠ so) (ne_o0_o1 : o0 ≠ o1) (ne_ro_o1 : ro ≠ o1) (ne_co_o1 : co ≠ o1) (ne_bp_o1 : bp ≠ o1) (ne_so_o1 : so ≠ o1) (q0 : Exa Z h o0 "com/example/projectum/projectum/reasoning/Relation") (q1 : Fld Z h o0 "com/example/projectum/projectum/reasoning/Relation" "arity" "I" (.int (1 : Int32))) (q2 : Fld Z h o0 "com/example/projectum/projectum/reasoning/Relation" "rows" "[I" (.ref ro)) (q3 : Fld Z h o0 "com/example/projectum/projectum/reasoning/Relation" "counts" "[I" (.ref co)) (q4 : Fld Z h o0 "com/example/projectum/projectum/reasoning/Relation" "byPosition" "[Lcom/example/projectum/projectum/reasoning/Relation$NodeIndex;" (.ref bp)) (q5 : Fld Z h o0 "com/example/projectum/projectum/reasoning/Relation" "size" "I" (.int n)) (q6 : Fld Z h o0 "com/example/projectum/projectum/reasoning/Relation" "slots" "[I" (.ref so)) (q7 : Fld Z h o0 "com/example/projectum/projectum/reasoning/Relation" "freeSlot" "I" (.int f)) (q8 : own_Ar Z h ro .int [r0, r1, r2, r3]) (q9 : own_Ar Z h co .int [c0, c1, c2, c3]) (q10 : own_Nl Z h bp (.object "com/example/projectum/projectum/reasoning/Relation$NodeIndex")) (q11 : own_Ar Z h so .int sl) (q12 : own_Ar Z h o1 .int [x]) (hsl : sl.length = 16) (hr : r1 = x) (hb : (sl.getD ((own_hv x) &&& (15 : Int32)).toInt.toNat 0 = (2 : Int32) ∨ (sl.getD ((own_hv x) &&& (15 : Int32)).toInt.toNat 0 = (1 : Int32) ∧ ¬ (r0 = x) ∧ sl.getD ((((own_hv x) &&& (15 : Int32)) + (1 : Int32)) &&& (15 : Int32)).toInt.toNat 0 = (2 : Int32)))) (hpos : (0 : Int32) < c1) :
    own_Con l Z (⟨"com/example/projectum/projectum/reasoning/Relation", "remove", "([I)I"⟩ : MethodName) prog_73_method_15_code 4 (some .int) [] ({ frames := 4, cells := 0, slots := 0, locals := 61 } : Room) #[(.ref o0), (.ref o1)] h (fun v h' L => v = some (.int (1 : Int32)) ∧ Fr n0 L ∧ Keep h h' [co] ∧ own_Ar Z h' co .int [c0, (c1 - (1 : Int32)), c2, c3]) := by
  refine own_enter (plainFor_of_name own_pn2) #[.val (.ref o0), .val (.ref o1), .unset, .unset] (fun m => by first | (simp [entryFrame, mkF, argsToLocals, Value.category]; done) | rfl) ?_
  intro p e s m below meth c T P
  replace P : own_S Z "com/example/projectum/projectum/reasoning/Relation" "remove" prog_73_method_15_code 4 (some .int) p l e ({ frames := 4, cells := 0, slots := 0, locals := 61 } : Room) s m #[(.ref o0), (.ref o1)] below meth c T h [] 0 0 := P
  have N0 : Fr n0 [] := Fr.nil n0
  refine own_aloadN P d11_0 rfl rfl rfl ?_
  refine own_aloadN P d11_1 rfl rfl rfl ?_
  refine own_virtP P (hw _ (List.mem_of_getElem? (i := 70) rfl)) (hw _ (List.mem_of_getElem? (i := 71) rfl)) (hw _ (List.mem_of_getElem? (i := 73) rfl)) (hw _ (List.mem_of_getElem? (i := 72) rfl)) (hw _ (List.mem_of_getElem? (i := 2) rfl)) (hw _ (List.mem_of_getElem? (i := 74) rfl)) (by decide) q0 (argsL := [(.ref o1)]) (rest := []) (rmFind1 l Z a0 hw o0 o1 ro co bp so x r0 r1 r2 r3 c0 c1 c2 c3 n f sl h  ne_o0_ro ne_o0_co ne_ro_co ne_o0_bp ne_ro_bp ne_co_bp ne_o0_so ne_ro_so ne_co_so ne_bp_so ne_o0_o1 ne_ro_o1 ne_co_o1 ne_bp_o1 ne_so_o1 q0 q1 q2 q3 q4 q5 q6 q7 q8 q9 q10 q11 q12 hsl hr hb hpos) d11_2 rfl own_pd4 rfl rfl rfl (by decide) 0 rfl (by decide) rfl rfl (by decide) (by decide) (fun T880 P879 => ?_)
  show own_Go p e below _ (T880.setTop (mkF m 5 #[.val (.ref o0), .val (.ref o1), .unset, .unset] [(.int (1 : Int32))]))
  refine own_istoreN P879 d11_5 rfl (Ls' := #[.val (.ref o0), .val (.ref o1), .val (.int (1 : Int32)), .unset]) rfl ?_
  refine own_iloadN P879 d11_6 rfl rfl ?_
  refine own_if0Y P879 (pc' := 27) d11_7 (by decide : ¬ ((1 : Int32) < (0 : Int32))) (by decide) (by decide) ?_
  refine own_aloadN P879 d11_27 rfl rfl rfl ?_
  refine own_getF P879 (hw _ (List.mem_of_getElem? (i := 14) rfl)) q3 d11_28 rfl (fun T886 P885 => ?_)
  refine own_iloadN P885 d11_31 rfl rfl ?_
  refine own_dup2 P885 d11_32 rfl rfl rfl ?_
  refine own_iaload P885 q9 d11_33 rfl (by decide) (Nat.le_of_ble_eq_true rfl) (x := c1) rfl ?_
  refine own_iconst P885 d11_34 rfl (v := (1 : Int32)) rfl ?_
  refine own_isub P885 d11_35 rfl ?_
  refine own_dupX2 P885 d11_36 rfl rfl rfl rfl ?_
  refine own_iastore P885 q9 d11_37 rfl (by decide) (Nat.le_of_ble_eq_true rfl) (z := (c1 - (1 : Int32))) rfl (fun T888 h889 W890 A891 P887 => ?_)
  have N892 := Fr.snoc P887.st N0 g_co
  have K893 := (Keep.refl h [co]).wr W890 (Or.inl (List.mem_of_getElem? (i := 0) rfl))
  have f894 := q0.wr W890
  have f895 := q1.other W890 (Or.inl ne_o0_co)
  have f896 := q2.other W890 (Or.inl ne_o0_co)
  have f897 := q3.other W890 (Or.inl ne_o0_co)
  have f898 := q4.other W890 (Or.inl ne_o0_co)
  have f899 := q5.other W890 (Or.inl ne_o0_co)
  have f900 := q6.other W890 (Or.inl ne_o0_co)
  have f901 := q7.other W890 (Or.inl ne_o0_co)
  have f902 := q8.other W890 ne_ro_co
  have f903 := q10.other W890 (Ne.symm ne_co_bp)
  have f904 := q11.other W890 (Ne.symm ne_co_so)
  have f905 := q12.other W890 (Ne.symm ne_co_o1)
  have f906 : own_Ar Z h889 co .int [c0, (c1 - (1 : Int32)), c2, c3] := A891
  by_cases hc907 : (c1 - (1 : Int32)) = (0 : Int32)
  · refine own_if0N P887 (pc' := 41) d11_38 (not_not_intro hc907) rfl ?_
    refine own_iconst P887 d11_41 rfl (v := (0 : Int32)) rfl ?_
    refine own_istoreN P887 d11_42 rfl (Ls' := #[.val (.ref o0), .val (.ref o1), .val (.int (1 : Int32)), .val (.int (0 : Int32))]) rfl ?_
    refine own_iloadN P887 d11_43 rfl rfl ?_
    refine own_aloadN P887 d11_44 rfl rfl rfl ?_
    refine own_getF P887 (hw _ (List.mem_of_getElem? (i := 9) rfl)) f895 d11_45 rfl (fun T909 P908 => ?_)
    refine own_icmpN P908 (pc' := 51) d11_48 (not_not_intro (by decide : (0 : Int32) < (1 : Int32))) rfl ?_
    refine own_aloadN P908 d11_51 rfl rfl rfl ?_
    refine own_getF P908 (hw _ (List.mem_of_getElem? (i := 18) rfl)) f898 d11_52 rfl (fun T911 P910 => ?_)
    refine own_iloadN P910 d11_55 rfl rfl ?_
    refine own_aaloadN P910 f903 rfl d11_56 rfl rfl ?_
    refine own_nullY P910 (pc' := 76) d11_57 (by decide) (by decide) ?_
    refine own_iinc P910 d11_76 rfl rfl (v := (1 : Int32)) rfl (Ls' := #[.val (.ref o0), .val (.ref o1), .val (.int (1 : Int32)), .val (.int ((0 : Int32) + (1 : Int32)))]) rfl ?_
    rw [show ((0 : Int32) + (1 : Int32)) = (1 : Int32) by decide]
    refine own_goto P910 (pc' := 43) d11_79 (by decide) (by decide) ?_
    refine own_iloadN P910 d11_43 rfl rfl ?_
    refine own_aloadN P910 d11_44 rfl rfl rfl ?_
    refine own_getF P910 (hw _ (List.mem_of_getElem? (i := 9) rfl)) f895 d11_45 rfl (fun T913 P912 => ?_)
    refine own_icmpY P912 (pc' := 82) d11_48 (by decide : ¬ ((1 : Int32) < (1 : Int32))) (by decide) (by decide) ?_
    refine own_iloadN P912 d11_82 rfl rfl ?_
    exact own_retI P912 d11_83 (by decide) (by decide) ⟨rfl, N892, K893, f906⟩
  · refine own_if0Y P887 (pc' := 82) d11_38 hc907 (by decide) (by decide) ?_
    refine own_iloadN P887 d11_82 rfl rfl ?_
    exact own_retI P887 d11_83 (by decide) (by decide) ⟨rfl, N892, K893, f906⟩
def own_s1 (a : Int32) : List Int32 := ([0, 0, 0, 0, 0, 0, 0, 0, 0, 0, 0, 0, 0, 0, 0, 0] : List Int32).set ((own_hv a) &&& (15 : Int32)).toInt.toNat (1 : Int32)
def own_q (a b : Int32) : Int32 := if ((own_hv b) &&& (15 : Int32)) = ((own_hv a) &&& (15 : Int32)) then ((((own_hv b) &&& (15 : Int32)) + (1 : Int32)) &&& (15 : Int32)) else ((own_hv b) &&& (15 : Int32))
def own_s2 (a b : Int32) : List Int32 := (own_s1 a).set (own_q a b).toInt.toNat (2 : Int32)
theorem own_l1 (a : Int32) : (own_s1 a).length = 16 := by unfold own_s1; rw [List.length_set]; rfl
theorem own_l2 (a b : Int32) : (own_s2 a b).length = 16 := by unfold own_s2; rw [List.length_set]; exact own_l1 a
theorem own_set1 (l : List Int32) (i : Nat) (v : Int32) (h : i < l.length) : (l.set i v).getD i 0 = v := by
  rw [List.getD_eq_getElem?_getD, List.getElem?_set_self h]; rfl
theorem own_set2 (l : List Int32) (i j : Nat) (v : Int32) (h : i ≠ j) : (l.set i v).getD j 0 = l.getD j 0 := by
  rw [List.getD_eq_getElem?_getD, List.getD_eq_getElem?_getD, List.getElem?_set_ne h]
theorem own_a1 (a : Int32) : (own_s1 a).getD ((own_hv a) &&& (15 : Int32)).toInt.toNat 0 = (1 : Int32) := own_set1 _ _ _ (own_15 _).2
theorem own_a1' (a b : Int32) (h : a = b) : (own_s1 a).getD ((own_hv b) &&& (15 : Int32)).toInt.toNat 0 = (1 : Int32) := by subst h; exact own_a1 a
theorem own_o1 (a : Int32) (j : Nat) (h : ((own_hv a) &&& (15 : Int32)).toInt.toNat ≠ j) : (own_s1 a).getD j 0 = (0 : Int32) := by
  unfold own_s1
  rw [own_set2 _ _ _ _ h]
  exact own_z16 j
theorem own_nx (y : Int32) : (y &&& (15 : Int32)).toInt.toNat ≠ (((y &&& (15 : Int32)) + (1 : Int32)) &&& (15 : Int32)).toInt.toNat := by
  have a := own_15 y
  generalize (y &&& (15 : Int32)) = w at *
  have z : (1 : Int32).toInt = 1 := by decide
  rw [Jvm.Kit.i32_mask (w + 1) _ (k := 4) (by decide) (by decide), Jvm.Kit.i32_add (by rw [z]; omega) (by rw [z]; omega), z]
  omega
theorem own_pne (y w : Int32) (h : ¬ ((y &&& (15 : Int32)) = (w &&& (15 : Int32)))) : (w &&& (15 : Int32)).toInt.toNat ≠ (y &&& (15 : Int32)).toInt.toNat := fun q => h (Int32.toInt_inj.mp (by
  have a := own_15 y
  have b := own_15 w
  omega))
theorem own_hq (a b : Int32) : 0 ≤ (own_q a b).toInt ∧ (own_q a b).toInt.toNat < 16 := by
  unfold own_q
  split <;> exact own_15 _
theorem own_hm (a b : Int32) (hab : ¬ (a = b)) : (((own_s1 a).getD ((own_hv b) &&& (15 : Int32)).toInt.toNat 0 = (0 : Int32) ∧ own_q a b = ((own_hv b) &&& (15 : Int32))) ∨ ((own_s1 a).getD ((own_hv b) &&& (15 : Int32)).toInt.toNat 0 = (1 : Int32) ∧ ¬ (a = b) ∧ (own_s1 a).getD ((((own_hv b) &&& (15 : Int32)) + (1 : Int32)) &&& (15 : Int32)).toInt.toNat 0 = (0 : Int32) ∧ own_q a b = ((((own_hv b) &&& (15 : Int32)) + (1 : Int32)) &&& (15 : Int32)))) := by
  unfold own_q
  by_cases h : ((own_hv b) &&& (15 : Int32)) = ((own_hv a) &&& (15 : Int32))
  · rw [if_pos h]
    refine Or.inr ⟨by rw [h]; exact own_a1 a, hab, own_o1 a _ ?_, rfl⟩
    rw [← h]; exact own_nx _
  · rw [if_neg h]
    exact Or.inl ⟨own_o1 a _ (own_pne _ _ h), rfl⟩
theorem own_qa (a b : Int32) : (own_q a b).toInt.toNat ≠ ((own_hv a) &&& (15 : Int32)).toInt.toNat := by
  unfold own_q
  by_cases h : ((own_hv b) &&& (15 : Int32)) = ((own_hv a) &&& (15 : Int32))
  · rw [if_pos h, ← h]; exact Ne.symm (own_nx _)
  · rw [if_neg h]; exact Ne.symm (own_pne _ _ h)
theorem own_a2 (a b : Int32) (hab : ¬ (a = b)) : (own_s2 a b).getD ((own_hv a) &&& (15 : Int32)).toInt.toNat 0 = (1 : Int32) := by
  unfold own_s2
  rw [own_set2 _ _ _ _ (own_qa a b)]
  exact own_a1 a
theorem own_b2 (a b : Int32) (hab : ¬ (a = b)) : ((own_s2 a b).getD ((own_hv b) &&& (15 : Int32)).toInt.toNat 0 = (2 : Int32) ∨ ((own_s2 a b).getD ((own_hv b) &&& (15 : Int32)).toInt.toNat 0 = (1 : Int32) ∧ ¬ (a = b) ∧ (own_s2 a b).getD ((((own_hv b) &&& (15 : Int32)) + (1 : Int32)) &&& (15 : Int32)).toInt.toNat 0 = (2 : Int32))) := by
  have s : (own_s2 a b).getD (own_q a b).toInt.toNat 0 = (2 : Int32) := own_set1 _ _ _ (by rw [own_l1]; exact (own_hq a b).2)
  by_cases h : ((own_hv b) &&& (15 : Int32)) = ((own_hv a) &&& (15 : Int32))
  · have e : own_q a b = ((((own_hv b) &&& (15 : Int32)) + (1 : Int32)) &&& (15 : Int32)) := by unfold own_q; rw [if_pos h]
    rw [e] at s
    exact Or.inr ⟨by rw [h]; exact own_a2 a b hab, hab, s⟩
  · have e : own_q a b = ((own_hv b) &&& (15 : Int32)) := by unfold own_q; rw [if_neg h]
    rw [e] at s
    exact Or.inl s

theorem own_pd7 : parseMethodDescriptor "()I" = some ⟨[], some .int⟩ := by decide +kernel
def F0_64 (i3 : Int32) (i4 : Int32) (i5 : Int32) (i6 : Int32) (i7 : Int32) : Int32 := (if i7 = (1 : Int32) then (if i3 = (0 : Int32) then (if i4 = (0 : Int32) then (if i5 = (0 : Int32) then (if i6 = (0 : Int32) then (1 : Int32) else (1 : Int32)) else (if i6 = (0 : Int32) then (1 : Int32) else (1 : Int32))) else (if i5 = (0 : Int32) then (if i6 = (0 : Int32) then (1 : Int32) else (1 : Int32)) else (if i6 = (0 : Int32) then (1 : Int32) else (1 : Int32)))) else (if i4 = (0 : Int32) then (if i5 = (0 : Int32) then (if i6 = (0 : Int32) then (1 : Int32) else (1 : Int32)) else (if i6 = (0 : Int32) then (1 : Int32) else (1 : Int32))) else (if i5 = (0 : Int32) then (if i6 = (0 : Int32) then (1 : Int32) else (1 : Int32)) else (if i6 = (0 : Int32) then (1 : Int32) else (1 : Int32))))) else (if i3 = (0 : Int32) then (if i4 = (0 : Int32) then (if i5 = (0 : Int32) then (if i6 = (0 : Int32) then (1 : Int32) else (1 : Int32)) else (if i6 = (0 : Int32) then (1 : Int32) else (1 : Int32))) else (if i5 = (0 : Int32) then (if i6 = (0 : Int32) then (1 : Int32) else (1 : Int32)) else (if i6 = (0 : Int32) then (1 : Int32) else (1 : Int32)))) else (if i4 = (0 : Int32) then (if i5 = (0 : Int32) then (if i6 = (0 : Int32) then (1 : Int32) else (1 : Int32)) else (if i6 = (0 : Int32) then (1 : Int32) else (1 : Int32))) else (if i5 = (0 : Int32) then (if i6 = (0 : Int32) then (1 : Int32) else (1 : Int32)) else (if i6 = (0 : Int32) then (1 : Int32) else (1 : Int32))))))
set_option maxRecDepth 65536 in
set_option maxHeartbeats 40000000 in
theorem b0_64 {p : Program} {l : Launch} {e : Env} {s : State} {m : MethodId} {args : Array Value} {below : List Frame} {meth : Method} {c : Code} {T : State} {h : Heap} {locs : List Loc} {Z : State} {a0 : Array Value} {Q : Option Value → Heap → List Loc → Prop} (hw : ∀ d ∈ tables_1, d.before a0 Z = true) (i0 : Int32) (i1 : Int32) (i2 : Int32) (i3 : Int32) (i4 : Int32) (i5 : Int32) (i6 : Int32) (i7 : Int32)  (n0 : Nat) (N : Fr n0 locs) (Z0 : n0 ≤ h.size) (hsp : ((i7 = (1 : Int32) ∧ i0 = i1) ∨ (i7 = (0 : Int32) ∧ ¬ (i0 = i1)))) (P : own_S Z "com/example/projectum/projectum/reasoning/RelationHoldsPinLaw" "law" code 19 (some .boolean) p l e room_1 s m args below meth c T h locs 0 0) (hQ : ∀ h' L', Fr n0 L' → Q (some (.int (F0_64 i3 i4 i5 i6 i7))) h' L') :
    own_Go p e below (own_K s Q room_1.cells room_1.slots) (T.setTop (mkF m 64 #[.val (.int i0), .val (.int i1), .val (.int i2), .val (.int i3), .val (.int i4), .val (.int i5), .val (.int i6), .val (.int i7), .unset, .unset, .unset, .unset, .unset, .unset, .unset, .unset, .unset, .unset, .unset] [])) := by
  unfold F0_64 at hQ
  rcases hsp with ⟨rfl, hab⟩ | ⟨rfl, hab⟩
  · rw [if_pos rfl] at hQ
    refine own_new P (hw _ (List.mem_of_getElem? (i := 0) rfl)) (hw _ (List.mem_of_getElem? (i := 1) rfl)) (hw _ (List.mem_of_getElem? (i := 2) rfl)) at_64 rfl (by decide) (by decide) (fun T925 h926 b919 ha920 E921 A922 D923 P924 => ?_)
    have g927 : n0 ≤ b919 := by rw [ha920]; exact Z0
    have f928 : Fld Z h926 b919 "com/example/projectum/projectum/reasoning/Relation" "arity" "I" (.int (0 : Int32)) := D923 (Or.inr (hw _ (List.mem_of_getElem? (i := 10) rfl))) (ty := .int) (by decide)
    have f929 : Fld Z h926 b919 "com/example/projectum/projectum/reasoning/Relation" "rows" "[I" .null := D923 (Or.inl (hw _ (List.mem_of_getElem? (i := 13) rfl))) (ty := (.array .int)) (by decide)
    have f930 : Fld Z h926 b919 "com/example/projectum/projectum/reasoning/Relation" "counts" "[I" .null := D923 (Or.inl (hw _ (List.mem_of_getElem? (i := 15) rfl))) (ty := (.array .int)) (by decide)
    have f931 : Fld Z h926 b919 "com/example/projectum/projectum/reasoning/Relation" "byPosition" "[Lcom/example/projectum/projectum/reasoning/Relation$NodeIndex;" .null := D923 (Or.inr (hw _ (List.mem_of_getElem? (i := 19) rfl))) (ty := (.array (.object "com/example/projectum/projectum/reasoning/Relation$NodeIndex"))) (by decide)
    have f932 : Fld Z h926 b919 "com/example/projectum/projectum/reasoning/Relation" "slots" "[I" .null := D923 (Or.inl (hw _ (List.mem_of_getElem? (i := 30) rfl))) (ty := (.array .int)) (by decide)
    have f933 : Fld Z h926 b919 "com/example/projectum/projectum/reasoning/Relation" "size" "I" (.int (0 : Int32)) := D923 (Or.inl (hw _ (List.mem_of_getElem? (i := 32) rfl))) (ty := .int) (by decide)
    have f934 : Fld Z h926 b919 "com/example/projectum/projectum/reasoning/Relation" "freeSlot" "I" (.int (0 : Int32)) := D923 (Or.inl (hw _ (List.mem_of_getElem? (i := 56) rfl))) (ty := .int) (by decide)
    refine own_dup P924 at_67 rfl rfl ?_
    refine own_iconst P924 at_68 rfl (v := (1 : Int32)) rfl ?_
    refine own_init P924 rfl (hw _ (List.mem_of_getElem? (i := 3) rfl)) (hw _ (List.mem_of_getElem? (i := 4) rfl)) (hw _ (List.mem_of_getElem? (i := 2) rfl)) (hw _ (List.mem_of_getElem? (i := 5) rfl)) (by decide) (argsL := [(.int (1 : Int32))]) (rest := [(.ref b919)]) (rmInit l Z a0 hw b919 h926 n0 (Nat.le_trans Z0 E921.1) g927 A922 f928 f929 f930 f931 f933 f932 f934) at_69 rfl own_pd3 rfl rfl rfl (by decide) 1 rfl (by decide) (by decide) (by decide) (fun T936 h937 v938 L939 hq940 P935 => ?_)
    obtain ⟨rfl, n944, k945, ro941, co942, bp943, ⟨g946, g947⟩, ⟨ne948, ne949, ne950, ne951, ne952, ne953⟩, f954, f955, f956, f957, f958, f959, f960, f961, f962, f963, f964⟩ := hq940
    have N965 := Fr.app N n944
    have f966 := A922.keep k945
    show own_Go p e below _ (T936.setTop (mkF m 72 #[.val (.int i0), .val (.int i1), .val (.int i2), .val (.int i3), .val (.int i4), .val (.int i5), .val (.int i6), .val (.int (1 : Int32)), .unset, .unset, .unset, .unset, .unset, .unset, .unset, .unset, .unset, .unset, .unset] [(.ref b919)]))
    refine own_astore P935 at_72 rfl rfl (Ls' := #[.val (.int i0), .val (.int i1), .val (.int i2), .val (.int i3), .val (.int i4), .val (.int i5), .val (.int i6), .val (.int (1 : Int32)), .val (.ref b919), .unset, .unset, .unset, .unset, .unset, .unset, .unset, .unset, .unset, .unset]) rfl ?_
    refine own_iconst P935 at_74 rfl (v := (1 : Int32)) rfl ?_
    refine own_arrNew P935 1 (hw _ (List.mem_of_getElem? (i := 11) rfl)) rfl rfl at_75 rfl (by decide) (by decide) (by decide) (by decide) (by decide) (fun T972 h973 b967 ha968 E969 A970 P971 => ?_)
    have ne974 : b919 ≠ b967 := by rw [ha968]; exact Nat.ne_of_lt f954.lt
    have ne975 : ro941 ≠ b967 := by rw [ha968]; exact Nat.ne_of_lt f962.lt
    have ne976 : co942 ≠ b967 := by rw [ha968]; exact Nat.ne_of_lt f963.lt
    have ne977 : bp943 ≠ b967 := by rw [ha968]; exact Nat.ne_of_lt f964.lt
    have g978 : n0 ≤ b967 := by rw [ha968]; exact (Nat.le_trans (Nat.le_trans Z0 E921.1) k945.1)
    have f979 := f954.ext E969
    have f980 := f955.ext E969
    have f981 := f956.ext E969
    have f982 := f957.ext E969
    have f983 := f958.ext E969
    have f984 := f959.ext E969
    have f985 := f960.ext E969
    have f986 := f961.ext E969
    have f987 := f962.ext E969
    have f988 := f963.ext E969
    have f989 := f964.ext E969
    have f990 : own_Ar Z h973 b967 .int [(0 : Int32)] := A970
    refine own_dup P971 at_77 rfl rfl ?_
    refine own_iconst P971 at_78 rfl (v := (0 : Int32)) rfl ?_
    refine own_iloadN P971 at_79 rfl rfl ?_
    refine own_iastore P971 f990 at_80 rfl (by decide) (Nat.le_of_ble_eq_true rfl) (z := i0) rfl (fun T992 h993 W994 A995 P991 => ?_)
    have N996 := Fr.snoc P991.st N965 g978
    have f997 := f979.wr W994
    have f998 := f980.other W994 (Or.inl ne974)
    have f999 := f981.other W994 (Or.inl ne974)
    have f1000 := f982.other W994 (Or.inl ne974)
    have f1001 := f983.other W994 (Or.inl ne974)
    have f1002 := f984.other W994 (Or.inl ne974)
    have f1003 := f985.other W994 (Or.inl ne974)
    have f1004 := f986.other W994 (Or.inl ne974)
    have f1005 := f987.other W994 ne975
    have f1006 := f988.other W994 ne976
    have f1007 := f989.other W994 ne977
    have f1008 : own_Ar Z h993 b967 .int [i0] := A995
    refine own_astore P991 at_81 rfl rfl (Ls' := #[.val (.int i0), .val (.int i1), .val (.int i2), .val (.int i3), .val (.int i4), .val (.int i5), .val (.int i6), .val (.int (1 : Int32)), .val (.ref b919), .val (.ref b967), .unset, .unset, .unset, .unset, .unset, .unset, .unset, .unset, .unset]) rfl ?_
    refine own_iconst P991 at_83 rfl (v := (1 : Int32)) rfl ?_
    refine own_arrNew P991 1 (hw _ (List.mem_of_getElem? (i := 11) rfl)) rfl rfl at_84 rfl (by decide) (by decide) (by decide) (by decide) (by decide) (fun T1014 h1015 b1009 ha1010 E1011 A1012 P1013 => ?_)
    have ne1016 : b919 ≠ b1009 := by rw [ha1010]; exact Nat.ne_of_lt f997.lt
    have ne1017 : ro941 ≠ b1009 := by rw [ha1010]; exact Nat.ne_of_lt f1005.lt
    have ne1018 : co942 ≠ b1009 := by rw [ha1010]; exact Nat.ne_of_lt f1006.lt
    have ne1019 : bp943 ≠ b1009 := by rw [ha1010]; exact Nat.ne_of_lt f1007.lt
    have ne1020 : b967 ≠ b1009 := by rw [ha1010]; exact Nat.ne_of_lt f1008.lt
    have g1021 : n0 ≤ b1009 := by rw [ha1010]; exact (Nat.le_trans (Nat.le_trans (Nat.le_trans (Nat.le_trans Z0 E921.1) k945.1) E969.1) (Keep.of_wr W994).1)
    have f1022 := f997.ext E1011
    have f1023 := f998.ext E1011
    have f1024 := f999.ext E1011
    have f1025 := f1000.ext E1011
    have f1026 := f1001.ext E1011
    have f1027 := f1002.ext E1011
    have f1028 := f1003.ext E1011
    have f1029 := f1004.ext E1011
    have f1030 := f1005.ext E1011
    have f1031 := f1006.ext E1011
    have f1032 := f1007.ext E1011
    have f1033 := f1008.ext E1011
    have f1034 : own_Ar Z h1015 b1009 .int [(0 : Int32)] := A1012
    refine own_dup P1013 at_86 rfl rfl ?_
    refine own_iconst P1013 at_87 rfl (v := (0 : Int32)) rfl ?_
    refine own_iloadN P1013 at_88 rfl rfl ?_
    refine own_iastore P1013 f1034 at_89 rfl (by decide) (Nat.le_of_ble_eq_true rfl) (z := i1) rfl (fun T1036 h1037 W1038 A1039 P1035 => ?_)
    have N1040 := Fr.snoc P1035.st N996 g1021
    have f1041 := f1022.wr W1038
    have f1042 := f1023.other W1038 (Or.inl ne1016)
    have f1043 := f1024.other W1038 (Or.inl ne1016)
    have f1044 := f1025.other W1038 (Or.inl ne1016)
    have f1045 := f1026.other W1038 (Or.inl ne1016)
    have f1046 := f1027.other W1038 (Or.inl ne1016)
    have f1047 := f1028.other W1038 (Or.inl ne1016)
    have f1048 := f1029.other W1038 (Or.inl ne1016)
    have f1049 := f1030.other W1038 ne1017
    have f1050 := f1031.other W1038 ne1018
    have f1051 := f1032.other W1038 ne1019
    have f1052 := f1033.other W1038 ne1020
    have f1053 : own_Ar Z h1037 b1009 .int [i1] := A1039
    refine own_astore P1035 at_90 rfl rfl (Ls' := #[.val (.int i0), .val (.int i1), .val (.int i2), .val (.int i3), .val (.int i4), .val (.int i5), .val (.int i6), .val (.int (1 : Int32)), .val (.ref b919), .val (.ref b967), .val (.ref b1009), .unset, .unset, .unset, .unset, .unset, .unset, .unset, .unset]) rfl ?_
    refine own_aload P1035 at_92 rfl rfl rfl ?_
    refine own_aload P1035 at_94 rfl rfl rfl ?_
    refine own_virt P1035 (hw _ (List.mem_of_getElem? (i := 20) rfl)) (hw _ (List.mem_of_getElem? (i := 21) rfl)) (hw _ (List.mem_of_getElem? (i := 23) rfl)) (hw _ (List.mem_of_getElem? (i := 22) rfl)) (hw _ (List.mem_of_getElem? (i := 2) rfl)) (hw _ (List.mem_of_getElem? (i := 24) rfl)) (by decide) f1041 (argsL := [(.ref b967)]) (rest := []) (rmAddF l Z a0 hw b919 b967 ro941 co942 bp943 i0 (0 : Int32) (0 : Int32) (0 : Int32) (0 : Int32) (0 : Int32) (0 : Int32) (0 : Int32) (0 : Int32) h1037 n0 (Nat.le_trans (Nat.le_trans (Nat.le_trans (Nat.le_trans (Nat.le_trans (Nat.le_trans Z0 E921.1) k945.1) E969.1) (Keep.of_wr W994).1) E1011.1) (Keep.of_wr W1038).1) g927 g946 g947 ne948 ne949 ne950 ne951 ne952 ne953 ne974 ne975 ne976 ne977 f1041 f1042 f1043 f1044 f1045 f1046 f1047 f1048 f1049 f1050 f1051 f1052) at_96 rfl own_pd4 rfl rfl rfl (by decide) 0 rfl (by decide) (by decide) (by decide) (fun T1055 h1056 v1057 L1058 hq1059 P1054 => ?_)
    obtain ⟨rfl, n1061, k1062, so1060, hg1063, hz1064, f1065, f1066, f1067, f1068, f1069, f1070, f1071, f1072, f1073, f1074, f1075, f1076⟩ := hq1059
    have ne1077 : b919 ≠ so1060 := Nat.ne_of_lt (Nat.lt_of_lt_of_le f1041.lt hz1064)
    have ne1078 : ro941 ≠ so1060 := Nat.ne_of_lt (Nat.lt_of_lt_of_le f1049.lt hz1064)
    have ne1079 : co942 ≠ so1060 := Nat.ne_of_lt (Nat.lt_of_lt_of_le f1050.lt hz1064)
    have ne1080 : bp943 ≠ so1060 := Nat.ne_of_lt (Nat.lt_of_lt_of_le f1051.lt hz1064)
    have ne1081 : b967 ≠ so1060 := Nat.ne_of_lt (Nat.lt_of_lt_of_le f1052.lt hz1064)
    have ne1082 : b1009 ≠ so1060 := Nat.ne_of_lt (Nat.lt_of_lt_of_le f1053.lt hz1064)
    have N1083 := Fr.app N1040 n1061
    have f1084 := f1041.keep k1062
    have f1085 := f1051.keep k1062 (ninS (Ne.symm ne951) (ninS (Ne.symm ne952) (ninS (Ne.symm ne953) nin0)))
    have f1086 := f1052.keep k1062 (ninS (Ne.symm ne974) (ninS (Ne.symm ne975) (ninS (Ne.symm ne976) nin0)))
    have f1087 := f1053.keep k1062 (ninS (Ne.symm ne1016) (ninS (Ne.symm ne1017) (ninS (Ne.symm ne1018) nin0)))
    have f1088 : own_Ar Z h1056 so1060 .int (own_s1 i0) := f1076
    show own_Go p e below _ (T1055.setTop (mkF m 99 #[.val (.int i0), .val (.int i1), .val (.int i2), .val (.int i3), .val (.int i4), .val (.int i5), .val (.int i6), .val (.int (1 : Int32)), .val (.ref b919), .val (.ref b967), .val (.ref b1009), .unset, .unset, .unset, .unset, .unset, .unset, .unset, .unset] [(.int (0 : Int32))]))
    refine own_istore P1054 at_99 rfl (Ls' := #[.val (.int i0), .val (.int i1), .val (.int i2), .val (.int i3), .val (.int i4), .val (.int i5), .val (.int i6), .val (.int (1 : Int32)), .val (.ref b919), .val (.ref b967), .val (.ref b1009), .val (.int (0 : Int32)), .unset, .unset, .unset, .unset, .unset, .unset, .unset]) rfl ?_
    refine own_aload P1054 at_101 rfl rfl rfl ?_
    refine own_aload P1054 at_103 rfl rfl rfl ?_
    refine own_virt P1054 (hw _ (List.mem_of_getElem? (i := 20) rfl)) (hw _ (List.mem_of_getElem? (i := 21) rfl)) (hw _ (List.mem_of_getElem? (i := 23) rfl)) (hw _ (List.mem_of_getElem? (i := 22) rfl)) (hw _ (List.mem_of_getElem? (i := 2) rfl)) (hw _ (List.mem_of_getElem? (i := 24) rfl)) (by decide) f1065 (argsL := [(.ref b1009)]) (rest := []) (rmAddA l Z a0 hw b919 b1009 ro941 co942 bp943 so1060 i1 i0 (0 : Int32) (0 : Int32) (0 : Int32) (1 : Int32) (0 : Int32) (0 : Int32) (0 : Int32) (1 : Int32) ((own_hv i0) &&& (15 : Int32)) (own_s1 i0) h1056 n0 (Nat.le_trans (Nat.le_trans (Nat.le_trans (Nat.le_trans (Nat.le_trans (Nat.le_trans (Nat.le_trans Z0 E921.1) k945.1) E969.1) (Keep.of_wr W994).1) E1011.1) (Keep.of_wr W1038).1) k1062.1) g927 g946 g947 hg1063 ne948 ne949 ne950 ne951 ne952 ne953 ne1077 ne1078 ne1079 ne1080 ne1016 ne1017 ne1018 ne1019 (Ne.symm ne1082) f1065 f1066 f1067 f1068 f1069 f1070 f1071 f1072 f1073 f1074 f1075 f1088 f1087 (own_l1 i0) hab (own_a1' i0 i1 hab)) at_105 rfl own_pd4 rfl rfl rfl (by decide) 0 rfl (by decide) (by decide) (by decide) (fun T1090 h1091 v1092 L1093 hq1094 P1089 => ?_)
    obtain ⟨rfl, n1095, k1096, f1097⟩ := hq1094
    have N1098 := Fr.app N1083 n1095
    have f1099 := f1065.keep k1096
    have f1100 := f1075.keep k1096 (ninS (Ne.symm ne953) nin0)
    have f1101 := f1086.keep k1096 (ninS (Ne.symm ne976) nin0)
    have f1102 := f1087.keep k1096 (ninS (Ne.symm ne1018) nin0)
    have f1103 := f1066.keep k1096 (ninS ne949 nin0)
    have f1104 := f1067.keep k1096 (ninS ne949 nin0)
    have f1105 := f1068.keep k1096 (ninS ne949 nin0)
    have f1106 := f1069.keep k1096 (ninS ne949 nin0)
    have f1107 := f1070.keep k1096 (ninS ne949 nin0)
    have f1108 := f1071.keep k1096 (ninS ne949 nin0)
    have f1109 := f1072.keep k1096 (ninS ne949 nin0)
    have f1110 := f1073.keep k1096 (ninS ne950 nin0)
    have f1111 := f1088.keep k1096 (ninS (Ne.symm ne1079) nin0)
    have f1112 : own_Ar Z h1091 co942 .int [(2 : Int32), (0 : Int32), (0 : Int32), (0 : Int32)] := f1097
    show own_Go p e below _ (T1090.setTop (mkF m 108 #[.val (.int i0), .val (.int i1), .val (.int i2), .val (.int i3), .val (.int i4), .val (.int i5), .val (.int i6), .val (.int (1 : Int32)), .val (.ref b919), .val (.ref b967), .val (.ref b1009), .val (.int (0 : Int32)), .unset, .unset, .unset, .unset, .unset, .unset, .unset] [(.int (0 : Int32))]))
    refine own_istore P1089 at_108 rfl (Ls' := #[.val (.int i0), .val (.int i1), .val (.int i2), .val (.int i3), .val (.int i4), .val (.int i5), .val (.int i6), .val (.int (1 : Int32)), .val (.ref b919), .val (.ref b967), .val (.ref b1009), .val (.int (0 : Int32)), .val (.int (0 : Int32)), .unset, .unset, .unset, .unset, .unset, .unset]) rfl ?_
    refine own_iconst P1089 at_110 rfl (v := (1 : Int32)) rfl ?_
    refine own_istore P1089 at_111 rfl (Ls' := #[.val (.int i0), .val (.int i1), .val (.int i2), .val (.int i3), .val (.int i4), .val (.int i5), .val (.int i6), .val (.int (1 : Int32)), .val (.ref b919), .val (.ref b967), .val (.ref b1009), .val (.int (0 : Int32)), .val (.int (0 : Int32)), .val (.int (1 : Int32)), .unset, .unset, .unset, .unset, .unset]) rfl ?_
    refine own_iconst P1089 at_113 rfl (v := (0 : Int32)) rfl ?_
    refine own_istore P1089 at_114 rfl (Ls' := #[.val (.int i0), .val (.int i1), .val (.int i2), .val (.int i3), .val (.int i4), .val (.int i5), .val (.int i6), .val (.int (1 : Int32)), .val (.ref b919), .val (.ref b967), .val (.ref b1009), .val (.int (0 : Int32)), .val (.int (0 : Int32)), .val (.int (1 : Int32)), .val (.int (0 : Int32)), .unset, .unset, .unset, .unset]) rfl ?_
    refine own_iload P1089 at_116 rfl rfl ?_
    refine own_if0N P1089 (pc' := 121) at_118 (by decide : ¬ ((1 : Int32) = (0 : Int32))) rfl ?_
    refine own_iload P1089 at_121 rfl rfl ?_
    refine own_iconst P1089 at_123 rfl (v := (1 : Int32)) rfl ?_
    refine own_iadd P1089 at_124 rfl ?_
    rw [show ((1 : Int32) + (1 : Int32)) = (2 : Int32) by decide]
    refine own_istore P1089 at_125 rfl (Ls' := #[.val (.int i0), .val (.int i1), .val (.int i2), .val (.int i3), .val (.int i4), .val (.int i5), .val (.int i6), .val (.int (1 : Int32)), .val (.ref b919), .val (.ref b967), .val (.ref b1009), .val (.int (0 : Int32)), .val (.int (0 : Int32)), .val (.int (2 : Int32)), .val (.int (0 : Int32)), .unset, .unset, .unset, .unset]) rfl ?_
    refine own_goto P1089 (pc' := 133) at_127 (by decide) (by decide) ?_
    refine own_iloadN P1089 at_133 rfl rfl ?_
    by_cases hc1113 : i3 = (0 : Int32)
    · rw [if_pos hc1113] at hQ
      refine own_if0Y P1089 (pc' := 151) at_134 hc1113 (by decide) (by decide) ?_
      refine own_iload P1089 at_151 rfl rfl ?_
      by_cases hc1114 : i4 = (0 : Int32)
      · rw [if_pos hc1114] at hQ
        refine own_if0Y P1089 (pc' := 170) at_153 hc1114 (by decide) (by decide) ?_
        refine own_iload P1089 at_170 rfl rfl ?_
        by_cases hc1115 : i5 = (0 : Int32)
        · rw [if_pos hc1115] at hQ
          refine own_if0Y P1089 (pc' := 203) at_172 hc1115 (by decide) (by decide) ?_
          refine own_iload P1089 at_203 rfl rfl ?_
          by_cases hc1116 : i6 = (0 : Int32)
          · rw [if_pos hc1116] at hQ
            refine own_if0Y P1089 (pc' := 222) at_205 hc1116 (by decide) (by decide) ?_
            refine own_iload P1089 at_222 rfl rfl ?_
            refine own_if0N P1089 (pc' := 227) at_224 (by decide : ¬ ((1 : Int32) = (0 : Int32))) rfl ?_
            refine own_iconst P1089 at_227 rfl (v := (1 : Int32)) rfl ?_
            refine own_goto P1089 (pc' := 232) at_228 (by decide) (by decide) ?_
            refine own_istore P1089 at_232 rfl (Ls' := #[.val (.int i0), .val (.int i1), .val (.int i2), .val (.int i3), .val (.int i4), .val (.int i5), .val (.int i6), .val (.int (1 : Int32)), .val (.ref b919), .val (.ref b967), .val (.ref b1009), .val (.int (0 : Int32)), .val (.int (0 : Int32)), .val (.int (2 : Int32)), .val (.int (0 : Int32)), .val (.int (1 : Int32)), .unset, .unset, .unset]) rfl ?_
            refine own_iload P1089 at_234 rfl rfl ?_
            refine own_if0N P1089 (pc' := 239) at_236 (not_not_intro (by decide : (0 : Int32) = (0 : Int32))) rfl ?_
            refine own_iload P1089 at_239 rfl rfl ?_
            refine own_iload P1089 at_241 rfl rfl ?_
            refine own_if0N P1089 (pc' := 246) at_243 (by decide : ¬ ((1 : Int32) = (0 : Int32))) rfl ?_
            refine own_iconst P1089 at_246 rfl (v := (0 : Int32)) rfl ?_
            refine own_goto P1089 (pc' := 251) at_247 (by decide) (by decide) ?_
            refine own_icmpN P1089 (pc' := 254) at_251 (not_not_intro (by decide : (0 : Int32) = (0 : Int32))) rfl ?_
            refine own_aload P1089 at_254 rfl rfl rfl ?_
            refine own_virtP P1089 (hw _ (List.mem_of_getElem? (i := 80) rfl)) (hw _ (List.mem_of_getElem? (i := 81) rfl)) (hw _ (List.mem_of_getElem? (i := 83) rfl)) (hw _ (List.mem_of_getElem? (i := 82) rfl)) (hw _ (List.mem_of_getElem? (i := 2) rfl)) (hw _ (List.mem_of_getElem? (i := 84) rfl)) (by decide) f1099 (argsL := []) (rest := []) (rmSize l Z a0 hw b919 (1 : Int32) h1091 f1107) at_256 rfl own_pd7 rfl rfl rfl (by decide) 0 rfl (by decide) rfl rfl (by decide) (by decide) (fun T1118 P1117 => ?_)
            show own_Go p e below _ (T1118.setTop (mkF m 259 #[.val (.int i0), .val (.int i1), .val (.int i2), .val (.int i3), .val (.int i4), .val (.int i5), .val (.int i6), .val (.int (1 : Int32)), .val (.ref b919), .val (.ref b967), .val (.ref b1009), .val (.int (0 : Int32)), .val (.int (0 : Int32)), .val (.int (2 : Int32)), .val (.int (0 : Int32)), .val (.int (1 : Int32)), .unset, .unset, .unset] [(.int (1 : Int32))]))
            refine own_iload P1117 at_259 rfl rfl ?_
            refine own_icmpN P1117 (pc' := 264) at_261 (not_not_intro (by decide : (1 : Int32) = (1 : Int32))) rfl ?_
            refine own_iconst P1117 at_264 rfl (v := (1 : Int32)) rfl ?_
            refine own_goto P1117 (pc' := 269) at_265 (by decide) (by decide) ?_
            refine own_istore P1117 at_269 rfl (Ls' := #[.val (.int i0), .val (.int i1), .val (.int i2), .val (.int i3), .val (.int i4), .val (.int i5), .val (.int i6), .val (.int (1 : Int32)), .val (.ref b919), .val (.ref b967), .val (.ref b1009), .val (.int (0 : Int32)), .val (.int (0 : Int32)), .val (.int (2 : Int32)), .val (.int (0 : Int32)), .val (.int (1 : Int32)), .val (.int (1 : Int32)), .unset, .unset]) rfl ?_
            refine own_aload P1117 at_271 rfl rfl rfl ?_
            refine own_iconst P1117 at_273 rfl (v := (0 : Int32)) rfl ?_
            refine own_virtP P1117 (hw _ (List.mem_of_getElem? (i := 85) rfl)) (hw _ (List.mem_of_getElem? (i := 76) rfl)) (hw _ (List.mem_of_getElem? (i := 78) rfl)) (hw _ (List.mem_of_getElem? (i := 77) rfl)) (hw _ (List.mem_of_getElem? (i := 2) rfl)) (hw _ (List.mem_of_getElem? (i := 79) rfl)) (by decide) f1099 (argsL := [(.int (0 : Int32))]) (rest := []) (rmHolds0 l Z a0 hw b919 co942 (2 : Int32) (0 : Int32) (0 : Int32) (0 : Int32) h1091 f1105 f1112) at_274 rfl own_pd6 rfl rfl rfl (by decide) 0 rfl (by decide) rfl rfl (by decide) (by decide) (fun T1124 P1123 => ?_)
            show own_Go p e below _ (T1124.setTop (mkF m 277 #[.val (.int i0), .val (.int i1), .val (.int i2), .val (.int i3), .val (.int i4), .val (.int i5), .val (.int i6), .val (.int (1 : Int32)), .val (.ref b919), .val (.ref b967), .val (.ref b1009), .val (.int (0 : Int32)), .val (.int (0 : Int32)), .val (.int (2 : Int32)), .val (.int (0 : Int32)), .val (.int (1 : Int32)), .val (.int (1 : Int32)), .unset, .unset] [(.int (own_ho (2 : Int32)))]))
            rw [show (own_ho (2 : Int32)) = (1 : Int32) by decide]
            refine own_iload P1123 at_277 rfl rfl ?_
            refine own_if0N P1123 (pc' := 282) at_279 (not_not_intro (by decide : (0 : Int32) < (2 : Int32))) rfl ?_
            refine own_iconst P1123 at_282 rfl (v := (1 : Int32)) rfl ?_
            refine own_goto P1123 (pc' := 287) at_283 (by decide) (by decide) ?_
            refine own_icmpN P1123 (pc' := 290) at_287 (not_not_intro (by decide : (1 : Int32) = (1 : Int32))) rfl ?_
            refine own_iconst P1123 at_290 rfl (v := (1 : Int32)) rfl ?_
            refine own_goto P1123 (pc' := 295) at_291 (by decide) (by decide) ?_
            refine own_istore P1123 at_295 rfl (Ls' := #[.val (.int i0), .val (.int i1), .val (.int i2), .val (.int i3), .val (.int i4), .val (.int i5), .val (.int i6), .val (.int (1 : Int32)), .val (.ref b919), .val (.ref b967), .val (.ref b1009), .val (.int (0 : Int32)), .val (.int (0 : Int32)), .val (.int (2 : Int32)), .val (.int (0 : Int32)), .val (.int (1 : Int32)), .val (.int (1 : Int32)), .val (.int (1 : Int32)), .unset]) rfl ?_
            refine own_iload P1123 at_297 rfl rfl ?_
            refine own_if0Y P1123 (pc' := 321) at_299 (by decide : ¬ ((1 : Int32) = (0 : Int32))) (by decide) (by decide) ?_
            refine own_iconst P1123 at_321 rfl (v := (1 : Int32)) rfl ?_
            refine own_goto P1123 (pc' := 326) at_322 (by decide) (by decide) ?_
            refine own_istore P1123 at_326 rfl (Ls' := #[.val (.int i0), .val (.int i1), .val (.int i2), .val (.int i3), .val (.int i4), .val (.int i5), .val (.int i6), .val (.int (1 : Int32)), .val (.ref b919), .val (.ref b967), .val (.ref b1009), .val (.int (0 : Int32)), .val (.int (0 : Int32)), .val (.int (2 : Int32)), .val (.int (0 : Int32)), .val (.int (1 : Int32)), .val (.int (1 : Int32)), .val (.int (1 : Int32)), .val (.int (1 : Int32))]) rfl ?_
            refine own_iload P1123 at_328 rfl rfl ?_
            refine own_if0N P1123 (pc' := 333) at_330 (by decide : ¬ ((1 : Int32) = (0 : Int32))) rfl ?_
            refine own_iload P1123 at_333 rfl rfl ?_
            refine own_if0N P1123 (pc' := 338) at_335 (by decide : ¬ ((1 : Int32) = (0 : Int32))) rfl ?_
            refine own_iload P1123 at_338 rfl rfl ?_
            refine own_if0N P1123 (pc' := 343) at_340 (by decide : ¬ ((1 : Int32) = (0 : Int32))) rfl ?_
            refine own_iconst P1123 at_343 rfl (v := (1 : Int32)) rfl ?_
            refine own_goto P1123 (pc' := 348) at_344 (by decide) (by decide) ?_
            exact own_retZ P1123 at_348 (z := (1 : Int32)) rfl (by decide) (by decide) (hQ _ _ N1098)
          · rw [if_neg hc1116] at hQ
            refine own_if0N P1089 (pc' := 208) at_205 hc1116 rfl ?_
            refine own_aload P1089 at_208 rfl rfl rfl ?_
            refine own_aload P1089 at_210 rfl rfl rfl ?_
            refine own_virt P1089 (hw _ (List.mem_of_getElem? (i := 20) rfl)) (hw _ (List.mem_of_getElem? (i := 21) rfl)) (hw _ (List.mem_of_getElem? (i := 23) rfl)) (hw _ (List.mem_of_getElem? (i := 22) rfl)) (hw _ (List.mem_of_getElem? (i := 2) rfl)) (hw _ (List.mem_of_getElem? (i := 24) rfl)) (by decide) f1099 (argsL := [(.ref b967)]) (rest := []) (rmAddA l Z a0 hw b919 b967 ro941 co942 bp943 so1060 i0 i0 (0 : Int32) (0 : Int32) (0 : Int32) (2 : Int32) (0 : Int32) (0 : Int32) (0 : Int32) (1 : Int32) ((own_hv i0) &&& (15 : Int32)) (own_s1 i0) h1091 n0 (Nat.le_trans (Nat.le_trans (Nat.le_trans (Nat.le_trans (Nat.le_trans (Nat.le_trans (Nat.le_trans (Nat.le_trans Z0 E921.1) k945.1) E969.1) (Keep.of_wr W994).1) E1011.1) (Keep.of_wr W1038).1) k1062.1) k1096.1) g927 g946 g947 hg1063 ne948 ne949 ne950 ne951 ne952 ne953 ne1077 ne1078 ne1079 ne1080 ne974 ne975 ne976 ne977 (Ne.symm ne1081) f1099 f1103 f1104 f1105 f1106 f1107 f1108 f1109 f1110 f1112 f1100 f1111 f1101 (own_l1 i0) rfl (own_a1 i0)) at_212 rfl own_pd4 rfl rfl rfl (by decide) 0 rfl (by decide) (by decide) (by decide) (fun T1130 h1131 v1132 L1133 hq1134 P1129 => ?_)
            obtain ⟨rfl, n1135, k1136, f1137⟩ := hq1134
            have N1138 := Fr.app N1098 n1135
            have f1139 := f1099.keep k1136
            have f1140 := f1100.keep k1136 (ninS (Ne.symm ne953) nin0)
            have f1141 := f1101.keep k1136 (ninS (Ne.symm ne976) nin0)
            have f1142 := f1102.keep k1136 (ninS (Ne.symm ne1018) nin0)
            have f1143 := f1103.keep k1136 (ninS ne949 nin0)
            have f1144 := f1104.keep k1136 (ninS ne949 nin0)
            have f1145 := f1105.keep k1136 (ninS ne949 nin0)
            have f1146 := f1106.keep k1136 (ninS ne949 nin0)
            have f1147 := f1107.keep k1136 (ninS ne949 nin0)
            have f1148 := f1108.keep k1136 (ninS ne949 nin0)
            have f1149 := f1109.keep k1136 (ninS ne949 nin0)
            have f1150 := f1110.keep k1136 (ninS ne950 nin0)
            have f1151 := f1111.keep k1136 (ninS (Ne.symm ne1079) nin0)
            have f1152 : own_Ar Z h1131 co942 .int [(3 : Int32), (0 : Int32), (0 : Int32), (0 : Int32)] := f1137
            show own_Go p e below _ (T1130.setTop (mkF m 215 #[.val (.int i0), .val (.int i1), .val (.int i2), .val (.int i3), .val (.int i4), .val (.int i5), .val (.int i6), .val (.int (1 : Int32)), .val (.ref b919), .val (.ref b967), .val (.ref b1009), .val (.int (0 : Int32)), .val (.int (0 : Int32)), .val (.int (2 : Int32)), .val (.int (0 : Int32)), .unset, .unset, .unset, .unset] [(.int (0 : Int32))]))
            refine own_pop P1129 at_215 rfl rfl ?_
            refine own_iload P1129 at_216 rfl rfl ?_
            refine own_iconst P1129 at_218 rfl (v := (1 : Int32)) rfl ?_
            refine own_iadd P1129 at_219 rfl ?_
            rw [show ((2 : Int32) + (1 : Int32)) = (3 : Int32) by decide]
            refine own_istore P1129 at_220 rfl (Ls' := #[.val (.int i0), .val (.int i1), .val (.int i2), .val (.int i3), .val (.int i4), .val (.int i5), .val (.int i6), .val (.int (1 : Int32)), .val (.ref b919), .val (.ref b967), .val (.ref b1009), .val (.int (0 : Int32)), .val (.int (0 : Int32)), .val (.int (3 : Int32)), .val (.int (0 : Int32)), .unset, .unset, .unset, .unset]) rfl ?_
            refine own_iload P1129 at_222 rfl rfl ?_
            refine own_if0N P1129 (pc' := 227) at_224 (by decide : ¬ ((1 : Int32) = (0 : Int32))) rfl ?_
            refine own_iconst P1129 at_227 rfl (v := (1 : Int32)) rfl ?_
            refine own_goto P1129 (pc' := 232) at_228 (by decide) (by decide) ?_
            refine own_istore P1129 at_232 rfl (Ls' := #[.val (.int i0), .val (.int i1), .val (.int i2), .val (.int i3), .val (.int i4), .val (.int i5), .val (.int i6), .val (.int (1 : Int32)), .val (.ref b919), .val (.ref b967), .val (.ref b1009), .val (.int (0 : Int32)), .val (.int (0 : Int32)), .val (.int (3 : Int32)), .val (.int (0 : Int32)), .val (.int (1 : Int32)), .unset, .unset, .unset]) rfl ?_
            refine own_iload P1129 at_234 rfl rfl ?_
            refine own_if0N P1129 (pc' := 239) at_236 (not_not_intro (by decide : (0 : Int32) = (0 : Int32))) rfl ?_
            refine own_iload P1129 at_239 rfl rfl ?_
            refine own_iload P1129 at_241 rfl rfl ?_
            refine own_if0N P1129 (pc' := 246) at_243 (by decide : ¬ ((1 : Int32) = (0 : Int32))) rfl ?_
            refine own_iconst P1129 at_246 rfl (v := (0 : Int32)) rfl ?_
            refine own_goto P1129 (pc' := 251) at_247 (by decide) (by decide) ?_
            refine own_icmpN P1129 (pc' := 254) at_251 (not_not_intro (by decide : (0 : Int32) = (0 : Int32))) rfl ?_
            refine own_aload P1129 at_254 rfl rfl rfl ?_
            refine own_virtP P1129 (hw _ (List.mem_of_getElem? (i := 80) rfl)) (hw _ (List.mem_of_getElem? (i := 81) rfl)) (hw _ (List.mem_of_getElem? (i := 83) rfl)) (hw _ (List.mem_of_getElem? (i := 82) rfl)) (hw _ (List.mem_of_getElem? (i := 2) rfl)) (hw _ (List.mem_of_getElem? (i := 84) rfl)) (by decide) f1139 (argsL := []) (rest := []) (rmSize l Z a0 hw b919 (1 : Int32) h1131 f1147) at_256 rfl own_pd7 rfl rfl rfl (by decide) 0 rfl (by decide) rfl rfl (by decide) (by decide) (fun T1154 P1153 => ?_)
            show own_Go p e below _ (T1154.setTop (mkF m 259 #[.val (.int i0), .val (.int i1), .val (.int i2), .val (.int i3), .val (.int i4), .val (.int i5), .val (.int i6), .val (.int (1 : Int32)), .val (.ref b919), .val (.ref b967), .val (.ref b1009), .val (.int (0 : Int32)), .val (.int (0 : Int32)), .val (.int (3 : Int32)), .val (.int (0 : Int32)), .val (.int (1 : Int32)), .unset, .unset, .unset] [(.int (1 : Int32))]))
            refine own_iload P1153 at_259 rfl rfl ?_
            refine own_icmpN P1153 (pc' := 264) at_261 (not_not_intro (by decide : (1 : Int32) = (1 : Int32))) rfl ?_
            refine own_iconst P1153 at_264 rfl (v := (1 : Int32)) rfl ?_
            refine own_goto P1153 (pc' := 269) at_265 (by decide) (by decide) ?_
            refine own_istore P1153 at_269 rfl (Ls' := #[.val (.int i0), .val (.int i1), .val (.int i2), .val (.int i3), .val (.int i4), .val (.int i5), .val (.int i6), .val (.int (1 : Int32)), .val (.ref b919), .val (.ref b967), .val (.ref b1009), .val (.int (0 : Int32)), .val (.int (0 : Int32)), .val (.int (3 : Int32)), .val (.int (0 : Int32)), .val (.int (1 : Int32)), .val (.int (1 : Int32)), .unset, .unset]) rfl ?_
            refine own_aload P1153 at_271 rfl rfl rfl ?_
            refine own_iconst P1153 at_273 rfl (v := (0 : Int32)) rfl ?_
            refine own_virtP P1153 (hw _ (List.mem_of_getElem? (i := 85) rfl)) (hw _ (List.mem_of_getElem? (i := 76) rfl)) (hw _ (List.mem_of_getElem? (i := 78) rfl)) (hw _ (List.mem_of_getElem? (i := 77) rfl)) (hw _ (List.mem_of_getElem? (i := 2) rfl)) (hw _ (List.mem_of_getElem? (i := 79) rfl)) (by decide) f1139 (argsL := [(.int (0 : Int32))]) (rest := []) (rmHolds0 l Z a0 hw b919 co942 (3 : Int32) (0 : Int32) (0 : Int32) (0 : Int32) h1131 f1145 f1152) at_274 rfl own_pd6 rfl rfl rfl (by decide) 0 rfl (by decide) rfl rfl (by decide) (by decide) (fun T1160 P1159 => ?_)
            show own_Go p e below _ (T1160.setTop (mkF m 277 #[.val (.int i0), .val (.int i1), .val (.int i2), .val (.int i3), .val (.int i4), .val (.int i5), .val (.int i6), .val (.int (1 : Int32)), .val (.ref b919), .val (.ref b967), .val (.ref b1009), .val (.int (0 : Int32)), .val (.int (0 : Int32)), .val (.int (3 : Int32)), .val (.int (0 : Int32)), .val (.int (1 : Int32)), .val (.int (1 : Int32)), .unset, .unset] [(.int (own_ho (3 : Int32)))]))
            rw [show (own_ho (3 : Int32)) = (1 : Int32) by decide]
            refine own_iload P1159 at_277 rfl rfl ?_
            refine own_if0N P1159 (pc' := 282) at_279 (not_not_intro (by decide : (0 : Int32) < (3 : Int32))) rfl ?_
            refine own_iconst P1159 at_282 rfl (v := (1 : Int32)) rfl ?_
            refine own_goto P1159 (pc' := 287) at_283 (by decide) (by decide) ?_
            refine own_icmpN P1159 (pc' := 290) at_287 (not_not_intro (by decide : (1 : Int32) = (1 : Int32))) rfl ?_
            refine own_iconst P1159 at_290 rfl (v := (1 : Int32)) rfl ?_
            refine own_goto P1159 (pc' := 295) at_291 (by decide) (by decide) ?_
            refine own_istore P1159 at_295 rfl (Ls' := #[.val (.int i0), .val (.int i1), .val (.int i2), .val (.int i3), .val (.int i4), .val (.int i5), .val (.int i6), .val (.int (1 : Int32)), .val (.ref b919), .val (.ref b967), .val (.ref b1009), .val (.int (0 : Int32)), .val (.int (0 : Int32)), .val (.int (3 : Int32)), .val (.int (0 : Int32)), .val (.int (1 : Int32)), .val (.int (1 : Int32)), .val (.int (1 : Int32)), .unset]) rfl ?_
            refine own_iload P1159 at_297 rfl rfl ?_
            refine own_if0Y P1159 (pc' := 321) at_299 (by decide : ¬ ((1 : Int32) = (0 : Int32))) (by decide) (by decide) ?_
            refine own_iconst P1159 at_321 rfl (v := (1 : Int32)) rfl ?_
            refine own_goto P1159 (pc' := 326) at_322 (by decide) (by decide) ?_
            refine own_istore P1159 at_326 rfl (Ls' := #[.val (.int i0), .val (.int i1), .val (.int i2), .val (.int i3), .val (.int i4), .val (.int i5), .val (.int i6), .val (.int (1 : Int32)), .val (.ref b919), .val (.ref b967), .val (.ref b1009), .val (.int (0 : Int32)), .val (.int (0 : Int32)), .val (.int (3 : Int32)), .val (.int (0 : Int32)), .val (.int (1 : Int32)), .val (.int (1 : Int32)), .val (.int (1 : Int32)), .val (.int (1 : Int32))]) rfl ?_
            refine own_iload P1159 at_328 rfl rfl ?_
            refine own_if0N P1159 (pc' := 333) at_330 (by decide : ¬ ((1 : Int32) = (0 : Int32))) rfl ?_
            refine own_iload P1159 at_333 rfl rfl ?_
            refine own_if0N P1159 (pc' := 338) at_335 (by decide : ¬ ((1 : Int32) = (0 : Int32))) rfl ?_
            refine own_iload P1159 at_338 rfl rfl ?_
            refine own_if0N P1159 (pc' := 343) at_340 (by decide : ¬ ((1 : Int32) = (0 : Int32))) rfl ?_
            refine own_iconst P1159 at_343 rfl (v := (1 : Int32)) rfl ?_
            refine own_goto P1159 (pc' := 348) at_344 (by decide) (by decide) ?_
            exact own_retZ P1159 at_348 (z := (1 : Int32)) rfl (by decide) (by decide) (hQ _ _ N1138)
        · rw [if_neg hc1115] at hQ
          refine own_if0N P1089 (pc' := 175) at_172 hc1115 rfl ?_
          refine own_aload P1089 at_175 rfl rfl rfl ?_
          refine own_aload P1089 at_177 rfl rfl rfl ?_
          refine own_virt P1089 (hw _ (List.mem_of_getElem? (i := 65) rfl)) (hw _ (List.mem_of_getElem? (i := 66) rfl)) (hw _ (List.mem_of_getElem? (i := 68) rfl)) (hw _ (List.mem_of_getElem? (i := 67) rfl)) (hw _ (List.mem_of_getElem? (i := 2) rfl)) (hw _ (List.mem_of_getElem? (i := 69) rfl)) (by decide) f1099 (argsL := [(.ref b1009)]) (rest := []) (rmRem0 l Z a0 hw b919 b1009 ro941 co942 bp943 so1060 i1 i0 (0 : Int32) (0 : Int32) (0 : Int32) (2 : Int32) (0 : Int32) (0 : Int32) (0 : Int32) (1 : Int32) ((own_hv i0) &&& (15 : Int32)) (own_s1 i0) h1091 n0 (Nat.le_trans (Nat.le_trans (Nat.le_trans (Nat.le_trans (Nat.le_trans (Nat.le_trans (Nat.le_trans (Nat.le_trans Z0 E921.1) k945.1) E969.1) (Keep.of_wr W994).1) E1011.1) (Keep.of_wr W1038).1) k1062.1) k1096.1) g927 g946 g947 hg1063 ne948 ne949 ne950 ne951 ne952 ne953 ne1077 ne1078 ne1079 ne1080 ne1016 ne1017 ne1018 ne1019 (Ne.symm ne1082) f1099 f1103 f1104 f1105 f1106 f1107 f1108 f1109 f1110 f1112 f1100 f1111 f1102 (own_l1 i0) hab (own_a1' i0 i1 hab) (by decide)) at_179 rfl own_pd4 rfl rfl rfl (by decide) 0 rfl (by decide) (by decide) (by decide) (fun T1166 h1167 v1168 L1169 hq1170 P1165 => ?_)
          obtain ⟨rfl, n1171, k1172, f1173⟩ := hq1170
          have N1174 := Fr.app N1098 n1171
          have f1175 := f1099.keep k1172
          have f1176 := f1100.keep k1172 (ninS (Ne.symm ne953) nin0)
          have f1177 := f1101.keep k1172 (ninS (Ne.symm ne976) nin0)
          have f1178 := f1102.keep k1172 (ninS (Ne.symm ne1018) nin0)
          have f1179 := f1103.keep k1172 (ninS ne949 nin0)
          have f1180 := f1104.keep k1172 (ninS ne949 nin0)
          have f1181 := f1105.keep k1172 (ninS ne949 nin0)
          have f1182 := f1106.keep k1172 (ninS ne949 nin0)
          have f1183 := f1107.keep k1172 (ninS ne949 nin0)
          have f1184 := f1108.keep k1172 (ninS ne949 nin0)
          have f1185 := f1109.keep k1172 (ninS ne949 nin0)
          have f1186 := f1110.keep k1172 (ninS ne950 nin0)
          have f1187 := f1111.keep k1172 (ninS (Ne.symm ne1079) nin0)
          have f1188 : own_Ar Z h1167 co942 .int [(1 : Int32), (0 : Int32), (0 : Int32), (0 : Int32)] := f1173
          show own_Go p e below _ (T1166.setTop (mkF m 182 #[.val (.int i0), .val (.int i1), .val (.int i2), .val (.int i3), .val (.int i4), .val (.int i5), .val (.int i6), .val (.int (1 : Int32)), .val (.ref b919), .val (.ref b967), .val (.ref b1009), .val (.int (0 : Int32)), .val (.int (0 : Int32)), .val (.int (2 : Int32)), .val (.int (0 : Int32)), .unset, .unset, .unset, .unset] [(.int (0 : Int32))]))
          refine own_pop P1165 at_182 rfl rfl ?_
          refine own_iload P1165 at_183 rfl rfl ?_
          refine own_if0N P1165 (pc' := 188) at_185 (by decide : ¬ ((1 : Int32) = (0 : Int32))) rfl ?_
          refine own_iload P1165 at_188 rfl rfl ?_
          refine own_iconst P1165 at_190 rfl (v := (1 : Int32)) rfl ?_
          refine own_isub P1165 at_191 rfl ?_
          rw [show ((2 : Int32) - (1 : Int32)) = (1 : Int32) by decide]
          refine own_istore P1165 at_192 rfl (Ls' := #[.val (.int i0), .val (.int i1), .val (.int i2), .val (.int i3), .val (.int i4), .val (.int i5), .val (.int i6), .val (.int (1 : Int32)), .val (.ref b919), .val (.ref b967), .val (.ref b1009), .val (.int (0 : Int32)), .val (.int (0 : Int32)), .val (.int (1 : Int32)), .val (.int (0 : Int32)), .unset, .unset, .unset, .unset]) rfl ?_
          refine own_goto P1165 (pc' := 203) at_194 (by decide) (by decide) ?_
          refine own_iload P1165 at_203 rfl rfl ?_
          by_cases hc1189 : i6 = (0 : Int32)
          · rw [if_pos hc1189] at hQ
            refine own_if0Y P1165 (pc' := 222) at_205 hc1189 (by decide) (by decide) ?_
            refine own_iload P1165 at_222 rfl rfl ?_
            refine own_if0N P1165 (pc' := 227) at_224 (by decide : ¬ ((1 : Int32) = (0 : Int32))) rfl ?_
            refine own_iconst P1165 at_227 rfl (v := (1 : Int32)) rfl ?_
            refine own_goto P1165 (pc' := 232) at_228 (by decide) (by decide) ?_
            refine own_istore P1165 at_232 rfl (Ls' := #[.val (.int i0), .val (.int i1), .val (.int i2), .val (.int i3), .val (.int i4), .val (.int i5), .val (.int i6), .val (.int (1 : Int32)), .val (.ref b919), .val (.ref b967), .val (.ref b1009), .val (.int (0 : Int32)), .val (.int (0 : Int32)), .val (.int (1 : Int32)), .val (.int (0 : Int32)), .val (.int (1 : Int32)), .unset, .unset, .unset]) rfl ?_
            refine own_iload P1165 at_234 rfl rfl ?_
            refine own_if0N P1165 (pc' := 239) at_236 (not_not_intro (by decide : (0 : Int32) = (0 : Int32))) rfl ?_
            refine own_iload P1165 at_239 rfl rfl ?_
            refine own_iload P1165 at_241 rfl rfl ?_
            refine own_if0N P1165 (pc' := 246) at_243 (by decide : ¬ ((1 : Int32) = (0 : Int32))) rfl ?_
            refine own_iconst P1165 at_246 rfl (v := (0 : Int32)) rfl ?_
            refine own_goto P1165 (pc' := 251) at_247 (by decide) (by decide) ?_
            refine own_icmpN P1165 (pc' := 254) at_251 (not_not_intro (by decide : (0 : Int32) = (0 : Int32))) rfl ?_
            refine own_aload P1165 at_254 rfl rfl rfl ?_
            refine own_virtP P1165 (hw _ (List.mem_of_getElem? (i := 80) rfl)) (hw _ (List.mem_of_getElem? (i := 81) rfl)) (hw _ (List.mem_of_getElem? (i := 83) rfl)) (hw _ (List.mem_of_getElem? (i := 82) rfl)) (hw _ (List.mem_of_getElem? (i := 2) rfl)) (hw _ (List.mem_of_getElem? (i := 84) rfl)) (by decide) f1175 (argsL := []) (rest := []) (rmSize l Z a0 hw b919 (1 : Int32) h1167 f1183) at_256 rfl own_pd7 rfl rfl rfl (by decide) 0 rfl (by decide) rfl rfl (by decide) (by decide) (fun T1191 P1190 => ?_)
            show own_Go p e below _ (T1191.setTop (mkF m 259 #[.val (.int i0), .val (.int i1), .val (.int i2), .val (.int i3), .val (.int i4), .val (.int i5), .val (.int i6), .val (.int (1 : Int32)), .val (.ref b919), .val (.ref b967), .val (.ref b1009), .val (.int (0 : Int32)), .val (.int (0 : Int32)), .val (.int (1 : Int32)), .val (.int (0 : Int32)), .val (.int (1 : Int32)), .unset, .unset, .unset] [(.int (1 : Int32))]))
            refine own_iload P1190 at_259 rfl rfl ?_
            refine own_icmpN P1190 (pc' := 264) at_261 (not_not_intro (by decide : (1 : Int32) = (1 : Int32))) rfl ?_
            refine own_iconst P1190 at_264 rfl (v := (1 : Int32)) rfl ?_
            refine own_goto P1190 (pc' := 269) at_265 (by decide) (by decide) ?_
            refine own_istore P1190 at_269 rfl (Ls' := #[.val (.int i0), .val (.int i1), .val (.int i2), .val (.int i3), .val (.int i4), .val (.int i5), .val (.int i6), .val (.int (1 : Int32)), .val (.ref b919), .val (.ref b967), .val (.ref b1009), .val (.int (0 : Int32)), .val (.int (0 : Int32)), .val (.int (1 : Int32)), .val (.int (0 : Int32)), .val (.int (1 : Int32)), .val (.int (1 : Int32)), .unset, .unset]) rfl ?_
            refine own_aload P1190 at_271 rfl rfl rfl ?_
            refine own_iconst P1190 at_273 rfl (v := (0 : Int32)) rfl ?_
            refine own_virtP P1190 (hw _ (List.mem_of_getElem? (i := 85) rfl)) (hw _ (List.mem_of_getElem? (i := 76) rfl)) (hw _ (List.mem_of_getElem? (i := 78) rfl)) (hw _ (List.mem_of_getElem? (i := 77) rfl)) (hw _ (List.mem_of_getElem? (i := 2) rfl)) (hw _ (List.mem_of_getElem? (i := 79) rfl)) (by decide) f1175 (argsL := [(.int (0 : Int32))]) (rest := []) (rmHolds0 l Z a0 hw b919 co942 (1 : Int32) (0 : Int32) (0 : Int32) (0 : Int32) h1167 f1181 f1188) at_274 rfl own_pd6 rfl rfl rfl (by decide) 0 rfl (by decide) rfl rfl (by decide) (by decide) (fun T1197 P1196 => ?_)
            show own_Go p e below _ (T1197.setTop (mkF m 277 #[.val (.int i0), .val (.int i1), .val (.int i2), .val (.int i3), .val (.int i4), .val (.int i5), .val (.int i6), .val (.int (1 : Int32)), .val (.ref b919), .val (.ref b967), .val (.ref b1009), .val (.int (0 : Int32)), .val (.int (0 : Int32)), .val (.int (1 : Int32)), .val (.int (0 : Int32)), .val (.int (1 : Int32)), .val (.int (1 : Int32)), .unset, .unset] [(.int (own_ho (1 : Int32)))]))
            rw [show (own_ho (1 : Int32)) = (1 : Int32) by decide]
            refine own_iload P1196 at_277 rfl rfl ?_
            refine own_if0N P1196 (pc' := 282) at_279 (not_not_intro (by decide : (0 : Int32) < (1 : Int32))) rfl ?_
            refine own_iconst P1196 at_282 rfl (v := (1 : Int32)) rfl ?_
            refine own_goto P1196 (pc' := 287) at_283 (by decide) (by decide) ?_
            refine own_icmpN P1196 (pc' := 290) at_287 (not_not_intro (by decide : (1 : Int32) = (1 : Int32))) rfl ?_
            refine own_iconst P1196 at_290 rfl (v := (1 : Int32)) rfl ?_
            refine own_goto P1196 (pc' := 295) at_291 (by decide) (by decide) ?_
            refine own_istore P1196 at_295 rfl (Ls' := #[.val (.int i0), .val (.int i1), .val (.int i2), .val (.int i3), .val (.int i4), .val (.int i5), .val (.int i6), .val (.int (1 : Int32)), .val (.ref b919), .val (.ref b967), .val (.ref b1009), .val (.int (0 : Int32)), .val (.int (0 : Int32)), .val (.int (1 : Int32)), .val (.int (0 : Int32)), .val (.int (1 : Int32)), .val (.int (1 : Int32)), .val (.int (1 : Int32)), .unset]) rfl ?_
            refine own_iload P1196 at_297 rfl rfl ?_
            refine own_if0Y P1196 (pc' := 321) at_299 (by decide : ¬ ((1 : Int32) = (0 : Int32))) (by decide) (by decide) ?_
            refine own_iconst P1196 at_321 rfl (v := (1 : Int32)) rfl ?_
            refine own_goto P1196 (pc' := 326) at_322 (by decide) (by decide) ?_
            refine own_istore P1196 at_326 rfl (Ls' := #[.val (.int i0), .val (.int i1), .val (.int i2), .val (.int i3), .val (.int i4), .val (.int i5), .val (.int i6), .val (.int (1 : Int32)), .val (.ref b919), .val (.ref b967), .val (.ref b1009), .val (.int (0 : Int32)), .val (.int (0 : Int32)), .val (.int (1 : Int32)), .val (.int (0 : Int32)), .val (.int (1 : Int32)), .val (.int (1 : Int32)), .val (.int (1 : Int32)), .val (.int (1 : Int32))]) rfl ?_
            refine own_iload P1196 at_328 rfl rfl ?_
            refine own_if0N P1196 (pc' := 333) at_330 (by decide : ¬ ((1 : Int32) = (0 : Int32))) rfl ?_
            refine own_iload P1196 at_333 rfl rfl ?_
            refine own_if0N P1196 (pc' := 338) at_335 (by decide : ¬ ((1 : Int32) = (0 : Int32))) rfl ?_
            refine own_iload P1196 at_338 rfl rfl ?_
            refine own_if0N P1196 (pc' := 343) at_340 (by decide : ¬ ((1 : Int32) = (0 : Int32))) rfl ?_
            refine own_iconst P1196 at_343 rfl (v := (1 : Int32)) rfl ?_
            refine own_goto P1196 (pc' := 348) at_344 (by decide) (by decide) ?_
            exact own_retZ P1196 at_348 (z := (1 : Int32)) rfl (by decide) (by decide) (hQ _ _ N1174)
          · rw [if_neg hc1189] at hQ
            refine own_if0N P1165 (pc' := 208) at_205 hc1189 rfl ?_
            refine own_aload P1165 at_208 rfl rfl rfl ?_
            refine own_aload P1165 at_210 rfl rfl rfl ?_
            refine own_virt P1165 (hw _ (List.mem_of_getElem? (i := 20) rfl)) (hw _ (List.mem_of_getElem? (i := 21) rfl)) (hw _ (List.mem_of_getElem? (i := 23) rfl)) (hw _ (List.mem_of_getElem? (i := 22) rfl)) (hw _ (List.mem_of_getElem? (i := 2) rfl)) (hw _ (List.mem_of_getElem? (i := 24) rfl)) (by decide) f1175 (argsL := [(.ref b967)]) (rest := []) (rmAddA l Z a0 hw b919 b967 ro941 co942 bp943 so1060 i0 i0 (0 : Int32) (0 : Int32) (0 : Int32) (1 : Int32) (0 : Int32) (0 : Int32) (0 : Int32) (1 : Int32) ((own_hv i0) &&& (15 : Int32)) (own_s1 i0) h1167 n0 (Nat.le_trans (Nat.le_trans (Nat.le_trans (Nat.le_trans (Nat.le_trans (Nat.le_trans (Nat.le_trans (Nat.le_trans (Nat.le_trans Z0 E921.1) k945.1) E969.1) (Keep.of_wr W994).1) E1011.1) (Keep.of_wr W1038).1) k1062.1) k1096.1) k1172.1) g927 g946 g947 hg1063 ne948 ne949 ne950 ne951 ne952 ne953 ne1077 ne1078 ne1079 ne1080 ne974 ne975 ne976 ne977 (Ne.symm ne1081) f1175 f1179 f1180 f1181 f1182 f1183 f1184 f1185 f1186 f1188 f1176 f1187 f1177 (own_l1 i0) rfl (own_a1 i0)) at_212 rfl own_pd4 rfl rfl rfl (by decide) 0 rfl (by decide) (by decide) (by decide) (fun T1203 h1204 v1205 L1206 hq1207 P1202 => ?_)
            obtain ⟨rfl, n1208, k1209, f1210⟩ := hq1207
            have N1211 := Fr.app N1174 n1208
            have f1212 := f1175.keep k1209
            have f1213 := f1176.keep k1209 (ninS (Ne.symm ne953) nin0)
            have f1214 := f1177.keep k1209 (ninS (Ne.symm ne976) nin0)
            have f1215 := f1178.keep k1209 (ninS (Ne.symm ne1018) nin0)
            have f1216 := f1179.keep k1209 (ninS ne949 nin0)
            have f1217 := f1180.keep k1209 (ninS ne949 nin0)
            have f1218 := f1181.keep k1209 (ninS ne949 nin0)
            have f1219 := f1182.keep k1209 (ninS ne949 nin0)
            have f1220 := f1183.keep k1209 (ninS ne949 nin0)
            have f1221 := f1184.keep k1209 (ninS ne949 nin0)
            have f1222 := f1185.keep k1209 (ninS ne949 nin0)
            have f1223 := f1186.keep k1209 (ninS ne950 nin0)
            have f1224 := f1187.keep k1209 (ninS (Ne.symm ne1079) nin0)
            have f1225 : own_Ar Z h1204 co942 .int [(2 : Int32), (0 : Int32), (0 : Int32), (0 : Int32)] := f1210
            show own_Go p e below _ (T1203.setTop (mkF m 215 #[.val (.int i0), .val (.int i1), .val (.int i2), .val (.int i3), .val (.int i4), .val (.int i5), .val (.int i6), .val (.int (1 : Int32)), .val (.ref b919), .val (.ref b967), .val (.ref b1009), .val (.int (0 : Int32)), .val (.int (0 : Int32)), .val (.int (1 : Int32)), .val (.int (0 : Int32)), .unset, .unset, .unset, .unset] [(.int (0 : Int32))]))
            refine own_pop P1202 at_215 rfl rfl ?_
            refine own_iload P1202 at_216 rfl rfl ?_
            refine own_iconst P1202 at_218 rfl (v := (1 : Int32)) rfl ?_
            refine own_iadd P1202 at_219 rfl ?_
            rw [show ((1 : Int32) + (1 : Int32)) = (2 : Int32) by decide]
            refine own_istore P1202 at_220 rfl (Ls' := #[.val (.int i0), .val (.int i1), .val (.int i2), .val (.int i3), .val (.int i4), .val (.int i5), .val (.int i6), .val (.int (1 : Int32)), .val (.ref b919), .val (.ref b967), .val (.ref b1009), .val (.int (0 : Int32)), .val (.int (0 : Int32)), .val (.int (2 : Int32)), .val (.int (0 : Int32)), .unset, .unset, .unset, .unset]) rfl ?_
            refine own_iload P1202 at_222 rfl rfl ?_
            refine own_if0N P1202 (pc' := 227) at_224 (by decide : ¬ ((1 : Int32) = (0 : Int32))) rfl ?_
            refine own_iconst P1202 at_227 rfl (v := (1 : Int32)) rfl ?_
            refine own_goto P1202 (pc' := 232) at_228 (by decide) (by decide) ?_
            refine own_istore P1202 at_232 rfl (Ls' := #[.val (.int i0), .val (.int i1), .val (.int i2), .val (.int i3), .val (.int i4), .val (.int i5), .val (.int i6), .val (.int (1 : Int32)), .val (.ref b919), .val (.ref b967), .val (.ref b1009), .val (.int (0 : Int32)), .val (.int (0 : Int32)), .val (.int (2 : Int32)), .val (.int (0 : Int32)), .val (.int (1 : Int32)), .unset, .unset, .unset]) rfl ?_
            refine own_iload P1202 at_234 rfl rfl ?_
            refine own_if0N P1202 (pc' := 239) at_236 (not_not_intro (by decide : (0 : Int32) = (0 : Int32))) rfl ?_
            refine own_iload P1202 at_239 rfl rfl ?_
            refine own_iload P1202 at_241 rfl rfl ?_
            refine own_if0N P1202 (pc' := 246) at_243 (by decide : ¬ ((1 : Int32) = (0 : Int32))) rfl ?_
            refine own_iconst P1202 at_246 rfl (v := (0 : Int32)) rfl ?_
            refine own_goto P1202 (pc' := 251) at_247 (by decide) (by decide) ?_
            refine own_icmpN P1202 (pc' := 254) at_251 (not_not_intro (by decide : (0 : Int32) = (0 : Int32))) rfl ?_
            refine own_aload P1202 at_254 rfl rfl rfl ?_
            refine own_virtP P1202 (hw _ (List.mem_of_getElem? (i := 80) rfl)) (hw _ (List.mem_of_getElem? (i := 81) rfl)) (hw _ (List.mem_of_getElem? (i := 83) rfl)) (hw _ (List.mem_of_getElem? (i := 82) rfl)) (hw _ (List.mem_of_getElem? (i := 2) rfl)) (hw _ (List.mem_of_getElem? (i := 84) rfl)) (by decide) f1212 (argsL := []) (rest := []) (rmSize l Z a0 hw b919 (1 : Int32) h1204 f1220) at_256 rfl own_pd7 rfl rfl rfl (by decide) 0 rfl (by decide) rfl rfl (by decide) (by decide) (fun T1227 P1226 => ?_)
            show own_Go p e below _ (T1227.setTop (mkF m 259 #[.val (.int i0), .val (.int i1), .val (.int i2), .val (.int i3), .val (.int i4), .val (.int i5), .val (.int i6), .val (.int (1 : Int32)), .val (.ref b919), .val (.ref b967), .val (.ref b1009), .val (.int (0 : Int32)), .val (.int (0 : Int32)), .val (.int (2 : Int32)), .val (.int (0 : Int32)), .val (.int (1 : Int32)), .unset, .unset, .unset] [(.int (1 : Int32))]))
            refine own_iload P1226 at_259 rfl rfl ?_
            refine own_icmpN P1226 (pc' := 264) at_261 (not_not_intro (by decide : (1 : Int32) = (1 : Int32))) rfl ?_
            refine own_iconst P1226 at_264 rfl (v := (1 : Int32)) rfl ?_
            refine own_goto P1226 (pc' := 269) at_265 (by decide) (by decide) ?_
            refine own_istore P1226 at_269 rfl (Ls' := #[.val (.int i0), .val (.int i1), .val (.int i2), .val (.int i3), .val (.int i4), .val (.int i5), .val (.int i6), .val (.int (1 : Int32)), .val (.ref b919), .val (.ref b967), .val (.ref b1009), .val (.int (0 : Int32)), .val (.int (0 : Int32)), .val (.int (2 : Int32)), .val (.int (0 : Int32)), .val (.int (1 : Int32)), .val (.int (1 : Int32)), .unset, .unset]) rfl ?_
            refine own_aload P1226 at_271 rfl rfl rfl ?_
            refine own_iconst P1226 at_273 rfl (v := (0 : Int32)) rfl ?_
            refine own_virtP P1226 (hw _ (List.mem_of_getElem? (i := 85) rfl)) (hw _ (List.mem_of_getElem? (i := 76) rfl)) (hw _ (List.mem_of_getElem? (i := 78) rfl)) (hw _ (List.mem_of_getElem? (i := 77) rfl)) (hw _ (List.mem_of_getElem? (i := 2) rfl)) (hw _ (List.mem_of_getElem? (i := 79) rfl)) (by decide) f1212 (argsL := [(.int (0 : Int32))]) (rest := []) (rmHolds0 l Z a0 hw b919 co942 (2 : Int32) (0 : Int32) (0 : Int32) (0 : Int32) h1204 f1218 f1225) at_274 rfl own_pd6 rfl rfl rfl (by decide) 0 rfl (by decide) rfl rfl (by decide) (by decide) (fun T1233 P1232 => ?_)
            show own_Go p e below _ (T1233.setTop (mkF m 277 #[.val (.int i0), .val (.int i1), .val (.int i2), .val (.int i3), .val (.int i4), .val (.int i5), .val (.int i6), .val (.int (1 : Int32)), .val (.ref b919), .val (.ref b967), .val (.ref b1009), .val (.int (0 : Int32)), .val (.int (0 : Int32)), .val (.int (2 : Int32)), .val (.int (0 : Int32)), .val (.int (1 : Int32)), .val (.int (1 : Int32)), .unset, .unset] [(.int (own_ho (2 : Int32)))]))
            rw [show (own_ho (2 : Int32)) = (1 : Int32) by decide]
            refine own_iload P1232 at_277 rfl rfl ?_
            refine own_if0N P1232 (pc' := 282) at_279 (not_not_intro (by decide : (0 : Int32) < (2 : Int32))) rfl ?_
            refine own_iconst P1232 at_282 rfl (v := (1 : Int32)) rfl ?_
            refine own_goto P1232 (pc' := 287) at_283 (by decide) (by decide) ?_
            refine own_icmpN P1232 (pc' := 290) at_287 (not_not_intro (by decide : (1 : Int32) = (1 : Int32))) rfl ?_
            refine own_iconst P1232 at_290 rfl (v := (1 : Int32)) rfl ?_
            refine own_goto P1232 (pc' := 295) at_291 (by decide) (by decide) ?_
            refine own_istore P1232 at_295 rfl (Ls' := #[.val (.int i0), .val (.int i1), .val (.int i2), .val (.int i3), .val (.int i4), .val (.int i5), .val (.int i6), .val (.int (1 : Int32)), .val (.ref b919), .val (.ref b967), .val (.ref b1009), .val (.int (0 : Int32)), .val (.int (0 : Int32)), .val (.int (2 : Int32)), .val (.int (0 : Int32)), .val (.int (1 : Int32)), .val (.int (1 : Int32)), .val (.int (1 : Int32)), .unset]) rfl ?_
            refine own_iload P1232 at_297 rfl rfl ?_
            refine own_if0Y P1232 (pc' := 321) at_299 (by decide : ¬ ((1 : Int32) = (0 : Int32))) (by decide) (by decide) ?_
            refine own_iconst P1232 at_321 rfl (v := (1 : Int32)) rfl ?_
            refine own_goto P1232 (pc' := 326) at_322 (by decide) (by decide) ?_
            refine own_istore P1232 at_326 rfl (Ls' := #[.val (.int i0), .val (.int i1), .val (.int i2), .val (.int i3), .val (.int i4), .val (.int i5), .val (.int i6), .val (.int (1 : Int32)), .val (.ref b919), .val (.ref b967), .val (.ref b1009), .val (.int (0 : Int32)), .val (.int (0 : Int32)), .val (.int (2 : Int32)), .val (.int (0 : Int32)), .val (.int (1 : Int32)), .val (.int (1 : Int32)), .val (.int (1 : Int32)), .val (.int (1 : Int32))]) rfl ?_
            refine own_iload P1232 at_328 rfl rfl ?_
            refine own_if0N P1232 (pc' := 333) at_330 (by decide : ¬ ((1 : Int32) = (0 : Int32))) rfl ?_
            refine own_iload P1232 at_333 rfl rfl ?_
            refine own_if0N P1232 (pc' := 338) at_335 (by decide : ¬ ((1 : Int32) = (0 : Int32))) rfl ?_
            refine own_iload P1232 at_338 rfl rfl ?_
            refine own_if0N P1232 (pc' := 343) at_340 (by decide : ¬ ((1 : Int32) = (0 : Int32))) rfl ?_
            refine own_iconst P1232 at_343 rfl (v := (1 : Int32)) rfl ?_
            refine own_goto P1232 (pc' := 348) at_344 (by decide) (by decide) ?_
            exact own_retZ P1232 at_348 (z := (1 : Int32)) rfl (by decide) (by decide) (hQ _ _ N1211)
      · rw [if_neg hc1114] at hQ
        refine own_if0N P1089 (pc' := 156) at_153 hc1114 rfl ?_
        refine own_aload P1089 at_156 rfl rfl rfl ?_
        refine own_aload P1089 at_158 rfl rfl rfl ?_
        refine own_virt P1089 (hw _ (List.mem_of_getElem? (i := 65) rfl)) (hw _ (List.mem_of_getElem? (i := 66) rfl)) (hw _ (List.mem_of_getElem? (i := 68) rfl)) (hw _ (List.mem_of_getElem? (i := 67) rfl)) (hw _ (List.mem_of_getElem? (i := 2) rfl)) (hw _ (List.mem_of_getElem? (i := 69) rfl)) (by decide) f1099 (argsL := [(.ref b967)]) (rest := []) (rmRem0 l Z a0 hw b919 b967 ro941 co942 bp943 so1060 i0 i0 (0 : Int32) (0 : Int32) (0 : Int32) (2 : Int32) (0 : Int32) (0 : Int32) (0 : Int32) (1 : Int32) ((own_hv i0) &&& (15 : Int32)) (own_s1 i0) h1091 n0 (Nat.le_trans (Nat.le_trans (Nat.le_trans (Nat.le_trans (Nat.le_trans (Nat.le_trans (Nat.le_trans (Nat.le_trans Z0 E921.1) k945.1) E969.1) (Keep.of_wr W994).1) E1011.1) (Keep.of_wr W1038).1) k1062.1) k1096.1) g927 g946 g947 hg1063 ne948 ne949 ne950 ne951 ne952 ne953 ne1077 ne1078 ne1079 ne1080 ne974 ne975 ne976 ne977 (Ne.symm ne1081) f1099 f1103 f1104 f1105 f1106 f1107 f1108 f1109 f1110 f1112 f1100 f1111 f1101 (own_l1 i0) rfl (own_a1 i0) (by decide)) at_160 rfl own_pd4 rfl rfl rfl (by decide) 0 rfl (by decide) (by decide) (by decide) (fun T1239 h1240 v1241 L1242 hq1243 P1238 => ?_)
        obtain ⟨rfl, n1244, k1245, f1246⟩ := hq1243
        have N1247 := Fr.app N1098 n1244
        have f1248 := f1099.keep k1245
        have f1249 := f1100.keep k1245 (ninS (Ne.symm ne953) nin0)
        have f1250 := f1101.keep k1245 (ninS (Ne.symm ne976) nin0)
        have f1251 := f1102.keep k1245 (ninS (Ne.symm ne1018) nin0)
        have f1252 := f1103.keep k1245 (ninS ne949 nin0)
        have f1253 := f1104.keep k1245 (ninS ne949 nin0)
        have f1254 := f1105.keep k1245 (ninS ne949 nin0)
        have f1255 := f1106.keep k1245 (ninS ne949 nin0)
        have f1256 := f1107.keep k1245 (ninS ne949 nin0)
        have f1257 := f1108.keep k1245 (ninS ne949 nin0)
        have f1258 := f1109.keep k1245 (ninS ne949 nin0)
        have f1259 := f1110.keep k1245 (ninS ne950 nin0)
        have f1260 := f1111.keep k1245 (ninS (Ne.symm ne1079) nin0)
        have f1261 : own_Ar Z h1240 co942 .int [(1 : Int32), (0 : Int32), (0 : Int32), (0 : Int32)] := f1246
        show own_Go p e below _ (T1239.setTop (mkF m 163 #[.val (.int i0), .val (.int i1), .val (.int i2), .val (.int i3), .val (.int i4), .val (.int i5), .val (.int i6), .val (.int (1 : Int32)), .val (.ref b919), .val (.ref b967), .val (.ref b1009), .val (.int (0 : Int32)), .val (.int (0 : Int32)), .val (.int (2 : Int32)), .val (.int (0 : Int32)), .unset, .unset, .unset, .unset] [(.int (0 : Int32))]))
        refine own_pop P1238 at_163 rfl rfl ?_
        refine own_iload P1238 at_164 rfl rfl ?_
        refine own_iconst P1238 at_166 rfl (v := (1 : Int32)) rfl ?_
        refine own_isub P1238 at_167 rfl ?_
        rw [show ((2 : Int32) - (1 : Int32)) = (1 : Int32) by decide]
        refine own_istore P1238 at_168 rfl (Ls' := #[.val (.int i0), .val (.int i1), .val (.int i2), .val (.int i3), .val (.int i4), .val (.int i5), .val (.int i6), .val (.int (1 : Int32)), .val (.ref b919), .val (.ref b967), .val (.ref b1009), .val (.int (0 : Int32)), .val (.int (0 : Int32)), .val (.int (1 : Int32)), .val (.int (0 : Int32)), .unset, .unset, .unset, .unset]) rfl ?_
        refine own_iload P1238 at_170 rfl rfl ?_
        by_cases hc1262 : i5 = (0 : Int32)
        · rw [if_pos hc1262] at hQ
          refine own_if0Y P1238 (pc' := 203) at_172 hc1262 (by decide) (by decide) ?_
          refine own_iload P1238 at_203 rfl rfl ?_
          by_cases hc1263 : i6 = (0 : Int32)
          · rw [if_pos hc1263] at hQ
            refine own_if0Y P1238 (pc' := 222) at_205 hc1263 (by decide) (by decide) ?_
            refine own_iload P1238 at_222 rfl rfl ?_
            refine own_if0N P1238 (pc' := 227) at_224 (by decide : ¬ ((1 : Int32) = (0 : Int32))) rfl ?_
            refine own_iconst P1238 at_227 rfl (v := (1 : Int32)) rfl ?_
            refine own_goto P1238 (pc' := 232) at_228 (by decide) (by decide) ?_
            refine own_istore P1238 at_232 rfl (Ls' := #[.val (.int i0), .val (.int i1), .val (.int i2), .val (.int i3), .val (.int i4), .val (.int i5), .val (.int i6), .val (.int (1 : Int32)), .val (.ref b919), .val (.ref b967), .val (.ref b1009), .val (.int (0 : Int32)), .val (.int (0 : Int32)), .val (.int (1 : Int32)), .val (.int (0 : Int32)), .val (.int (1 : Int32)), .unset, .unset, .unset]) rfl ?_
            refine own_iload P1238 at_234 rfl rfl ?_
            refine own_if0N P1238 (pc' := 239) at_236 (not_not_intro (by decide : (0 : Int32) = (0 : Int32))) rfl ?_
            refine own_iload P1238 at_239 rfl rfl ?_
            refine own_iload P1238 at_241 rfl rfl ?_
            refine own_if0N P1238 (pc' := 246) at_243 (by decide : ¬ ((1 : Int32) = (0 : Int32))) rfl ?_
            refine own_iconst P1238 at_246 rfl (v := (0 : Int32)) rfl ?_
            refine own_goto P1238 (pc' := 251) at_247 (by decide) (by decide) ?_
            refine own_icmpN P1238 (pc' := 254) at_251 (not_not_intro (by decide : (0 : Int32) = (0 : Int32))) rfl ?_
            refine own_aload P1238 at_254 rfl rfl rfl ?_
            refine own_virtP P1238 (hw _ (List.mem_of_getElem? (i := 80) rfl)) (hw _ (List.mem_of_getElem? (i := 81) rfl)) (hw _ (List.mem_of_getElem? (i := 83) rfl)) (hw _ (List.mem_of_getElem? (i := 82) rfl)) (hw _ (List.mem_of_getElem? (i := 2) rfl)) (hw _ (List.mem_of_getElem? (i := 84) rfl)) (by decide) f1248 (argsL := []) (rest := []) (rmSize l Z a0 hw b919 (1 : Int32) h1240 f1256) at_256 rfl own_pd7 rfl rfl rfl (by decide) 0 rfl (by decide) rfl rfl (by decide) (by decide) (fun T1265 P1264 => ?_)
            show own_Go p e below _ (T1265.setTop (mkF m 259 #[.val (.int i0), .val (.int i1), .val (.int i2), .val (.int i3), .val (.int i4), .val (.int i5), .val (.int i6), .val (.int (1 : Int32)), .val (.ref b919), .val (.ref b967), .val (.ref b1009), .val (.int (0 : Int32)), .val (.int (0 : Int32)), .val (.int (1 : Int32)), .val (.int (0 : Int32)), .val (.int (1 : Int32)), .unset, .unset, .unset] [(.int (1 : Int32))]))
            refine own_iload P1264 at_259 rfl rfl ?_
            refine own_icmpN P1264 (pc' := 264) at_261 (not_not_intro (by decide : (1 : Int32) = (1 : Int32))) rfl ?_
            refine own_iconst P1264 at_264 rfl (v := (1 : Int32)) rfl ?_
            refine own_goto P1264 (pc' := 269) at_265 (by decide) (by decide) ?_
            refine own_istore P1264 at_269 rfl (Ls' := #[.val (.int i0), .val (.int i1), .val (.int i2), .val (.int i3), .val (.int i4), .val (.int i5), .val (.int i6), .val (.int (1 : Int32)), .val (.ref b919), .val (.ref b967), .val (.ref b1009), .val (.int (0 : Int32)), .val (.int (0 : Int32)), .val (.int (1 : Int32)), .val (.int (0 : Int32)), .val (.int (1 : Int32)), .val (.int (1 : Int32)), .unset, .unset]) rfl ?_
            refine own_aload P1264 at_271 rfl rfl rfl ?_
            refine own_iconst P1264 at_273 rfl (v := (0 : Int32)) rfl ?_
            refine own_virtP P1264 (hw _ (List.mem_of_getElem? (i := 85) rfl)) (hw _ (List.mem_of_getElem? (i := 76) rfl)) (hw _ (List.mem_of_getElem? (i := 78) rfl)) (hw _ (List.mem_of_getElem? (i := 77) rfl)) (hw _ (List.mem_of_getElem? (i := 2) rfl)) (hw _ (List.mem_of_getElem? (i := 79) rfl)) (by decide) f1248 (argsL := [(.int (0 : Int32))]) (rest := []) (rmHolds0 l Z a0 hw b919 co942 (1 : Int32) (0 : Int32) (0 : Int32) (0 : Int32) h1240 f1254 f1261) at_274 rfl own_pd6 rfl rfl rfl (by decide) 0 rfl (by decide) rfl rfl (by decide) (by decide) (fun T1271 P1270 => ?_)
            show own_Go p e below _ (T1271.setTop (mkF m 277 #[.val (.int i0), .val (.int i1), .val (.int i2), .val (.int i3), .val (.int i4), .val (.int i5), .val (.int i6), .val (.int (1 : Int32)), .val (.ref b919), .val (.ref b967), .val (.ref b1009), .val (.int (0 : Int32)), .val (.int (0 : Int32)), .val (.int (1 : Int32)), .val (.int (0 : Int32)), .val (.int (1 : Int32)), .val (.int (1 : Int32)), .unset, .unset] [(.int (own_ho (1 : Int32)))]))
            rw [show (own_ho (1 : Int32)) = (1 : Int32) by decide]
            refine own_iload P1270 at_277 rfl rfl ?_
            refine own_if0N P1270 (pc' := 282) at_279 (not_not_intro (by decide : (0 : Int32) < (1 : Int32))) rfl ?_
            refine own_iconst P1270 at_282 rfl (v := (1 : Int32)) rfl ?_
            refine own_goto P1270 (pc' := 287) at_283 (by decide) (by decide) ?_
            refine own_icmpN P1270 (pc' := 290) at_287 (not_not_intro (by decide : (1 : Int32) = (1 : Int32))) rfl ?_
            refine own_iconst P1270 at_290 rfl (v := (1 : Int32)) rfl ?_
            refine own_goto P1270 (pc' := 295) at_291 (by decide) (by decide) ?_
            refine own_istore P1270 at_295 rfl (Ls' := #[.val (.int i0), .val (.int i1), .val (.int i2), .val (.int i3), .val (.int i4), .val (.int i5), .val (.int i6), .val (.int (1 : Int32)), .val (.ref b919), .val (.ref b967), .val (.ref b1009), .val (.int (0 : Int32)), .val (.int (0 : Int32)), .val (.int (1 : Int32)), .val (.int (0 : Int32)), .val (.int (1 : Int32)), .val (.int (1 : Int32)), .val (.int (1 : Int32)), .unset]) rfl ?_
            refine own_iload P1270 at_297 rfl rfl ?_
            refine own_if0Y P1270 (pc' := 321) at_299 (by decide : ¬ ((1 : Int32) = (0 : Int32))) (by decide) (by decide) ?_
            refine own_iconst P1270 at_321 rfl (v := (1 : Int32)) rfl ?_
            refine own_goto P1270 (pc' := 326) at_322 (by decide) (by decide) ?_
            refine own_istore P1270 at_326 rfl (Ls' := #[.val (.int i0), .val (.int i1), .val (.int i2), .val (.int i3), .val (.int i4), .val (.int i5), .val (.int i6), .val (.int (1 : Int32)), .val (.ref b919), .val (.ref b967), .val (.ref b1009), .val (.int (0 : Int32)), .val (.int (0 : Int32)), .val (.int (1 : Int32)), .val (.int (0 : Int32)), .val (.int (1 : Int32)), .val (.int (1 : Int32)), .val (.int (1 : Int32)), .val (.int (1 : Int32))]) rfl ?_
            refine own_iload P1270 at_328 rfl rfl ?_
            refine own_if0N P1270 (pc' := 333) at_330 (by decide : ¬ ((1 : Int32) = (0 : Int32))) rfl ?_
            refine own_iload P1270 at_333 rfl rfl ?_
            refine own_if0N P1270 (pc' := 338) at_335 (by decide : ¬ ((1 : Int32) = (0 : Int32))) rfl ?_
            refine own_iload P1270 at_338 rfl rfl ?_
            refine own_if0N P1270 (pc' := 343) at_340 (by decide : ¬ ((1 : Int32) = (0 : Int32))) rfl ?_
            refine own_iconst P1270 at_343 rfl (v := (1 : Int32)) rfl ?_
            refine own_goto P1270 (pc' := 348) at_344 (by decide) (by decide) ?_
            exact own_retZ P1270 at_348 (z := (1 : Int32)) rfl (by decide) (by decide) (hQ _ _ N1247)
          · rw [if_neg hc1263] at hQ
            refine own_if0N P1238 (pc' := 208) at_205 hc1263 rfl ?_
            refine own_aload P1238 at_208 rfl rfl rfl ?_
            refine own_aload P1238 at_210 rfl rfl rfl ?_
            refine own_virt P1238 (hw _ (List.mem_of_getElem? (i := 20) rfl)) (hw _ (List.mem_of_getElem? (i := 21) rfl)) (hw _ (List.mem_of_getElem? (i := 23) rfl)) (hw _ (List.mem_of_getElem? (i := 22) rfl)) (hw _ (List.mem_of_getElem? (i := 2) rfl)) (hw _ (List.mem_of_getElem? (i := 24) rfl)) (by decide) f1248 (argsL := [(.ref b967)]) (rest := []) (rmAddA l Z a0 hw b919 b967 ro941 co942 bp943 so1060 i0 i0 (0 : Int32) (0 : Int32) (0 : Int32) (1 : Int32) (0 : Int32) (0 : Int32) (0 : Int32) (1 : Int32) ((own_hv i0) &&& (15 : Int32)) (own_s1 i0) h1240 n0 (Nat.le_trans (Nat.le_trans (Nat.le_trans (Nat.le_trans (Nat.le_trans (Nat.le_trans (Nat.le_trans (Nat.le_trans (Nat.le_trans Z0 E921.1) k945.1) E969.1) (Keep.of_wr W994).1) E1011.1) (Keep.of_wr W1038).1) k1062.1) k1096.1) k1245.1) g927 g946 g947 hg1063 ne948 ne949 ne950 ne951 ne952 ne953 ne1077 ne1078 ne1079 ne1080 ne974 ne975 ne976 ne977 (Ne.symm ne1081) f1248 f1252 f1253 f1254 f1255 f1256 f1257 f1258 f1259 f1261 f1249 f1260 f1250 (own_l1 i0) rfl (own_a1 i0)) at_212 rfl own_pd4 rfl rfl rfl (by decide) 0 rfl (by decide) (by decide) (by decide) (fun T1277 h1278 v1279 L1280 hq1281 P1276 => ?_)
            obtain ⟨rfl, n1282, k1283, f1284⟩ := hq1281
            have N1285 := Fr.app N1247 n1282
            have f1286 := f1248.keep k1283
            have f1287 := f1249.keep k1283 (ninS (Ne.symm ne953) nin0)
            have f1288 := f1250.keep k1283 (ninS (Ne.symm ne976) nin0)
            have f1289 := f1251.keep k1283 (ninS (Ne.symm ne1018) nin0)
            have f1290 := f1252.keep k1283 (ninS ne949 nin0)
            have f1291 := f1253.keep k1283 (ninS ne949 nin0)
            have f1292 := f1254.keep k1283 (ninS ne949 nin0)
            have f1293 := f1255.keep k1283 (ninS ne949 nin0)
            have f1294 := f1256.keep k1283 (ninS ne949 nin0)
            have f1295 := f1257.keep k1283 (ninS ne949 nin0)
            have f1296 := f1258.keep k1283 (ninS ne949 nin0)
            have f1297 := f1259.keep k1283 (ninS ne950 nin0)
            have f1298 := f1260.keep k1283 (ninS (Ne.symm ne1079) nin0)
            have f1299 : own_Ar Z h1278 co942 .int [(2 : Int32), (0 : Int32), (0 : Int32), (0 : Int32)] := f1284
            show own_Go p e below _ (T1277.setTop (mkF m 215 #[.val (.int i0), .val (.int i1), .val (.int i2), .val (.int i3), .val (.int i4), .val (.int i5), .val (.int i6), .val (.int (1 : Int32)), .val (.ref b919), .val (.ref b967), .val (.ref b1009), .val (.int (0 : Int32)), .val (.int (0 : Int32)), .val (.int (1 : Int32)), .val (.int (0 : Int32)), .unset, .unset, .unset, .unset] [(.int (0 : Int32))]))
            refine own_pop P1276 at_215 rfl rfl ?_
            refine own_iload P1276 at_216 rfl rfl ?_
            refine own_iconst P1276 at_218 rfl (v := (1 : Int32)) rfl ?_
            refine own_iadd P1276 at_219 rfl ?_
            rw [show ((1 : Int32) + (1 : Int32)) = (2 : Int32) by decide]
            refine own_istore P1276 at_220 rfl (Ls' := #[.val (.int i0), .val (.int i1), .val (.int i2), .val (.int i3), .val (.int i4), .val (.int i5), .val (.int i6), .val (.int (1 : Int32)), .val (.ref b919), .val (.ref b967), .val (.ref b1009), .val (.int (0 : Int32)), .val (.int (0 : Int32)), .val (.int (2 : Int32)), .val (.int (0 : Int32)), .unset, .unset, .unset, .unset]) rfl ?_
            refine own_iload P1276 at_222 rfl rfl ?_
            refine own_if0N P1276 (pc' := 227) at_224 (by decide : ¬ ((1 : Int32) = (0 : Int32))) rfl ?_
            refine own_iconst P1276 at_227 rfl (v := (1 : Int32)) rfl ?_
            refine own_goto P1276 (pc' := 232) at_228 (by decide) (by decide) ?_
            refine own_istore P1276 at_232 rfl (Ls' := #[.val (.int i0), .val (.int i1), .val (.int i2), .val (.int i3), .val (.int i4), .val (.int i5), .val (.int i6), .val (.int (1 : Int32)), .val (.ref b919), .val (.ref b967), .val (.ref b1009), .val (.int (0 : Int32)), .val (.int (0 : Int32)), .val (.int (2 : Int32)), .val (.int (0 : Int32)), .val (.int (1 : Int32)), .unset, .unset, .unset]) rfl ?_
            refine own_iload P1276 at_234 rfl rfl ?_
            refine own_if0N P1276 (pc' := 239) at_236 (not_not_intro (by decide : (0 : Int32) = (0 : Int32))) rfl ?_
            refine own_iload P1276 at_239 rfl rfl ?_
            refine own_iload P1276 at_241 rfl rfl ?_
            refine own_if0N P1276 (pc' := 246) at_243 (by decide : ¬ ((1 : Int32) = (0 : Int32))) rfl ?_
            refine own_iconst P1276 at_246 rfl (v := (0 : Int32)) rfl ?_
            refine own_goto P1276 (pc' := 251) at_247 (by decide) (by decide) ?_
            refine own_icmpN P1276 (pc' := 254) at_251 (not_not_intro (by decide : (0 : Int32) = (0 : Int32))) rfl ?_
            refine own_aload P1276 at_254 rfl rfl rfl ?_
            refine own_virtP P1276 (hw _ (List.mem_of_getElem? (i := 80) rfl)) (hw _ (List.mem_of_getElem? (i := 81) rfl)) (hw _ (List.mem_of_getElem? (i := 83) rfl)) (hw _ (List.mem_of_getElem? (i := 82) rfl)) (hw _ (List.mem_of_getElem? (i := 2) rfl)) (hw _ (List.mem_of_getElem? (i := 84) rfl)) (by decide) f1286 (argsL := []) (rest := []) (rmSize l Z a0 hw b919 (1 : Int32) h1278 f1294) at_256 rfl own_pd7 rfl rfl rfl (by decide) 0 rfl (by decide) rfl rfl (by decide) (by decide) (fun T1301 P1300 => ?_)
            show own_Go p e below _ (T1301.setTop (mkF m 259 #[.val (.int i0), .val (.int i1), .val (.int i2), .val (.int i3), .val (.int i4), .val (.int i5), .val (.int i6), .val (.int (1 : Int32)), .val (.ref b919), .val (.ref b967), .val (.ref b1009), .val (.int (0 : Int32)), .val (.int (0 : Int32)), .val (.int (2 : Int32)), .val (.int (0 : Int32)), .val (.int (1 : Int32)), .unset, .unset, .unset] [(.int (1 : Int32))]))
            refine own_iload P1300 at_259 rfl rfl ?_
            refine own_icmpN P1300 (pc' := 264) at_261 (not_not_intro (by decide : (1 : Int32) = (1 : Int32))) rfl ?_
            refine own_iconst P1300 at_264 rfl (v := (1 : Int32)) rfl ?_
            refine own_goto P1300 (pc' := 269) at_265 (by decide) (by decide) ?_
            refine own_istore P1300 at_269 rfl (Ls' := #[.val (.int i0), .val (.int i1), .val (.int i2), .val (.int i3), .val (.int i4), .val (.int i5), .val (.int i6), .val (.int (1 : Int32)), .val (.ref b919), .val (.ref b967), .val (.ref b1009), .val (.int (0 : Int32)), .val (.int (0 : Int32)), .val (.int (2 : Int32)), .val (.int (0 : Int32)), .val (.int (1 : Int32)), .val (.int (1 : Int32)), .unset, .unset]) rfl ?_
            refine own_aload P1300 at_271 rfl rfl rfl ?_
            refine own_iconst P1300 at_273 rfl (v := (0 : Int32)) rfl ?_
            refine own_virtP P1300 (hw _ (List.mem_of_getElem? (i := 85) rfl)) (hw _ (List.mem_of_getElem? (i := 76) rfl)) (hw _ (List.mem_of_getElem? (i := 78) rfl)) (hw _ (List.mem_of_getElem? (i := 77) rfl)) (hw _ (List.mem_of_getElem? (i := 2) rfl)) (hw _ (List.mem_of_getElem? (i := 79) rfl)) (by decide) f1286 (argsL := [(.int (0 : Int32))]) (rest := []) (rmHolds0 l Z a0 hw b919 co942 (2 : Int32) (0 : Int32) (0 : Int32) (0 : Int32) h1278 f1292 f1299) at_274 rfl own_pd6 rfl rfl rfl (by decide) 0 rfl (by decide) rfl rfl (by decide) (by decide) (fun T1307 P1306 => ?_)
            show own_Go p e below _ (T1307.setTop (mkF m 277 #[.val (.int i0), .val (.int i1), .val (.int i2), .val (.int i3), .val (.int i4), .val (.int i5), .val (.int i6), .val (.int (1 : Int32)), .val (.ref b919), .val (.ref b967), .val (.ref b1009), .val (.int (0 : Int32)), .val (.int (0 : Int32)), .val (.int (2 : Int32)), .val (.int (0 : Int32)), .val (.int (1 : Int32)), .val (.int (1 : Int32)), .unset, .unset] [(.int (own_ho (2 : Int32)))]))
            rw [show (own_ho (2 : Int32)) = (1 : Int32) by decide]
            refine own_iload P1306 at_277 rfl rfl ?_
            refine own_if0N P1306 (pc' := 282) at_279 (not_not_intro (by decide : (0 : Int32) < (2 : Int32))) rfl ?_
            refine own_iconst P1306 at_282 rfl (v := (1 : Int32)) rfl ?_
            refine own_goto P1306 (pc' := 287) at_283 (by decide) (by decide) ?_
            refine own_icmpN P1306 (pc' := 290) at_287 (not_not_intro (by decide : (1 : Int32) = (1 : Int32))) rfl ?_
            refine own_iconst P1306 at_290 rfl (v := (1 : Int32)) rfl ?_
            refine own_goto P1306 (pc' := 295) at_291 (by decide) (by decide) ?_
            refine own_istore P1306 at_295 rfl (Ls' := #[.val (.int i0), .val (.int i1), .val (.int i2), .val (.int i3), .val (.int i4), .val (.int i5), .val (.int i6), .val (.int (1 : Int32)), .val (.ref b919), .val (.ref b967), .val (.ref b1009), .val (.int (0 : Int32)), .val (.int (0 : Int32)), .val (.int (2 : Int32)), .val (.int (0 : Int32)), .val (.int (1 : Int32)), .val (.int (1 : Int32)), .val (.int (1 : Int32)), .unset]) rfl ?_
            refine own_iload P1306 at_297 rfl rfl ?_
            refine own_if0Y P1306 (pc' := 321) at_299 (by decide : ¬ ((1 : Int32) = (0 : Int32))) (by decide) (by decide) ?_
            refine own_iconst P1306 at_321 rfl (v := (1 : Int32)) rfl ?_
            refine own_goto P1306 (pc' := 326) at_322 (by decide) (by decide) ?_
            refine own_istore P1306 at_326 rfl (Ls' := #[.val (.int i0), .val (.int i1), .val (.int i2), .val (.int i3), .val (.int i4), .val (.int i5), .val (.int i6), .val (.int (1 : Int32)), .val (.ref b919), .val (.ref b967), .val (.ref b1009), .val (.int (0 : Int32)), .val (.int (0 : Int32)), .val (.int (2 : Int32)), .val (.int (0 : Int32)), .val (.int (1 : Int32)), .val (.int (1 : Int32)), .val (.int (1 : Int32)), .val (.int (1 : Int32))]) rfl ?_
            refine own_iload P1306 at_328 rfl rfl ?_
            refine own_if0N P1306 (pc' := 333) at_330 (by decide : ¬ ((1 : Int32) = (0 : Int32))) rfl ?_
            refine own_iload P1306 at_333 rfl rfl ?_
            refine own_if0N P1306 (pc' := 338) at_335 (by decide : ¬ ((1 : Int32) = (0 : Int32))) rfl ?_
            refine own_iload P1306 at_338 rfl rfl ?_
            refine own_if0N P1306 (pc' := 343) at_340 (by decide : ¬ ((1 : Int32) = (0 : Int32))) rfl ?_
            refine own_iconst P1306 at_343 rfl (v := (1 : Int32)) rfl ?_
            refine own_goto P1306 (pc' := 348) at_344 (by decide) (by decide) ?_
            exact own_retZ P1306 at_348 (z := (1 : Int32)) rfl (by decide) (by decide) (hQ _ _ N1285)
        · rw [if_neg hc1262] at hQ
          refine own_if0N P1238 (pc' := 175) at_172 hc1262 rfl ?_
          refine own_aload P1238 at_175 rfl rfl rfl ?_
          refine own_aload P1238 at_177 rfl rfl rfl ?_
          refine own_virt P1238 (hw _ (List.mem_of_getElem? (i := 65) rfl)) (hw _ (List.mem_of_getElem? (i := 66) rfl)) (hw _ (List.mem_of_getElem? (i := 68) rfl)) (hw _ (List.mem_of_getElem? (i := 67) rfl)) (hw _ (List.mem_of_getElem? (i := 2) rfl)) (hw _ (List.mem_of_getElem? (i := 69) rfl)) (by decide) f1248 (argsL := [(.ref b1009)]) (rest := []) (rmRem0 l Z a0 hw b919 b1009 ro941 co942 bp943 so1060 i1 i0 (0 : Int32) (0 : Int32) (0 : Int32) (1 : Int32) (0 : Int32) (0 : Int32) (0 : Int32) (1 : Int32) ((own_hv i0) &&& (15 : Int32)) (own_s1 i0) h1240 n0 (Nat.le_trans (Nat.le_trans (Nat.le_trans (Nat.le_trans (Nat.le_trans (Nat.le_trans (Nat.le_trans (Nat.le_trans (Nat.le_trans Z0 E921.1) k945.1) E969.1) (Keep.of_wr W994).1) E1011.1) (Keep.of_wr W1038).1) k1062.1) k1096.1) k1245.1) g927 g946 g947 hg1063 ne948 ne949 ne950 ne951 ne952 ne953 ne1077 ne1078 ne1079 ne1080 ne1016 ne1017 ne1018 ne1019 (Ne.symm ne1082) f1248 f1252 f1253 f1254 f1255 f1256 f1257 f1258 f1259 f1261 f1249 f1260 f1251 (own_l1 i0) hab (own_a1' i0 i1 hab) (by decide)) at_179 rfl own_pd4 rfl rfl rfl (by decide) 0 rfl (by decide) (by decide) (by decide) (fun T1313 h1314 v1315 L1316 hq1317 P1312 => ?_)
          obtain ⟨rfl, n1318, k1319, f1320⟩ := hq1317
          have N1321 := Fr.app N1247 n1318
          have f1322 := f1248.keep k1319
          have f1323 := f1249.keep k1319 (ninS (Ne.symm ne953) nin0)
          have f1324 := f1250.keep k1319 (ninS (Ne.symm ne976) nin0)
          have f1325 := f1251.keep k1319 (ninS (Ne.symm ne1018) nin0)
          have f1326 := f1252.keep k1319 (ninS ne949 nin0)
          have f1327 := f1253.keep k1319 (ninS ne949 nin0)
          have f1328 := f1254.keep k1319 (ninS ne949 nin0)
          have f1329 := f1255.keep k1319 (ninS ne949 nin0)
          have f1330 := f1256.keep k1319 (ninS ne949 nin0)
          have f1331 := f1257.keep k1319 (ninS ne949 nin0)
          have f1332 := f1258.keep k1319 (ninS ne949 nin0)
          have f1333 := f1259.keep k1319 (ninS ne950 nin0)
          have f1334 := f1260.keep k1319 (ninS (Ne.symm ne1079) nin0)
          have f1335 : own_Ar Z h1314 co942 .int [(0 : Int32), (0 : Int32), (0 : Int32), (0 : Int32)] := f1320
          show own_Go p e below _ (T1313.setTop (mkF m 182 #[.val (.int i0), .val (.int i1), .val (.int i2), .val (.int i3), .val (.int i4), .val (.int i5), .val (.int i6), .val (.int (1 : Int32)), .val (.ref b919), .val (.ref b967), .val (.ref b1009), .val (.int (0 : Int32)), .val (.int (0 : Int32)), .val (.int (1 : Int32)), .val (.int (0 : Int32)), .unset, .unset, .unset, .unset] [(.int (0 : Int32))]))
          refine own_pop P1312 at_182 rfl rfl ?_
          refine own_iload P1312 at_183 rfl rfl ?_
          refine own_if0N P1312 (pc' := 188) at_185 (by decide : ¬ ((1 : Int32) = (0 : Int32))) rfl ?_
          refine own_iload P1312 at_188 rfl rfl ?_
          refine own_iconst P1312 at_190 rfl (v := (1 : Int32)) rfl ?_
          refine own_isub P1312 at_191 rfl ?_
          rw [show ((1 : Int32) - (1 : Int32)) = (0 : Int32) by decide]
          refine own_istore P1312 at_192 rfl (Ls' := #[.val (.int i0), .val (.int i1), .val (.int i2), .val (.int i3), .val (.int i4), .val (.int i5), .val (.int i6), .val (.int (1 : Int32)), .val (.ref b919), .val (.ref b967), .val (.ref b1009), .val (.int (0 : Int32)), .val (.int (0 : Int32)), .val (.int (0 : Int32)), .val (.int (0 : Int32)), .unset, .unset, .unset, .unset]) rfl ?_
          refine own_goto P1312 (pc' := 203) at_194 (by decide) (by decide) ?_
          refine own_iload P1312 at_203 rfl rfl ?_
          by_cases hc1336 : i6 = (0 : Int32)
          · rw [if_pos hc1336] at hQ
            refine own_if0Y P1312 (pc' := 222) at_205 hc1336 (by decide) (by decide) ?_
            refine own_iload P1312 at_222 rfl rfl ?_
            refine own_if0N P1312 (pc' := 227) at_224 (by decide : ¬ ((1 : Int32) = (0 : Int32))) rfl ?_
            refine own_iconst P1312 at_227 rfl (v := (1 : Int32)) rfl ?_
            refine own_goto P1312 (pc' := 232) at_228 (by decide) (by decide) ?_
            refine own_istore P1312 at_232 rfl (Ls' := #[.val (.int i0), .val (.int i1), .val (.int i2), .val (.int i3), .val (.int i4), .val (.int i5), .val (.int i6), .val (.int (1 : Int32)), .val (.ref b919), .val (.ref b967), .val (.ref b1009), .val (.int (0 : Int32)), .val (.int (0 : Int32)), .val (.int (0 : Int32)), .val (.int (0 : Int32)), .val (.int (1 : Int32)), .unset, .unset, .unset]) rfl ?_
            refine own_iload P1312 at_234 rfl rfl ?_
            refine own_if0N P1312 (pc' := 239) at_236 (not_not_intro (by decide : (0 : Int32) = (0 : Int32))) rfl ?_
            refine own_iload P1312 at_239 rfl rfl ?_
            refine own_iload P1312 at_241 rfl rfl ?_
            refine own_if0N P1312 (pc' := 246) at_243 (by decide : ¬ ((1 : Int32) = (0 : Int32))) rfl ?_
            refine own_iconst P1312 at_246 rfl (v := (0 : Int32)) rfl ?_
            refine own_goto P1312 (pc' := 251) at_247 (by decide) (by decide) ?_
            refine own_icmpN P1312 (pc' := 254) at_251 (not_not_intro (by decide : (0 : Int32) = (0 : Int32))) rfl ?_
            refine own_aload P1312 at_254 rfl rfl rfl ?_
            refine own_virtP P1312 (hw _ (List.mem_of_getElem? (i := 80) rfl)) (hw _ (List.mem_of_getElem? (i := 81) rfl)) (hw _ (List.mem_of_getElem? (i := 83) rfl)) (hw _ (List.mem_of_getElem? (i := 82) rfl)) (hw _ (List.mem_of_getElem? (i := 2) rfl)) (hw _ (List.mem_of_getElem? (i := 84) rfl)) (by decide) f1322 (argsL := []) (rest := []) (rmSize l Z a0 hw b919 (1 : Int32) h1314 f1330) at_256 rfl own_pd7 rfl rfl rfl (by decide) 0 rfl (by decide) rfl rfl (by decide) (by decide) (fun T1338 P1337 => ?_)
            show own_Go p e below _ (T1338.setTop (mkF m 259 #[.val (.int i0), .val (.int i1), .val (.int i2), .val (.int i3), .val (.int i4), .val (.int i5), .val (.int i6), .val (.int (1 : Int32)), .val (.ref b919), .val (.ref b967), .val (.ref b1009), .val (.int (0 : Int32)), .val (.int (0 : Int32)), .val (.int (0 : Int32)), .val (.int (0 : Int32)), .val (.int (1 : Int32)), .unset, .unset, .unset] [(.int (1 : Int32))]))
            refine own_iload P1337 at_259 rfl rfl ?_
            refine own_icmpN P1337 (pc' := 264) at_261 (not_not_intro (by decide : (1 : Int32) = (1 : Int32))) rfl ?_
            refine own_iconst P1337 at_264 rfl (v := (1 : Int32)) rfl ?_
            refine own_goto P1337 (pc' := 269) at_265 (by decide) (by decide) ?_
            refine own_istore P1337 at_269 rfl (Ls' := #[.val (.int i0), .val (.int i1), .val (.int i2), .val (.int i3), .val (.int i4), .val (.int i5), .val (.int i6), .val (.int (1 : Int32)), .val (.ref b919), .val (.ref b967), .val (.ref b1009), .val (.int (0 : Int32)), .val (.int (0 : Int32)), .val (.int (0 : Int32)), .val (.int (0 : Int32)), .val (.int (1 : Int32)), .val (.int (1 : Int32)), .unset, .unset]) rfl ?_
            refine own_aload P1337 at_271 rfl rfl rfl ?_
            refine own_iconst P1337 at_273 rfl (v := (0 : Int32)) rfl ?_
            refine own_virtP P1337 (hw _ (List.mem_of_getElem? (i := 85) rfl)) (hw _ (List.mem_of_getElem? (i := 76) rfl)) (hw _ (List.mem_of_getElem? (i := 78) rfl)) (hw _ (List.mem_of_getElem? (i := 77) rfl)) (hw _ (List.mem_of_getElem? (i := 2) rfl)) (hw _ (List.mem_of_getElem? (i := 79) rfl)) (by decide) f1322 (argsL := [(.int (0 : Int32))]) (rest := []) (rmHolds0 l Z a0 hw b919 co942 (0 : Int32) (0 : Int32) (0 : Int32) (0 : Int32) h1314 f1328 f1335) at_274 rfl own_pd6 rfl rfl rfl (by decide) 0 rfl (by decide) rfl rfl (by decide) (by decide) (fun T1344 P1343 => ?_)
            show own_Go p e below _ (T1344.setTop (mkF m 277 #[.val (.int i0), .val (.int i1), .val (.int i2), .val (.int i3), .val (.int i4), .val (.int i5), .val (.int i6), .val (.int (1 : Int32)), .val (.ref b919), .val (.ref b967), .val (.ref b1009), .val (.int (0 : Int32)), .val (.int (0 : Int32)), .val (.int (0 : Int32)), .val (.int (0 : Int32)), .val (.int (1 : Int32)), .val (.int (1 : Int32)), .unset, .unset] [(.int (own_ho (0 : Int32)))]))
            rw [show (own_ho (0 : Int32)) = (0 : Int32) by decide]
            refine own_iload P1343 at_277 rfl rfl ?_
            refine own_if0Y P1343 (pc' := 286) at_279 (by decide : ¬ ((0 : Int32) < (0 : Int32))) (by decide) (by decide) ?_
            refine own_iconst P1343 at_286 rfl (v := (0 : Int32)) rfl ?_
            refine own_icmpN P1343 (pc' := 290) at_287 (not_not_intro (by decide : (0 : Int32) = (0 : Int32))) rfl ?_
            refine own_iconst P1343 at_290 rfl (v := (1 : Int32)) rfl ?_
            refine own_goto P1343 (pc' := 295) at_291 (by decide) (by decide) ?_
            refine own_istore P1343 at_295 rfl (Ls' := #[.val (.int i0), .val (.int i1), .val (.int i2), .val (.int i3), .val (.int i4), .val (.int i5), .val (.int i6), .val (.int (1 : Int32)), .val (.ref b919), .val (.ref b967), .val (.ref b1009), .val (.int (0 : Int32)), .val (.int (0 : Int32)), .val (.int (0 : Int32)), .val (.int (0 : Int32)), .val (.int (1 : Int32)), .val (.int (1 : Int32)), .val (.int (1 : Int32)), .unset]) rfl ?_
            refine own_iload P1343 at_297 rfl rfl ?_
            refine own_if0Y P1343 (pc' := 321) at_299 (by decide : ¬ ((1 : Int32) = (0 : Int32))) (by decide) (by decide) ?_
            refine own_iconst P1343 at_321 rfl (v := (1 : Int32)) rfl ?_
            refine own_goto P1343 (pc' := 326) at_322 (by decide) (by decide) ?_
            refine own_istore P1343 at_326 rfl (Ls' := #[.val (.int i0), .val (.int i1), .val (.int i2), .val (.int i3), .val (.int i4), .val (.int i5), .val (.int i6), .val (.int (1 : Int32)), .val (.ref b919), .val (.ref b967), .val (.ref b1009), .val (.int (0 : Int32)), .val (.int (0 : Int32)), .val (.int (0 : Int32)), .val (.int (0 : Int32)), .val (.int (1 : Int32)), .val (.int (1 : Int32)), .val (.int (1 : Int32)), .val (.int (1 : Int32))]) rfl ?_
            refine own_iload P1343 at_328 rfl rfl ?_
            refine own_if0N P1343 (pc' := 333) at_330 (by decide : ¬ ((1 : Int32) = (0 : Int32))) rfl ?_
            refine own_iload P1343 at_333 rfl rfl ?_
            refine own_if0N P1343 (pc' := 338) at_335 (by decide : ¬ ((1 : Int32) = (0 : Int32))) rfl ?_
            refine own_iload P1343 at_338 rfl rfl ?_
            refine own_if0N P1343 (pc' := 343) at_340 (by decide : ¬ ((1 : Int32) = (0 : Int32))) rfl ?_
            refine own_iconst P1343 at_343 rfl (v := (1 : Int32)) rfl ?_
            refine own_goto P1343 (pc' := 348) at_344 (by decide) (by decide) ?_
            exact own_retZ P1343 at_348 (z := (1 : Int32)) rfl (by decide) (by decide) (hQ _ _ N1321)
          · rw [if_neg hc1336] at hQ
            refine own_if0N P1312 (pc' := 208) at_205 hc1336 rfl ?_
            refine own_aload P1312 at_208 rfl rfl rfl ?_
            refine own_aload P1312 at_210 rfl rfl rfl ?_
            refine own_virt P1312 (hw _ (List.mem_of_getElem? (i := 20) rfl)) (hw _ (List.mem_of_getElem? (i := 21) rfl)) (hw _ (List.mem_of_getElem? (i := 23) rfl)) (hw _ (List.mem_of_getElem? (i := 22) rfl)) (hw _ (List.mem_of_getElem? (i := 2) rfl)) (hw _ (List.mem_of_getElem? (i := 24) rfl)) (by decide) f1322 (argsL := [(.ref b967)]) (rest := []) (rmAddA l Z a0 hw b919 b967 ro941 co942 bp943 so1060 i0 i0 (0 : Int32) (0 : Int32) (0 : Int32) (0 : Int32) (0 : Int32) (0 : Int32) (0 : Int32) (1 : Int32) ((own_hv i0) &&& (15 : Int32)) (own_s1 i0) h1314 n0 (Nat.le_trans (Nat.le_trans (Nat.le_trans (Nat.le_trans (Nat.le_trans (Nat.le_trans (Nat.le_trans (Nat.le_trans (Nat.le_trans (Nat.le_trans Z0 E921.1) k945.1) E969.1) (Keep.of_wr W994).1) E1011.1) (Keep.of_wr W1038).1) k1062.1) k1096.1) k1245.1) k1319.1) g927 g946 g947 hg1063 ne948 ne949 ne950 ne951 ne952 ne953 ne1077 ne1078 ne1079 ne1080 ne974 ne975 ne976 ne977 (Ne.symm ne1081) f1322 f1326 f1327 f1328 f1329 f1330 f1331 f1332 f1333 f1335 f1323 f1334 f1324 (own_l1 i0) rfl (own_a1 i0)) at_212 rfl own_pd4 rfl rfl rfl (by decide) 0 rfl (by decide) (by decide) (by decide) (fun T1350 h1351 v1352 L1353 hq1354 P1349 => ?_)
            obtain ⟨rfl, n1355, k1356, f1357⟩ := hq1354
            have N1358 := Fr.app N1321 n1355
            have f1359 := f1322.keep k1356
            have f1360 := f1323.keep k1356 (ninS (Ne.symm ne953) nin0)
            have f1361 := f1324.keep k1356 (ninS (Ne.symm ne976) nin0)
            have f1362 := f1325.keep k1356 (ninS (Ne.symm ne1018) nin0)
            have f1363 := f1326.keep k1356 (ninS ne949 nin0)
            have f1364 := f1327.keep k1356 (ninS ne949 nin0)
            have f1365 := f1328.keep k1356 (ninS ne949 nin0)
            have f1366 := f1329.keep k1356 (ninS ne949 nin0)
            have f1367 := f1330.keep k1356 (ninS ne949 nin0)
            have f1368 := f1331.keep k1356 (ninS ne949 nin0)
            have f1369 := f1332.keep k1356 (ninS ne949 nin0)
            have f1370 := f1333.keep k1356 (ninS ne950 nin0)
            have f1371 := f1334.keep k1356 (ninS (Ne.symm ne1079) nin0)
            have f1372 : own_Ar Z h1351 co942 .int [(1 : Int32), (0 : Int32), (0 : Int32), (0 : Int32)] := f1357
            show own_Go p e below _ (T1350.setTop (mkF m 215 #[.val (.int i0), .val (.int i1), .val (.int i2), .val (.int i3), .val (.int i4), .val (.int i5), .val (.int i6), .val (.int (1 : Int32)), .val (.ref b919), .val (.ref b967), .val (.ref b1009), .val (.int (0 : Int32)), .val (.int (0 : Int32)), .val (.int (0 : Int32)), .val (.int (0 : Int32)), .unset, .unset, .unset, .unset] [(.int (0 : Int32))]))
            refine own_pop P1349 at_215 rfl rfl ?_
            refine own_iload P1349 at_216 rfl rfl ?_
            refine own_iconst P1349 at_218 rfl (v := (1 : Int32)) rfl ?_
            refine own_iadd P1349 at_219 rfl ?_
            rw [show ((0 : Int32) + (1 : Int32)) = (1 : Int32) by decide]
            refine own_istore P1349 at_220 rfl (Ls' := #[.val (.int i0), .val (.int i1), .val (.int i2), .val (.int i3), .val (.int i4), .val (.int i5), .val (.int i6), .val (.int (1 : Int32)), .val (.ref b919), .val (.ref b967), .val (.ref b1009), .val (.int (0 : Int32)), .val (.int (0 : Int32)), .val (.int (1 : Int32)), .val (.int (0 : Int32)), .unset, .unset, .unset, .unset]) rfl ?_
            refine own_iload P1349 at_222 rfl rfl ?_
            refine own_if0N P1349 (pc' := 227) at_224 (by decide : ¬ ((1 : Int32) = (0 : Int32))) rfl ?_
            refine own_iconst P1349 at_227 rfl (v := (1 : Int32)) rfl ?_
            refine own_goto P1349 (pc' := 232) at_228 (by decide) (by decide) ?_
            refine own_istore P1349 at_232 rfl (Ls' := #[.val (.int i0), .val (.int i1), .val (.int i2), .val (.int i3), .val (.int i4), .val (.int i5), .val (.int i6), .val (.int (1 : Int32)), .val (.ref b919), .val (.ref b967), .val (.ref b1009), .val (.int (0 : Int32)), .val (.int (0 : Int32)), .val (.int (1 : Int32)), .val (.int (0 : Int32)), .val (.int (1 : Int32)), .unset, .unset, .unset]) rfl ?_
            refine own_iload P1349 at_234 rfl rfl ?_
            refine own_if0N P1349 (pc' := 239) at_236 (not_not_intro (by decide : (0 : Int32) = (0 : Int32))) rfl ?_
            refine own_iload P1349 at_239 rfl rfl ?_
            refine own_iload P1349 at_241 rfl rfl ?_
            refine own_if0N P1349 (pc' := 246) at_243 (by decide : ¬ ((1 : Int32) = (0 : Int32))) rfl ?_
            refine own_iconst P1349 at_246 rfl (v := (0 : Int32)) rfl ?_
            refine own_goto P1349 (pc' := 251) at_247 (by decide) (by decide) ?_
            refine own_icmpN P1349 (pc' := 254) at_251 (not_not_intro (by decide : (0 : Int32) = (0 : Int32))) rfl ?_
            refine own_aload P1349 at_254 rfl rfl rfl ?_
            refine own_virtP P1349 (hw _ (List.mem_of_getElem? (i := 80) rfl)) (hw _ (List.mem_of_getElem? (i := 81) rfl)) (hw _ (List.mem_of_getElem? (i := 83) rfl)) (hw _ (List.mem_of_getElem? (i := 82) rfl)) (hw _ (List.mem_of_getElem? (i := 2) rfl)) (hw _ (List.mem_of_getElem? (i := 84) rfl)) (by decide) f1359 (argsL := []) (rest := []) (rmSize l Z a0 hw b919 (1 : Int32) h1351 f1367) at_256 rfl own_pd7 rfl rfl rfl (by decide) 0 rfl (by decide) rfl rfl (by decide) (by decide) (fun T1374 P1373 => ?_)
            show own_Go p e below _ (T1374.setTop (mkF m 259 #[.val (.int i0), .val (.int i1), .val (.int i2), .val (.int i3), .val (.int i4), .val (.int i5), .val (.int i6), .val (.int (1 : Int32)), .val (.ref b919), .val (.ref b967), .val (.ref b1009), .val (.int (0 : Int32)), .val (.int (0 : Int32)), .val (.int (1 : Int32)), .val (.int (0 : Int32)), .val (.int (1 : Int32)), .unset, .unset, .unset] [(.int (1 : Int32))]))
            refine own_iload P1373 at_259 rfl rfl ?_
            refine own_icmpN P1373 (pc' := 264) at_261 (not_not_intro (by decide : (1 : Int32) = (1 : Int32))) rfl ?_
            refine own_iconst P1373 at_264 rfl (v := (1 : Int32)) rfl ?_
            refine own_goto P1373 (pc' := 269) at_265 (by decide) (by decide) ?_
            refine own_istore P1373 at_269 rfl (Ls' := #[.val (.int i0), .val (.int i1), .val (.int i2), .val (.int i3), .val (.int i4), .val (.int i5), .val (.int i6), .val (.int (1 : Int32)), .val (.ref b919), .val (.ref b967), .val (.ref b1009), .val (.int (0 : Int32)), .val (.int (0 : Int32)), .val (.int (1 : Int32)), .val (.int (0 : Int32)), .val (.int (1 : Int32)), .val (.int (1 : Int32)), .unset, .unset]) rfl ?_
            refine own_aload P1373 at_271 rfl rfl rfl ?_
            refine own_iconst P1373 at_273 rfl (v := (0 : Int32)) rfl ?_
            refine own_virtP P1373 (hw _ (List.mem_of_getElem? (i := 85) rfl)) (hw _ (List.mem_of_getElem? (i := 76) rfl)) (hw _ (List.mem_of_getElem? (i := 78) rfl)) (hw _ (List.mem_of_getElem? (i := 77) rfl)) (hw _ (List.mem_of_getElem? (i := 2) rfl)) (hw _ (List.mem_of_getElem? (i := 79) rfl)) (by decide) f1359 (argsL := [(.int (0 : Int32))]) (rest := []) (rmHolds0 l Z a0 hw b919 co942 (1 : Int32) (0 : Int32) (0 : Int32) (0 : Int32) h1351 f1365 f1372) at_274 rfl own_pd6 rfl rfl rfl (by decide) 0 rfl (by decide) rfl rfl (by decide) (by decide) (fun T1380 P1379 => ?_)
            show own_Go p e below _ (T1380.setTop (mkF m 277 #[.val (.int i0), .val (.int i1), .val (.int i2), .val (.int i3), .val (.int i4), .val (.int i5), .val (.int i6), .val (.int (1 : Int32)), .val (.ref b919), .val (.ref b967), .val (.ref b1009), .val (.int (0 : Int32)), .val (.int (0 : Int32)), .val (.int (1 : Int32)), .val (.int (0 : Int32)), .val (.int (1 : Int32)), .val (.int (1 : Int32)), .unset, .unset] [(.int (own_ho (1 : Int32)))]))
            rw [show (own_ho (1 : Int32)) = (1 : Int32) by decide]
            refine own_iload P1379 at_277 rfl rfl ?_
            refine own_if0N P1379 (pc' := 282) at_279 (not_not_intro (by decide : (0 : Int32) < (1 : Int32))) rfl ?_
            refine own_iconst P1379 at_282 rfl (v := (1 : Int32)) rfl ?_
            refine own_goto P1379 (pc' := 287) at_283 (by decide) (by decide) ?_
            refine own_icmpN P1379 (pc' := 290) at_287 (not_not_intro (by decide : (1 : Int32) = (1 : Int32))) rfl ?_
            refine own_iconst P1379 at_290 rfl (v := (1 : Int32)) rfl ?_
            refine own_goto P1379 (pc' := 295) at_291 (by decide) (by decide) ?_
            refine own_istore P1379 at_295 rfl (Ls' := #[.val (.int i0), .val (.int i1), .val (.int i2), .val (.int i3), .val (.int i4), .val (.int i5), .val (.int i6), .val (.int (1 : Int32)), .val (.ref b919), .val (.ref b967), .val (.ref b1009), .val (.int (0 : Int32)), .val (.int (0 : Int32)), .val (.int (1 : Int32)), .val (.int (0 : Int32)), .val (.int (1 : Int32)), .val (.int (1 : Int32)), .val (.int (1 : Int32)), .unset]) rfl ?_
            refine own_iload P1379 at_297 rfl rfl ?_
            refine own_if0Y P1379 (pc' := 321) at_299 (by decide : ¬ ((1 : Int32) = (0 : Int32))) (by decide) (by decide) ?_
            refine own_iconst P1379 at_321 rfl (v := (1 : Int32)) rfl ?_
            refine own_goto P1379 (pc' := 326) at_322 (by decide) (by decide) ?_
            refine own_istore P1379 at_326 rfl (Ls' := #[.val (.int i0), .val (.int i1), .val (.int i2), .val (.int i3), .val (.int i4), .val (.int i5), .val (.int i6), .val (.int (1 : Int32)), .val (.ref b919), .val (.ref b967), .val (.ref b1009), .val (.int (0 : Int32)), .val (.int (0 : Int32)), .val (.int (1 : Int32)), .val (.int (0 : Int32)), .val (.int (1 : Int32)), .val (.int (1 : Int32)), .val (.int (1 : Int32)), .val (.int (1 : Int32))]) rfl ?_
            refine own_iload P1379 at_328 rfl rfl ?_
            refine own_if0N P1379 (pc' := 333) at_330 (by decide : ¬ ((1 : Int32) = (0 : Int32))) rfl ?_
            refine own_iload P1379 at_333 rfl rfl ?_
            refine own_if0N P1379 (pc' := 338) at_335 (by decide : ¬ ((1 : Int32) = (0 : Int32))) rfl ?_
            refine own_iload P1379 at_338 rfl rfl ?_
            refine own_if0N P1379 (pc' := 343) at_340 (by decide : ¬ ((1 : Int32) = (0 : Int32))) rfl ?_
            refine own_iconst P1379 at_343 rfl (v := (1 : Int32)) rfl ?_
            refine own_goto P1379 (pc' := 348) at_344 (by decide) (by decide) ?_
            exact own_retZ P1379 at_348 (z := (1 : Int32)) rfl (by decide) (by decide) (hQ _ _ N1358)
    · rw [if_neg hc1113] at hQ
      refine own_if0N P1089 (pc' := 137) at_134 hc1113 rfl ?_
      refine own_aload P1089 at_137 rfl rfl rfl ?_
      refine own_aload P1089 at_139 rfl rfl rfl ?_
      refine own_virt P1089 (hw _ (List.mem_of_getElem? (i := 20) rfl)) (hw _ (List.mem_of_getElem? (i := 21) rfl)) (hw _ (List.mem_of_getElem? (i := 23) rfl)) (hw _ (List.mem_of_getElem? (i := 22) rfl)) (hw _ (List.mem_of_getElem? (i := 2) rfl)) (hw _ (List.mem_of_getElem? (i := 24) rfl)) (by decide) f1099 (argsL := [(.ref b967)]) (rest := []) (rmAddA l Z a0 hw b919 b967 ro941 co942 bp943 so1060 i0 i0 (0 : Int32) (0 : Int32) (0 : Int32) (2 : Int32) (0 : Int32) (0 : Int32) (0 : Int32) (1 : Int32) ((own_hv i0) &&& (15 : Int32)) (own_s1 i0) h1091 n0 (Nat.le_trans (Nat.le_trans (Nat.le_trans (Nat.le_trans (Nat.le_trans (Nat.le_trans (Nat.le_trans (Nat.le_trans Z0 E921.1) k945.1) E969.1) (Keep.of_wr W994).1) E1011.1) (Keep.of_wr W1038).1) k1062.1) k1096.1) g927 g946 g947 hg1063 ne948 ne949 ne950 ne951 ne952 ne953 ne1077 ne1078 ne1079 ne1080 ne974 ne975 ne976 ne977 (Ne.symm ne1081) f1099 f1103 f1104 f1105 f1106 f1107 f1108 f1109 f1110 f1112 f1100 f1111 f1101 (own_l1 i0) rfl (own_a1 i0)) at_141 rfl own_pd4 rfl rfl rfl (by decide) 0 rfl (by decide) (by decide) (by decide) (fun T1386 h1387 v1388 L1389 hq1390 P1385 => ?_)
      obtain ⟨rfl, n1391, k1392, f1393⟩ := hq1390
      have N1394 := Fr.app N1098 n1391
      have f1395 := f1099.keep k1392
      have f1396 := f1100.keep k1392 (ninS (Ne.symm ne953) nin0)
      have f1397 := f1101.keep k1392 (ninS (Ne.symm ne976) nin0)
      have f1398 := f1102.keep k1392 (ninS (Ne.symm ne1018) nin0)
      have f1399 := f1103.keep k1392 (ninS ne949 nin0)
      have f1400 := f1104.keep k1392 (ninS ne949 nin0)
      have f1401 := f1105.keep k1392 (ninS ne949 nin0)
      have f1402 := f1106.keep k1392 (ninS ne949 nin0)
      have f1403 := f1107.keep k1392 (ninS ne949 nin0)
      have f1404 := f1108.keep k1392 (ninS ne949 nin0)
      have f1405 := f1109.keep k1392 (ninS ne949 nin0)
      have f1406 := f1110.keep k1392 (ninS ne950 nin0)
      have f1407 := f1111.keep k1392 (ninS (Ne.symm ne1079) nin0)
      have f1408 : own_Ar Z h1387 co942 .int [(3 : Int32), (0 : Int32), (0 : Int32), (0 : Int32)] := f1393
      show own_Go p e below _ (T1386.setTop (mkF m 144 #[.val (.int i0), .val (.int i1), .val (.int i2), .val (.int i3), .val (.int i4), .val (.int i5), .val (.int i6), .val (.int (1 : Int32)), .val (.ref b919), .val (.ref b967), .val (.ref b1009), .val (.int (0 : Int32)), .val (.int (0 : Int32)), .val (.int (2 : Int32)), .val (.int (0 : Int32)), .unset, .unset, .unset, .unset] [(.int (0 : Int32))]))
      refine own_pop P1385 at_144 rfl rfl ?_
      refine own_iload P1385 at_145 rfl rfl ?_
      refine own_iconst P1385 at_147 rfl (v := (1 : Int32)) rfl ?_
      refine own_iadd P1385 at_148 rfl ?_
      rw [show ((2 : Int32) + (1 : Int32)) = (3 : Int32) by decide]
      refine own_istore P1385 at_149 rfl (Ls' := #[.val (.int i0), .val (.int i1), .val (.int i2), .val (.int i3), .val (.int i4), .val (.int i5), .val (.int i6), .val (.int (1 : Int32)), .val (.ref b919), .val (.ref b967), .val (.ref b1009), .val (.int (0 : Int32)), .val (.int (0 : Int32)), .val (.int (3 : Int32)), .val (.int (0 : Int32)), .unset, .unset, .unset, .unset]) rfl ?_
      refine own_iload P1385 at_151 rfl rfl ?_
      by_cases hc1409 : i4 = (0 : Int32)
      · rw [if_pos hc1409] at hQ
        refine own_if0Y P1385 (pc' := 170) at_153 hc1409 (by decide) (by decide) ?_
        refine own_iload P1385 at_170 rfl rfl ?_
        by_cases hc1410 : i5 = (0 : Int32)
        · rw [if_pos hc1410] at hQ
          refine own_if0Y P1385 (pc' := 203) at_172 hc1410 (by decide) (by decide) ?_
          refine own_iload P1385 at_203 rfl rfl ?_
          by_cases hc1411 : i6 = (0 : Int32)
          · rw [if_pos hc1411] at hQ
            refine own_if0Y P1385 (pc' := 222) at_205 hc1411 (by decide) (by decide) ?_
            refine own_iload P1385 at_222 rfl rfl ?_
            refine own_if0N P1385 (pc' := 227) at_224 (by decide : ¬ ((1 : Int32) = (0 : Int32))) rfl ?_
            refine own_iconst P1385 at_227 rfl (v := (1 : Int32)) rfl ?_
            refine own_goto P1385 (pc' := 232) at_228 (by decide) (by decide) ?_
            refine own_istore P1385 at_232 rfl (Ls' := #[.val (.int i0), .val (.int i1), .val (.int i2), .val (.int i3), .val (.int i4), .val (.int i5), .val (.int i6), .val (.int (1 : Int32)), .val (.ref b919), .val (.ref b967), .val (.ref b1009), .val (.int (0 : Int32)), .val (.int (0 : Int32)), .val (.int (3 : Int32)), .val (.int (0 : Int32)), .val (.int (1 : Int32)), .unset, .unset, .unset]) rfl ?_
            refine own_iload P1385 at_234 rfl rfl ?_
            refine own_if0N P1385 (pc' := 239) at_236 (not_not_intro (by decide : (0 : Int32) = (0 : Int32))) rfl ?_
            refine own_iload P1385 at_239 rfl rfl ?_
            refine own_iload P1385 at_241 rfl rfl ?_
            refine own_if0N P1385 (pc' := 246) at_243 (by decide : ¬ ((1 : Int32) = (0 : Int32))) rfl ?_
            refine own_iconst P1385 at_246 rfl (v := (0 : Int32)) rfl ?_
            refine own_goto P1385 (pc' := 251) at_247 (by decide) (by decide) ?_
            refine own_icmpN P1385 (pc' := 254) at_251 (not_not_intro (by decide : (0 : Int32) = (0 : Int32))) rfl ?_
            refine own_aload P1385 at_254 rfl rfl rfl ?_
            refine own_virtP P1385 (hw _ (List.mem_of_getElem? (i := 80) rfl)) (hw _ (List.mem_of_getElem? (i := 81) rfl)) (hw _ (List.mem_of_getElem? (i := 83) rfl)) (hw _ (List.mem_of_getElem? (i := 82) rfl)) (hw _ (List.mem_of_getElem? (i := 2) rfl)) (hw _ (List.mem_of_getElem? (i := 84) rfl)) (by decide) f1395 (argsL := []) (rest := []) (rmSize l Z a0 hw b919 (1 : Int32) h1387 f1403) at_256 rfl own_pd7 rfl rfl rfl (by decide) 0 rfl (by decide) rfl rfl (by decide) (by decide) (fun T1413 P1412 => ?_)
            show own_Go p e below _ (T1413.setTop (mkF m 259 #[.val (.int i0), .val (.int i1), .val (.int i2), .val (.int i3), .val (.int i4), .val (.int i5), .val (.int i6), .val (.int (1 : Int32)), .val (.ref b919), .val (.ref b967), .val (.ref b1009), .val (.int (0 : Int32)), .val (.int (0 : Int32)), .val (.int (3 : Int32)), .val (.int (0 : Int32)), .val (.int (1 : Int32)), .unset, .unset, .unset] [(.int (1 : Int32))]))
            refine own_iload P1412 at_259 rfl rfl ?_
            refine own_icmpN P1412 (pc' := 264) at_261 (not_not_intro (by decide : (1 : Int32) = (1 : Int32))) rfl ?_
            refine own_iconst P1412 at_264 rfl (v := (1 : Int32)) rfl ?_
            refine own_goto P1412 (pc' := 269) at_265 (by decide) (by decide) ?_
            refine own_istore P1412 at_269 rfl (Ls' := #[.val (.int i0), .val (.int i1), .val (.int i2), .val (.int i3), .val (.int i4), .val (.int i5), .val (.int i6), .val (.int (1 : Int32)), .val (.ref b919), .val (.ref b967), .val (.ref b1009), .val (.int (0 : Int32)), .val (.int (0 : Int32)), .val (.int (3 : Int32)), .val (.int (0 : Int32)), .val (.int (1 : Int32)), .val (.int (1 : Int32)), .unset, .unset]) rfl ?_
            refine own_aload P1412 at_271 rfl rfl rfl ?_
            refine own_iconst P1412 at_273 rfl (v := (0 : Int32)) rfl ?_
            refine own_virtP P1412 (hw _ (List.mem_of_getElem? (i := 85) rfl)) (hw _ (List.mem_of_getElem? (i := 76) rfl)) (hw _ (List.mem_of_getElem? (i := 78) rfl)) (hw _ (List.mem_of_getElem? (i := 77) rfl)) (hw _ (List.mem_of_getElem? (i := 2) rfl)) (hw _ (List.mem_of_getElem? (i := 79) rfl)) (by decide) f1395 (argsL := [(.int (0 : Int32))]) (rest := []) (rmHolds0 l Z a0 hw b919 co942 (3 : Int32) (0 : Int32) (0 : Int32) (0 : Int32) h1387 f1401 f1408) at_274 rfl own_pd6 rfl rfl rfl (by decide) 0 rfl (by decide) rfl rfl (by decide) (by decide) (fun T1419 P1418 => ?_)
            show own_Go p e below _ (T1419.setTop (mkF m 277 #[.val (.int i0), .val (.int i1), .val (.int i2), .val (.int i3), .val (.int i4), .val (.int i5), .val (.int i6), .val (.int (1 : Int32)), .val (.ref b919), .val (.ref b967), .val (.ref b1009), .val (.int (0 : Int32)), .val (.int (0 : Int32)), .val (.int (3 : Int32)), .val (.int (0 : Int32)), .val (.int (1 : Int32)), .val (.int (1 : Int32)), .unset, .unset] [(.int (own_ho (3 : Int32)))]))
            rw [show (own_ho (3 : Int32)) = (1 : Int32) by decide]
            refine own_iload P1418 at_277 rfl rfl ?_
            refine own_if0N P1418 (pc' := 282) at_279 (not_not_intro (by decide : (0 : Int32) < (3 : Int32))) rfl ?_
            refine own_iconst P1418 at_282 rfl (v := (1 : Int32)) rfl ?_
            refine own_goto P1418 (pc' := 287) at_283 (by decide) (by decide) ?_
            refine own_icmpN P1418 (pc' := 290) at_287 (not_not_intro (by decide : (1 : Int32) = (1 : Int32))) rfl ?_
            refine own_iconst P1418 at_290 rfl (v := (1 : Int32)) rfl ?_
            refine own_goto P1418 (pc' := 295) at_291 (by decide) (by decide) ?_
            refine own_istore P1418 at_295 rfl (Ls' := #[.val (.int i0), .val (.int i1), .val (.int i2), .val (.int i3), .val (.int i4), .val (.int i5), .val (.int i6), .val (.int (1 : Int32)), .val (.ref b919), .val (.ref b967), .val (.ref b1009), .val (.int (0 : Int32)), .val (.int (0 : Int32)), .val (.int (3 : Int32)), .val (.int (0 : Int32)), .val (.int (1 : Int32)), .val (.int (1 : Int32)), .val (.int (1 : Int32)), .unset]) rfl ?_
            refine own_iload P1418 at_297 rfl rfl ?_
            refine own_if0Y P1418 (pc' := 321) at_299 (by decide : ¬ ((1 : Int32) = (0 : Int32))) (by decide) (by decide) ?_
            refine own_iconst P1418 at_321 rfl (v := (1 : Int32)) rfl ?_
            refine own_goto P1418 (pc' := 326) at_322 (by decide) (by decide) ?_
            refine own_istore P1418 at_326 rfl (Ls' := #[.val (.int i0), .val (.int i1), .val (.int i2), .val (.int i3), .val (.int i4), .val (.int i5), .val (.int i6), .val (.int (1 : Int32)), .val (.ref b919), .val (.ref b967), .val (.ref b1009), .val (.int (0 : Int32)), .val (.int (0 : Int32)), .val (.int (3 : Int32)), .val (.int (0 : Int32)), .val (.int (1 : Int32)), .val (.int (1 : Int32)), .val (.int (1 : Int32)), .val (.int (1 : Int32))]) rfl ?_
            refine own_iload P1418 at_328 rfl rfl ?_
            refine own_if0N P1418 (pc' := 333) at_330 (by decide : ¬ ((1 : Int32) = (0 : Int32))) rfl ?_
            refine own_iload P1418 at_333 rfl rfl ?_
            refine own_if0N P1418 (pc' := 338) at_335 (by decide : ¬ ((1 : Int32) = (0 : Int32))) rfl ?_
            refine own_iload P1418 at_338 rfl rfl ?_
            refine own_if0N P1418 (pc' := 343) at_340 (by decide : ¬ ((1 : Int32) = (0 : Int32))) rfl ?_
            refine own_iconst P1418 at_343 rfl (v := (1 : Int32)) rfl ?_
            refine own_goto P1418 (pc' := 348) at_344 (by decide) (by decide) ?_
            exact own_retZ P1418 at_348 (z := (1 : Int32)) rfl (by decide) (by decide) (hQ _ _ N1394)
          · rw [if_neg hc1411] at hQ
            refine own_if0N P1385 (pc' := 208) at_205 hc1411 rfl ?_
            refine own_aload P1385 at_208 rfl rfl rfl ?_
            refine own_aload P1385 at_210 rfl rfl rfl ?_
            refine own_virt P1385 (hw _ (List.mem_of_getElem? (i := 20) rfl)) (hw _ (List.mem_of_getElem? (i := 21) rfl)) (hw _ (List.mem_of_getElem? (i := 23) rfl)) (hw _ (List.mem_of_getElem? (i := 22) rfl)) (hw _ (List.mem_of_getElem? (i := 2) rfl)) (hw _ (List.mem_of_getElem? (i := 24) rfl)) (by decide) f1395 (argsL := [(.ref b967)]) (rest := []) (rmAddA l Z a0 hw b919 b967 ro941 co942 bp943 so1060 i0 i0 (0 : Int32) (0 : Int32) (0 : Int32) (3 : Int32) (0 : Int32) (0 : Int32) (0 : Int32) (1 : Int32) ((own_hv i0) &&& (15 : Int32)) (own_s1 i0) h1387 n0 (Nat.le_trans (Nat.le_trans (Nat.le_trans (Nat.le_trans (Nat.le_trans (Nat.le_trans (Nat.le_trans (Nat.le_trans (Nat.le_trans Z0 E921.1) k945.1) E969.1) (Keep.of_wr W994).1) E1011.1) (Keep.of_wr W1038).1) k1062.1) k1096.1) k1392.1) g927 g946 g947 hg1063 ne948 ne949 ne950 ne951 ne952 ne953 ne1077 ne1078 ne1079 ne1080 ne974 ne975 ne976 ne977 (Ne.symm ne1081) f1395 f1399 f1400 f1401 f1402 f1403 f1404 f1405 f1406 f1408 f1396 f1407 f1397 (own_l1 i0) rfl (own_a1 i0)) at_212 rfl own_pd4 rfl rfl rfl (by decide) 0 rfl (by decide) (by decide) (by decide) (fun T1425 h1426 v1427 L1428 hq1429 P1424 => ?_)
            obtain ⟨rfl, n1430, k1431, f1432⟩ := hq1429
            have N1433 := Fr.app N1394 n1430
            have f1434 := f1395.keep k1431
            have f1435 := f1396.keep k1431 (ninS (Ne.symm ne953) nin0)
            have f1436 := f1397.keep k1431 (ninS (Ne.symm ne976) nin0)
            have f1437 := f1398.keep k1431 (ninS (Ne.symm ne1018) nin0)
            have f1438 := f1399.keep k1431 (ninS ne949 nin0)
            have f1439 := f1400.keep k1431 (ninS ne949 nin0)
            have f1440 := f1401.keep k1431 (ninS ne949 nin0)
            have f1441 := f1402.keep k1431 (ninS ne949 nin0)
            have f1442 := f1403.keep k1431 (ninS ne949 nin0)
            have f1443 := f1404.keep k1431 (ninS ne949 nin0)
            have f1444 := f1405.keep k1431 (ninS ne949 nin0)
            have f1445 := f1406.keep k1431 (ninS ne950 nin0)
            have f1446 := f1407.keep k1431 (ninS (Ne.symm ne1079) nin0)
            have f1447 : own_Ar Z h1426 co942 .int [(4 : Int32), (0 : Int32), (0 : Int32), (0 : Int32)] := f1432
            show own_Go p e below _ (T1425.setTop (mkF m 215 #[.val (.int i0), .val (.int i1), .val (.int i2), .val (.int i3), .val (.int i4), .val (.int i5), .val (.int i6), .val (.int (1 : Int32)), .val (.ref b919), .val (.ref b967), .val (.ref b1009), .val (.int (0 : Int32)), .val (.int (0 : Int32)), .val (.int (3 : Int32)), .val (.int (0 : Int32)), .unset, .unset, .unset, .unset] [(.int (0 : Int32))]))
            refine own_pop P1424 at_215 rfl rfl ?_
            refine own_iload P1424 at_216 rfl rfl ?_
            refine own_iconst P1424 at_218 rfl (v := (1 : Int32)) rfl ?_
            refine own_iadd P1424 at_219 rfl ?_
            rw [show ((3 : Int32) + (1 : Int32)) = (4 : Int32) by decide]
            refine own_istore P1424 at_220 rfl (Ls' := #[.val (.int i0), .val (.int i1), .val (.int i2), .val (.int i3), .val (.int i4), .val (.int i5), .val (.int i6), .val (.int (1 : Int32)), .val (.ref b919), .val (.ref b967), .val (.ref b1009), .val (.int (0 : Int32)), .val (.int (0 : Int32)), .val (.int (4 : Int32)), .val (.int (0 : Int32)), .unset, .unset, .unset, .unset]) rfl ?_
            refine own_iload P1424 at_222 rfl rfl ?_
            refine own_if0N P1424 (pc' := 227) at_224 (by decide : ¬ ((1 : Int32) = (0 : Int32))) rfl ?_
            refine own_iconst P1424 at_227 rfl (v := (1 : Int32)) rfl ?_
            refine own_goto P1424 (pc' := 232) at_228 (by decide) (by decide) ?_
            refine own_istore P1424 at_232 rfl (Ls' := #[.val (.int i0), .val (.int i1), .val (.int i2), .val (.int i3), .val (.int i4), .val (.int i5), .val (.int i6), .val (.int (1 : Int32)), .val (.ref b919), .val (.ref b967), .val (.ref b1009), .val (.int (0 : Int32)), .val (.int (0 : Int32)), .val (.int (4 : Int32)), .val (.int (0 : Int32)), .val (.int (1 : Int32)), .unset, .unset, .unset]) rfl ?_
            refine own_iload P1424 at_234 rfl rfl ?_
            refine own_if0N P1424 (pc' := 239) at_236 (not_not_intro (by decide : (0 : Int32) = (0 : Int32))) rfl ?_
            refine own_iload P1424 at_239 rfl rfl ?_
            refine own_iload P1424 at_241 rfl rfl ?_
            refine own_if0N P1424 (pc' := 246) at_243 (by decide : ¬ ((1 : Int32) = (0 : Int32))) rfl ?_
            refine own_iconst P1424 at_246 rfl (v := (0 : Int32)) rfl ?_
            refine own_goto P1424 (pc' := 251) at_247 (by decide) (by decide) ?_
            refine own_icmpN P1424 (pc' := 254) at_251 (not_not_intro (by decide : (0 : Int32) = (0 : Int32))) rfl ?_
            refine own_aload P1424 at_254 rfl rfl rfl ?_
            refine own_virtP P1424 (hw _ (List.mem_of_getElem? (i := 80) rfl)) (hw _ (List.mem_of_getElem? (i := 81) rfl)) (hw _ (List.mem_of_getElem? (i := 83) rfl)) (hw _ (List.mem_of_getElem? (i := 82) rfl)) (hw _ (List.mem_of_getElem? (i := 2) rfl)) (hw _ (List.mem_of_getElem? (i := 84) rfl)) (by decide) f1434 (argsL := []) (rest := []) (rmSize l Z a0 hw b919 (1 : Int32) h1426 f1442) at_256 rfl own_pd7 rfl rfl rfl (by decide) 0 rfl (by decide) rfl rfl (by decide) (by decide) (fun T1449 P1448 => ?_)
            show own_Go p e below _ (T1449.setTop (mkF m 259 #[.val (.int i0), .val (.int i1), .val (.int i2), .val (.int i3), .val (.int i4), .val (.int i5), .val (.int i6), .val (.int (1 : Int32)), .val (.ref b919), .val (.ref b967), .val (.ref b1009), .val (.int (0 : Int32)), .val (.int (0 : Int32)), .val (.int (4 : Int32)), .val (.int (0 : Int32)), .val (.int (1 : Int32)), .unset, .unset, .unset] [(.int (1 : Int32))]))
            refine own_iload P1448 at_259 rfl rfl ?_
            refine own_icmpN P1448 (pc' := 264) at_261 (not_not_intro (by decide : (1 : Int32) = (1 : Int32))) rfl ?_
            refine own_iconst P1448 at_264 rfl (v := (1 : Int32)) rfl ?_
            refine own_goto P1448 (pc' := 269) at_265 (by decide) (by decide) ?_
            refine own_istore P1448 at_269 rfl (Ls' := #[.val (.int i0), .val (.int i1), .val (.int i2), .val (.int i3), .val (.int i4), .val (.int i5), .val (.int i6), .val (.int (1 : Int32)), .val (.ref b919), .val (.ref b967), .val (.ref b1009), .val (.int (0 : Int32)), .val (.int (0 : Int32)), .val (.int (4 : Int32)), .val (.int (0 : Int32)), .val (.int (1 : Int32)), .val (.int (1 : Int32)), .unset, .unset]) rfl ?_
            refine own_aload P1448 at_271 rfl rfl rfl ?_
            refine own_iconst P1448 at_273 rfl (v := (0 : Int32)) rfl ?_
            refine own_virtP P1448 (hw _ (List.mem_of_getElem? (i := 85) rfl)) (hw _ (List.mem_of_getElem? (i := 76) rfl)) (hw _ (List.mem_of_getElem? (i := 78) rfl)) (hw _ (List.mem_of_getElem? (i := 77) rfl)) (hw _ (List.mem_of_getElem? (i := 2) rfl)) (hw _ (List.mem_of_getElem? (i := 79) rfl)) (by decide) f1434 (argsL := [(.int (0 : Int32))]) (rest := []) (rmHolds0 l Z a0 hw b919 co942 (4 : Int32) (0 : Int32) (0 : Int32) (0 : Int32) h1426 f1440 f1447) at_274 rfl own_pd6 rfl rfl rfl (by decide) 0 rfl (by decide) rfl rfl (by decide) (by decide) (fun T1455 P1454 => ?_)
            show own_Go p e below _ (T1455.setTop (mkF m 277 #[.val (.int i0), .val (.int i1), .val (.int i2), .val (.int i3), .val (.int i4), .val (.int i5), .val (.int i6), .val (.int (1 : Int32)), .val (.ref b919), .val (.ref b967), .val (.ref b1009), .val (.int (0 : Int32)), .val (.int (0 : Int32)), .val (.int (4 : Int32)), .val (.int (0 : Int32)), .val (.int (1 : Int32)), .val (.int (1 : Int32)), .unset, .unset] [(.int (own_ho (4 : Int32)))]))
            rw [show (own_ho (4 : Int32)) = (1 : Int32) by decide]
            refine own_iload P1454 at_277 rfl rfl ?_
            refine own_if0N P1454 (pc' := 282) at_279 (not_not_intro (by decide : (0 : Int32) < (4 : Int32))) rfl ?_
            refine own_iconst P1454 at_282 rfl (v := (1 : Int32)) rfl ?_
            refine own_goto P1454 (pc' := 287) at_283 (by decide) (by decide) ?_
            refine own_icmpN P1454 (pc' := 290) at_287 (not_not_intro (by decide : (1 : Int32) = (1 : Int32))) rfl ?_
            refine own_iconst P1454 at_290 rfl (v := (1 : Int32)) rfl ?_
            refine own_goto P1454 (pc' := 295) at_291 (by decide) (by decide) ?_
            refine own_istore P1454 at_295 rfl (Ls' := #[.val (.int i0), .val (.int i1), .val (.int i2), .val (.int i3), .val (.int i4), .val (.int i5), .val (.int i6), .val (.int (1 : Int32)), .val (.ref b919), .val (.ref b967), .val (.ref b1009), .val (.int (0 : Int32)), .val (.int (0 : Int32)), .val (.int (4 : Int32)), .val (.int (0 : Int32)), .val (.int (1 : Int32)), .val (.int (1 : Int32)), .val (.int (1 : Int32)), .unset]) rfl ?_
            refine own_iload P1454 at_297 rfl rfl ?_
            refine own_if0Y P1454 (pc' := 321) at_299 (by decide : ¬ ((1 : Int32) = (0 : Int32))) (by decide) (by decide) ?_
            refine own_iconst P1454 at_321 rfl (v := (1 : Int32)) rfl ?_
            refine own_goto P1454 (pc' := 326) at_322 (by decide) (by decide) ?_
            refine own_istore P1454 at_326 rfl (Ls' := #[.val (.int i0), .val (.int i1), .val (.int i2), .val (.int i3), .val (.int i4), .val (.int i5), .val (.int i6), .val (.int (1 : Int32)), .val (.ref b919), .val (.ref b967), .val (.ref b1009), .val (.int (0 : Int32)), .val (.int (0 : Int32)), .val (.int (4 : Int32)), .val (.int (0 : Int32)), .val (.int (1 : Int32)), .val (.int (1 : Int32)), .val (.int (1 : Int32)), .val (.int (1 : Int32))]) rfl ?_
            refine own_iload P1454 at_328 rfl rfl ?_
            refine own_if0N P1454 (pc' := 333) at_330 (by decide : ¬ ((1 : Int32) = (0 : Int32))) rfl ?_
            refine own_iload P1454 at_333 rfl rfl ?_
            refine own_if0N P1454 (pc' := 338) at_335 (by decide : ¬ ((1 : Int32) = (0 : Int32))) rfl ?_
            refine own_iload P1454 at_338 rfl rfl ?_
            refine own_if0N P1454 (pc' := 343) at_340 (by decide : ¬ ((1 : Int32) = (0 : Int32))) rfl ?_
            refine own_iconst P1454 at_343 rfl (v := (1 : Int32)) rfl ?_
            refine own_goto P1454 (pc' := 348) at_344 (by decide) (by decide) ?_
            exact own_retZ P1454 at_348 (z := (1 : Int32)) rfl (by decide) (by decide) (hQ _ _ N1433)
        · rw [if_neg hc1410] at hQ
          refine own_if0N P1385 (pc' := 175) at_172 hc1410 rfl ?_
          refine own_aload P1385 at_175 rfl rfl rfl ?_
          refine own_aload P1385 at_177 rfl rfl rfl ?_
          refine own_virt P1385 (hw _ (List.mem_of_getElem? (i := 65) rfl)) (hw _ (List.mem_of_getElem? (i := 66) rfl)) (hw _ (List.mem_of_getElem? (i := 68) rfl)) (hw _ (List.mem_of_getElem? (i := 67) rfl)) (hw _ (List.mem_of_getElem? (i := 2) rfl)) (hw _ (List.mem_of_getElem? (i := 69) rfl)) (by decide) f1395 (argsL := [(.ref b1009)]) (rest := []) (rmRem0 l Z a0 hw b919 b1009 ro941 co942 bp943 so1060 i1 i0 (0 : Int32) (0 : Int32) (0 : Int32) (3 : Int32) (0 : Int32) (0 : Int32) (0 : Int32) (1 : Int32) ((own_hv i0) &&& (15 : Int32)) (own_s1 i0) h1387 n0 (Nat.le_trans (Nat.le_trans (Nat.le_trans (Nat.le_trans (Nat.le_trans (Nat.le_trans (Nat.le_trans (Nat.le_trans (Nat.le_trans Z0 E921.1) k945.1) E969.1) (Keep.of_wr W994).1) E1011.1) (Keep.of_wr W1038).1) k1062.1) k1096.1) k1392.1) g927 g946 g947 hg1063 ne948 ne949 ne950 ne951 ne952 ne953 ne1077 ne1078 ne1079 ne1080 ne1016 ne1017 ne1018 ne1019 (Ne.symm ne1082) f1395 f1399 f1400 f1401 f1402 f1403 f1404 f1405 f1406 f1408 f1396 f1407 f1398 (own_l1 i0) hab (own_a1' i0 i1 hab) (by decide)) at_179 rfl own_pd4 rfl rfl rfl (by decide) 0 rfl (by decide) (by decide) (by decide) (fun T1461 h1462 v1463 L1464 hq1465 P1460 => ?_)
          obtain ⟨rfl, n1466, k1467, f1468⟩ := hq1465
          have N1469 := Fr.app N1394 n1466
          have f1470 := f1395.keep k1467
          have f1471 := f1396.keep k1467 (ninS (Ne.symm ne953) nin0)
          have f1472 := f1397.keep k1467 (ninS (Ne.symm ne976) nin0)
          have f1473 := f1398.keep k1467 (ninS (Ne.symm ne1018) nin0)
          have f1474 := f1399.keep k1467 (ninS ne949 nin0)
          have f1475 := f1400.keep k1467 (ninS ne949 nin0)
          have f1476 := f1401.keep k1467 (ninS ne949 nin0)
          have f1477 := f1402.keep k1467 (ninS ne949 nin0)
          have f1478 := f1403.keep k1467 (ninS ne949 nin0)
          have f1479 := f1404.keep k1467 (ninS ne949 nin0)
          have f1480 := f1405.keep k1467 (ninS ne949 nin0)
          have f1481 := f1406.keep k1467 (ninS ne950 nin0)
          have f1482 := f1407.keep k1467 (ninS (Ne.symm ne1079) nin0)
          have f1483 : own_Ar Z h1462 co942 .int [(2 : Int32), (0 : Int32), (0 : Int32), (0 : Int32)] := f1468
          show own_Go p e below _ (T1461.setTop (mkF m 182 #[.val (.int i0), .val (.int i1), .val (.int i2), .val (.int i3), .val (.int i4), .val (.int i5), .val (.int i6), .val (.int (1 : Int32)), .val (.ref b919), .val (.ref b967), .val (.ref b1009), .val (.int (0 : Int32)), .val (.int (0 : Int32)), .val (.int (3 : Int32)), .val (.int (0 : Int32)), .unset, .unset, .unset, .unset] [(.int (0 : Int32))]))
          refine own_pop P1460 at_182 rfl rfl ?_
          refine own_iload P1460 at_183 rfl rfl ?_
          refine own_if0N P1460 (pc' := 188) at_185 (by decide : ¬ ((1 : Int32) = (0 : Int32))) rfl ?_
          refine own_iload P1460 at_188 rfl rfl ?_
          refine own_iconst P1460 at_190 rfl (v := (1 : Int32)) rfl ?_
          refine own_isub P1460 at_191 rfl ?_
          rw [show ((3 : Int32) - (1 : Int32)) = (2 : Int32) by decide]
          refine own_istore P1460 at_192 rfl (Ls' := #[.val (.int i0), .val (.int i1), .val (.int i2), .val (.int i3), .val (.int i4), .val (.int i5), .val (.int i6), .val (.int (1 : Int32)), .val (.ref b919), .val (.ref b967), .val (.ref b1009), .val (.int (0 : Int32)), .val (.int (0 : Int32)), .val (.int (2 : Int32)), .val (.int (0 : Int32)), .unset, .unset, .unset, .unset]) rfl ?_
          refine own_goto P1460 (pc' := 203) at_194 (by decide) (by decide) ?_
          refine own_iload P1460 at_203 rfl rfl ?_
          by_cases hc1484 : i6 = (0 : Int32)
          · rw [if_pos hc1484] at hQ
            refine own_if0Y P1460 (pc' := 222) at_205 hc1484 (by decide) (by decide) ?_
            refine own_iload P1460 at_222 rfl rfl ?_
            refine own_if0N P1460 (pc' := 227) at_224 (by decide : ¬ ((1 : Int32) = (0 : Int32))) rfl ?_
            refine own_iconst P1460 at_227 rfl (v := (1 : Int32)) rfl ?_
            refine own_goto P1460 (pc' := 232) at_228 (by decide) (by decide) ?_
            refine own_istore P1460 at_232 rfl (Ls' := #[.val (.int i0), .val (.int i1), .val (.int i2), .val (.int i3), .val (.int i4), .val (.int i5), .val (.int i6), .val (.int (1 : Int32)), .val (.ref b919), .val (.ref b967), .val (.ref b1009), .val (.int (0 : Int32)), .val (.int (0 : Int32)), .val (.int (2 : Int32)), .val (.int (0 : Int32)), .val (.int (1 : Int32)), .unset, .unset, .unset]) rfl ?_
            refine own_iload P1460 at_234 rfl rfl ?_
            refine own_if0N P1460 (pc' := 239) at_236 (not_not_intro (by decide : (0 : Int32) = (0 : Int32))) rfl ?_
            refine own_iload P1460 at_239 rfl rfl ?_
            refine own_iload P1460 at_241 rfl rfl ?_
            refine own_if0N P1460 (pc' := 246) at_243 (by decide : ¬ ((1 : Int32) = (0 : Int32))) rfl ?_
            refine own_iconst P1460 at_246 rfl (v := (0 : Int32)) rfl ?_
            refine own_goto P1460 (pc' := 251) at_247 (by decide) (by decide) ?_
            refine own_icmpN P1460 (pc' := 254) at_251 (not_not_intro (by decide : (0 : Int32) = (0 : Int32))) rfl ?_
            refine own_aload P1460 at_254 rfl rfl rfl ?_
            refine own_virtP P1460 (hw _ (List.mem_of_getElem? (i := 80) rfl)) (hw _ (List.mem_of_getElem? (i := 81) rfl)) (hw _ (List.mem_of_getElem? (i := 83) rfl)) (hw _ (List.mem_of_getElem? (i := 82) rfl)) (hw _ (List.mem_of_getElem? (i := 2) rfl)) (hw _ (List.mem_of_getElem? (i := 84) rfl)) (by decide) f1470 (argsL := []) (rest := []) (rmSize l Z a0 hw b919 (1 : Int32) h1462 f1478) at_256 rfl own_pd7 rfl rfl rfl (by decide) 0 rfl (by decide) rfl rfl (by decide) (by decide) (fun T1486 P1485 => ?_)
            show own_Go p e below _ (T1486.setTop (mkF m 259 #[.val (.int i0), .val (.int i1), .val (.int i2), .val (.int i3), .val (.int i4), .val (.int i5), .val (.int i6), .val (.int (1 : Int32)), .val (.ref b919), .val (.ref b967), .val (.ref b1009), .val (.int (0 : Int32)), .val (.int (0 : Int32)), .val (.int (2 : Int32)), .val (.int (0 : Int32)), .val (.int (1 : Int32)), .unset, .unset, .unset] [(.int (1 : Int32))]))
            refine own_iload P1485 at_259 rfl rfl ?_
            refine own_icmpN P1485 (pc' := 264) at_261 (not_not_intro (by decide : (1 : Int32) = (1 : Int32))) rfl ?_
            refine own_iconst P1485 at_264 rfl (v := (1 : Int32)) rfl ?_
            refine own_goto P1485 (pc' := 269) at_265 (by decide) (by decide) ?_
            refine own_istore P1485 at_269 rfl (Ls' := #[.val (.int i0), .val (.int i1), .val (.int i2), .val (.int i3), .val (.int i4), .val (.int i5), .val (.int i6), .val (.int (1 : Int32)), .val (.ref b919), .val (.ref b967), .val (.ref b1009), .val (.int (0 : Int32)), .val (.int (0 : Int32)), .val (.int (2 : Int32)), .val (.int (0 : Int32)), .val (.int (1 : Int32)), .val (.int (1 : Int32)), .unset, .unset]) rfl ?_
            refine own_aload P1485 at_271 rfl rfl rfl ?_
            refine own_iconst P1485 at_273 rfl (v := (0 : Int32)) rfl ?_
            refine own_virtP P1485 (hw _ (List.mem_of_getElem? (i := 85) rfl)) (hw _ (List.mem_of_getElem? (i := 76) rfl)) (hw _ (List.mem_of_getElem? (i := 78) rfl)) (hw _ (List.mem_of_getElem? (i := 77) rfl)) (hw _ (List.mem_of_getElem? (i := 2) rfl)) (hw _ (List.mem_of_getElem? (i := 79) rfl)) (by decide) f1470 (argsL := [(.int (0 : Int32))]) (rest := []) (rmHolds0 l Z a0 hw b919 co942 (2 : Int32) (0 : Int32) (0 : Int32) (0 : Int32) h1462 f1476 f1483) at_274 rfl own_pd6 rfl rfl rfl (by decide) 0 rfl (by decide) rfl rfl (by decide) (by decide) (fun T1492 P1491 => ?_)
            show own_Go p e below _ (T1492.setTop (mkF m 277 #[.val (.int i0), .val (.int i1), .val (.int i2), .val (.int i3), .val (.int i4), .val (.int i5), .val (.int i6), .val (.int (1 : Int32)), .val (.ref b919), .val (.ref b967), .val (.ref b1009), .val (.int (0 : Int32)), .val (.int (0 : Int32)), .val (.int (2 : Int32)), .val (.int (0 : Int32)), .val (.int (1 : Int32)), .val (.int (1 : Int32)), .unset, .unset] [(.int (own_ho (2 : Int32)))]))
            rw [show (own_ho (2 : Int32)) = (1 : Int32) by decide]
            refine own_iload P1491 at_277 rfl rfl ?_
            refine own_if0N P1491 (pc' := 282) at_279 (not_not_intro (by decide : (0 : Int32) < (2 : Int32))) rfl ?_
            refine own_iconst P1491 at_282 rfl (v := (1 : Int32)) rfl ?_
            refine own_goto P1491 (pc' := 287) at_283 (by decide) (by decide) ?_
            refine own_icmpN P1491 (pc' := 290) at_287 (not_not_intro (by decide : (1 : Int32) = (1 : Int32))) rfl ?_
            refine own_iconst P1491 at_290 rfl (v := (1 : Int32)) rfl ?_
            refine own_goto P1491 (pc' := 295) at_291 (by decide) (by decide) ?_
            refine own_istore P1491 at_295 rfl (Ls' := #[.val (.int i0), .val (.int i1), .val (.int i2), .val (.int i3), .val (.int i4), .val (.int i5), .val (.int i6), .val (.int (1 : Int32)), .val (.ref b919), .val (.ref b967), .val (.ref b1009), .val (.int (0 : Int32)), .val (.int (0 : Int32)), .val (.int (2 : Int32)), .val (.int (0 : Int32)), .val (.int (1 : Int32)), .val (.int (1 : Int32)), .val (.int (1 : Int32)), .unset]) rfl ?_
            refine own_iload P1491 at_297 rfl rfl ?_
            refine own_if0Y P1491 (pc' := 321) at_299 (by decide : ¬ ((1 : Int32) = (0 : Int32))) (by decide) (by decide) ?_
            refine own_iconst P1491 at_321 rfl (v := (1 : Int32)) rfl ?_
            refine own_goto P1491 (pc' := 326) at_322 (by decide) (by decide) ?_
            refine own_istore P1491 at_326 rfl (Ls' := #[.val (.int i0), .val (.int i1), .val (.int i2), .val (.int i3), .val (.int i4), .val (.int i5), .val (.int i6), .val (.int (1 : Int32)), .val (.ref b919), .val (.ref b967), .val (.ref b1009), .val (.int (0 : Int32)), .val (.int (0 : Int32)), .val (.int (2 : Int32)), .val (.int (0 : Int32)), .val (.int (1 : Int32)), .val (.int (1 : Int32)), .val (.int (1 : Int32)), .val (.int (1 : Int32))]) rfl ?_
            refine own_iload P1491 at_328 rfl rfl ?_
            refine own_if0N P1491 (pc' := 333) at_330 (by decide : ¬ ((1 : Int32) = (0 : Int32))) rfl ?_
            refine own_iload P1491 at_333 rfl rfl ?_
            refine own_if0N P1491 (pc' := 338) at_335 (by decide : ¬ ((1 : Int32) = (0 : Int32))) rfl ?_
            refine own_iload P1491 at_338 rfl rfl ?_
            refine own_if0N P1491 (pc' := 343) at_340 (by decide : ¬ ((1 : Int32) = (0 : Int32))) rfl ?_
            refine own_iconst P1491 at_343 rfl (v := (1 : Int32)) rfl ?_
            refine own_goto P1491 (pc' := 348) at_344 (by decide) (by decide) ?_
            exact own_retZ P1491 at_348 (z := (1 : Int32)) rfl (by decide) (by decide) (hQ _ _ N1469)
          · rw [if_neg hc1484] at hQ
            refine own_if0N P1460 (pc' := 208) at_205 hc1484 rfl ?_
            refine own_aload P1460 at_208 rfl rfl rfl ?_
            refine own_aload P1460 at_210 rfl rfl rfl ?_
            refine own_virt P1460 (hw _ (List.mem_of_getElem? (i := 20) rfl)) (hw _ (List.mem_of_getElem? (i := 21) rfl)) (hw _ (List.mem_of_getElem? (i := 23) rfl)) (hw _ (List.mem_of_getElem? (i := 22) rfl)) (hw _ (List.mem_of_getElem? (i := 2) rfl)) (hw _ (List.mem_of_getElem? (i := 24) rfl)) (by decide) f1470 (argsL := [(.ref b967)]) (rest := []) (rmAddA l Z a0 hw b919 b967 ro941 co942 bp943 so1060 i0 i0 (0 : Int32) (0 : Int32) (0 : Int32) (2 : Int32) (0 : Int32) (0 : Int32) (0 : Int32) (1 : Int32) ((own_hv i0) &&& (15 : Int32)) (own_s1 i0) h1462 n0 (Nat.le_trans (Nat.le_trans (Nat.le_trans (Nat.le_trans (Nat.le_trans (Nat.le_trans (Nat.le_trans (Nat.le_trans (Nat.le_trans (Nat.le_trans Z0 E921.1) k945.1) E969.1) (Keep.of_wr W994).1) E1011.1) (Keep.of_wr W1038).1) k1062.1) k1096.1) k1392.1) k1467.1) g927 g946 g947 hg1063 ne948 ne949 ne950 ne951 ne952 ne953 ne1077 ne1078 ne1079 ne1080 ne974 ne975 ne976 ne977 (Ne.symm ne1081) f1470 f1474 f1475 f1476 f1477 f1478 f1479 f1480 f1481 f1483 f1471 f1482 f1472 (own_l1 i0) rfl (own_a1 i0)) at_212 rfl own_pd4 rfl rfl rfl (by decide) 0 rfl (by decide) (by decide) (by decide) (fun T1498 h1499 v1500 L1501 hq1502 P1497 => ?_)
            obtain ⟨rfl, n1503, k1504, f1505⟩ := hq1502
            have N1506 := Fr.app N1469 n1503
            have f1507 := f1470.keep k1504
            have f1508 := f1471.keep k1504 (ninS (Ne.symm ne953) nin0)
            have f1509 := f1472.keep k1504 (ninS (Ne.symm ne976) nin0)
            have f1510 := f1473.keep k1504 (ninS (Ne.symm ne1018) nin0)
            have f1511 := f1474.keep k1504 (ninS ne949 nin0)
            have f1512 := f1475.keep k1504 (ninS ne949 nin0)
            have f1513 := f1476.keep k1504 (ninS ne949 nin0)
            have f1514 := f1477.keep k1504 (ninS ne949 nin0)
            have f1515 := f1478.keep k1504 (ninS ne949 nin0)
            have f1516 := f1479.keep k1504 (ninS ne949 nin0)
            have f1517 := f1480.keep k1504 (ninS ne949 nin0)
            have f1518 := f1481.keep k1504 (ninS ne950 nin0)
            have f1519 := f1482.keep k1504 (ninS (Ne.symm ne1079) nin0)
            have f1520 : own_Ar Z h1499 co942 .int [(3 : Int32), (0 : Int32), (0 : Int32), (0 : Int32)] := f1505
            show own_Go p e below _ (T1498.setTop (mkF m 215 #[.val (.int i0), .val (.int i1), .val (.int i2), .val (.int i3), .val (.int i4), .val (.int i5), .val (.int i6), .val (.int (1 : Int32)), .val (.ref b919), .val (.ref b967), .val (.ref b1009), .val (.int (0 : Int32)), .val (.int (0 : Int32)), .val (.int (2 : Int32)), .val (.int (0 : Int32)), .unset, .unset, .unset, .unset] [(.int (0 : Int32))]))
            refine own_pop P1497 at_215 rfl rfl ?_
            refine own_iload P1497 at_216 rfl rfl ?_
            refine own_iconst P1497 at_218 rfl (v := (1 : Int32)) rfl ?_
            refine own_iadd P1497 at_219 rfl ?_
            rw [show ((2 : Int32) + (1 : Int32)) = (3 : Int32) by decide]
            refine own_istore P1497 at_220 rfl (Ls' := #[.val (.int i0), .val (.int i1), .val (.int i2), .val (.int i3), .val (.int i4), .val (.int i5), .val (.int i6), .val (.int (1 : Int32)), .val (.ref b919), .val (.ref b967), .val (.ref b1009), .val (.int (0 : Int32)), .val (.int (0 : Int32)), .val (.int (3 : Int32)), .val (.int (0 : Int32)), .unset, .unset, .unset, .unset]) rfl ?_
            refine own_iload P1497 at_222 rfl rfl ?_
            refine own_if0N P1497 (pc' := 227) at_224 (by decide : ¬ ((1 : Int32) = (0 : Int32))) rfl ?_
            refine own_iconst P1497 at_227 rfl (v := (1 : Int32)) rfl ?_
            refine own_goto P1497 (pc' := 232) at_228 (by decide) (by decide) ?_
            refine own_istore P1497 at_232 rfl (Ls' := #[.val (.int i0), .val (.int i1), .val (.int i2), .val (.int i3), .val (.int i4), .val (.int i5), .val (.int i6), .val (.int (1 : Int32)), .val (.ref b919), .val (.ref b967), .val (.ref b1009), .val (.int (0 : Int32)), .val (.int (0 : Int32)), .val (.int (3 : Int32)), .val (.int (0 : Int32)), .val (.int (1 : Int32)), .unset, .unset, .unset]) rfl ?_
            refine own_iload P1497 at_234 rfl rfl ?_
            refine own_if0N P1497 (pc' := 239) at_236 (not_not_intro (by decide : (0 : Int32) = (0 : Int32))) rfl ?_
            refine own_iload P1497 at_239 rfl rfl ?_
            refine own_iload P1497 at_241 rfl rfl ?_
            refine own_if0N P1497 (pc' := 246) at_243 (by decide : ¬ ((1 : Int32) = (0 : Int32))) rfl ?_
            refine own_iconst P1497 at_246 rfl (v := (0 : Int32)) rfl ?_
            refine own_goto P1497 (pc' := 251) at_247 (by decide) (by decide) ?_
            refine own_icmpN P1497 (pc' := 254) at_251 (not_not_intro (by decide : (0 : Int32) = (0 : Int32))) rfl ?_
            refine own_aload P1497 at_254 rfl rfl rfl ?_
            refine own_virtP P1497 (hw _ (List.mem_of_getElem? (i := 80) rfl)) (hw _ (List.mem_of_getElem? (i := 81) rfl)) (hw _ (List.mem_of_getElem? (i := 83) rfl)) (hw _ (List.mem_of_getElem? (i := 82) rfl)) (hw _ (List.mem_of_getElem? (i := 2) rfl)) (hw _ (List.mem_of_getElem? (i := 84) rfl)) (by decide) f1507 (argsL := []) (rest := []) (rmSize l Z a0 hw b919 (1 : Int32) h1499 f1515) at_256 rfl own_pd7 rfl rfl rfl (by decide) 0 rfl (by decide) rfl rfl (by decide) (by decide) (fun T1522 P1521 => ?_)
            show own_Go p e below _ (T1522.setTop (mkF m 259 #[.val (.int i0), .val (.int i1), .val (.int i2), .val (.int i3), .val (.int i4), .val (.int i5), .val (.int i6), .val (.int (1 : Int32)), .val (.ref b919), .val (.ref b967), .val (.ref b1009), .val (.int (0 : Int32)), .val (.int (0 : Int32)), .val (.int (3 : Int32)), .val (.int (0 : Int32)), .val (.int (1 : Int32)), .unset, .unset, .unset] [(.int (1 : Int32))]))
            refine own_iload P1521 at_259 rfl rfl ?_
            refine own_icmpN P1521 (pc' := 264) at_261 (not_not_intro (by decide : (1 : Int32) = (1 : Int32))) rfl ?_
            refine own_iconst P1521 at_264 rfl (v := (1 : Int32)) rfl ?_
            refine own_goto P1521 (pc' := 269) at_265 (by decide) (by decide) ?_
            refine own_istore P1521 at_269 rfl (Ls' := #[.val (.int i0), .val (.int i1), .val (.int i2), .val (.int i3), .val (.int i4), .val (.int i5), .val (.int i6), .val (.int (1 : Int32)), .val (.ref b919), .val (.ref b967), .val (.ref b1009), .val (.int (0 : Int32)), .val (.int (0 : Int32)), .val (.int (3 : Int32)), .val (.int (0 : Int32)), .val (.int (1 : Int32)), .val (.int (1 : Int32)), .unset, .unset]) rfl ?_
            refine own_aload P1521 at_271 rfl rfl rfl ?_
            refine own_iconst P1521 at_273 rfl (v := (0 : Int32)) rfl ?_
            refine own_virtP P1521 (hw _ (List.mem_of_getElem? (i := 85) rfl)) (hw _ (List.mem_of_getElem? (i := 76) rfl)) (hw _ (List.mem_of_getElem? (i := 78) rfl)) (hw _ (List.mem_of_getElem? (i := 77) rfl)) (hw _ (List.mem_of_getElem? (i := 2) rfl)) (hw _ (List.mem_of_getElem? (i := 79) rfl)) (by decide) f1507 (argsL := [(.int (0 : Int32))]) (rest := []) (rmHolds0 l Z a0 hw b919 co942 (3 : Int32) (0 : Int32) (0 : Int32) (0 : Int32) h1499 f1513 f1520) at_274 rfl own_pd6 rfl rfl rfl (by decide) 0 rfl (by decide) rfl rfl (by decide) (by decide) (fun T1528 P1527 => ?_)
            show own_Go p e below _ (T1528.setTop (mkF m 277 #[.val (.int i0), .val (.int i1), .val (.int i2), .val (.int i3), .val (.int i4), .val (.int i5), .val (.int i6), .val (.int (1 : Int32)), .val (.ref b919), .val (.ref b967), .val (.ref b1009), .val (.int (0 : Int32)), .val (.int (0 : Int32)), .val (.int (3 : Int32)), .val (.int (0 : Int32)), .val (.int (1 : Int32)), .val (.int (1 : Int32)), .unset, .unset] [(.int (own_ho (3 : Int32)))]))
            rw [show (own_ho (3 : Int32)) = (1 : Int32) by decide]
            refine own_iload P1527 at_277 rfl rfl ?_
            refine own_if0N P1527 (pc' := 282) at_279 (not_not_intro (by decide : (0 : Int32) < (3 : Int32))) rfl ?_
            refine own_iconst P1527 at_282 rfl (v := (1 : Int32)) rfl ?_
            refine own_goto P1527 (pc' := 287) at_283 (by decide) (by decide) ?_
            refine own_icmpN P1527 (pc' := 290) at_287 (not_not_intro (by decide : (1 : Int32) = (1 : Int32))) rfl ?_
            refine own_iconst P1527 at_290 rfl (v := (1 : Int32)) rfl ?_
            refine own_goto P1527 (pc' := 295) at_291 (by decide) (by decide) ?_
            refine own_istore P1527 at_295 rfl (Ls' := #[.val (.int i0), .val (.int i1), .val (.int i2), .val (.int i3), .val (.int i4), .val (.int i5), .val (.int i6), .val (.int (1 : Int32)), .val (.ref b919), .val (.ref b967), .val (.ref b1009), .val (.int (0 : Int32)), .val (.int (0 : Int32)), .val (.int (3 : Int32)), .val (.int (0 : Int32)), .val (.int (1 : Int32)), .val (.int (1 : Int32)), .val (.int (1 : Int32)), .unset]) rfl ?_
            refine own_iload P1527 at_297 rfl rfl ?_
            refine own_if0Y P1527 (pc' := 321) at_299 (by decide : ¬ ((1 : Int32) = (0 : Int32))) (by decide) (by decide) ?_
            refine own_iconst P1527 at_321 rfl (v := (1 : Int32)) rfl ?_
            refine own_goto P1527 (pc' := 326) at_322 (by decide) (by decide) ?_
            refine own_istore P1527 at_326 rfl (Ls' := #[.val (.int i0), .val (.int i1), .val (.int i2), .val (.int i3), .val (.int i4), .val (.int i5), .val (.int i6), .val (.int (1 : Int32)), .val (.ref b919), .val (.ref b967), .val (.ref b1009), .val (.int (0 : Int32)), .val (.int (0 : Int32)), .val (.int (3 : Int32)), .val (.int (0 : Int32)), .val (.int (1 : Int32)), .val (.int (1 : Int32)), .val (.int (1 : Int32)), .val (.int (1 : Int32))]) rfl ?_
            refine own_iload P1527 at_328 rfl rfl ?_
            refine own_if0N P1527 (pc' := 333) at_330 (by decide : ¬ ((1 : Int32) = (0 : Int32))) rfl ?_
            refine own_iload P1527 at_333 rfl rfl ?_
            refine own_if0N P1527 (pc' := 338) at_335 (by decide : ¬ ((1 : Int32) = (0 : Int32))) rfl ?_
            refine own_iload P1527 at_338 rfl rfl ?_
            refine own_if0N P1527 (pc' := 343) at_340 (by decide : ¬ ((1 : Int32) = (0 : Int32))) rfl ?_
            refine own_iconst P1527 at_343 rfl (v := (1 : Int32)) rfl ?_
            refine own_goto P1527 (pc' := 348) at_344 (by decide) (by decide) ?_
            exact own_retZ P1527 at_348 (z := (1 : Int32)) rfl (by decide) (by decide) (hQ _ _ N1506)
      · rw [if_neg hc1409] at hQ
        refine own_if0N P1385 (pc' := 156) at_153 hc1409 rfl ?_
        refine own_aload P1385 at_156 rfl rfl rfl ?_
        refine own_aload P1385 at_158 rfl rfl rfl ?_
        refine own_virt P1385 (hw _ (List.mem_of_getElem? (i := 65) rfl)) (hw _ (List.mem_of_getElem? (i := 66) rfl)) (hw _ (List.mem_of_getElem? (i := 68) rfl)) (hw _ (List.mem_of_getElem? (i := 67) rfl)) (hw _ (List.mem_of_getElem? (i := 2) rfl)) (hw _ (List.mem_of_getElem? (i := 69) rfl)) (by decide) f1395 (argsL := [(.ref b967)]) (rest := []) (rmRem0 l Z a0 hw b919 b967 ro941 co942 bp943 so1060 i0 i0 (0 : Int32) (0 : Int32) (0 : Int32) (3 : Int32) (0 : Int32) (0 : Int32) (0 : Int32) (1 : Int32) ((own_hv i0) &&& (15 : Int32)) (own_s1 i0) h1387 n0 (Nat.le_trans (Nat.le_trans (Nat.le_trans (Nat.le_trans (Nat.le_trans (Nat.le_trans (Nat.le_trans (Nat.le_trans (Nat.le_trans Z0 E921.1) k945.1) E969.1) (Keep.of_wr W994).1) E1011.1) (Keep.of_wr W1038).1) k1062.1) k1096.1) k1392.1) g927 g946 g947 hg1063 ne948 ne949 ne950 ne951 ne952 ne953 ne1077 ne1078 ne1079 ne1080 ne974 ne975 ne976 ne977 (Ne.symm ne1081) f1395 f1399 f1400 f1401 f1402 f1403 f1404 f1405 f1406 f1408 f1396 f1407 f1397 (own_l1 i0) rfl (own_a1 i0) (by decide)) at_160 rfl own_pd4 rfl rfl rfl (by decide) 0 rfl (by decide) (by decide) (by decide) (fun T1534 h1535 v1536 L1537 hq1538 P1533 => ?_)
        obtain ⟨rfl, n1539, k1540, f1541⟩ := hq1538
        have N1542 := Fr.app N1394 n1539
        have f1543 := f1395.keep k1540
        have f1544 := f1396.keep k1540 (ninS (Ne.symm ne953) nin0)
        have f1545 := f1397.keep k1540 (ninS (Ne.symm ne976) nin0)
        have f1546 := f1398.keep k1540 (ninS (Ne.symm ne1018) nin0)
        have f1547 := f1399.keep k1540 (ninS ne949 nin0)
        have f1548 := f1400.keep k1540 (ninS ne949 nin0)
        have f1549 := f1401.keep k1540 (ninS ne949 nin0)
        have f1550 := f1402.keep k1540 (ninS ne949 nin0)
        have f1551 := f1403.keep k1540 (ninS ne949 nin0)
        have f1552 := f1404.keep k1540 (ninS ne949 nin0)
        have f1553 := f1405.keep k1540 (ninS ne949 nin0)
        have f1554 := f1406.keep k1540 (ninS ne950 nin0)
        have f1555 := f1407.keep k1540 (ninS (Ne.symm ne1079) nin0)
        have f1556 : own_Ar Z h1535 co942 .int [(2 : Int32), (0 : Int32), (0 : Int32), (0 : Int32)] := f1541
        show own_Go p e below _ (T1534.setTop (mkF m 163 #[.val (.int i0), .val (.int i1), .val (.int i2), .val (.int i3), .val (.int i4), .val (.int i5), .val (.int i6), .val (.int (1 : Int32)), .val (.ref b919), .val (.ref b967), .val (.ref b1009), .val (.int (0 : Int32)), .val (.int (0 : Int32)), .val (.int (3 : Int32)), .val (.int (0 : Int32)), .unset, .unset, .unset, .unset] [(.int (0 : Int32))]))
        refine own_pop P1533 at_163 rfl rfl ?_
        refine own_iload P1533 at_164 rfl rfl ?_
        refine own_iconst P1533 at_166 rfl (v := (1 : Int32)) rfl ?_
        refine own_isub P1533 at_167 rfl ?_
        rw [show ((3 : Int32) - (1 : Int32)) = (2 : Int32) by decide]
        refine own_istore P1533 at_168 rfl (Ls' := #[.val (.int i0), .val (.int i1), .val (.int i2), .val (.int i3), .val (.int i4), .val (.int i5), .val (.int i6), .val (.int (1 : Int32)), .val (.ref b919), .val (.ref b967), .val (.ref b1009), .val (.int (0 : Int32)), .val (.int (0 : Int32)), .val (.int (2 : Int32)), .val (.int (0 : Int32)), .unset, .unset, .unset, .unset]) rfl ?_
        refine own_iload P1533 at_170 rfl rfl ?_
        by_cases hc1557 : i5 = (0 : Int32)
        · rw [if_pos hc1557] at hQ
          refine own_if0Y P1533 (pc' := 203) at_172 hc1557 (by decide) (by decide) ?_
          refine own_iload P1533 at_203 rfl rfl ?_
          by_cases hc1558 : i6 = (0 : Int32)
          · rw [if_pos hc1558] at hQ
            refine own_if0Y P1533 (pc' := 222) at_205 hc1558 (by decide) (by decide) ?_
            refine own_iload P1533 at_222 rfl rfl ?_
            refine own_if0N P1533 (pc' := 227) at_224 (by decide : ¬ ((1 : Int32) = (0 : Int32))) rfl ?_
            refine own_iconst P1533 at_227 rfl (v := (1 : Int32)) rfl ?_
            refine own_goto P1533 (pc' := 232) at_228 (by decide) (by decide) ?_
            refine own_istore P1533 at_232 rfl (Ls' := #[.val (.int i0), .val (.int i1), .val (.int i2), .val (.int i3), .val (.int i4), .val (.int i5), .val (.int i6), .val (.int (1 : Int32)), .val (.ref b919), .val (.ref b967), .val (.ref b1009), .val (.int (0 : Int32)), .val (.int (0 : Int32)), .val (.int (2 : Int32)), .val (.int (0 : Int32)), .val (.int (1 : Int32)), .unset, .unset, .unset]) rfl ?_
            refine own_iload P1533 at_234 rfl rfl ?_
            refine own_if0N P1533 (pc' := 239) at_236 (not_not_intro (by decide : (0 : Int32) = (0 : Int32))) rfl ?_
            refine own_iload P1533 at_239 rfl rfl ?_
            refine own_iload P1533 at_241 rfl rfl ?_
            refine own_if0N P1533 (pc' := 246) at_243 (by decide : ¬ ((1 : Int32) = (0 : Int32))) rfl ?_
            refine own_iconst P1533 at_246 rfl (v := (0 : Int32)) rfl ?_
            refine own_goto P1533 (pc' := 251) at_247 (by decide) (by decide) ?_
            refine own_icmpN P1533 (pc' := 254) at_251 (not_not_intro (by decide : (0 : Int32) = (0 : Int32))) rfl ?_
            refine own_aload P1533 at_254 rfl rfl rfl ?_
            refine own_virtP P1533 (hw _ (List.mem_of_getElem? (i := 80) rfl)) (hw _ (List.mem_of_getElem? (i := 81) rfl)) (hw _ (List.mem_of_getElem? (i := 83) rfl)) (hw _ (List.mem_of_getElem? (i := 82) rfl)) (hw _ (List.mem_of_getElem? (i := 2) rfl)) (hw _ (List.mem_of_getElem? (i := 84) rfl)) (by decide) f1543 (argsL := []) (rest := []) (rmSize l Z a0 hw b919 (1 : Int32) h1535 f1551) at_256 rfl own_pd7 rfl rfl rfl (by decide) 0 rfl (by decide) rfl rfl (by decide) (by decide) (fun T1560 P1559 => ?_)
            show own_Go p e below _ (T1560.setTop (mkF m 259 #[.val (.int i0), .val (.int i1), .val (.int i2), .val (.int i3), .val (.int i4), .val (.int i5), .val (.int i6), .val (.int (1 : Int32)), .val (.ref b919), .val (.ref b967), .val (.ref b1009), .val (.int (0 : Int32)), .val (.int (0 : Int32)), .val (.int (2 : Int32)), .val (.int (0 : Int32)), .val (.int (1 : Int32)), .unset, .unset, .unset] [(.int (1 : Int32))]))
            refine own_iload P1559 at_259 rfl rfl ?_
            refine own_icmpN P1559 (pc' := 264) at_261 (not_not_intro (by decide : (1 : Int32) = (1 : Int32))) rfl ?_
            refine own_iconst P1559 at_264 rfl (v := (1 : Int32)) rfl ?_
            refine own_goto P1559 (pc' := 269) at_265 (by decide) (by decide) ?_
            refine own_istore P1559 at_269 rfl (Ls' := #[.val (.int i0), .val (.int i1), .val (.int i2), .val (.int i3), .val (.int i4), .val (.int i5), .val (.int i6), .val (.int (1 : Int32)), .val (.ref b919), .val (.ref b967), .val (.ref b1009), .val (.int (0 : Int32)), .val (.int (0 : Int32)), .val (.int (2 : Int32)), .val (.int (0 : Int32)), .val (.int (1 : Int32)), .val (.int (1 : Int32)), .unset, .unset]) rfl ?_
            refine own_aload P1559 at_271 rfl rfl rfl ?_
            refine own_iconst P1559 at_273 rfl (v := (0 : Int32)) rfl ?_
            refine own_virtP P1559 (hw _ (List.mem_of_getElem? (i := 85) rfl)) (hw _ (List.mem_of_getElem? (i := 76) rfl)) (hw _ (List.mem_of_getElem? (i := 78) rfl)) (hw _ (List.mem_of_getElem? (i := 77) rfl)) (hw _ (List.mem_of_getElem? (i := 2) rfl)) (hw _ (List.mem_of_getElem? (i := 79) rfl)) (by decide) f1543 (argsL := [(.int (0 : Int32))]) (rest := []) (rmHolds0 l Z a0 hw b919 co942 (2 : Int32) (0 : Int32) (0 : Int32) (0 : Int32) h1535 f1549 f1556) at_274 rfl own_pd6 rfl rfl rfl (by decide) 0 rfl (by decide) rfl rfl (by decide) (by decide) (fun T1566 P1565 => ?_)
            show own_Go p e below _ (T1566.setTop (mkF m 277 #[.val (.int i0), .val (.int i1), .val (.int i2), .val (.int i3), .val (.int i4), .val (.int i5), .val (.int i6), .val (.int (1 : Int32)), .val (.ref b919), .val (.ref b967), .val (.ref b1009), .val (.int (0 : Int32)), .val (.int (0 : Int32)), .val (.int (2 : Int32)), .val (.int (0 : Int32)), .val (.int (1 : Int32)), .val (.int (1 : Int32)), .unset, .unset] [(.int (own_ho (2 : Int32)))]))
            rw [show (own_ho (2 : Int32)) = (1 : Int32) by decide]
            refine own_iload P1565 at_277 rfl rfl ?_
            refine own_if0N P1565 (pc' := 282) at_279 (not_not_intro (by decide : (0 : Int32) < (2 : Int32))) rfl ?_
            refine own_iconst P1565 at_282 rfl (v := (1 : Int32)) rfl ?_
            refine own_goto P1565 (pc' := 287) at_283 (by decide) (by decide) ?_
            refine own_icmpN P1565 (pc' := 290) at_287 (not_not_intro (by decide : (1 : Int32) = (1 : Int32))) rfl ?_
            refine own_iconst P1565 at_290 rfl (v := (1 : Int32)) rfl ?_
            refine own_goto P1565 (pc' := 295) at_291 (by decide) (by decide) ?_
            refine own_istore P1565 at_295 rfl (Ls' := #[.val (.int i0), .val (.int i1), .val (.int i2), .val (.int i3), .val (.int i4), .val (.int i5), .val (.int i6), .val (.int (1 : Int32)), .val (.ref b919), .val (.ref b967), .val (.ref b1009), .val (.int (0 : Int32)), .val (.int (0 : Int32)), .val (.int (2 : Int32)), .val (.int (0 : Int32)), .val (.int (1 : Int32)), .val (.int (1 : Int32)), .val (.int (1 : Int32)), .unset]) rfl ?_
            refine own_iload P1565 at_297 rfl rfl ?_
            refine own_if0Y P1565 (pc' := 321) at_299 (by decide : ¬ ((1 : Int32) = (0 : Int32))) (by decide) (by decide) ?_
            refine own_iconst P1565 at_321 rfl (v := (1 : Int32)) rfl ?_
            refine own_goto P1565 (pc' := 326) at_322 (by decide) (by decide) ?_
            refine own_istore P1565 at_326 rfl (Ls' := #[.val (.int i0), .val (.int i1), .val (.int i2), .val (.int i3), .val (.int i4), .val (.int i5), .val (.int i6), .val (.int (1 : Int32)), .val (.ref b919), .val (.ref b967), .val (.ref b1009), .val (.int (0 : Int32)), .val (.int (0 : Int32)), .val (.int (2 : Int32)), .val (.int (0 : Int32)), .val (.int (1 : Int32)), .val (.int (1 : Int32)), .val (.int (1 : Int32)), .val (.int (1 : Int32))]) rfl ?_
            refine own_iload P1565 at_328 rfl rfl ?_
            refine own_if0N P1565 (pc' := 333) at_330 (by decide : ¬ ((1 : Int32) = (0 : Int32))) rfl ?_
            refine own_iload P1565 at_333 rfl rfl ?_
            refine own_if0N P1565 (pc' := 338) at_335 (by decide : ¬ ((1 : Int32) = (0 : Int32))) rfl ?_
            refine own_iload P1565 at_338 rfl rfl ?_
            refine own_if0N P1565 (pc' := 343) at_340 (by decide : ¬ ((1 : Int32) = (0 : Int32))) rfl ?_
            refine own_iconst P1565 at_343 rfl (v := (1 : Int32)) rfl ?_
            refine own_goto P1565 (pc' := 348) at_344 (by decide) (by decide) ?_
            exact own_retZ P1565 at_348 (z := (1 : Int32)) rfl (by decide) (by decide) (hQ _ _ N1542)
          · rw [if_neg hc1558] at hQ
            refine own_if0N P1533 (pc' := 208) at_205 hc1558 rfl ?_
            refine own_aload P1533 at_208 rfl rfl rfl ?_
            refine own_aload P1533 at_210 rfl rfl rfl ?_
            refine own_virt P1533 (hw _ (List.mem_of_getElem? (i := 20) rfl)) (hw _ (List.mem_of_getElem? (i := 21) rfl)) (hw _ (List.mem_of_getElem? (i := 23) rfl)) (hw _ (List.mem_of_getElem? (i := 22) rfl)) (hw _ (List.mem_of_getElem? (i := 2) rfl)) (hw _ (List.mem_of_getElem? (i := 24) rfl)) (by decide) f1543 (argsL := [(.ref b967)]) (rest := []) (rmAddA l Z a0 hw b919 b967 ro941 co942 bp943 so1060 i0 i0 (0 : Int32) (0 : Int32) (0 : Int32) (2 : Int32) (0 : Int32) (0 : Int32) (0 : Int32) (1 : Int32) ((own_hv i0) &&& (15 : Int32)) (own_s1 i0) h1535 n0 (Nat.le_trans (Nat.le_trans (Nat.le_trans (Nat.le_trans (Nat.le_trans (Nat.le_trans (Nat.le_trans (Nat.le_trans (Nat.le_trans (Nat.le_trans Z0 E921.1) k945.1) E969.1) (Keep.of_wr W994).1) E1011.1) (Keep.of_wr W1038).1) k1062.1) k1096.1) k1392.1) k1540.1) g927 g946 g947 hg1063 ne948 ne949 ne950 ne951 ne952 ne953 ne1077 ne1078 ne1079 ne1080 ne974 ne975 ne976 ne977 (Ne.symm ne1081) f1543 f1547 f1548 f1549 f1550 f1551 f1552 f1553 f1554 f1556 f1544 f1555 f1545 (own_l1 i0) rfl (own_a1 i0)) at_212 rfl own_pd4 rfl rfl rfl (by decide) 0 rfl (by decide) (by decide) (by decide) (fun T1572 h1573 v1574 L1575 hq1576 P1571 => ?_)
            obtain ⟨rfl, n1577, k1578, f1579⟩ := hq1576
            have N1580 := Fr.app N1542 n1577
            have f1581 := f1543.keep k1578
            have f1582 := f1544.keep k1578 (ninS (Ne.symm ne953) nin0)
            have f1583 := f1545.keep k1578 (ninS (Ne.symm ne976) nin0)
            have f1584 := f1546.keep k1578 (ninS (Ne.symm ne1018) nin0)
            have f1585 := f1547.keep k1578 (ninS ne949 nin0)
            have f1586 := f1548.keep k1578 (ninS ne949 nin0)
            have f1587 := f1549.keep k1578 (ninS ne949 nin0)
            have f1588 := f1550.keep k1578 (ninS ne949 nin0)
            have f1589 := f1551.keep k1578 (ninS ne949 nin0)
            have f1590 := f1552.keep k1578 (ninS ne949 nin0)
            have f1591 := f1553.keep k1578 (ninS ne949 nin0)
            have f1592 := f1554.keep k1578 (ninS ne950 nin0)
            have f1593 := f1555.keep k1578 (ninS (Ne.symm ne1079) nin0)
            have f1594 : own_Ar Z h1573 co942 .int [(3 : Int32), (0 : Int32), (0 : Int32), (0 : Int32)] := f1579
            show own_Go p e below _ (T1572.setTop (mkF m 215 #[.val (.int i0), .val (.int i1), .val (.int i2), .val (.int i3), .val (.int i4), .val (.int i5), .val (.int i6), .val (.int (1 : Int32)), .val (.ref b919), .val (.ref b967), .val (.ref b1009), .val (.int (0 : Int32)), .val (.int (0 : Int32)), .val (.int (2 : Int32)), .val (.int (0 : Int32)), .unset, .unset, .unset, .unset] [(.int (0 : Int32))]))
            refine own_pop P1571 at_215 rfl rfl ?_
            refine own_iload P1571 at_216 rfl rfl ?_
            refine own_iconst P1571 at_218 rfl (v := (1 : Int32)) rfl ?_
            refine own_iadd P1571 at_219 rfl ?_
            rw [show ((2 : Int32) + (1 : Int32)) = (3 : Int32) by decide]
            refine own_istore P1571 at_220 rfl (Ls' := #[.val (.int i0), .val (.int i1), .val (.int i2), .val (.int i3), .val (.int i4), .val (.int i5), .val (.int i6), .val (.int (1 : Int32)), .val (.ref b919), .val (.ref b967), .val (.ref b1009), .val (.int (0 : Int32)), .val (.int (0 : Int32)), .val (.int (3 : Int32)), .val (.int (0 : Int32)), .unset, .unset, .unset, .unset]) rfl ?_
            refine own_iload P1571 at_222 rfl rfl ?_
            refine own_if0N P1571 (pc' := 227) at_224 (by decide : ¬ ((1 : Int32) = (0 : Int32))) rfl ?_
            refine own_iconst P1571 at_227 rfl (v := (1 : Int32)) rfl ?_
            refine own_goto P1571 (pc' := 232) at_228 (by decide) (by decide) ?_
            refine own_istore P1571 at_232 rfl (Ls' := #[.val (.int i0), .val (.int i1), .val (.int i2), .val (.int i3), .val (.int i4), .val (.int i5), .val (.int i6), .val (.int (1 : Int32)), .val (.ref b919), .val (.ref b967), .val (.ref b1009), .val (.int (0 : Int32)), .val (.int (0 : Int32)), .val (.int (3 : Int32)), .val (.int (0 : Int32)), .val (.int (1 : Int32)), .unset, .unset, .unset]) rfl ?_
            refine own_iload P1571 at_234 rfl rfl ?_
            refine own_if0N P1571 (pc' := 239) at_236 (not_not_intro (by decide : (0 : Int32) = (0 : Int32))) rfl ?_
            refine own_iload P1571 at_239 rfl rfl ?_
            refine own_iload P1571 at_241 rfl rfl ?_
            refine own_if0N P1571 (pc' := 246) at_243 (by decide : ¬ ((1 : Int32) = (0 : Int32))) rfl ?_
            refine own_iconst P1571 at_246 rfl (v := (0 : Int32)) rfl ?_
            refine own_goto P1571 (pc' := 251) at_247 (by decide) (by decide) ?_
            refine own_icmpN P1571 (pc' := 254) at_251 (not_not_intro (by decide : (0 : Int32) = (0 : Int32))) rfl ?_
            refine own_aload P1571 at_254 rfl rfl rfl ?_
            refine own_virtP P1571 (hw _ (List.mem_of_getElem? (i := 80) rfl)) (hw _ (List.mem_of_getElem? (i := 81) rfl)) (hw _ (List.mem_of_getElem? (i := 83) rfl)) (hw _ (List.mem_of_getElem? (i := 82) rfl)) (hw _ (List.mem_of_getElem? (i := 2) rfl)) (hw _ (List.mem_of_getElem? (i := 84) rfl)) (by decide) f1581 (argsL := []) (rest := []) (rmSize l Z a0 hw b919 (1 : Int32) h1573 f1589) at_256 rfl own_pd7 rfl rfl rfl (by decide) 0 rfl (by decide) rfl rfl (by decide) (by decide) (fun T1596 P1595 => ?_)
            show own_Go p e below _ (T1596.setTop (mkF m 259 #[.val (.int i0), .val (.int i1), .val (.int i2), .val (.int i3), .val (.int i4), .val (.int i5), .val (.int i6), .val (.int (1 : Int32)), .val (.ref b919), .val (.ref b967), .val (.ref b1009), .val (.int (0 : Int32)), .val (.int (0 : Int32)), .val (.int (3 : Int32)), .val (.int (0 : Int32)), .val (.int (1 : Int32)), .unset, .unset, .unset] [(.int (1 : Int32))]))
            refine own_iload P1595 at_259 rfl rfl ?_
            refine own_icmpN P1595 (pc' := 264) at_261 (not_not_intro (by decide : (1 : Int32) = (1 : Int32))) rfl ?_
            refine own_iconst P1595 at_264 rfl (v := (1 : Int32)) rfl ?_
            refine own_goto P1595 (pc' := 269) at_265 (by decide) (by decide) ?_
            refine own_istore P1595 at_269 rfl (Ls' := #[.val (.int i0), .val (.int i1), .val (.int i2), .val (.int i3), .val (.int i4), .val (.int i5), .val (.int i6), .val (.int (1 : Int32)), .val (.ref b919), .val (.ref b967), .val (.ref b1009), .val (.int (0 : Int32)), .val (.int (0 : Int32)), .val (.int (3 : Int32)), .val (.int (0 : Int32)), .val (.int (1 : Int32)), .val (.int (1 : Int32)), .unset, .unset]) rfl ?_
            refine own_aload P1595 at_271 rfl rfl rfl ?_
            refine own_iconst P1595 at_273 rfl (v := (0 : Int32)) rfl ?_
            refine own_virtP P1595 (hw _ (List.mem_of_getElem? (i := 85) rfl)) (hw _ (List.mem_of_getElem? (i := 76) rfl)) (hw _ (List.mem_of_getElem? (i := 78) rfl)) (hw _ (List.mem_of_getElem? (i := 77) rfl)) (hw _ (List.mem_of_getElem? (i := 2) rfl)) (hw _ (List.mem_of_getElem? (i := 79) rfl)) (by decide) f1581 (argsL := [(.int (0 : Int32))]) (rest := []) (rmHolds0 l Z a0 hw b919 co942 (3 : Int32) (0 : Int32) (0 : Int32) (0 : Int32) h1573 f1587 f1594) at_274 rfl own_pd6 rfl rfl rfl (by decide) 0 rfl (by decide) rfl rfl (by decide) (by decide) (fun T1602 P1601 => ?_)
            show own_Go p e below _ (T1602.setTop (mkF m 277 #[.val (.int i0), .val (.int i1), .val (.int i2), .val (.int i3), .val (.int i4), .val (.int i5), .val (.int i6), .val (.int (1 : Int32)), .val (.ref b919), .val (.ref b967), .val (.ref b1009), .val (.int (0 : Int32)), .val (.int (0 : Int32)), .val (.int (3 : Int32)), .val (.int (0 : Int32)), .val (.int (1 : Int32)), .val (.int (1 : Int32)), .unset, .unset] [(.int (own_ho (3 : Int32)))]))
            rw [show (own_ho (3 : Int32)) = (1 : Int32) by decide]
            refine own_iload P1601 at_277 rfl rfl ?_
            refine own_if0N P1601 (pc' := 282) at_279 (not_not_intro (by decide : (0 : Int32) < (3 : Int32))) rfl ?_
            refine own_iconst P1601 at_282 rfl (v := (1 : Int32)) rfl ?_
            refine own_goto P1601 (pc' := 287) at_283 (by decide) (by decide) ?_
            refine own_icmpN P1601 (pc' := 290) at_287 (not_not_intro (by decide : (1 : Int32) = (1 : Int32))) rfl ?_
            refine own_iconst P1601 at_290 rfl (v := (1 : Int32)) rfl ?_
            refine own_goto P1601 (pc' := 295) at_291 (by decide) (by decide) ?_
            refine own_istore P1601 at_295 rfl (Ls' := #[.val (.int i0), .val (.int i1), .val (.int i2), .val (.int i3), .val (.int i4), .val (.int i5), .val (.int i6), .val (.int (1 : Int32)), .val (.ref b919), .val (.ref b967), .val (.ref b1009), .val (.int (0 : Int32)), .val (.int (0 : Int32)), .val (.int (3 : Int32)), .val (.int (0 : Int32)), .val (.int (1 : Int32)), .val (.int (1 : Int32)), .val (.int (1 : Int32)), .unset]) rfl ?_
            refine own_iload P1601 at_297 rfl rfl ?_
            refine own_if0Y P1601 (pc' := 321) at_299 (by decide : ¬ ((1 : Int32) = (0 : Int32))) (by decide) (by decide) ?_
            refine own_iconst P1601 at_321 rfl (v := (1 : Int32)) rfl ?_
            refine own_goto P1601 (pc' := 326) at_322 (by decide) (by decide) ?_
            refine own_istore P1601 at_326 rfl (Ls' := #[.val (.int i0), .val (.int i1), .val (.int i2), .val (.int i3), .val (.int i4), .val (.int i5), .val (.int i6), .val (.int (1 : Int32)), .val (.ref b919), .val (.ref b967), .val (.ref b1009), .val (.int (0 : Int32)), .val (.int (0 : Int32)), .val (.int (3 : Int32)), .val (.int (0 : Int32)), .val (.int (1 : Int32)), .val (.int (1 : Int32)), .val (.int (1 : Int32)), .val (.int (1 : Int32))]) rfl ?_
            refine own_iload P1601 at_328 rfl rfl ?_
            refine own_if0N P1601 (pc' := 333) at_330 (by decide : ¬ ((1 : Int32) = (0 : Int32))) rfl ?_
            refine own_iload P1601 at_333 rfl rfl ?_
            refine own_if0N P1601 (pc' := 338) at_335 (by decide : ¬ ((1 : Int32) = (0 : Int32))) rfl ?_
            refine own_iload P1601 at_338 rfl rfl ?_
            refine own_if0N P1601 (pc' := 343) at_340 (by decide : ¬ ((1 : Int32) = (0 : Int32))) rfl ?_
            refine own_iconst P1601 at_343 rfl (v := (1 : Int32)) rfl ?_
            refine own_goto P1601 (pc' := 348) at_344 (by decide) (by decide) ?_
            exact own_retZ P1601 at_348 (z := (1 : Int32)) rfl (by decide) (by decide) (hQ _ _ N1580)
        · rw [if_neg hc1557] at hQ
          refine own_if0N P1533 (pc' := 175) at_172 hc1557 rfl ?_
          refine own_aload P1533 at_175 rfl rfl rfl ?_
          refine own_aload P1533 at_177 rfl rfl rfl ?_
          refine own_virt P1533 (hw _ (List.mem_of_getElem? (i := 65) rfl)) (hw _ (List.mem_of_getElem? (i := 66) rfl)) (hw _ (List.mem_of_getElem? (i := 68) rfl)) (hw _ (List.mem_of_getElem? (i := 67) rfl)) (hw _ (List.mem_of_getElem? (i := 2) rfl)) (hw _ (List.mem_of_getElem? (i := 69) rfl)) (by decide) f1543 (argsL := [(.ref b1009)]) (rest := []) (rmRem0 l Z a0 hw b919 b1009 ro941 co942 bp943 so1060 i1 i0 (0 : Int32) (0 : Int32) (0 : Int32) (2 : Int32) (0 : Int32) (0 : Int32) (0 : Int32) (1 : Int32) ((own_hv i0) &&& (15 : Int32)) (own_s1 i0) h1535 n0 (Nat.le_trans (Nat.le_trans (Nat.le_trans (Nat.le_trans (Nat.le_trans (Nat.le_trans (Nat.le_trans (Nat.le_trans (Nat.le_trans (Nat.le_trans Z0 E921.1) k945.1) E969.1) (Keep.of_wr W994).1) E1011.1) (Keep.of_wr W1038).1) k1062.1) k1096.1) k1392.1) k1540.1) g927 g946 g947 hg1063 ne948 ne949 ne950 ne951 ne952 ne953 ne1077 ne1078 ne1079 ne1080 ne1016 ne1017 ne1018 ne1019 (Ne.symm ne1082) f1543 f1547 f1548 f1549 f1550 f1551 f1552 f1553 f1554 f1556 f1544 f1555 f1546 (own_l1 i0) hab (own_a1' i0 i1 hab) (by decide)) at_179 rfl own_pd4 rfl rfl rfl (by decide) 0 rfl (by decide) (by decide) (by decide) (fun T1608 h1609 v1610 L1611 hq1612 P1607 => ?_)
          obtain ⟨rfl, n1613, k1614, f1615⟩ := hq1612
          have N1616 := Fr.app N1542 n1613
          have f1617 := f1543.keep k1614
          have f1618 := f1544.keep k1614 (ninS (Ne.symm ne953) nin0)
          have f1619 := f1545.keep k1614 (ninS (Ne.symm ne976) nin0)
          have f1620 := f1546.keep k1614 (ninS (Ne.symm ne1018) nin0)
          have f1621 := f1547.keep k1614 (ninS ne949 nin0)
          have f1622 := f1548.keep k1614 (ninS ne949 nin0)
          have f1623 := f1549.keep k1614 (ninS ne949 nin0)
          have f1624 := f1550.keep k1614 (ninS ne949 nin0)
          have f1625 := f1551.keep k1614 (ninS ne949 nin0)
          have f1626 := f1552.keep k1614 (ninS ne949 nin0)
          have f1627 := f1553.keep k1614 (ninS ne949 nin0)
          have f1628 := f1554.keep k1614 (ninS ne950 nin0)
          have f1629 := f1555.keep k1614 (ninS (Ne.symm ne1079) nin0)
          have f1630 : own_Ar Z h1609 co942 .int [(1 : Int32), (0 : Int32), (0 : Int32), (0 : Int32)] := f1615
          show own_Go p e below _ (T1608.setTop (mkF m 182 #[.val (.int i0), .val (.int i1), .val (.int i2), .val (.int i3), .val (.int i4), .val (.int i5), .val (.int i6), .val (.int (1 : Int32)), .val (.ref b919), .val (.ref b967), .val (.ref b1009), .val (.int (0 : Int32)), .val (.int (0 : Int32)), .val (.int (2 : Int32)), .val (.int (0 : Int32)), .unset, .unset, .unset, .unset] [(.int (0 : Int32))]))
          refine own_pop P1607 at_182 rfl rfl ?_
          refine own_iload P1607 at_183 rfl rfl ?_
          refine own_if0N P1607 (pc' := 188) at_185 (by decide : ¬ ((1 : Int32) = (0 : Int32))) rfl ?_
          refine own_iload P1607 at_188 rfl rfl ?_
          refine own_iconst P1607 at_190 rfl (v := (1 : Int32)) rfl ?_
          refine own_isub P1607 at_191 rfl ?_
          rw [show ((2 : Int32) - (1 : Int32)) = (1 : Int32) by decide]
          refine own_istore P1607 at_192 rfl (Ls' := #[.val (.int i0), .val (.int i1), .val (.int i2), .val (.int i3), .val (.int i4), .val (.int i5), .val (.int i6), .val (.int (1 : Int32)), .val (.ref b919), .val (.ref b967), .val (.ref b1009), .val (.int (0 : Int32)), .val (.int (0 : Int32)), .val (.int (1 : Int32)), .val (.int (0 : Int32)), .unset, .unset, .unset, .unset]) rfl ?_
          refine own_goto P1607 (pc' := 203) at_194 (by decide) (by decide) ?_
          refine own_iload P1607 at_203 rfl rfl ?_
          by_cases hc1631 : i6 = (0 : Int32)
          · rw [if_pos hc1631] at hQ
            refine own_if0Y P1607 (pc' := 222) at_205 hc1631 (by decide) (by decide) ?_
            refine own_iload P1607 at_222 rfl rfl ?_
            refine own_if0N P1607 (pc' := 227) at_224 (by decide : ¬ ((1 : Int32) = (0 : Int32))) rfl ?_
            refine own_iconst P1607 at_227 rfl (v := (1 : Int32)) rfl ?_
            refine own_goto P1607 (pc' := 232) at_228 (by decide) (by decide) ?_
            refine own_istore P1607 at_232 rfl (Ls' := #[.val (.int i0), .val (.int i1), .val (.int i2), .val (.int i3), .val (.int i4), .val (.int i5), .val (.int i6), .val (.int (1 : Int32)), .val (.ref b919), .val (.ref b967), .val (.ref b1009), .val (.int (0 : Int32)), .val (.int (0 : Int32)), .val (.int (1 : Int32)), .val (.int (0 : Int32)), .val (.int (1 : Int32)), .unset, .unset, .unset]) rfl ?_
            refine own_iload P1607 at_234 rfl rfl ?_
            refine own_if0N P1607 (pc' := 239) at_236 (not_not_intro (by decide : (0 : Int32) = (0 : Int32))) rfl ?_
            refine own_iload P1607 at_239 rfl rfl ?_
            refine own_iload P1607 at_241 rfl rfl ?_
            refine own_if0N P1607 (pc' := 246) at_243 (by decide : ¬ ((1 : Int32) = (0 : Int32))) rfl ?_
            refine own_iconst P1607 at_246 rfl (v := (0 : Int32)) rfl ?_
            refine own_goto P1607 (pc' := 251) at_247 (by decide) (by decide) ?_
            refine own_icmpN P1607 (pc' := 254) at_251 (not_not_intro (by decide : (0 : Int32) = (0 : Int32))) rfl ?_
            refine own_aload P1607 at_254 rfl rfl rfl ?_
            refine own_virtP P1607 (hw _ (List.mem_of_getElem? (i := 80) rfl)) (hw _ (List.mem_of_getElem? (i := 81) rfl)) (hw _ (List.mem_of_getElem? (i := 83) rfl)) (hw _ (List.mem_of_getElem? (i := 82) rfl)) (hw _ (List.mem_of_getElem? (i := 2) rfl)) (hw _ (List.mem_of_getElem? (i := 84) rfl)) (by decide) f1617 (argsL := []) (rest := []) (rmSize l Z a0 hw b919 (1 : Int32) h1609 f1625) at_256 rfl own_pd7 rfl rfl rfl (by decide) 0 rfl (by decide) rfl rfl (by decide) (by decide) (fun T1633 P1632 => ?_)
            show own_Go p e below _ (T1633.setTop (mkF m 259 #[.val (.int i0), .val (.int i1), .val (.int i2), .val (.int i3), .val (.int i4), .val (.int i5), .val (.int i6), .val (.int (1 : Int32)), .val (.ref b919), .val (.ref b967), .val (.ref b1009), .val (.int (0 : Int32)), .val (.int (0 : Int32)), .val (.int (1 : Int32)), .val (.int (0 : Int32)), .val (.int (1 : Int32)), .unset, .unset, .unset] [(.int (1 : Int32))]))
            refine own_iload P1632 at_259 rfl rfl ?_
            refine own_icmpN P1632 (pc' := 264) at_261 (not_not_intro (by decide : (1 : Int32) = (1 : Int32))) rfl ?_
            refine own_iconst P1632 at_264 rfl (v := (1 : Int32)) rfl ?_
            refine own_goto P1632 (pc' := 269) at_265 (by decide) (by decide) ?_
            refine own_istore P1632 at_269 rfl (Ls' := #[.val (.int i0), .val (.int i1), .val (.int i2), .val (.int i3), .val (.int i4), .val (.int i5), .val (.int i6), .val (.int (1 : Int32)), .val (.ref b919), .val (.ref b967), .val (.ref b1009), .val (.int (0 : Int32)), .val (.int (0 : Int32)), .val (.int (1 : Int32)), .val (.int (0 : Int32)), .val (.int (1 : Int32)), .val (.int (1 : Int32)), .unset, .unset]) rfl ?_
            refine own_aload P1632 at_271 rfl rfl rfl ?_
            refine own_iconst P1632 at_273 rfl (v := (0 : Int32)) rfl ?_
            refine own_virtP P1632 (hw _ (List.mem_of_getElem? (i := 85) rfl)) (hw _ (List.mem_of_getElem? (i := 76) rfl)) (hw _ (List.mem_of_getElem? (i := 78) rfl)) (hw _ (List.mem_of_getElem? (i := 77) rfl)) (hw _ (List.mem_of_getElem? (i := 2) rfl)) (hw _ (List.mem_of_getElem? (i := 79) rfl)) (by decide) f1617 (argsL := [(.int (0 : Int32))]) (rest := []) (rmHolds0 l Z a0 hw b919 co942 (1 : Int32) (0 : Int32) (0 : Int32) (0 : Int32) h1609 f1623 f1630) at_274 rfl own_pd6 rfl rfl rfl (by decide) 0 rfl (by decide) rfl rfl (by decide) (by decide) (fun T1639 P1638 => ?_)
            show own_Go p e below _ (T1639.setTop (mkF m 277 #[.val (.int i0), .val (.int i1), .val (.int i2), .val (.int i3), .val (.int i4), .val (.int i5), .val (.int i6), .val (.int (1 : Int32)), .val (.ref b919), .val (.ref b967), .val (.ref b1009), .val (.int (0 : Int32)), .val (.int (0 : Int32)), .val (.int (1 : Int32)), .val (.int (0 : Int32)), .val (.int (1 : Int32)), .val (.int (1 : Int32)), .unset, .unset] [(.int (own_ho (1 : Int32)))]))
            rw [show (own_ho (1 : Int32)) = (1 : Int32) by decide]
            refine own_iload P1638 at_277 rfl rfl ?_
            refine own_if0N P1638 (pc' := 282) at_279 (not_not_intro (by decide : (0 : Int32) < (1 : Int32))) rfl ?_
            refine own_iconst P1638 at_282 rfl (v := (1 : Int32)) rfl ?_
            refine own_goto P1638 (pc' := 287) at_283 (by decide) (by decide) ?_
            refine own_icmpN P1638 (pc' := 290) at_287 (not_not_intro (by decide : (1 : Int32) = (1 : Int32))) rfl ?_
            refine own_iconst P1638 at_290 rfl (v := (1 : Int32)) rfl ?_
            refine own_goto P1638 (pc' := 295) at_291 (by decide) (by decide) ?_
            refine own_istore P1638 at_295 rfl (Ls' := #[.val (.int i0), .val (.int i1), .val (.int i2), .val (.int i3), .val (.int i4), .val (.int i5), .val (.int i6), .val (.int (1 : Int32)), .val (.ref b919), .val (.ref b967), .val (.ref b1009), .val (.int (0 : Int32)), .val (.int (0 : Int32)), .val (.int (1 : Int32)), .val (.int (0 : Int32)), .val (.int (1 : Int32)), .val (.int (1 : Int32)), .val (.int (1 : Int32)), .unset]) rfl ?_
            refine own_iload P1638 at_297 rfl rfl ?_
            refine own_if0Y P1638 (pc' := 321) at_299 (by decide : ¬ ((1 : Int32) = (0 : Int32))) (by decide) (by decide) ?_
            refine own_iconst P1638 at_321 rfl (v := (1 : Int32)) rfl ?_
            refine own_goto P1638 (pc' := 326) at_322 (by decide) (by decide) ?_
            refine own_istore P1638 at_326 rfl (Ls' := #[.val (.int i0), .val (.int i1), .val (.int i2), .val (.int i3), .val (.int i4), .val (.int i5), .val (.int i6), .val (.int (1 : Int32)), .val (.ref b919), .val (.ref b967), .val (.ref b1009), .val (.int (0 : Int32)), .val (.int (0 : Int32)), .val (.int (1 : Int32)), .val (.int (0 : Int32)), .val (.int (1 : Int32)), .val (.int (1 : Int32)), .val (.int (1 : Int32)), .val (.int (1 : Int32))]) rfl ?_
            refine own_iload P1638 at_328 rfl rfl ?_
            refine own_if0N P1638 (pc' := 333) at_330 (by decide : ¬ ((1 : Int32) = (0 : Int32))) rfl ?_
            refine own_iload P1638 at_333 rfl rfl ?_
            refine own_if0N P1638 (pc' := 338) at_335 (by decide : ¬ ((1 : Int32) = (0 : Int32))) rfl ?_
            refine own_iload P1638 at_338 rfl rfl ?_
            refine own_if0N P1638 (pc' := 343) at_340 (by decide : ¬ ((1 : Int32) = (0 : Int32))) rfl ?_
            refine own_iconst P1638 at_343 rfl (v := (1 : Int32)) rfl ?_
            refine own_goto P1638 (pc' := 348) at_344 (by decide) (by decide) ?_
            exact own_retZ P1638 at_348 (z := (1 : Int32)) rfl (by decide) (by decide) (hQ _ _ N1616)
          · rw [if_neg hc1631] at hQ
            refine own_if0N P1607 (pc' := 208) at_205 hc1631 rfl ?_
            refine own_aload P1607 at_208 rfl rfl rfl ?_
            refine own_aload P1607 at_210 rfl rfl rfl ?_
            refine own_virt P1607 (hw _ (List.mem_of_getElem? (i := 20) rfl)) (hw _ (List.mem_of_getElem? (i := 21) rfl)) (hw _ (List.mem_of_getElem? (i := 23) rfl)) (hw _ (List.mem_of_getElem? (i := 22) rfl)) (hw _ (List.mem_of_getElem? (i := 2) rfl)) (hw _ (List.mem_of_getElem? (i := 24) rfl)) (by decide) f1617 (argsL := [(.ref b967)]) (rest := []) (rmAddA l Z a0 hw b919 b967 ro941 co942 bp943 so1060 i0 i0 (0 : Int32) (0 : Int32) (0 : Int32) (1 : Int32) (0 : Int32) (0 : Int32) (0 : Int32) (1 : Int32) ((own_hv i0) &&& (15 : Int32)) (own_s1 i0) h1609 n0 (Nat.le_trans (Nat.le_trans (Nat.le_trans (Nat.le_trans (Nat.le_trans (Nat.le_trans (Nat.le_trans (Nat.le_trans (Nat.le_trans (Nat.le_trans (Nat.le_trans Z0 E921.1) k945.1) E969.1) (Keep.of_wr W994).1) E1011.1) (Keep.of_wr W1038).1) k1062.1) k1096.1) k1392.1) k1540.1) k1614.1) g927 g946 g947 hg1063 ne948 ne949 ne950 ne951 ne952 ne953 ne1077 ne1078 ne1079 ne1080 ne974 ne975 ne976 ne977 (Ne.symm ne1081) f1617 f1621 f1622 f1623 f1624 f1625 f1626 f1627 f1628 f1630 f1618 f1629 f1619 (own_l1 i0) rfl (own_a1 i0)) at_212 rfl own_pd4 rfl rfl rfl (by decide) 0 rfl (by decide) (by decide) (by decide) (fun T1645 h1646 v1647 L1648 hq1649 P1644 => ?_)
            obtain ⟨rfl, n1650, k1651, f1652⟩ := hq1649
            have N1653 := Fr.app N1616 n1650
            have f1654 := f1617.keep k1651
            have f1655 := f1618.keep k1651 (ninS (Ne.symm ne953) nin0)
            have f1656 := f1619.keep k1651 (ninS (Ne.symm ne976) nin0)
            have f1657 := f1620.keep k1651 (ninS (Ne.symm ne1018) nin0)
            have f1658 := f1621.keep k1651 (ninS ne949 nin0)
            have f1659 := f1622.keep k1651 (ninS ne949 nin0)
            have f1660 := f1623.keep k1651 (ninS ne949 nin0)
            have f1661 := f1624.keep k1651 (ninS ne949 nin0)
            have f1662 := f1625.keep k1651 (ninS ne949 nin0)
            have f1663 := f1626.keep k1651 (ninS ne949 nin0)
            have f1664 := f1627.keep k1651 (ninS ne949 nin0)
            have f1665 := f1628.keep k1651 (ninS ne950 nin0)
            have f1666 := f1629.keep k1651 (ninS (Ne.symm ne1079) nin0)
            have f1667 : own_Ar Z h1646 co942 .int [(2 : Int32), (0 : Int32), (0 : Int32), (0 : Int32)] := f1652
            show own_Go p e below _ (T1645.setTop (mkF m 215 #[.val (.int i0), .val (.int i1), .val (.int i2), .val (.int i3), .val (.int i4), .val (.int i5), .val (.int i6), .val (.int (1 : Int32)), .val (.ref b919), .val (.ref b967), .val (.ref b1009), .val (.int (0 : Int32)), .val (.int (0 : Int32)), .val (.int (1 : Int32)), .val (.int (0 : Int32)), .unset, .unset, .unset, .unset] [(.int (0 : Int32))]))
            refine own_pop P1644 at_215 rfl rfl ?_
            refine own_iload P1644 at_216 rfl rfl ?_
            refine own_iconst P1644 at_218 rfl (v := (1 : Int32)) rfl ?_
            refine own_iadd P1644 at_219 rfl ?_
            rw [show ((1 : Int32) + (1 : Int32)) = (2 : Int32) by decide]
            refine own_istore P1644 at_220 rfl (Ls' := #[.val (.int i0), .val (.int i1), .val (.int i2), .val (.int i3), .val (.int i4), .val (.int i5), .val (.int i6), .val (.int (1 : Int32)), .val (.ref b919), .val (.ref b967), .val (.ref b1009), .val (.int (0 : Int32)), .val (.int (0 : Int32)), .val (.int (2 : Int32)), .val (.int (0 : Int32)), .unset, .unset, .unset, .unset]) rfl ?_
            refine own_iload P1644 at_222 rfl rfl ?_
            refine own_if0N P1644 (pc' := 227) at_224 (by decide : ¬ ((1 : Int32) = (0 : Int32))) rfl ?_
            refine own_iconst P1644 at_227 rfl (v := (1 : Int32)) rfl ?_
            refine own_goto P1644 (pc' := 232) at_228 (by decide) (by decide) ?_
            refine own_istore P1644 at_232 rfl (Ls' := #[.val (.int i0), .val (.int i1), .val (.int i2), .val (.int i3), .val (.int i4), .val (.int i5), .val (.int i6), .val (.int (1 : Int32)), .val (.ref b919), .val (.ref b967), .val (.ref b1009), .val (.int (0 : Int32)), .val (.int (0 : Int32)), .val (.int (2 : Int32)), .val (.int (0 : Int32)), .val (.int (1 : Int32)), .unset, .unset, .unset]) rfl ?_
            refine own_iload P1644 at_234 rfl rfl ?_
            refine own_if0N P1644 (pc' := 239) at_236 (not_not_intro (by decide : (0 : Int32) = (0 : Int32))) rfl ?_
            refine own_iload P1644 at_239 rfl rfl ?_
            refine own_iload P1644 at_241 rfl rfl ?_
            refine own_if0N P1644 (pc' := 246) at_243 (by decide : ¬ ((1 : Int32) = (0 : Int32))) rfl ?_
            refine own_iconst P1644 at_246 rfl (v := (0 : Int32)) rfl ?_
            refine own_goto P1644 (pc' := 251) at_247 (by decide) (by decide) ?_
            refine own_icmpN P1644 (pc' := 254) at_251 (not_not_intro (by decide : (0 : Int32) = (0 : Int32))) rfl ?_
            refine own_aload P1644 at_254 rfl rfl rfl ?_
            refine own_virtP P1644 (hw _ (List.mem_of_getElem? (i := 80) rfl)) (hw _ (List.mem_of_getElem? (i := 81) rfl)) (hw _ (List.mem_of_getElem? (i := 83) rfl)) (hw _ (List.mem_of_getElem? (i := 82) rfl)) (hw _ (List.mem_of_getElem? (i := 2) rfl)) (hw _ (List.mem_of_getElem? (i := 84) rfl)) (by decide) f1654 (argsL := []) (rest := []) (rmSize l Z a0 hw b919 (1 : Int32) h1646 f1662) at_256 rfl own_pd7 rfl rfl rfl (by decide) 0 rfl (by decide) rfl rfl (by decide) (by decide) (fun T1669 P1668 => ?_)
            show own_Go p e below _ (T1669.setTop (mkF m 259 #[.val (.int i0), .val (.int i1), .val (.int i2), .val (.int i3), .val (.int i4), .val (.int i5), .val (.int i6), .val (.int (1 : Int32)), .val (.ref b919), .val (.ref b967), .val (.ref b1009), .val (.int (0 : Int32)), .val (.int (0 : Int32)), .val (.int (2 : Int32)), .val (.int (0 : Int32)), .val (.int (1 : Int32)), .unset, .unset, .unset] [(.int (1 : Int32))]))
            refine own_iload P1668 at_259 rfl rfl ?_
            refine own_icmpN P1668 (pc' := 264) at_261 (not_not_intro (by decide : (1 : Int32) = (1 : Int32))) rfl ?_
            refine own_iconst P1668 at_264 rfl (v := (1 : Int32)) rfl ?_
            refine own_goto P1668 (pc' := 269) at_265 (by decide) (by decide) ?_
            refine own_istore P1668 at_269 rfl (Ls' := #[.val (.int i0), .val (.int i1), .val (.int i2), .val (.int i3), .val (.int i4), .val (.int i5), .val (.int i6), .val (.int (1 : Int32)), .val (.ref b919), .val (.ref b967), .val (.ref b1009), .val (.int (0 : Int32)), .val (.int (0 : Int32)), .val (.int (2 : Int32)), .val (.int (0 : Int32)), .val (.int (1 : Int32)), .val (.int (1 : Int32)), .unset, .unset]) rfl ?_
            refine own_aload P1668 at_271 rfl rfl rfl ?_
            refine own_iconst P1668 at_273 rfl (v := (0 : Int32)) rfl ?_
            refine own_virtP P1668 (hw _ (List.mem_of_getElem? (i := 85) rfl)) (hw _ (List.mem_of_getElem? (i := 76) rfl)) (hw _ (List.mem_of_getElem? (i := 78) rfl)) (hw _ (List.mem_of_getElem? (i := 77) rfl)) (hw _ (List.mem_of_getElem? (i := 2) rfl)) (hw _ (List.mem_of_getElem? (i := 79) rfl)) (by decide) f1654 (argsL := [(.int (0 : Int32))]) (rest := []) (rmHolds0 l Z a0 hw b919 co942 (2 : Int32) (0 : Int32) (0 : Int32) (0 : Int32) h1646 f1660 f1667) at_274 rfl own_pd6 rfl rfl rfl (by decide) 0 rfl (by decide) rfl rfl (by decide) (by decide) (fun T1675 P1674 => ?_)
            show own_Go p e below _ (T1675.setTop (mkF m 277 #[.val (.int i0), .val (.int i1), .val (.int i2), .val (.int i3), .val (.int i4), .val (.int i5), .val (.int i6), .val (.int (1 : Int32)), .val (.ref b919), .val (.ref b967), .val (.ref b1009), .val (.int (0 : Int32)), .val (.int (0 : Int32)), .val (.int (2 : Int32)), .val (.int (0 : Int32)), .val (.int (1 : Int32)), .val (.int (1 : Int32)), .unset, .unset] [(.int (own_ho (2 : Int32)))]))
            rw [show (own_ho (2 : Int32)) = (1 : Int32) by decide]
            refine own_iload P1674 at_277 rfl rfl ?_
            refine own_if0N P1674 (pc' := 282) at_279 (not_not_intro (by decide : (0 : Int32) < (2 : Int32))) rfl ?_
            refine own_iconst P1674 at_282 rfl (v := (1 : Int32)) rfl ?_
            refine own_goto P1674 (pc' := 287) at_283 (by decide) (by decide) ?_
            refine own_icmpN P1674 (pc' := 290) at_287 (not_not_intro (by decide : (1 : Int32) = (1 : Int32))) rfl ?_
            refine own_iconst P1674 at_290 rfl (v := (1 : Int32)) rfl ?_
            refine own_goto P1674 (pc' := 295) at_291 (by decide) (by decide) ?_
            refine own_istore P1674 at_295 rfl (Ls' := #[.val (.int i0), .val (.int i1), .val (.int i2), .val (.int i3), .val (.int i4), .val (.int i5), .val (.int i6), .val (.int (1 : Int32)), .val (.ref b919), .val (.ref b967), .val (.ref b1009), .val (.int (0 : Int32)), .val (.int (0 : Int32)), .val (.int (2 : Int32)), .val (.int (0 : Int32)), .val (.int (1 : Int32)), .val (.int (1 : Int32)), .val (.int (1 : Int32)), .unset]) rfl ?_
            refine own_iload P1674 at_297 rfl rfl ?_
            refine own_if0Y P1674 (pc' := 321) at_299 (by decide : ¬ ((1 : Int32) = (0 : Int32))) (by decide) (by decide) ?_
            refine own_iconst P1674 at_321 rfl (v := (1 : Int32)) rfl ?_
            refine own_goto P1674 (pc' := 326) at_322 (by decide) (by decide) ?_
            refine own_istore P1674 at_326 rfl (Ls' := #[.val (.int i0), .val (.int i1), .val (.int i2), .val (.int i3), .val (.int i4), .val (.int i5), .val (.int i6), .val (.int (1 : Int32)), .val (.ref b919), .val (.ref b967), .val (.ref b1009), .val (.int (0 : Int32)), .val (.int (0 : Int32)), .val (.int (2 : Int32)), .val (.int (0 : Int32)), .val (.int (1 : Int32)), .val (.int (1 : Int32)), .val (.int (1 : Int32)), .val (.int (1 : Int32))]) rfl ?_
            refine own_iload P1674 at_328 rfl rfl ?_
            refine own_if0N P1674 (pc' := 333) at_330 (by decide : ¬ ((1 : Int32) = (0 : Int32))) rfl ?_
            refine own_iload P1674 at_333 rfl rfl ?_
            refine own_if0N P1674 (pc' := 338) at_335 (by decide : ¬ ((1 : Int32) = (0 : Int32))) rfl ?_
            refine own_iload P1674 at_338 rfl rfl ?_
            refine own_if0N P1674 (pc' := 343) at_340 (by decide : ¬ ((1 : Int32) = (0 : Int32))) rfl ?_
            refine own_iconst P1674 at_343 rfl (v := (1 : Int32)) rfl ?_
            refine own_goto P1674 (pc' := 348) at_344 (by decide) (by decide) ?_
            exact own_retZ P1674 at_348 (z := (1 : Int32)) rfl (by decide) (by decide) (hQ _ _ N1653)
  · rw [if_neg (by decide : ¬ ((0 : Int32) = (1 : Int32)))] at hQ
    refine own_new P (hw _ (List.mem_of_getElem? (i := 0) rfl)) (hw _ (List.mem_of_getElem? (i := 1) rfl)) (hw _ (List.mem_of_getElem? (i := 2) rfl)) at_64 rfl (by decide) (by decide) (fun T1686 h1687 b1680 ha1681 E1682 A1683 D1684 P1685 => ?_)
    have g1688 : n0 ≤ b1680 := by rw [ha1681]; exact Z0
    have f1689 : Fld Z h1687 b1680 "com/example/projectum/projectum/reasoning/Relation" "arity" "I" (.int (0 : Int32)) := D1684 (Or.inr (hw _ (List.mem_of_getElem? (i := 10) rfl))) (ty := .int) (by decide)
    have f1690 : Fld Z h1687 b1680 "com/example/projectum/projectum/reasoning/Relation" "rows" "[I" .null := D1684 (Or.inl (hw _ (List.mem_of_getElem? (i := 13) rfl))) (ty := (.array .int)) (by decide)
    have f1691 : Fld Z h1687 b1680 "com/example/projectum/projectum/reasoning/Relation" "counts" "[I" .null := D1684 (Or.inl (hw _ (List.mem_of_getElem? (i := 15) rfl))) (ty := (.array .int)) (by decide)
    have f1692 : Fld Z h1687 b1680 "com/example/projectum/projectum/reasoning/Relation" "byPosition" "[Lcom/example/projectum/projectum/reasoning/Relation$NodeIndex;" .null := D1684 (Or.inr (hw _ (List.mem_of_getElem? (i := 19) rfl))) (ty := (.array (.object "com/example/projectum/projectum/reasoning/Relation$NodeIndex"))) (by decide)
    have f1693 : Fld Z h1687 b1680 "com/example/projectum/projectum/reasoning/Relation" "slots" "[I" .null := D1684 (Or.inl (hw _ (List.mem_of_getElem? (i := 30) rfl))) (ty := (.array .int)) (by decide)
    have f1694 : Fld Z h1687 b1680 "com/example/projectum/projectum/reasoning/Relation" "size" "I" (.int (0 : Int32)) := D1684 (Or.inl (hw _ (List.mem_of_getElem? (i := 32) rfl))) (ty := .int) (by decide)
    have f1695 : Fld Z h1687 b1680 "com/example/projectum/projectum/reasoning/Relation" "freeSlot" "I" (.int (0 : Int32)) := D1684 (Or.inl (hw _ (List.mem_of_getElem? (i := 56) rfl))) (ty := .int) (by decide)
    refine own_dup P1685 at_67 rfl rfl ?_
    refine own_iconst P1685 at_68 rfl (v := (1 : Int32)) rfl ?_
    refine own_init P1685 rfl (hw _ (List.mem_of_getElem? (i := 3) rfl)) (hw _ (List.mem_of_getElem? (i := 4) rfl)) (hw _ (List.mem_of_getElem? (i := 2) rfl)) (hw _ (List.mem_of_getElem? (i := 5) rfl)) (by decide) (argsL := [(.int (1 : Int32))]) (rest := [(.ref b1680)]) (rmInit l Z a0 hw b1680 h1687 n0 (Nat.le_trans Z0 E1682.1) g1688 A1683 f1689 f1690 f1691 f1692 f1694 f1693 f1695) at_69 rfl own_pd3 rfl rfl rfl (by decide) 1 rfl (by decide) (by decide) (by decide) (fun T1697 h1698 v1699 L1700 hq1701 P1696 => ?_)
    obtain ⟨rfl, n1705, k1706, ro1702, co1703, bp1704, ⟨g1707, g1708⟩, ⟨ne1709, ne1710, ne1711, ne1712, ne1713, ne1714⟩, f1715, f1716, f1717, f1718, f1719, f1720, f1721, f1722, f1723, f1724, f1725⟩ := hq1701
    have N1726 := Fr.app N n1705
    have f1727 := A1683.keep k1706
    show own_Go p e below _ (T1697.setTop (mkF m 72 #[.val (.int i0), .val (.int i1), .val (.int i2), .val (.int i3), .val (.int i4), .val (.int i5), .val (.int i6), .val (.int (0 : Int32)), .unset, .unset, .unset, .unset, .unset, .unset, .unset, .unset, .unset, .unset, .unset] [(.ref b1680)]))
    refine own_astore P1696 at_72 rfl rfl (Ls' := #[.val (.int i0), .val (.int i1), .val (.int i2), .val (.int i3), .val (.int i4), .val (.int i5), .val (.int i6), .val (.int (0 : Int32)), .val (.ref b1680), .unset, .unset, .unset, .unset, .unset, .unset, .unset, .unset, .unset, .unset]) rfl ?_
    refine own_iconst P1696 at_74 rfl (v := (1 : Int32)) rfl ?_
    refine own_arrNew P1696 1 (hw _ (List.mem_of_getElem? (i := 11) rfl)) rfl rfl at_75 rfl (by decide) (by decide) (by decide) (by decide) (by decide) (fun T1733 h1734 b1728 ha1729 E1730 A1731 P1732 => ?_)
    have ne1735 : b1680 ≠ b1728 := by rw [ha1729]; exact Nat.ne_of_lt f1715.lt
    have ne1736 : ro1702 ≠ b1728 := by rw [ha1729]; exact Nat.ne_of_lt f1723.lt
    have ne1737 : co1703 ≠ b1728 := by rw [ha1729]; exact Nat.ne_of_lt f1724.lt
    have ne1738 : bp1704 ≠ b1728 := by rw [ha1729]; exact Nat.ne_of_lt f1725.lt
    have g1739 : n0 ≤ b1728 := by rw [ha1729]; exact (Nat.le_trans (Nat.le_trans Z0 E1682.1) k1706.1)
    have f1740 := f1715.ext E1730
    have f1741 := f1716.ext E1730
    have f1742 := f1717.ext E1730
    have f1743 := f1718.ext E1730
    have f1744 := f1719.ext E1730
    have f1745 := f1720.ext E1730
    have f1746 := f1721.ext E1730
    have f1747 := f1722.ext E1730
    have f1748 := f1723.ext E1730
    have f1749 := f1724.ext E1730
    have f1750 := f1725.ext E1730
    have f1751 : own_Ar Z h1734 b1728 .int [(0 : Int32)] := A1731
    refine own_dup P1732 at_77 rfl rfl ?_
    refine own_iconst P1732 at_78 rfl (v := (0 : Int32)) rfl ?_
    refine own_iloadN P1732 at_79 rfl rfl ?_
    refine own_iastore P1732 f1751 at_80 rfl (by decide) (Nat.le_of_ble_eq_true rfl) (z := i0) rfl (fun T1753 h1754 W1755 A1756 P1752 => ?_)
    have N1757 := Fr.snoc P1752.st N1726 g1739
    have f1758 := f1740.wr W1755
    have f1759 := f1741.other W1755 (Or.inl ne1735)
    have f1760 := f1742.other W1755 (Or.inl ne1735)
    have f1761 := f1743.other W1755 (Or.inl ne1735)
    have f1762 := f1744.other W1755 (Or.inl ne1735)
    have f1763 := f1745.other W1755 (Or.inl ne1735)
    have f1764 := f1746.other W1755 (Or.inl ne1735)
    have f1765 := f1747.other W1755 (Or.inl ne1735)
    have f1766 := f1748.other W1755 ne1736
    have f1767 := f1749.other W1755 ne1737
    have f1768 := f1750.other W1755 ne1738
    have f1769 : own_Ar Z h1754 b1728 .int [i0] := A1756
    refine own_astore P1752 at_81 rfl rfl (Ls' := #[.val (.int i0), .val (.int i1), .val (.int i2), .val (.int i3), .val (.int i4), .val (.int i5), .val (.int i6), .val (.int (0 : Int32)), .val (.ref b1680), .val (.ref b1728), .unset, .unset, .unset, .unset, .unset, .unset, .unset, .unset, .unset]) rfl ?_
    refine own_iconst P1752 at_83 rfl (v := (1 : Int32)) rfl ?_
    refine own_arrNew P1752 1 (hw _ (List.mem_of_getElem? (i := 11) rfl)) rfl rfl at_84 rfl (by decide) (by decide) (by decide) (by decide) (by decide) (fun T1775 h1776 b1770 ha1771 E1772 A1773 P1774 => ?_)
    have ne1777 : b1680 ≠ b1770 := by rw [ha1771]; exact Nat.ne_of_lt f1758.lt
    have ne1778 : ro1702 ≠ b1770 := by rw [ha1771]; exact Nat.ne_of_lt f1766.lt
    have ne1779 : co1703 ≠ b1770 := by rw [ha1771]; exact Nat.ne_of_lt f1767.lt
    have ne1780 : bp1704 ≠ b1770 := by rw [ha1771]; exact Nat.ne_of_lt f1768.lt
    have ne1781 : b1728 ≠ b1770 := by rw [ha1771]; exact Nat.ne_of_lt f1769.lt
    have g1782 : n0 ≤ b1770 := by rw [ha1771]; exact (Nat.le_trans (Nat.le_trans (Nat.le_trans (Nat.le_trans Z0 E1682.1) k1706.1) E1730.1) (Keep.of_wr W1755).1)
    have f1783 := f1758.ext E1772
    have f1784 := f1759.ext E1772
    have f1785 := f1760.ext E1772
    have f1786 := f1761.ext E1772
    have f1787 := f1762.ext E1772
    have f1788 := f1763.ext E1772
    have f1789 := f1764.ext E1772
    have f1790 := f1765.ext E1772
    have f1791 := f1766.ext E1772
    have f1792 := f1767.ext E1772
    have f1793 := f1768.ext E1772
    have f1794 := f1769.ext E1772
    have f1795 : own_Ar Z h1776 b1770 .int [(0 : Int32)] := A1773
    refine own_dup P1774 at_86 rfl rfl ?_
    refine own_iconst P1774 at_87 rfl (v := (0 : Int32)) rfl ?_
    refine own_iloadN P1774 at_88 rfl rfl ?_
    refine own_iastore P1774 f1795 at_89 rfl (by decide) (Nat.le_of_ble_eq_true rfl) (z := i1) rfl (fun T1797 h1798 W1799 A1800 P1796 => ?_)
    have N1801 := Fr.snoc P1796.st N1757 g1782
    have f1802 := f1783.wr W1799
    have f1803 := f1784.other W1799 (Or.inl ne1777)
    have f1804 := f1785.other W1799 (Or.inl ne1777)
    have f1805 := f1786.other W1799 (Or.inl ne1777)
    have f1806 := f1787.other W1799 (Or.inl ne1777)
    have f1807 := f1788.other W1799 (Or.inl ne1777)
    have f1808 := f1789.other W1799 (Or.inl ne1777)
    have f1809 := f1790.other W1799 (Or.inl ne1777)
    have f1810 := f1791.other W1799 ne1778
    have f1811 := f1792.other W1799 ne1779
    have f1812 := f1793.other W1799 ne1780
    have f1813 := f1794.other W1799 ne1781
    have f1814 : own_Ar Z h1798 b1770 .int [i1] := A1800
    refine own_astore P1796 at_90 rfl rfl (Ls' := #[.val (.int i0), .val (.int i1), .val (.int i2), .val (.int i3), .val (.int i4), .val (.int i5), .val (.int i6), .val (.int (0 : Int32)), .val (.ref b1680), .val (.ref b1728), .val (.ref b1770), .unset, .unset, .unset, .unset, .unset, .unset, .unset, .unset]) rfl ?_
    refine own_aload P1796 at_92 rfl rfl rfl ?_
    refine own_aload P1796 at_94 rfl rfl rfl ?_
    refine own_virt P1796 (hw _ (List.mem_of_getElem? (i := 20) rfl)) (hw _ (List.mem_of_getElem? (i := 21) rfl)) (hw _ (List.mem_of_getElem? (i := 23) rfl)) (hw _ (List.mem_of_getElem? (i := 22) rfl)) (hw _ (List.mem_of_getElem? (i := 2) rfl)) (hw _ (List.mem_of_getElem? (i := 24) rfl)) (by decide) f1802 (argsL := [(.ref b1728)]) (rest := []) (rmAddF l Z a0 hw b1680 b1728 ro1702 co1703 bp1704 i0 (0 : Int32) (0 : Int32) (0 : Int32) (0 : Int32) (0 : Int32) (0 : Int32) (0 : Int32) (0 : Int32) h1798 n0 (Nat.le_trans (Nat.le_trans (Nat.le_trans (Nat.le_trans (Nat.le_trans (Nat.le_trans Z0 E1682.1) k1706.1) E1730.1) (Keep.of_wr W1755).1) E1772.1) (Keep.of_wr W1799).1) g1688 g1707 g1708 ne1709 ne1710 ne1711 ne1712 ne1713 ne1714 ne1735 ne1736 ne1737 ne1738 f1802 f1803 f1804 f1805 f1806 f1807 f1808 f1809 f1810 f1811 f1812 f1813) at_96 rfl own_pd4 rfl rfl rfl (by decide) 0 rfl (by decide) (by decide) (by decide) (fun T1816 h1817 v1818 L1819 hq1820 P1815 => ?_)
    obtain ⟨rfl, n1822, k1823, so1821, hg1824, hz1825, f1826, f1827, f1828, f1829, f1830, f1831, f1832, f1833, f1834, f1835, f1836, f1837⟩ := hq1820
    have ne1838 : b1680 ≠ so1821 := Nat.ne_of_lt (Nat.lt_of_lt_of_le f1802.lt hz1825)
    have ne1839 : ro1702 ≠ so1821 := Nat.ne_of_lt (Nat.lt_of_lt_of_le f1810.lt hz1825)
    have ne1840 : co1703 ≠ so1821 := Nat.ne_of_lt (Nat.lt_of_lt_of_le f1811.lt hz1825)
    have ne1841 : bp1704 ≠ so1821 := Nat.ne_of_lt (Nat.lt_of_lt_of_le f1812.lt hz1825)
    have ne1842 : b1728 ≠ so1821 := Nat.ne_of_lt (Nat.lt_of_lt_of_le f1813.lt hz1825)
    have ne1843 : b1770 ≠ so1821 := Nat.ne_of_lt (Nat.lt_of_lt_of_le f1814.lt hz1825)
    have N1844 := Fr.app N1801 n1822
    have f1845 := f1802.keep k1823
    have f1846 := f1812.keep k1823 (ninS (Ne.symm ne1712) (ninS (Ne.symm ne1713) (ninS (Ne.symm ne1714) nin0)))
    have f1847 := f1813.keep k1823 (ninS (Ne.symm ne1735) (ninS (Ne.symm ne1736) (ninS (Ne.symm ne1737) nin0)))
    have f1848 := f1814.keep k1823 (ninS (Ne.symm ne1777) (ninS (Ne.symm ne1778) (ninS (Ne.symm ne1779) nin0)))
    have f1849 : own_Ar Z h1817 so1821 .int (own_s1 i0) := f1837
    show own_Go p e below _ (T1816.setTop (mkF m 99 #[.val (.int i0), .val (.int i1), .val (.int i2), .val (.int i3), .val (.int i4), .val (.int i5), .val (.int i6), .val (.int (0 : Int32)), .val (.ref b1680), .val (.ref b1728), .val (.ref b1770), .unset, .unset, .unset, .unset, .unset, .unset, .unset, .unset] [(.int (0 : Int32))]))
    refine own_istore P1815 at_99 rfl (Ls' := #[.val (.int i0), .val (.int i1), .val (.int i2), .val (.int i3), .val (.int i4), .val (.int i5), .val (.int i6), .val (.int (0 : Int32)), .val (.ref b1680), .val (.ref b1728), .val (.ref b1770), .val (.int (0 : Int32)), .unset, .unset, .unset, .unset, .unset, .unset, .unset]) rfl ?_
    refine own_aload P1815 at_101 rfl rfl rfl ?_
    refine own_aload P1815 at_103 rfl rfl rfl ?_
    refine own_virt P1815 (hw _ (List.mem_of_getElem? (i := 20) rfl)) (hw _ (List.mem_of_getElem? (i := 21) rfl)) (hw _ (List.mem_of_getElem? (i := 23) rfl)) (hw _ (List.mem_of_getElem? (i := 22) rfl)) (hw _ (List.mem_of_getElem? (i := 2) rfl)) (hw _ (List.mem_of_getElem? (i := 24) rfl)) (by decide) f1826 (argsL := [(.ref b1770)]) (rest := []) (rmAddM l Z a0 hw b1680 b1770 ro1702 co1703 bp1704 so1821 i1 i0 (0 : Int32) (0 : Int32) (0 : Int32) (1 : Int32) (0 : Int32) (0 : Int32) (0 : Int32) ((own_hv i0) &&& (15 : Int32)) (own_s1 i0) (own_q i0 i1) h1817 n0 (Nat.le_trans (Nat.le_trans (Nat.le_trans (Nat.le_trans (Nat.le_trans (Nat.le_trans (Nat.le_trans Z0 E1682.1) k1706.1) E1730.1) (Keep.of_wr W1755).1) E1772.1) (Keep.of_wr W1799).1) k1823.1) g1688 g1707 g1708 hg1824 ne1709 ne1710 ne1711 ne1712 ne1713 ne1714 ne1838 ne1839 ne1840 ne1841 ne1777 ne1778 ne1779 ne1780 (Ne.symm ne1843) f1826 f1827 f1828 f1829 f1830 f1831 f1832 f1833 f1834 f1835 f1836 f1849 f1848 (own_l1 i0) (own_hm i0 i1 hab) (own_hq i0 i1)) at_105 rfl own_pd4 rfl rfl rfl (by decide) 0 rfl (by decide) (by decide) (by decide) (fun T1851 h1852 v1853 L1854 hq1855 P1850 => ?_)
    obtain ⟨rfl, n1856, k1857, f1858, f1859, f1860, f1861, f1862, f1863, f1864, f1865, f1866, f1867, f1868, f1869⟩ := hq1855
    have N1870 := Fr.app N1844 n1856
    have f1871 := f1826.keep k1857
    have f1872 := f1836.keep k1857 (ninS (Ne.symm ne1712) (ninS (Ne.symm ne1713) (ninS (Ne.symm ne1714) (ninS ne1841 nin0))))
    have f1873 := f1847.keep k1857 (ninS (Ne.symm ne1735) (ninS (Ne.symm ne1736) (ninS (Ne.symm ne1737) (ninS ne1842 nin0))))
    have f1874 := f1848.keep k1857 (ninS (Ne.symm ne1777) (ninS (Ne.symm ne1778) (ninS (Ne.symm ne1779) (ninS ne1843 nin0))))
    have f1875 : own_Ar Z h1852 so1821 .int (own_s2 i0 i1) := f1869
    show own_Go p e below _ (T1851.setTop (mkF m 108 #[.val (.int i0), .val (.int i1), .val (.int i2), .val (.int i3), .val (.int i4), .val (.int i5), .val (.int i6), .val (.int (0 : Int32)), .val (.ref b1680), .val (.ref b1728), .val (.ref b1770), .val (.int (0 : Int32)), .unset, .unset, .unset, .unset, .unset, .unset, .unset] [(.int (1 : Int32))]))
    refine own_istore P1850 at_108 rfl (Ls' := #[.val (.int i0), .val (.int i1), .val (.int i2), .val (.int i3), .val (.int i4), .val (.int i5), .val (.int i6), .val (.int (0 : Int32)), .val (.ref b1680), .val (.ref b1728), .val (.ref b1770), .val (.int (0 : Int32)), .val (.int (1 : Int32)), .unset, .unset, .unset, .unset, .unset, .unset]) rfl ?_
    refine own_iconst P1850 at_110 rfl (v := (1 : Int32)) rfl ?_
    refine own_istore P1850 at_111 rfl (Ls' := #[.val (.int i0), .val (.int i1), .val (.int i2), .val (.int i3), .val (.int i4), .val (.int i5), .val (.int i6), .val (.int (0 : Int32)), .val (.ref b1680), .val (.ref b1728), .val (.ref b1770), .val (.int (0 : Int32)), .val (.int (1 : Int32)), .val (.int (1 : Int32)), .unset, .unset, .unset, .unset, .unset]) rfl ?_
    refine own_iconst P1850 at_113 rfl (v := (0 : Int32)) rfl ?_
    refine own_istore P1850 at_114 rfl (Ls' := #[.val (.int i0), .val (.int i1), .val (.int i2), .val (.int i3), .val (.int i4), .val (.int i5), .val (.int i6), .val (.int (0 : Int32)), .val (.ref b1680), .val (.ref b1728), .val (.ref b1770), .val (.int (0 : Int32)), .val (.int (1 : Int32)), .val (.int (1 : Int32)), .val (.int (0 : Int32)), .unset, .unset, .unset, .unset]) rfl ?_
    refine own_iload P1850 at_116 rfl rfl ?_
    refine own_if0Y P1850 (pc' := 130) at_118 (by decide : (0 : Int32) = (0 : Int32)) (by decide) (by decide) ?_
    refine own_iconst P1850 at_130 rfl (v := (1 : Int32)) rfl ?_
    refine own_istore P1850 at_131 rfl (Ls' := #[.val (.int i0), .val (.int i1), .val (.int i2), .val (.int i3), .val (.int i4), .val (.int i5), .val (.int i6), .val (.int (0 : Int32)), .val (.ref b1680), .val (.ref b1728), .val (.ref b1770), .val (.int (0 : Int32)), .val (.int (1 : Int32)), .val (.int (1 : Int32)), .val (.int (1 : Int32)), .unset, .unset, .unset, .unset]) rfl ?_
    refine own_iloadN P1850 at_133 rfl rfl ?_
    by_cases hc1876 : i3 = (0 : Int32)
    · rw [if_pos hc1876] at hQ
      refine own_if0Y P1850 (pc' := 151) at_134 hc1876 (by decide) (by decide) ?_
      refine own_iload P1850 at_151 rfl rfl ?_
      by_cases hc1877 : i4 = (0 : Int32)
      · rw [if_pos hc1877] at hQ
        refine own_if0Y P1850 (pc' := 170) at_153 hc1877 (by decide) (by decide) ?_
        refine own_iload P1850 at_170 rfl rfl ?_
        by_cases hc1878 : i5 = (0 : Int32)
        · rw [if_pos hc1878] at hQ
          refine own_if0Y P1850 (pc' := 203) at_172 hc1878 (by decide) (by decide) ?_
          refine own_iload P1850 at_203 rfl rfl ?_
          by_cases hc1879 : i6 = (0 : Int32)
          · rw [if_pos hc1879] at hQ
            refine own_if0Y P1850 (pc' := 222) at_205 hc1879 (by decide) (by decide) ?_
            refine own_iload P1850 at_222 rfl rfl ?_
            refine own_if0Y P1850 (pc' := 231) at_224 (by decide : (0 : Int32) = (0 : Int32)) (by decide) (by decide) ?_
            refine own_iconst P1850 at_231 rfl (v := (2 : Int32)) rfl ?_
            refine own_istore P1850 at_232 rfl (Ls' := #[.val (.int i0), .val (.int i1), .val (.int i2), .val (.int i3), .val (.int i4), .val (.int i5), .val (.int i6), .val (.int (0 : Int32)), .val (.ref b1680), .val (.ref b1728), .val (.ref b1770), .val (.int (0 : Int32)), .val (.int (1 : Int32)), .val (.int (1 : Int32)), .val (.int (1 : Int32)), .val (.int (2 : Int32)), .unset, .unset, .unset]) rfl ?_
            refine own_iload P1850 at_234 rfl rfl ?_
            refine own_if0N P1850 (pc' := 239) at_236 (not_not_intro (by decide : (0 : Int32) = (0 : Int32))) rfl ?_
            refine own_iload P1850 at_239 rfl rfl ?_
            refine own_iload P1850 at_241 rfl rfl ?_
            refine own_if0Y P1850 (pc' := 250) at_243 (by decide : (0 : Int32) = (0 : Int32)) (by decide) (by decide) ?_
            refine own_iconst P1850 at_250 rfl (v := (1 : Int32)) rfl ?_
            refine own_icmpN P1850 (pc' := 254) at_251 (not_not_intro (by decide : (1 : Int32) = (1 : Int32))) rfl ?_
            refine own_aload P1850 at_254 rfl rfl rfl ?_
            refine own_virtP P1850 (hw _ (List.mem_of_getElem? (i := 80) rfl)) (hw _ (List.mem_of_getElem? (i := 81) rfl)) (hw _ (List.mem_of_getElem? (i := 83) rfl)) (hw _ (List.mem_of_getElem? (i := 82) rfl)) (hw _ (List.mem_of_getElem? (i := 2) rfl)) (hw _ (List.mem_of_getElem? (i := 84) rfl)) (by decide) f1858 (argsL := []) (rest := []) (rmSize l Z a0 hw b1680 (2 : Int32) h1852 f1863) at_256 rfl own_pd7 rfl rfl rfl (by decide) 0 rfl (by decide) rfl rfl (by decide) (by decide) (fun T1881 P1880 => ?_)
            show own_Go p e below _ (T1881.setTop (mkF m 259 #[.val (.int i0), .val (.int i1), .val (.int i2), .val (.int i3), .val (.int i4), .val (.int i5), .val (.int i6), .val (.int (0 : Int32)), .val (.ref b1680), .val (.ref b1728), .val (.ref b1770), .val (.int (0 : Int32)), .val (.int (1 : Int32)), .val (.int (1 : Int32)), .val (.int (1 : Int32)), .val (.int (2 : Int32)), .unset, .unset, .unset] [(.int (2 : Int32))]))
            refine own_iload P1880 at_259 rfl rfl ?_
            refine own_icmpN P1880 (pc' := 264) at_261 (not_not_intro (by decide : (2 : Int32) = (2 : Int32))) rfl ?_
            refine own_iconst P1880 at_264 rfl (v := (1 : Int32)) rfl ?_
            refine own_goto P1880 (pc' := 269) at_265 (by decide) (by decide) ?_
            refine own_istore P1880 at_269 rfl (Ls' := #[.val (.int i0), .val (.int i1), .val (.int i2), .val (.int i3), .val (.int i4), .val (.int i5), .val (.int i6), .val (.int (0 : Int32)), .val (.ref b1680), .val (.ref b1728), .val (.ref b1770), .val (.int (0 : Int32)), .val (.int (1 : Int32)), .val (.int (1 : Int32)), .val (.int (1 : Int32)), .val (.int (2 : Int32)), .val (.int (1 : Int32)), .unset, .unset]) rfl ?_
            refine own_aload P1880 at_271 rfl rfl rfl ?_
            refine own_iconst P1880 at_273 rfl (v := (0 : Int32)) rfl ?_
            refine own_virtP P1880 (hw _ (List.mem_of_getElem? (i := 85) rfl)) (hw _ (List.mem_of_getElem? (i := 76) rfl)) (hw _ (List.mem_of_getElem? (i := 78) rfl)) (hw _ (List.mem_of_getElem? (i := 77) rfl)) (hw _ (List.mem_of_getElem? (i := 2) rfl)) (hw _ (List.mem_of_getElem? (i := 79) rfl)) (by decide) f1858 (argsL := [(.int (0 : Int32))]) (rest := []) (rmHolds0 l Z a0 hw b1680 co1703 (1 : Int32) (1 : Int32) (0 : Int32) (0 : Int32) h1852 f1861 f1867) at_274 rfl own_pd6 rfl rfl rfl (by decide) 0 rfl (by decide) rfl rfl (by decide) (by decide) (fun T1887 P1886 => ?_)
            show own_Go p e below _ (T1887.setTop (mkF m 277 #[.val (.int i0), .val (.int i1), .val (.int i2), .val (.int i3), .val (.int i4), .val (.int i5), .val (.int i6), .val (.int (0 : Int32)), .val (.ref b1680), .val (.ref b1728), .val (.ref b1770), .val (.int (0 : Int32)), .val (.int (1 : Int32)), .val (.int (1 : Int32)), .val (.int (1 : Int32)), .val (.int (2 : Int32)), .val (.int (1 : Int32)), .unset, .unset] [(.int (own_ho (1 : Int32)))]))
            rw [show (own_ho (1 : Int32)) = (1 : Int32) by decide]
            refine own_iload P1886 at_277 rfl rfl ?_
            refine own_if0N P1886 (pc' := 282) at_279 (not_not_intro (by decide : (0 : Int32) < (1 : Int32))) rfl ?_
            refine own_iconst P1886 at_282 rfl (v := (1 : Int32)) rfl ?_
            refine own_goto P1886 (pc' := 287) at_283 (by decide) (by decide) ?_
            refine own_icmpN P1886 (pc' := 290) at_287 (not_not_intro (by decide : (1 : Int32) = (1 : Int32))) rfl ?_
            refine own_iconst P1886 at_290 rfl (v := (1 : Int32)) rfl ?_
            refine own_goto P1886 (pc' := 295) at_291 (by decide) (by decide) ?_
            refine own_istore P1886 at_295 rfl (Ls' := #[.val (.int i0), .val (.int i1), .val (.int i2), .val (.int i3), .val (.int i4), .val (.int i5), .val (.int i6), .val (.int (0 : Int32)), .val (.ref b1680), .val (.ref b1728), .val (.ref b1770), .val (.int (0 : Int32)), .val (.int (1 : Int32)), .val (.int (1 : Int32)), .val (.int (1 : Int32)), .val (.int (2 : Int32)), .val (.int (1 : Int32)), .val (.int (1 : Int32)), .unset]) rfl ?_
            refine own_iload P1886 at_297 rfl rfl ?_
            refine own_if0N P1886 (pc' := 302) at_299 (not_not_intro (by decide : (0 : Int32) = (0 : Int32))) rfl ?_
            refine own_aload P1886 at_302 rfl rfl rfl ?_
            refine own_iconst P1886 at_304 rfl (v := (1 : Int32)) rfl ?_
            refine own_virtP P1886 (hw _ (List.mem_of_getElem? (i := 85) rfl)) (hw _ (List.mem_of_getElem? (i := 76) rfl)) (hw _ (List.mem_of_getElem? (i := 78) rfl)) (hw _ (List.mem_of_getElem? (i := 77) rfl)) (hw _ (List.mem_of_getElem? (i := 2) rfl)) (hw _ (List.mem_of_getElem? (i := 79) rfl)) (by decide) f1858 (argsL := [(.int (1 : Int32))]) (rest := []) (rmHolds1 l Z a0 hw b1680 co1703 (1 : Int32) (1 : Int32) (0 : Int32) (0 : Int32) h1852 f1861 f1867) at_305 rfl own_pd6 rfl rfl rfl (by decide) 0 rfl (by decide) rfl rfl (by decide) (by decide) (fun T1893 P1892 => ?_)
            show own_Go p e below _ (T1893.setTop (mkF m 308 #[.val (.int i0), .val (.int i1), .val (.int i2), .val (.int i3), .val (.int i4), .val (.int i5), .val (.int i6), .val (.int (0 : Int32)), .val (.ref b1680), .val (.ref b1728), .val (.ref b1770), .val (.int (0 : Int32)), .val (.int (1 : Int32)), .val (.int (1 : Int32)), .val (.int (1 : Int32)), .val (.int (2 : Int32)), .val (.int (1 : Int32)), .val (.int (1 : Int32)), .unset] [(.int (own_ho (1 : Int32)))]))
            rw [show (own_ho (1 : Int32)) = (1 : Int32) by decide]
            refine own_iload P1892 at_308 rfl rfl ?_
            refine own_if0N P1892 (pc' := 313) at_310 (not_not_intro (by decide : (0 : Int32) < (1 : Int32))) rfl ?_
            refine own_iconst P1892 at_313 rfl (v := (1 : Int32)) rfl ?_
            refine own_goto P1892 (pc' := 318) at_314 (by decide) (by decide) ?_
            refine own_icmpN P1892 (pc' := 321) at_318 (not_not_intro (by decide : (1 : Int32) = (1 : Int32))) rfl ?_
            refine own_iconst P1892 at_321 rfl (v := (1 : Int32)) rfl ?_
            refine own_goto P1892 (pc' := 326) at_322 (by decide) (by decide) ?_
            refine own_istore P1892 at_326 rfl (Ls' := #[.val (.int i0), .val (.int i1), .val (.int i2), .val (.int i3), .val (.int i4), .val (.int i5), .val (.int i6), .val (.int (0 : Int32)), .val (.ref b1680), .val (.ref b1728), .val (.ref b1770), .val (.int (0 : Int32)), .val (.int (1 : Int32)), .val (.int (1 : Int32)), .val (.int (1 : Int32)), .val (.int (2 : Int32)), .val (.int (1 : Int32)), .val (.int (1 : Int32)), .val (.int (1 : Int32))]) rfl ?_
            refine own_iload P1892 at_328 rfl rfl ?_
            refine own_if0N P1892 (pc' := 333) at_330 (by decide : ¬ ((1 : Int32) = (0 : Int32))) rfl ?_
            refine own_iload P1892 at_333 rfl rfl ?_
            refine own_if0N P1892 (pc' := 338) at_335 (by decide : ¬ ((1 : Int32) = (0 : Int32))) rfl ?_
            refine own_iload P1892 at_338 rfl rfl ?_
            refine own_if0N P1892 (pc' := 343) at_340 (by decide : ¬ ((1 : Int32) = (0 : Int32))) rfl ?_
            refine own_iconst P1892 at_343 rfl (v := (1 : Int32)) rfl ?_
            refine own_goto P1892 (pc' := 348) at_344 (by decide) (by decide) ?_
            exact own_retZ P1892 at_348 (z := (1 : Int32)) rfl (by decide) (by decide) (hQ _ _ N1870)
          · rw [if_neg hc1879] at hQ
            refine own_if0N P1850 (pc' := 208) at_205 hc1879 rfl ?_
            refine own_aload P1850 at_208 rfl rfl rfl ?_
            refine own_aload P1850 at_210 rfl rfl rfl ?_
            refine own_virt P1850 (hw _ (List.mem_of_getElem? (i := 20) rfl)) (hw _ (List.mem_of_getElem? (i := 21) rfl)) (hw _ (List.mem_of_getElem? (i := 23) rfl)) (hw _ (List.mem_of_getElem? (i := 22) rfl)) (hw _ (List.mem_of_getElem? (i := 2) rfl)) (hw _ (List.mem_of_getElem? (i := 24) rfl)) (by decide) f1858 (argsL := [(.ref b1728)]) (rest := []) (rmAddA l Z a0 hw b1680 b1728 ro1702 co1703 bp1704 so1821 i0 i0 i1 (0 : Int32) (0 : Int32) (1 : Int32) (1 : Int32) (0 : Int32) (0 : Int32) (2 : Int32) (own_q i0 i1) (own_s2 i0 i1) h1852 n0 (Nat.le_trans (Nat.le_trans (Nat.le_trans (Nat.le_trans (Nat.le_trans (Nat.le_trans (Nat.le_trans (Nat.le_trans Z0 E1682.1) k1706.1) E1730.1) (Keep.of_wr W1755).1) E1772.1) (Keep.of_wr W1799).1) k1823.1) k1857.1) g1688 g1707 g1708 hg1824 ne1709 ne1710 ne1711 ne1712 ne1713 ne1714 ne1838 ne1839 ne1840 ne1841 ne1735 ne1736 ne1737 ne1738 (Ne.symm ne1842) f1858 f1859 f1860 f1861 f1862 f1863 f1864 f1865 f1866 f1867 f1868 f1875 f1873 (own_l2 i0 i1) rfl (own_a2 i0 i1 hab)) at_212 rfl own_pd4 rfl rfl rfl (by decide) 0 rfl (by decide) (by decide) (by decide) (fun T1899 h1900 v1901 L1902 hq1903 P1898 => ?_)
            obtain ⟨rfl, n1904, k1905, f1906⟩ := hq1903
            have N1907 := Fr.app N1870 n1904
            have f1908 := f1858.keep k1905
            have f1909 := f1868.keep k1905 (ninS (Ne.symm ne1714) nin0)
            have f1910 := f1873.keep k1905 (ninS (Ne.symm ne1737) nin0)
            have f1911 := f1874.keep k1905 (ninS (Ne.symm ne1779) nin0)
            have f1912 := f1859.keep k1905 (ninS ne1710 nin0)
            have f1913 := f1860.keep k1905 (ninS ne1710 nin0)
            have f1914 := f1861.keep k1905 (ninS ne1710 nin0)
            have f1915 := f1862.keep k1905 (ninS ne1710 nin0)
            have f1916 := f1863.keep k1905 (ninS ne1710 nin0)
            have f1917 := f1864.keep k1905 (ninS ne1710 nin0)
            have f1918 := f1865.keep k1905 (ninS ne1710 nin0)
            have f1919 := f1866.keep k1905 (ninS ne1711 nin0)
            have f1920 := f1875.keep k1905 (ninS (Ne.symm ne1840) nin0)
            have f1921 : own_Ar Z h1900 co1703 .int [(2 : Int32), (1 : Int32), (0 : Int32), (0 : Int32)] := f1906
            show own_Go p e below _ (T1899.setTop (mkF m 215 #[.val (.int i0), .val (.int i1), .val (.int i2), .val (.int i3), .val (.int i4), .val (.int i5), .val (.int i6), .val (.int (0 : Int32)), .val (.ref b1680), .val (.ref b1728), .val (.ref b1770), .val (.int (0 : Int32)), .val (.int (1 : Int32)), .val (.int (1 : Int32)), .val (.int (1 : Int32)), .unset, .unset, .unset, .unset] [(.int (0 : Int32))]))
            refine own_pop P1898 at_215 rfl rfl ?_
            refine own_iload P1898 at_216 rfl rfl ?_
            refine own_iconst P1898 at_218 rfl (v := (1 : Int32)) rfl ?_
            refine own_iadd P1898 at_219 rfl ?_
            rw [show ((1 : Int32) + (1 : Int32)) = (2 : Int32) by decide]
            refine own_istore P1898 at_220 rfl (Ls' := #[.val (.int i0), .val (.int i1), .val (.int i2), .val (.int i3), .val (.int i4), .val (.int i5), .val (.int i6), .val (.int (0 : Int32)), .val (.ref b1680), .val (.ref b1728), .val (.ref b1770), .val (.int (0 : Int32)), .val (.int (1 : Int32)), .val (.int (2 : Int32)), .val (.int (1 : Int32)), .unset, .unset, .unset, .unset]) rfl ?_
            refine own_iload P1898 at_222 rfl rfl ?_
            refine own_if0Y P1898 (pc' := 231) at_224 (by decide : (0 : Int32) = (0 : Int32)) (by decide) (by decide) ?_
            refine own_iconst P1898 at_231 rfl (v := (2 : Int32)) rfl ?_
            refine own_istore P1898 at_232 rfl (Ls' := #[.val (.int i0), .val (.int i1), .val (.int i2), .val (.int i3), .val (.int i4), .val (.int i5), .val (.int i6), .val (.int (0 : Int32)), .val (.ref b1680), .val (.ref b1728), .val (.ref b1770), .val (.int (0 : Int32)), .val (.int (1 : Int32)), .val (.int (2 : Int32)), .val (.int (1 : Int32)), .val (.int (2 : Int32)), .unset, .unset, .unset]) rfl ?_
            refine own_iload P1898 at_234 rfl rfl ?_
            refine own_if0N P1898 (pc' := 239) at_236 (not_not_intro (by decide : (0 : Int32) = (0 : Int32))) rfl ?_
            refine own_iload P1898 at_239 rfl rfl ?_
            refine own_iload P1898 at_241 rfl rfl ?_
            refine own_if0Y P1898 (pc' := 250) at_243 (by decide : (0 : Int32) = (0 : Int32)) (by decide) (by decide) ?_
            refine own_iconst P1898 at_250 rfl (v := (1 : Int32)) rfl ?_
            refine own_icmpN P1898 (pc' := 254) at_251 (not_not_intro (by decide : (1 : Int32) = (1 : Int32))) rfl ?_
            refine own_aload P1898 at_254 rfl rfl rfl ?_
            refine own_virtP P1898 (hw _ (List.mem_of_getElem? (i := 80) rfl)) (hw _ (List.mem_of_getElem? (i := 81) rfl)) (hw _ (List.mem_of_getElem? (i := 83) rfl)) (hw _ (List.mem_of_getElem? (i := 82) rfl)) (hw _ (List.mem_of_getElem? (i := 2) rfl)) (hw _ (List.mem_of_getElem? (i := 84) rfl)) (by decide) f1908 (argsL := []) (rest := []) (rmSize l Z a0 hw b1680 (2 : Int32) h1900 f1916) at_256 rfl own_pd7 rfl rfl rfl (by decide) 0 rfl (by decide) rfl rfl (by decide) (by decide) (fun T1923 P1922 => ?_)
            show own_Go p e below _ (T1923.setTop (mkF m 259 #[.val (.int i0), .val (.int i1), .val (.int i2), .val (.int i3), .val (.int i4), .val (.int i5), .val (.int i6), .val (.int (0 : Int32)), .val (.ref b1680), .val (.ref b1728), .val (.ref b1770), .val (.int (0 : Int32)), .val (.int (1 : Int32)), .val (.int (2 : Int32)), .val (.int (1 : Int32)), .val (.int (2 : Int32)), .unset, .unset, .unset] [(.int (2 : Int32))]))
            refine own_iload P1922 at_259 rfl rfl ?_
            refine own_icmpN P1922 (pc' := 264) at_261 (not_not_intro (by decide : (2 : Int32) = (2 : Int32))) rfl ?_
            refine own_iconst P1922 at_264 rfl (v := (1 : Int32)) rfl ?_
            refine own_goto P1922 (pc' := 269) at_265 (by decide) (by decide) ?_
            refine own_istore P1922 at_269 rfl (Ls' := #[.val (.int i0), .val (.int i1), .val (.int i2), .val (.int i3), .val (.int i4), .val (.int i5), .val (.int i6), .val (.int (0 : Int32)), .val (.ref b1680), .val (.ref b1728), .val (.ref b1770), .val (.int (0 : Int32)), .val (.int (1 : Int32)), .val (.int (2 : Int32)), .val (.int (1 : Int32)), .val (.int (2 : Int32)), .val (.int (1 : Int32)), .unset, .unset]) rfl ?_
            refine own_aload P1922 at_271 rfl rfl rfl ?_
            refine own_iconst P1922 at_273 rfl (v := (0 : Int32)) rfl ?_
            refine own_virtP P1922 (hw _ (List.mem_of_getElem? (i := 85) rfl)) (hw _ (List.mem_of_getElem? (i := 76) rfl)) (hw _ (List.mem_of_getElem? (i := 78) rfl)) (hw _ (List.mem_of_getElem? (i := 77) rfl)) (hw _ (List.mem_of_getElem? (i := 2) rfl)) (hw _ (List.mem_of_getElem? (i := 79) rfl)) (by decide) f1908 (argsL := [(.int (0 : Int32))]) (rest := []) (rmHolds0 l Z a0 hw b1680 co1703 (2 : Int32) (1 : Int32) (0 : Int32) (0 : Int32) h1900 f1914 f1921) at_274 rfl own_pd6 rfl rfl rfl (by decide) 0 rfl (by decide) rfl rfl (by decide) (by decide) (fun T1929 P1928 => ?_)
            show own_Go p e below _ (T1929.setTop (mkF m 277 #[.val (.int i0), .val (.int i1), .val (.int i2), .val (.int i3), .val (.int i4), .val (.int i5), .val (.int i6), .val (.int (0 : Int32)), .val (.ref b1680), .val (.ref b1728), .val (.ref b1770), .val (.int (0 : Int32)), .val (.int (1 : Int32)), .val (.int (2 : Int32)), .val (.int (1 : Int32)), .val (.int (2 : Int32)), .val (.int (1 : Int32)), .unset, .unset] [(.int (own_ho (2 : Int32)))]))
            rw [show (own_ho (2 : Int32)) = (1 : Int32) by decide]
            refine own_iload P1928 at_277 rfl rfl ?_
            refine own_if0N P1928 (pc' := 282) at_279 (not_not_intro (by decide : (0 : Int32) < (2 : Int32))) rfl ?_
            refine own_iconst P1928 at_282 rfl (v := (1 : Int32)) rfl ?_
            refine own_goto P1928 (pc' := 287) at_283 (by decide) (by decide) ?_
            refine own_icmpN P1928 (pc' := 290) at_287 (not_not_intro (by decide : (1 : Int32) = (1 : Int32))) rfl ?_
            refine own_iconst P1928 at_290 rfl (v := (1 : Int32)) rfl ?_
            refine own_goto P1928 (pc' := 295) at_291 (by decide) (by decide) ?_
            refine own_istore P1928 at_295 rfl (Ls' := #[.val (.int i0), .val (.int i1), .val (.int i2), .val (.int i3), .val (.int i4), .val (.int i5), .val (.int i6), .val (.int (0 : Int32)), .val (.ref b1680), .val (.ref b1728), .val (.ref b1770), .val (.int (0 : Int32)), .val (.int (1 : Int32)), .val (.int (2 : Int32)), .val (.int (1 : Int32)), .val (.int (2 : Int32)), .val (.int (1 : Int32)), .val (.int (1 : Int32)), .unset]) rfl ?_
            refine own_iload P1928 at_297 rfl rfl ?_
            refine own_if0N P1928 (pc' := 302) at_299 (not_not_intro (by decide : (0 : Int32) = (0 : Int32))) rfl ?_
            refine own_aload P1928 at_302 rfl rfl rfl ?_
            refine own_iconst P1928 at_304 rfl (v := (1 : Int32)) rfl ?_
            refine own_virtP P1928 (hw _ (List.mem_of_getElem? (i := 85) rfl)) (hw _ (List.mem_of_getElem? (i := 76) rfl)) (hw _ (List.mem_of_getElem? (i := 78) rfl)) (hw _ (List.mem_of_getElem? (i := 77) rfl)) (hw _ (List.mem_of_getElem? (i := 2) rfl)) (hw _ (List.mem_of_getElem? (i := 79) rfl)) (by decide) f1908 (argsL := [(.int (1 : Int32))]) (rest := []) (rmHolds1 l Z a0 hw b1680 co1703 (2 : Int32) (1 : Int32) (0 : Int32) (0 : Int32) h1900 f1914 f1921) at_305 rfl own_pd6 rfl rfl rfl (by decide) 0 rfl (by decide) rfl rfl (by decide) (by decide) (fun T1935 P1934 => ?_)
            show own_Go p e below _ (T1935.setTop (mkF m 308 #[.val (.int i0), .val (.int i1), .val (.int i2), .val (.int i3), .val (.int i4), .val (.int i5), .val (.int i6), .val (.int (0 : Int32)), .val (.ref b1680), .val (.ref b1728), .val (.ref b1770), .val (.int (0 : Int32)), .val (.int (1 : Int32)), .val (.int (2 : Int32)), .val (.int (1 : Int32)), .val (.int (2 : Int32)), .val (.int (1 : Int32)), .val (.int (1 : Int32)), .unset] [(.int (own_ho (1 : Int32)))]))
            rw [show (own_ho (1 : Int32)) = (1 : Int32) by decide]
            refine own_iload P1934 at_308 rfl rfl ?_
            refine own_if0N P1934 (pc' := 313) at_310 (not_not_intro (by decide : (0 : Int32) < (1 : Int32))) rfl ?_
            refine own_iconst P1934 at_313 rfl (v := (1 : Int32)) rfl ?_
            refine own_goto P1934 (pc' := 318) at_314 (by decide) (by decide) ?_
            refine own_icmpN P1934 (pc' := 321) at_318 (not_not_intro (by decide : (1 : Int32) = (1 : Int32))) rfl ?_
            refine own_iconst P1934 at_321 rfl (v := (1 : Int32)) rfl ?_
            refine own_goto P1934 (pc' := 326) at_322 (by decide) (by decide) ?_
            refine own_istore P1934 at_326 rfl (Ls' := #[.val (.int i0), .val (.int i1), .val (.int i2), .val (.int i3), .val (.int i4), .val (.int i5), .val (.int i6), .val (.int (0 : Int32)), .val (.ref b1680), .val (.ref b1728), .val (.ref b1770), .val (.int (0 : Int32)), .val (.int (1 : Int32)), .val (.int (2 : Int32)), .val (.int (1 : Int32)), .val (.int (2 : Int32)), .val (.int (1 : Int32)), .val (.int (1 : Int32)), .val (.int (1 : Int32))]) rfl ?_
            refine own_iload P1934 at_328 rfl rfl ?_
            refine own_if0N P1934 (pc' := 333) at_330 (by decide : ¬ ((1 : Int32) = (0 : Int32))) rfl ?_
            refine own_iload P1934 at_333 rfl rfl ?_
            refine own_if0N P1934 (pc' := 338) at_335 (by decide : ¬ ((1 : Int32) = (0 : Int32))) rfl ?_
            refine own_iload P1934 at_338 rfl rfl ?_
            refine own_if0N P1934 (pc' := 343) at_340 (by decide : ¬ ((1 : Int32) = (0 : Int32))) rfl ?_
            refine own_iconst P1934 at_343 rfl (v := (1 : Int32)) rfl ?_
            refine own_goto P1934 (pc' := 348) at_344 (by decide) (by decide) ?_
            exact own_retZ P1934 at_348 (z := (1 : Int32)) rfl (by decide) (by decide) (hQ _ _ N1907)
        · rw [if_neg hc1878] at hQ
          refine own_if0N P1850 (pc' := 175) at_172 hc1878 rfl ?_
          refine own_aload P1850 at_175 rfl rfl rfl ?_
          refine own_aload P1850 at_177 rfl rfl rfl ?_
          refine own_virt P1850 (hw _ (List.mem_of_getElem? (i := 65) rfl)) (hw _ (List.mem_of_getElem? (i := 66) rfl)) (hw _ (List.mem_of_getElem? (i := 68) rfl)) (hw _ (List.mem_of_getElem? (i := 67) rfl)) (hw _ (List.mem_of_getElem? (i := 2) rfl)) (hw _ (List.mem_of_getElem? (i := 69) rfl)) (by decide) f1858 (argsL := [(.ref b1770)]) (rest := []) (rmRem1 l Z a0 hw b1680 b1770 ro1702 co1703 bp1704 so1821 i1 i0 i1 (0 : Int32) (0 : Int32) (1 : Int32) (1 : Int32) (0 : Int32) (0 : Int32) (2 : Int32) (own_q i0 i1) (own_s2 i0 i1) h1852 n0 (Nat.le_trans (Nat.le_trans (Nat.le_trans (Nat.le_trans (Nat.le_trans (Nat.le_trans (Nat.le_trans (Nat.le_trans Z0 E1682.1) k1706.1) E1730.1) (Keep.of_wr W1755).1) E1772.1) (Keep.of_wr W1799).1) k1823.1) k1857.1) g1688 g1707 g1708 hg1824 ne1709 ne1710 ne1711 ne1712 ne1713 ne1714 ne1838 ne1839 ne1840 ne1841 ne1777 ne1778 ne1779 ne1780 (Ne.symm ne1843) f1858 f1859 f1860 f1861 f1862 f1863 f1864 f1865 f1866 f1867 f1868 f1875 f1874 (own_l2 i0 i1) rfl (own_b2 i0 i1 hab) (by decide)) at_179 rfl own_pd4 rfl rfl rfl (by decide) 0 rfl (by decide) (by decide) (by decide) (fun T1941 h1942 v1943 L1944 hq1945 P1940 => ?_)
          obtain ⟨rfl, n1946, k1947, f1948⟩ := hq1945
          have N1949 := Fr.app N1870 n1946
          have f1950 := f1858.keep k1947
          have f1951 := f1868.keep k1947 (ninS (Ne.symm ne1714) nin0)
          have f1952 := f1873.keep k1947 (ninS (Ne.symm ne1737) nin0)
          have f1953 := f1874.keep k1947 (ninS (Ne.symm ne1779) nin0)
          have f1954 := f1859.keep k1947 (ninS ne1710 nin0)
          have f1955 := f1860.keep k1947 (ninS ne1710 nin0)
          have f1956 := f1861.keep k1947 (ninS ne1710 nin0)
          have f1957 := f1862.keep k1947 (ninS ne1710 nin0)
          have f1958 := f1863.keep k1947 (ninS ne1710 nin0)
          have f1959 := f1864.keep k1947 (ninS ne1710 nin0)
          have f1960 := f1865.keep k1947 (ninS ne1710 nin0)
          have f1961 := f1866.keep k1947 (ninS ne1711 nin0)
          have f1962 := f1875.keep k1947 (ninS (Ne.symm ne1840) nin0)
          have f1963 : own_Ar Z h1942 co1703 .int [(1 : Int32), (0 : Int32), (0 : Int32), (0 : Int32)] := f1948
          show own_Go p e below _ (T1941.setTop (mkF m 182 #[.val (.int i0), .val (.int i1), .val (.int i2), .val (.int i3), .val (.int i4), .val (.int i5), .val (.int i6), .val (.int (0 : Int32)), .val (.ref b1680), .val (.ref b1728), .val (.ref b1770), .val (.int (0 : Int32)), .val (.int (1 : Int32)), .val (.int (1 : Int32)), .val (.int (1 : Int32)), .unset, .unset, .unset, .unset] [(.int (1 : Int32))]))
          refine own_pop P1940 at_182 rfl rfl ?_
          refine own_iload P1940 at_183 rfl rfl ?_
          refine own_if0Y P1940 (pc' := 197) at_185 (by decide : (0 : Int32) = (0 : Int32)) (by decide) (by decide) ?_
          refine own_iload P1940 at_197 rfl rfl ?_
          refine own_iconst P1940 at_199 rfl (v := (1 : Int32)) rfl ?_
          refine own_isub P1940 at_200 rfl ?_
          rw [show ((1 : Int32) - (1 : Int32)) = (0 : Int32) by decide]
          refine own_istore P1940 at_201 rfl (Ls' := #[.val (.int i0), .val (.int i1), .val (.int i2), .val (.int i3), .val (.int i4), .val (.int i5), .val (.int i6), .val (.int (0 : Int32)), .val (.ref b1680), .val (.ref b1728), .val (.ref b1770), .val (.int (0 : Int32)), .val (.int (1 : Int32)), .val (.int (1 : Int32)), .val (.int (0 : Int32)), .unset, .unset, .unset, .unset]) rfl ?_
          refine own_iload P1940 at_203 rfl rfl ?_
          by_cases hc1964 : i6 = (0 : Int32)
          · rw [if_pos hc1964] at hQ
            refine own_if0Y P1940 (pc' := 222) at_205 hc1964 (by decide) (by decide) ?_
            refine own_iload P1940 at_222 rfl rfl ?_
            refine own_if0Y P1940 (pc' := 231) at_224 (by decide : (0 : Int32) = (0 : Int32)) (by decide) (by decide) ?_
            refine own_iconst P1940 at_231 rfl (v := (2 : Int32)) rfl ?_
            refine own_istore P1940 at_232 rfl (Ls' := #[.val (.int i0), .val (.int i1), .val (.int i2), .val (.int i3), .val (.int i4), .val (.int i5), .val (.int i6), .val (.int (0 : Int32)), .val (.ref b1680), .val (.ref b1728), .val (.ref b1770), .val (.int (0 : Int32)), .val (.int (1 : Int32)), .val (.int (1 : Int32)), .val (.int (0 : Int32)), .val (.int (2 : Int32)), .unset, .unset, .unset]) rfl ?_
            refine own_iload P1940 at_234 rfl rfl ?_
            refine own_if0N P1940 (pc' := 239) at_236 (not_not_intro (by decide : (0 : Int32) = (0 : Int32))) rfl ?_
            refine own_iload P1940 at_239 rfl rfl ?_
            refine own_iload P1940 at_241 rfl rfl ?_
            refine own_if0Y P1940 (pc' := 250) at_243 (by decide : (0 : Int32) = (0 : Int32)) (by decide) (by decide) ?_
            refine own_iconst P1940 at_250 rfl (v := (1 : Int32)) rfl ?_
            refine own_icmpN P1940 (pc' := 254) at_251 (not_not_intro (by decide : (1 : Int32) = (1 : Int32))) rfl ?_
            refine own_aload P1940 at_254 rfl rfl rfl ?_
            refine own_virtP P1940 (hw _ (List.mem_of_getElem? (i := 80) rfl)) (hw _ (List.mem_of_getElem? (i := 81) rfl)) (hw _ (List.mem_of_getElem? (i := 83) rfl)) (hw _ (List.mem_of_getElem? (i := 82) rfl)) (hw _ (List.mem_of_getElem? (i := 2) rfl)) (hw _ (List.mem_of_getElem? (i := 84) rfl)) (by decide) f1950 (argsL := []) (rest := []) (rmSize l Z a0 hw b1680 (2 : Int32) h1942 f1958) at_256 rfl own_pd7 rfl rfl rfl (by decide) 0 rfl (by decide) rfl rfl (by decide) (by decide) (fun T1966 P1965 => ?_)
            show own_Go p e below _ (T1966.setTop (mkF m 259 #[.val (.int i0), .val (.int i1), .val (.int i2), .val (.int i3), .val (.int i4), .val (.int i5), .val (.int i6), .val (.int (0 : Int32)), .val (.ref b1680), .val (.ref b1728), .val (.ref b1770), .val (.int (0 : Int32)), .val (.int (1 : Int32)), .val (.int (1 : Int32)), .val (.int (0 : Int32)), .val (.int (2 : Int32)), .unset, .unset, .unset] [(.int (2 : Int32))]))
            refine own_iload P1965 at_259 rfl rfl ?_
            refine own_icmpN P1965 (pc' := 264) at_261 (not_not_intro (by decide : (2 : Int32) = (2 : Int32))) rfl ?_
            refine own_iconst P1965 at_264 rfl (v := (1 : Int32)) rfl ?_
            refine own_goto P1965 (pc' := 269) at_265 (by decide) (by decide) ?_
            refine own_istore P1965 at_269 rfl (Ls' := #[.val (.int i0), .val (.int i1), .val (.int i2), .val (.int i3), .val (.int i4), .val (.int i5), .val (.int i6), .val (.int (0 : Int32)), .val (.ref b1680), .val (.ref b1728), .val (.ref b1770), .val (.int (0 : Int32)), .val (.int (1 : Int32)), .val (.int (1 : Int32)), .val (.int (0 : Int32)), .val (.int (2 : Int32)), .val (.int (1 : Int32)), .unset, .unset]) rfl ?_
            refine own_aload P1965 at_271 rfl rfl rfl ?_
            refine own_iconst P1965 at_273 rfl (v := (0 : Int32)) rfl ?_
            refine own_virtP P1965 (hw _ (List.mem_of_getElem? (i := 85) rfl)) (hw _ (List.mem_of_getElem? (i := 76) rfl)) (hw _ (List.mem_of_getElem? (i := 78) rfl)) (hw _ (List.mem_of_getElem? (i := 77) rfl)) (hw _ (List.mem_of_getElem? (i := 2) rfl)) (hw _ (List.mem_of_getElem? (i := 79) rfl)) (by decide) f1950 (argsL := [(.int (0 : Int32))]) (rest := []) (rmHolds0 l Z a0 hw b1680 co1703 (1 : Int32) (0 : Int32) (0 : Int32) (0 : Int32) h1942 f1956 f1963) at_274 rfl own_pd6 rfl rfl rfl (by decide) 0 rfl (by decide) rfl rfl (by decide) (by decide) (fun T1972 P1971 => ?_)
            show own_Go p e below _ (T1972.setTop (mkF m 277 #[.val (.int i0), .val (.int i1), .val (.int i2), .val (.int i3), .val (.int i4), .val (.int i5), .val (.int i6), .val (.int (0 : Int32)), .val (.ref b1680), .val (.ref b1728), .val (.ref b1770), .val (.int (0 : Int32)), .val (.int (1 : Int32)), .val (.int (1 : Int32)), .val (.int (0 : Int32)), .val (.int (2 : Int32)), .val (.int (1 : Int32)), .unset, .unset] [(.int (own_ho (1 : Int32)))]))
            rw [show (own_ho (1 : Int32)) = (1 : Int32) by decide]
            refine own_iload P1971 at_277 rfl rfl ?_
            refine own_if0N P1971 (pc' := 282) at_279 (not_not_intro (by decide : (0 : Int32) < (1 : Int32))) rfl ?_
            refine own_iconst P1971 at_282 rfl (v := (1 : Int32)) rfl ?_
            refine own_goto P1971 (pc' := 287) at_283 (by decide) (by decide) ?_
            refine own_icmpN P1971 (pc' := 290) at_287 (not_not_intro (by decide : (1 : Int32) = (1 : Int32))) rfl ?_
            refine own_iconst P1971 at_290 rfl (v := (1 : Int32)) rfl ?_
            refine own_goto P1971 (pc' := 295) at_291 (by decide) (by decide) ?_
            refine own_istore P1971 at_295 rfl (Ls' := #[.val (.int i0), .val (.int i1), .val (.int i2), .val (.int i3), .val (.int i4), .val (.int i5), .val (.int i6), .val (.int (0 : Int32)), .val (.ref b1680), .val (.ref b1728), .val (.ref b1770), .val (.int (0 : Int32)), .val (.int (1 : Int32)), .val (.int (1 : Int32)), .val (.int (0 : Int32)), .val (.int (2 : Int32)), .val (.int (1 : Int32)), .val (.int (1 : Int32)), .unset]) rfl ?_
            refine own_iload P1971 at_297 rfl rfl ?_
            refine own_if0N P1971 (pc' := 302) at_299 (not_not_intro (by decide : (0 : Int32) = (0 : Int32))) rfl ?_
            refine own_aload P1971 at_302 rfl rfl rfl ?_
            refine own_iconst P1971 at_304 rfl (v := (1 : Int32)) rfl ?_
            refine own_virtP P1971 (hw _ (List.mem_of_getElem? (i := 85) rfl)) (hw _ (List.mem_of_getElem? (i := 76) rfl)) (hw _ (List.mem_of_getElem? (i := 78) rfl)) (hw _ (List.mem_of_getElem? (i := 77) rfl)) (hw _ (List.mem_of_getElem? (i := 2) rfl)) (hw _ (List.mem_of_getElem? (i := 79) rfl)) (by decide) f1950 (argsL := [(.int (1 : Int32))]) (rest := []) (rmHolds1 l Z a0 hw b1680 co1703 (1 : Int32) (0 : Int32) (0 : Int32) (0 : Int32) h1942 f1956 f1963) at_305 rfl own_pd6 rfl rfl rfl (by decide) 0 rfl (by decide) rfl rfl (by decide) (by decide) (fun T1978 P1977 => ?_)
            show own_Go p e below _ (T1978.setTop (mkF m 308 #[.val (.int i0), .val (.int i1), .val (.int i2), .val (.int i3), .val (.int i4), .val (.int i5), .val (.int i6), .val (.int (0 : Int32)), .val (.ref b1680), .val (.ref b1728), .val (.ref b1770), .val (.int (0 : Int32)), .val (.int (1 : Int32)), .val (.int (1 : Int32)), .val (.int (0 : Int32)), .val (.int (2 : Int32)), .val (.int (1 : Int32)), .val (.int (1 : Int32)), .unset] [(.int (own_ho (0 : Int32)))]))
            rw [show (own_ho (0 : Int32)) = (0 : Int32) by decide]
            refine own_iload P1977 at_308 rfl rfl ?_
            refine own_if0Y P1977 (pc' := 317) at_310 (by decide : ¬ ((0 : Int32) < (0 : Int32))) (by decide) (by decide) ?_
            refine own_iconst P1977 at_317 rfl (v := (0 : Int32)) rfl ?_
            refine own_icmpN P1977 (pc' := 321) at_318 (not_not_intro (by decide : (0 : Int32) = (0 : Int32))) rfl ?_
            refine own_iconst P1977 at_321 rfl (v := (1 : Int32)) rfl ?_
            refine own_goto P1977 (pc' := 326) at_322 (by decide) (by decide) ?_
            refine own_istore P1977 at_326 rfl (Ls' := #[.val (.int i0), .val (.int i1), .val (.int i2), .val (.int i3), .val (.int i4), .val (.int i5), .val (.int i6), .val (.int (0 : Int32)), .val (.ref b1680), .val (.ref b1728), .val (.ref b1770), .val (.int (0 : Int32)), .val (.int (1 : Int32)), .val (.int (1 : Int32)), .val (.int (0 : Int32)), .val (.int (2 : Int32)), .val (.int (1 : Int32)), .val (.int (1 : Int32)), .val (.int (1 : Int32))]) rfl ?_
            refine own_iload P1977 at_328 rfl rfl ?_
            refine own_if0N P1977 (pc' := 333) at_330 (by decide : ¬ ((1 : Int32) = (0 : Int32))) rfl ?_
            refine own_iload P1977 at_333 rfl rfl ?_
            refine own_if0N P1977 (pc' := 338) at_335 (by decide : ¬ ((1 : Int32) = (0 : Int32))) rfl ?_
            refine own_iload P1977 at_338 rfl rfl ?_
            refine own_if0N P1977 (pc' := 343) at_340 (by decide : ¬ ((1 : Int32) = (0 : Int32))) rfl ?_
            refine own_iconst P1977 at_343 rfl (v := (1 : Int32)) rfl ?_
            refine own_goto P1977 (pc' := 348) at_344 (by decide) (by decide) ?_
            exact own_retZ P1977 at_348 (z := (1 : Int32)) rfl (by decide) (by decide) (hQ _ _ N1949)
          · rw [if_neg hc1964] at hQ
            refine own_if0N P1940 (pc' := 208) at_205 hc1964 rfl ?_
            refine own_aload P1940 at_208 rfl rfl rfl ?_
            refine own_aload P1940 at_210 rfl rfl rfl ?_
            refine own_virt P1940 (hw _ (List.mem_of_getElem? (i := 20) rfl)) (hw _ (List.mem_of_getElem? (i := 21) rfl)) (hw _ (List.mem_of_getElem? (i := 23) rfl)) (hw _ (List.mem_of_getElem? (i := 22) rfl)) (hw _ (List.mem_of_getElem? (i := 2) rfl)) (hw _ (List.mem_of_getElem? (i := 24) rfl)) (by decide) f1950 (argsL := [(.ref b1728)]) (rest := []) (rmAddA l Z a0 hw b1680 b1728 ro1702 co1703 bp1704 so1821 i0 i0 i1 (0 : Int32) (0 : Int32) (1 : Int32) (0 : Int32) (0 : Int32) (0 : Int32) (2 : Int32) (own_q i0 i1) (own_s2 i0 i1) h1942 n0 (Nat.le_trans (Nat.le_trans (Nat.le_trans (Nat.le_trans (Nat.le_trans (Nat.le_trans (Nat.le_trans (Nat.le_trans (Nat.le_trans Z0 E1682.1) k1706.1) E1730.1) (Keep.of_wr W1755).1) E1772.1) (Keep.of_wr W1799).1) k1823.1) k1857.1) k1947.1) g1688 g1707 g1708 hg1824 ne1709 ne1710 ne1711 ne1712 ne1713 ne1714 ne1838 ne1839 ne1840 ne1841 ne1735 ne1736 ne1737 ne1738 (Ne.symm ne1842) f1950 f1954 f1955 f1956 f1957 f1958 f1959 f1960 f1961 f1963 f1951 f1962 f1952 (own_l2 i0 i1) rfl (own_a2 i0 i1 hab)) at_212 rfl own_pd4 rfl rfl rfl (by decide) 0 rfl (by decide) (by decide) (by decide) (fun T1984 h1985 v1986 L1987 hq1988 P1983 => ?_)
            obtain ⟨rfl, n1989, k1990, f1991⟩ := hq1988
            have N1992 := Fr.app N1949 n1989
            have f1993 := f1950.keep k1990
            have f1994 := f1951.keep k1990 (ninS (Ne.symm ne1714) nin0)
            have f1995 := f1952.keep k1990 (ninS (Ne.symm ne1737) nin0)
            have f1996 := f1953.keep k1990 (ninS (Ne.symm ne1779) nin0)
            have f1997 := f1954.keep k1990 (ninS ne1710 nin0)
            have f1998 := f1955.keep k1990 (ninS ne1710 nin0)
            have f1999 := f1956.keep k1990 (ninS ne1710 nin0)
            have f2000 := f1957.keep k1990 (ninS ne1710 nin0)
            have f2001 := f1958.keep k1990 (ninS ne1710 nin0)
            have f2002 := f1959.keep k1990 (ninS ne1710 nin0)
            have f2003 := f1960.keep k1990 (ninS ne1710 nin0)
            have f2004 := f1961.keep k1990 (ninS ne1711 nin0)
            have f2005 := f1962.keep k1990 (ninS (Ne.symm ne1840) nin0)
            have f2006 : own_Ar Z h1985 co1703 .int [(2 : Int32), (0 : Int32), (0 : Int32), (0 : Int32)] := f1991
            show own_Go p e below _ (T1984.setTop (mkF m 215 #[.val (.int i0), .val (.int i1), .val (.int i2), .val (.int i3), .val (.int i4), .val (.int i5), .val (.int i6), .val (.int (0 : Int32)), .val (.ref b1680), .val (.ref b1728), .val (.ref b1770), .val (.int (0 : Int32)), .val (.int (1 : Int32)), .val (.int (1 : Int32)), .val (.int (0 : Int32)), .unset, .unset, .unset, .unset] [(.int (0 : Int32))]))
            refine own_pop P1983 at_215 rfl rfl ?_
            refine own_iload P1983 at_216 rfl rfl ?_
            refine own_iconst P1983 at_218 rfl (v := (1 : Int32)) rfl ?_
            refine own_iadd P1983 at_219 rfl ?_
            rw [show ((1 : Int32) + (1 : Int32)) = (2 : Int32) by decide]
            refine own_istore P1983 at_220 rfl (Ls' := #[.val (.int i0), .val (.int i1), .val (.int i2), .val (.int i3), .val (.int i4), .val (.int i5), .val (.int i6), .val (.int (0 : Int32)), .val (.ref b1680), .val (.ref b1728), .val (.ref b1770), .val (.int (0 : Int32)), .val (.int (1 : Int32)), .val (.int (2 : Int32)), .val (.int (0 : Int32)), .unset, .unset, .unset, .unset]) rfl ?_
            refine own_iload P1983 at_222 rfl rfl ?_
            refine own_if0Y P1983 (pc' := 231) at_224 (by decide : (0 : Int32) = (0 : Int32)) (by decide) (by decide) ?_
            refine own_iconst P1983 at_231 rfl (v := (2 : Int32)) rfl ?_
            refine own_istore P1983 at_232 rfl (Ls' := #[.val (.int i0), .val (.int i1), .val (.int i2), .val (.int i3), .val (.int i4), .val (.int i5), .val (.int i6), .val (.int (0 : Int32)), .val (.ref b1680), .val (.ref b1728), .val (.ref b1770), .val (.int (0 : Int32)), .val (.int (1 : Int32)), .val (.int (2 : Int32)), .val (.int (0 : Int32)), .val (.int (2 : Int32)), .unset, .unset, .unset]) rfl ?_
            refine own_iload P1983 at_234 rfl rfl ?_
            refine own_if0N P1983 (pc' := 239) at_236 (not_not_intro (by decide : (0 : Int32) = (0 : Int32))) rfl ?_
            refine own_iload P1983 at_239 rfl rfl ?_
            refine own_iload P1983 at_241 rfl rfl ?_
            refine own_if0Y P1983 (pc' := 250) at_243 (by decide : (0 : Int32) = (0 : Int32)) (by decide) (by decide) ?_
            refine own_iconst P1983 at_250 rfl (v := (1 : Int32)) rfl ?_
            refine own_icmpN P1983 (pc' := 254) at_251 (not_not_intro (by decide : (1 : Int32) = (1 : Int32))) rfl ?_
            refine own_aload P1983 at_254 rfl rfl rfl ?_
            refine own_virtP P1983 (hw _ (List.mem_of_getElem? (i := 80) rfl)) (hw _ (List.mem_of_getElem? (i := 81) rfl)) (hw _ (List.mem_of_getElem? (i := 83) rfl)) (hw _ (List.mem_of_getElem? (i := 82) rfl)) (hw _ (List.mem_of_getElem? (i := 2) rfl)) (hw _ (List.mem_of_getElem? (i := 84) rfl)) (by decide) f1993 (argsL := []) (rest := []) (rmSize l Z a0 hw b1680 (2 : Int32) h1985 f2001) at_256 rfl own_pd7 rfl rfl rfl (by decide) 0 rfl (by decide) rfl rfl (by decide) (by decide) (fun T2008 P2007 => ?_)
            show own_Go p e below _ (T2008.setTop (mkF m 259 #[.val (.int i0), .val (.int i1), .val (.int i2), .val (.int i3), .val (.int i4), .val (.int i5), .val (.int i6), .val (.int (0 : Int32)), .val (.ref b1680), .val (.ref b1728), .val (.ref b1770), .val (.int (0 : Int32)), .val (.int (1 : Int32)), .val (.int (2 : Int32)), .val (.int (0 : Int32)), .val (.int (2 : Int32)), .unset, .unset, .unset] [(.int (2 : Int32))]))
            refine own_iload P2007 at_259 rfl rfl ?_
            refine own_icmpN P2007 (pc' := 264) at_261 (not_not_intro (by decide : (2 : Int32) = (2 : Int32))) rfl ?_
            refine own_iconst P2007 at_264 rfl (v := (1 : Int32)) rfl ?_
            refine own_goto P2007 (pc' := 269) at_265 (by decide) (by decide) ?_
            refine own_istore P2007 at_269 rfl (Ls' := #[.val (.int i0), .val (.int i1), .val (.int i2), .val (.int i3), .val (.int i4), .val (.int i5), .val (.int i6), .val (.int (0 : Int32)), .val (.ref b1680), .val (.ref b1728), .val (.ref b1770), .val (.int (0 : Int32)), .val (.int (1 : Int32)), .val (.int (2 : Int32)), .val (.int (0 : Int32)), .val (.int (2 : Int32)), .val (.int (1 : Int32)), .unset, .unset]) rfl ?_
            refine own_aload P2007 at_271 rfl rfl rfl ?_
            refine own_iconst P2007 at_273 rfl (v := (0 : Int32)) rfl ?_
            refine own_virtP P2007 (hw _ (List.mem_of_getElem? (i := 85) rfl)) (hw _ (List.mem_of_getElem? (i := 76) rfl)) (hw _ (List.mem_of_getElem? (i := 78) rfl)) (hw _ (List.mem_of_getElem? (i := 77) rfl)) (hw _ (List.mem_of_getElem? (i := 2) rfl)) (hw _ (List.mem_of_getElem? (i := 79) rfl)) (by decide) f1993 (argsL := [(.int (0 : Int32))]) (rest := []) (rmHolds0 l Z a0 hw b1680 co1703 (2 : Int32) (0 : Int32) (0 : Int32) (0 : Int32) h1985 f1999 f2006) at_274 rfl own_pd6 rfl rfl rfl (by decide) 0 rfl (by decide) rfl rfl (by decide) (by decide) (fun T2014 P2013 => ?_)
            show own_Go p e below _ (T2014.setTop (mkF m 277 #[.val (.int i0), .val (.int i1), .val (.int i2), .val (.int i3), .val (.int i4), .val (.int i5), .val (.int i6), .val (.int (0 : Int32)), .val (.ref b1680), .val (.ref b1728), .val (.ref b1770), .val (.int (0 : Int32)), .val (.int (1 : Int32)), .val (.int (2 : Int32)), .val (.int (0 : Int32)), .val (.int (2 : Int32)), .val (.int (1 : Int32)), .unset, .unset] [(.int (own_ho (2 : Int32)))]))
            rw [show (own_ho (2 : Int32)) = (1 : Int32) by decide]
            refine own_iload P2013 at_277 rfl rfl ?_
            refine own_if0N P2013 (pc' := 282) at_279 (not_not_intro (by decide : (0 : Int32) < (2 : Int32))) rfl ?_
            refine own_iconst P2013 at_282 rfl (v := (1 : Int32)) rfl ?_
            refine own_goto P2013 (pc' := 287) at_283 (by decide) (by decide) ?_
            refine own_icmpN P2013 (pc' := 290) at_287 (not_not_intro (by decide : (1 : Int32) = (1 : Int32))) rfl ?_
            refine own_iconst P2013 at_290 rfl (v := (1 : Int32)) rfl ?_
            refine own_goto P2013 (pc' := 295) at_291 (by decide) (by decide) ?_
            refine own_istore P2013 at_295 rfl (Ls' := #[.val (.int i0), .val (.int i1), .val (.int i2), .val (.int i3), .val (.int i4), .val (.int i5), .val (.int i6), .val (.int (0 : Int32)), .val (.ref b1680), .val (.ref b1728), .val (.ref b1770), .val (.int (0 : Int32)), .val (.int (1 : Int32)), .val (.int (2 : Int32)), .val (.int (0 : Int32)), .val (.int (2 : Int32)), .val (.int (1 : Int32)), .val (.int (1 : Int32)), .unset]) rfl ?_
            refine own_iload P2013 at_297 rfl rfl ?_
            refine own_if0N P2013 (pc' := 302) at_299 (not_not_intro (by decide : (0 : Int32) = (0 : Int32))) rfl ?_
            refine own_aload P2013 at_302 rfl rfl rfl ?_
            refine own_iconst P2013 at_304 rfl (v := (1 : Int32)) rfl ?_
            refine own_virtP P2013 (hw _ (List.mem_of_getElem? (i := 85) rfl)) (hw _ (List.mem_of_getElem? (i := 76) rfl)) (hw _ (List.mem_of_getElem? (i := 78) rfl)) (hw _ (List.mem_of_getElem? (i := 77) rfl)) (hw _ (List.mem_of_getElem? (i := 2) rfl)) (hw _ (List.mem_of_getElem? (i := 79) rfl)) (by decide) f1993 (argsL := [(.int (1 : Int32))]) (rest := []) (rmHolds1 l Z a0 hw b1680 co1703 (2 : Int32) (0 : Int32) (0 : Int32) (0 : Int32) h1985 f1999 f2006) at_305 rfl own_pd6 rfl rfl rfl (by decide) 0 rfl (by decide) rfl rfl (by decide) (by decide) (fun T2020 P2019 => ?_)
            show own_Go p e below _ (T2020.setTop (mkF m 308 #[.val (.int i0), .val (.int i1), .val (.int i2), .val (.int i3), .val (.int i4), .val (.int i5), .val (.int i6), .val (.int (0 : Int32)), .val (.ref b1680), .val (.ref b1728), .val (.ref b1770), .val (.int (0 : Int32)), .val (.int (1 : Int32)), .val (.int (2 : Int32)), .val (.int (0 : Int32)), .val (.int (2 : Int32)), .val (.int (1 : Int32)), .val (.int (1 : Int32)), .unset] [(.int (own_ho (0 : Int32)))]))
            rw [show (own_ho (0 : Int32)) = (0 : Int32) by decide]
            refine own_iload P2019 at_308 rfl rfl ?_
            refine own_if0Y P2019 (pc' := 317) at_310 (by decide : ¬ ((0 : Int32) < (0 : Int32))) (by decide) (by decide) ?_
            refine own_iconst P2019 at_317 rfl (v := (0 : Int32)) rfl ?_
            refine own_icmpN P2019 (pc' := 321) at_318 (not_not_intro (by decide : (0 : Int32) = (0 : Int32))) rfl ?_
            refine own_iconst P2019 at_321 rfl (v := (1 : Int32)) rfl ?_
            refine own_goto P2019 (pc' := 326) at_322 (by decide) (by decide) ?_
            refine own_istore P2019 at_326 rfl (Ls' := #[.val (.int i0), .val (.int i1), .val (.int i2), .val (.int i3), .val (.int i4), .val (.int i5), .val (.int i6), .val (.int (0 : Int32)), .val (.ref b1680), .val (.ref b1728), .val (.ref b1770), .val (.int (0 : Int32)), .val (.int (1 : Int32)), .val (.int (2 : Int32)), .val (.int (0 : Int32)), .val (.int (2 : Int32)), .val (.int (1 : Int32)), .val (.int (1 : Int32)), .val (.int (1 : Int32))]) rfl ?_
            refine own_iload P2019 at_328 rfl rfl ?_
            refine own_if0N P2019 (pc' := 333) at_330 (by decide : ¬ ((1 : Int32) = (0 : Int32))) rfl ?_
            refine own_iload P2019 at_333 rfl rfl ?_
            refine own_if0N P2019 (pc' := 338) at_335 (by decide : ¬ ((1 : Int32) = (0 : Int32))) rfl ?_
            refine own_iload P2019 at_338 rfl rfl ?_
            refine own_if0N P2019 (pc' := 343) at_340 (by decide : ¬ ((1 : Int32) = (0 : Int32))) rfl ?_
            refine own_iconst P2019 at_343 rfl (v := (1 : Int32)) rfl ?_
            refine own_goto P2019 (pc' := 348) at_344 (by decide) (by decide) ?_
            exact own_retZ P2019 at_348 (z := (1 : Int32)) rfl (by decide) (by decide) (hQ _ _ N1992)
      · rw [if_neg hc1877] at hQ
        refine own_if0N P1850 (pc' := 156) at_153 hc1877 rfl ?_
        refine own_aload P1850 at_156 rfl rfl rfl ?_
        refine own_aload P1850 at_158 rfl rfl rfl ?_
        refine own_virt P1850 (hw _ (List.mem_of_getElem? (i := 65) rfl)) (hw _ (List.mem_of_getElem? (i := 66) rfl)) (hw _ (List.mem_of_getElem? (i := 68) rfl)) (hw _ (List.mem_of_getElem? (i := 67) rfl)) (hw _ (List.mem_of_getElem? (i := 2) rfl)) (hw _ (List.mem_of_getElem? (i := 69) rfl)) (by decide) f1858 (argsL := [(.ref b1728)]) (rest := []) (rmRem0 l Z a0 hw b1680 b1728 ro1702 co1703 bp1704 so1821 i0 i0 i1 (0 : Int32) (0 : Int32) (1 : Int32) (1 : Int32) (0 : Int32) (0 : Int32) (2 : Int32) (own_q i0 i1) (own_s2 i0 i1) h1852 n0 (Nat.le_trans (Nat.le_trans (Nat.le_trans (Nat.le_trans (Nat.le_trans (Nat.le_trans (Nat.le_trans (Nat.le_trans Z0 E1682.1) k1706.1) E1730.1) (Keep.of_wr W1755).1) E1772.1) (Keep.of_wr W1799).1) k1823.1) k1857.1) g1688 g1707 g1708 hg1824 ne1709 ne1710 ne1711 ne1712 ne1713 ne1714 ne1838 ne1839 ne1840 ne1841 ne1735 ne1736 ne1737 ne1738 (Ne.symm ne1842) f1858 f1859 f1860 f1861 f1862 f1863 f1864 f1865 f1866 f1867 f1868 f1875 f1873 (own_l2 i0 i1) rfl (own_a2 i0 i1 hab) (by decide)) at_160 rfl own_pd4 rfl rfl rfl (by decide) 0 rfl (by decide) (by decide) (by decide) (fun T2026 h2027 v2028 L2029 hq2030 P2025 => ?_)
        obtain ⟨rfl, n2031, k2032, f2033⟩ := hq2030
        have N2034 := Fr.app N1870 n2031
        have f2035 := f1858.keep k2032
        have f2036 := f1868.keep k2032 (ninS (Ne.symm ne1714) nin0)
        have f2037 := f1873.keep k2032 (ninS (Ne.symm ne1737) nin0)
        have f2038 := f1874.keep k2032 (ninS (Ne.symm ne1779) nin0)
        have f2039 := f1859.keep k2032 (ninS ne1710 nin0)
        have f2040 := f1860.keep k2032 (ninS ne1710 nin0)
        have f2041 := f1861.keep k2032 (ninS ne1710 nin0)
        have f2042 := f1862.keep k2032 (ninS ne1710 nin0)
        have f2043 := f1863.keep k2032 (ninS ne1710 nin0)
        have f2044 := f1864.keep k2032 (ninS ne1710 nin0)
        have f2045 := f1865.keep k2032 (ninS ne1710 nin0)
        have f2046 := f1866.keep k2032 (ninS ne1711 nin0)
        have f2047 := f1875.keep k2032 (ninS (Ne.symm ne1840) nin0)
        have f2048 : own_Ar Z h2027 co1703 .int [(0 : Int32), (1 : Int32), (0 : Int32), (0 : Int32)] := f2033
        show own_Go p e below _ (T2026.setTop (mkF m 163 #[.val (.int i0), .val (.int i1), .val (.int i2), .val (.int i3), .val (.int i4), .val (.int i5), .val (.int i6), .val (.int (0 : Int32)), .val (.ref b1680), .val (.ref b1728), .val (.ref b1770), .val (.int (0 : Int32)), .val (.int (1 : Int32)), .val (.int (1 : Int32)), .val (.int (1 : Int32)), .unset, .unset, .unset, .unset] [(.int (0 : Int32))]))
        refine own_pop P2025 at_163 rfl rfl ?_
        refine own_iload P2025 at_164 rfl rfl ?_
        refine own_iconst P2025 at_166 rfl (v := (1 : Int32)) rfl ?_
        refine own_isub P2025 at_167 rfl ?_
        rw [show ((1 : Int32) - (1 : Int32)) = (0 : Int32) by decide]
        refine own_istore P2025 at_168 rfl (Ls' := #[.val (.int i0), .val (.int i1), .val (.int i2), .val (.int i3), .val (.int i4), .val (.int i5), .val (.int i6), .val (.int (0 : Int32)), .val (.ref b1680), .val (.ref b1728), .val (.ref b1770), .val (.int (0 : Int32)), .val (.int (1 : Int32)), .val (.int (0 : Int32)), .val (.int (1 : Int32)), .unset, .unset, .unset, .unset]) rfl ?_
        refine own_iload P2025 at_170 rfl rfl ?_
        by_cases hc2049 : i5 = (0 : Int32)
        · rw [if_pos hc2049] at hQ
          refine own_if0Y P2025 (pc' := 203) at_172 hc2049 (by decide) (by decide) ?_
          refine own_iload P2025 at_203 rfl rfl ?_
          by_cases hc2050 : i6 = (0 : Int32)
          · rw [if_pos hc2050] at hQ
            refine own_if0Y P2025 (pc' := 222) at_205 hc2050 (by decide) (by decide) ?_
            refine own_iload P2025 at_222 rfl rfl ?_
            refine own_if0Y P2025 (pc' := 231) at_224 (by decide : (0 : Int32) = (0 : Int32)) (by decide) (by decide) ?_
            refine own_iconst P2025 at_231 rfl (v := (2 : Int32)) rfl ?_
            refine own_istore P2025 at_232 rfl (Ls' := #[.val (.int i0), .val (.int i1), .val (.int i2), .val (.int i3), .val (.int i4), .val (.int i5), .val (.int i6), .val (.int (0 : Int32)), .val (.ref b1680), .val (.ref b1728), .val (.ref b1770), .val (.int (0 : Int32)), .val (.int (1 : Int32)), .val (.int (0 : Int32)), .val (.int (1 : Int32)), .val (.int (2 : Int32)), .unset, .unset, .unset]) rfl ?_
            refine own_iload P2025 at_234 rfl rfl ?_
            refine own_if0N P2025 (pc' := 239) at_236 (not_not_intro (by decide : (0 : Int32) = (0 : Int32))) rfl ?_
            refine own_iload P2025 at_239 rfl rfl ?_
            refine own_iload P2025 at_241 rfl rfl ?_
            refine own_if0Y P2025 (pc' := 250) at_243 (by decide : (0 : Int32) = (0 : Int32)) (by decide) (by decide) ?_
            refine own_iconst P2025 at_250 rfl (v := (1 : Int32)) rfl ?_
            refine own_icmpN P2025 (pc' := 254) at_251 (not_not_intro (by decide : (1 : Int32) = (1 : Int32))) rfl ?_
            refine own_aload P2025 at_254 rfl rfl rfl ?_
            refine own_virtP P2025 (hw _ (List.mem_of_getElem? (i := 80) rfl)) (hw _ (List.mem_of_getElem? (i := 81) rfl)) (hw _ (List.mem_of_getElem? (i := 83) rfl)) (hw _ (List.mem_of_getElem? (i := 82) rfl)) (hw _ (List.mem_of_getElem? (i := 2) rfl)) (hw _ (List.mem_of_getElem? (i := 84) rfl)) (by decide) f2035 (argsL := []) (rest := []) (rmSize l Z a0 hw b1680 (2 : Int32) h2027 f2043) at_256 rfl own_pd7 rfl rfl rfl (by decide) 0 rfl (by decide) rfl rfl (by decide) (by decide) (fun T2052 P2051 => ?_)
            show own_Go p e below _ (T2052.setTop (mkF m 259 #[.val (.int i0), .val (.int i1), .val (.int i2), .val (.int i3), .val (.int i4), .val (.int i5), .val (.int i6), .val (.int (0 : Int32)), .val (.ref b1680), .val (.ref b1728), .val (.ref b1770), .val (.int (0 : Int32)), .val (.int (1 : Int32)), .val (.int (0 : Int32)), .val (.int (1 : Int32)), .val (.int (2 : Int32)), .unset, .unset, .unset] [(.int (2 : Int32))]))
            refine own_iload P2051 at_259 rfl rfl ?_
            refine own_icmpN P2051 (pc' := 264) at_261 (not_not_intro (by decide : (2 : Int32) = (2 : Int32))) rfl ?_
            refine own_iconst P2051 at_264 rfl (v := (1 : Int32)) rfl ?_
            refine own_goto P2051 (pc' := 269) at_265 (by decide) (by decide) ?_
            refine own_istore P2051 at_269 rfl (Ls' := #[.val (.int i0), .val (.int i1), .val (.int i2), .val (.int i3), .val (.int i4), .val (.int i5), .val (.int i6), .val (.int (0 : Int32)), .val (.ref b1680), .val (.ref b1728), .val (.ref b1770), .val (.int (0 : Int32)), .val (.int (1 : Int32)), .val (.int (0 : Int32)), .val (.int (1 : Int32)), .val (.int (2 : Int32)), .val (.int (1 : Int32)), .unset, .unset]) rfl ?_
            refine own_aload P2051 at_271 rfl rfl rfl ?_
            refine own_iconst P2051 at_273 rfl (v := (0 : Int32)) rfl ?_
            refine own_virtP P2051 (hw _ (List.mem_of_getElem? (i := 85) rfl)) (hw _ (List.mem_of_getElem? (i := 76) rfl)) (hw _ (List.mem_of_getElem? (i := 78) rfl)) (hw _ (List.mem_of_getElem? (i := 77) rfl)) (hw _ (List.mem_of_getElem? (i := 2) rfl)) (hw _ (List.mem_of_getElem? (i := 79) rfl)) (by decide) f2035 (argsL := [(.int (0 : Int32))]) (rest := []) (rmHolds0 l Z a0 hw b1680 co1703 (0 : Int32) (1 : Int32) (0 : Int32) (0 : Int32) h2027 f2041 f2048) at_274 rfl own_pd6 rfl rfl rfl (by decide) 0 rfl (by decide) rfl rfl (by decide) (by decide) (fun T2058 P2057 => ?_)
            show own_Go p e below _ (T2058.setTop (mkF m 277 #[.val (.int i0), .val (.int i1), .val (.int i2), .val (.int i3), .val (.int i4), .val (.int i5), .val (.int i6), .val (.int (0 : Int32)), .val (.ref b1680), .val (.ref b1728), .val (.ref b1770), .val (.int (0 : Int32)), .val (.int (1 : Int32)), .val (.int (0 : Int32)), .val (.int (1 : Int32)), .val (.int (2 : Int32)), .val (.int (1 : Int32)), .unset, .unset] [(.int (own_ho (0 : Int32)))]))
            rw [show (own_ho (0 : Int32)) = (0 : Int32) by decide]
            refine own_iload P2057 at_277 rfl rfl ?_
            refine own_if0Y P2057 (pc' := 286) at_279 (by decide : ¬ ((0 : Int32) < (0 : Int32))) (by decide) (by decide) ?_
            refine own_iconst P2057 at_286 rfl (v := (0 : Int32)) rfl ?_
            refine own_icmpN P2057 (pc' := 290) at_287 (not_not_intro (by decide : (0 : Int32) = (0 : Int32))) rfl ?_
            refine own_iconst P2057 at_290 rfl (v := (1 : Int32)) rfl ?_
            refine own_goto P2057 (pc' := 295) at_291 (by decide) (by decide) ?_
            refine own_istore P2057 at_295 rfl (Ls' := #[.val (.int i0), .val (.int i1), .val (.int i2), .val (.int i3), .val (.int i4), .val (.int i5), .val (.int i6), .val (.int (0 : Int32)), .val (.ref b1680), .val (.ref b1728), .val (.ref b1770), .val (.int (0 : Int32)), .val (.int (1 : Int32)), .val (.int (0 : Int32)), .val (.int (1 : Int32)), .val (.int (2 : Int32)), .val (.int (1 : Int32)), .val (.int (1 : Int32)), .unset]) rfl ?_
            refine own_iload P2057 at_297 rfl rfl ?_
            refine own_if0N P2057 (pc' := 302) at_299 (not_not_intro (by decide : (0 : Int32) = (0 : Int32))) rfl ?_
            refine own_aload P2057 at_302 rfl rfl rfl ?_
            refine own_iconst P2057 at_304 rfl (v := (1 : Int32)) rfl ?_
            refine own_virtP P2057 (hw _ (List.mem_of_getElem? (i := 85) rfl)) (hw _ (List.mem_of_getElem? (i := 76) rfl)) (hw _ (List.mem_of_getElem? (i := 78) rfl)) (hw _ (List.mem_of_getElem? (i := 77) rfl)) (hw _ (List.mem_of_getElem? (i := 2) rfl)) (hw _ (List.mem_of_getElem? (i := 79) rfl)) (by decide) f2035 (argsL := [(.int (1 : Int32))]) (rest := []) (rmHolds1 l Z a0 hw b1680 co1703 (0 : Int32) (1 : Int32) (0 : Int32) (0 : Int32) h2027 f2041 f2048) at_305 rfl own_pd6 rfl rfl rfl (by decide) 0 rfl (by decide) rfl rfl (by decide) (by decide) (fun T2064 P2063 => ?_)
            show own_Go p e below _ (T2064.setTop (mkF m 308 #[.val (.int i0), .val (.int i1), .val (.int i2), .val (.int i3), .val (.int i4), .val (.int i5), .val (.int i6), .val (.int (0 : Int32)), .val (.ref b1680), .val (.ref b1728), .val (.ref b1770), .val (.int (0 : Int32)), .val (.int (1 : Int32)), .val (.int (0 : Int32)), .val (.int (1 : Int32)), .val (.int (2 : Int32)), .val (.int (1 : Int32)), .val (.int (1 : Int32)), .unset] [(.int (own_ho (1 : Int32)))]))
            rw [show (own_ho (1 : Int32)) = (1 : Int32) by decide]
            refine own_iload P2063 at_308 rfl rfl ?_
            refine own_if0N P2063 (pc' := 313) at_310 (not_not_intro (by decide : (0 : Int32) < (1 : Int32))) rfl ?_
            refine own_iconst P2063 at_313 rfl (v := (1 : Int32)) rfl ?_
            refine own_goto P2063 (pc' := 318) at_314 (by decide) (by decide) ?_
            refine own_icmpN P2063 (pc' := 321) at_318 (not_not_intro (by decide : (1 : Int32) = (1 : Int32))) rfl ?_
            refine own_iconst P2063 at_321 rfl (v := (1 : Int32)) rfl ?_
            refine own_goto P2063 (pc' := 326) at_322 (by decide) (by decide) ?_
            refine own_istore P2063 at_326 rfl (Ls' := #[.val (.int i0), .val (.int i1), .val (.int i2), .val (.int i3), .val (.int i4), .val (.int i5), .val (.int i6), .val (.int (0 : Int32)), .val (.ref b1680), .val (.ref b1728), .val (.ref b1770), .val (.int (0 : Int32)), .val (.int (1 : Int32)), .val (.int (0 : Int32)), .val (.int (1 : Int32)), .val (.int (2 : Int32)), .val (.int (1 : Int32)), .val (.int (1 : Int32)), .val (.int (1 : Int32))]) rfl ?_
            refine own_iload P2063 at_328 rfl rfl ?_
            refine own_if0N P2063 (pc' := 333) at_330 (by decide : ¬ ((1 : Int32) = (0 : Int32))) rfl ?_
            refine own_iload P2063 at_333 rfl rfl ?_
            refine own_if0N P2063 (pc' := 338) at_335 (by decide : ¬ ((1 : Int32) = (0 : Int32))) rfl ?_
            refine own_iload P2063 at_338 rfl rfl ?_
            refine own_if0N P2063 (pc' := 343) at_340 (by decide : ¬ ((1 : Int32) = (0 : Int32))) rfl ?_
            refine own_iconst P2063 at_343 rfl (v := (1 : Int32)) rfl ?_
            refine own_goto P2063 (pc' := 348) at_344 (by decide) (by decide) ?_
            exact own_retZ P2063 at_348 (z := (1 : Int32)) rfl (by decide) (by decide) (hQ _ _ N2034)
          · rw [if_neg hc2050] at hQ
            refine own_if0N P2025 (pc' := 208) at_205 hc2050 rfl ?_
            refine own_aload P2025 at_208 rfl rfl rfl ?_
            refine own_aload P2025 at_210 rfl rfl rfl ?_
            refine own_virt P2025 (hw _ (List.mem_of_getElem? (i := 20) rfl)) (hw _ (List.mem_of_getElem? (i := 21) rfl)) (hw _ (List.mem_of_getElem? (i := 23) rfl)) (hw _ (List.mem_of_getElem? (i := 22) rfl)) (hw _ (List.mem_of_getElem? (i := 2) rfl)) (hw _ (List.mem_of_getElem? (i := 24) rfl)) (by decide) f2035 (argsL := [(.ref b1728)]) (rest := []) (rmAddA l Z a0 hw b1680 b1728 ro1702 co1703 bp1704 so1821 i0 i0 i1 (0 : Int32) (0 : Int32) (0 : Int32) (1 : Int32) (0 : Int32) (0 : Int32) (2 : Int32) (own_q i0 i1) (own_s2 i0 i1) h2027 n0 (Nat.le_trans (Nat.le_trans (Nat.le_trans (Nat.le_trans (Nat.le_trans (Nat.le_trans (Nat.le_trans (Nat.le_trans (Nat.le_trans Z0 E1682.1) k1706.1) E1730.1) (Keep.of_wr W1755).1) E1772.1) (Keep.of_wr W1799).1) k1823.1) k1857.1) k2032.1) g1688 g1707 g1708 hg1824 ne1709 ne1710 ne1711 ne1712 ne1713 ne1714 ne1838 ne1839 ne1840 ne1841 ne1735 ne1736 ne1737 ne1738 (Ne.symm ne1842) f2035 f2039 f2040 f2041 f2042 f2043 f2044 f2045 f2046 f2048 f2036 f2047 f2037 (own_l2 i0 i1) rfl (own_a2 i0 i1 hab)) at_212 rfl own_pd4 rfl rfl rfl (by decide) 0 rfl (by decide) (by decide) (by decide) (fun T2070 h2071 v2072 L2073 hq2074 P2069 => ?_)
            obtain ⟨rfl, n2075, k2076, f2077⟩ := hq2074
            have N2078 := Fr.app N2034 n2075
            have f2079 := f2035.keep k2076
            have f2080 := f2036.keep k2076 (ninS (Ne.symm ne1714) nin0)
            have f2081 := f2037.keep k2076 (ninS (Ne.symm ne1737) nin0)
            have f2082 := f2038.keep k2076 (ninS (Ne.symm ne1779) nin0)
            have f2083 := f2039.keep k2076 (ninS ne1710 nin0)
            have f2084 := f2040.keep k2076 (ninS ne1710 nin0)
            have f2085 := f2041.keep k2076 (ninS ne1710 nin0)
            have f2086 := f2042.keep k2076 (ninS ne1710 nin0)
            have f2087 := f2043.keep k2076 (ninS ne1710 nin0)
            have f2088 := f2044.keep k2076 (ninS ne1710 nin0)
            have f2089 := f2045.keep k2076 (ninS ne1710 nin0)
            have f2090 := f2046.keep k2076 (ninS ne1711 nin0)
            have f2091 := f2047.keep k2076 (ninS (Ne.symm ne1840) nin0)
            have f2092 : own_Ar Z h2071 co1703 .int [(1 : Int32), (1 : Int32), (0 : Int32), (0 : Int32)] := f2077
            show own_Go p e below _ (T2070.setTop (mkF m 215 #[.val (.int i0), .val (.int i1), .val (.int i2), .val (.int i3), .val (.int i4), .val (.int i5), .val (.int i6), .val (.int (0 : Int32)), .val (.ref b1680), .val (.ref b1728), .val (.ref b1770), .val (.int (0 : Int32)), .val (.int (1 : Int32)), .val (.int (0 : Int32)), .val (.int (1 : Int32)), .unset, .unset, .unset, .unset] [(.int (0 : Int32))]))
            refine own_pop P2069 at_215 rfl rfl ?_
            refine own_iload P2069 at_216 rfl rfl ?_
            refine own_iconst P2069 at_218 rfl (v := (1 : Int32)) rfl ?_
            refine own_iadd P2069 at_219 rfl ?_
            rw [show ((0 : Int32) + (1 : Int32)) = (1 : Int32) by decide]
            refine own_istore P2069 at_220 rfl (Ls' := #[.val (.int i0), .val (.int i1), .val (.int i2), .val (.int i3), .val (.int i4), .val (.int i5), .val (.int i6), .val (.int (0 : Int32)), .val (.ref b1680), .val (.ref b1728), .val (.ref b1770), .val (.int (0 : Int32)), .val (.int (1 : Int32)), .val (.int (1 : Int32)), .val (.int (1 : Int32)), .unset, .unset, .unset, .unset]) rfl ?_
            refine own_iload P2069 at_222 rfl rfl ?_
            refine own_if0Y P2069 (pc' := 231) at_224 (by decide : (0 : Int32) = (0 : Int32)) (by decide) (by decide) ?_
            refine own_iconst P2069 at_231 rfl (v := (2 : Int32)) rfl ?_
            refine own_istore P2069 at_232 rfl (Ls' := #[.val (.int i0), .val (.int i1), .val (.int i2), .val (.int i3), .val (.int i4), .val (.int i5), .val (.int i6), .val (.int (0 : Int32)), .val (.ref b1680), .val (.ref b1728), .val (.ref b1770), .val (.int (0 : Int32)), .val (.int (1 : Int32)), .val (.int (1 : Int32)), .val (.int (1 : Int32)), .val (.int (2 : Int32)), .unset, .unset, .unset]) rfl ?_
            refine own_iload P2069 at_234 rfl rfl ?_
            refine own_if0N P2069 (pc' := 239) at_236 (not_not_intro (by decide : (0 : Int32) = (0 : Int32))) rfl ?_
            refine own_iload P2069 at_239 rfl rfl ?_
            refine own_iload P2069 at_241 rfl rfl ?_
            refine own_if0Y P2069 (pc' := 250) at_243 (by decide : (0 : Int32) = (0 : Int32)) (by decide) (by decide) ?_
            refine own_iconst P2069 at_250 rfl (v := (1 : Int32)) rfl ?_
            refine own_icmpN P2069 (pc' := 254) at_251 (not_not_intro (by decide : (1 : Int32) = (1 : Int32))) rfl ?_
            refine own_aload P2069 at_254 rfl rfl rfl ?_
            refine own_virtP P2069 (hw _ (List.mem_of_getElem? (i := 80) rfl)) (hw _ (List.mem_of_getElem? (i := 81) rfl)) (hw _ (List.mem_of_getElem? (i := 83) rfl)) (hw _ (List.mem_of_getElem? (i := 82) rfl)) (hw _ (List.mem_of_getElem? (i := 2) rfl)) (hw _ (List.mem_of_getElem? (i := 84) rfl)) (by decide) f2079 (argsL := []) (rest := []) (rmSize l Z a0 hw b1680 (2 : Int32) h2071 f2087) at_256 rfl own_pd7 rfl rfl rfl (by decide) 0 rfl (by decide) rfl rfl (by decide) (by decide) (fun T2094 P2093 => ?_)
            show own_Go p e below _ (T2094.setTop (mkF m 259 #[.val (.int i0), .val (.int i1), .val (.int i2), .val (.int i3), .val (.int i4), .val (.int i5), .val (.int i6), .val (.int (0 : Int32)), .val (.ref b1680), .val (.ref b1728), .val (.ref b1770), .val (.int (0 : Int32)), .val (.int (1 : Int32)), .val (.int (1 : Int32)), .val (.int (1 : Int32)), .val (.int (2 : Int32)), .unset, .unset, .unset] [(.int (2 : Int32))]))
            refine own_iload P2093 at_259 rfl rfl ?_
            refine own_icmpN P2093 (pc' := 264) at_261 (not_not_intro (by decide : (2 : Int32) = (2 : Int32))) rfl ?_
            refine own_iconst P2093 at_264 rfl (v := (1 : Int32)) rfl ?_
            refine own_goto P2093 (pc' := 269) at_265 (by decide) (by decide) ?_
            refine own_istore P2093 at_269 rfl (Ls' := #[.val (.int i0), .val (.int i1), .val (.int i2), .val (.int i3), .val (.int i4), .val (.int i5), .val (.int i6), .val (.int (0 : Int32)), .val (.ref b1680), .val (.ref b1728), .val (.ref b1770), .val (.int (0 : Int32)), .val (.int (1 : Int32)), .val (.int (1 : Int32)), .val (.int (1 : Int32)), .val (.int (2 : Int32)), .val (.int (1 : Int32)), .unset, .unset]) rfl ?_
            refine own_aload P2093 at_271 rfl rfl rfl ?_
            refine own_iconst P2093 at_273 rfl (v := (0 : Int32)) rfl ?_
            refine own_virtP P2093 (hw _ (List.mem_of_getElem? (i := 85) rfl)) (hw _ (List.mem_of_getElem? (i := 76) rfl)) (hw _ (List.mem_of_getElem? (i := 78) rfl)) (hw _ (List.mem_of_getElem? (i := 77) rfl)) (hw _ (List.mem_of_getElem? (i := 2) rfl)) (hw _ (List.mem_of_getElem? (i := 79) rfl)) (by decide) f2079 (argsL := [(.int (0 : Int32))]) (rest := []) (rmHolds0 l Z a0 hw b1680 co1703 (1 : Int32) (1 : Int32) (0 : Int32) (0 : Int32) h2071 f2085 f2092) at_274 rfl own_pd6 rfl rfl rfl (by decide) 0 rfl (by decide) rfl rfl (by decide) (by decide) (fun T2100 P2099 => ?_)
            show own_Go p e below _ (T2100.setTop (mkF m 277 #[.val (.int i0), .val (.int i1), .val (.int i2), .val (.int i3), .val (.int i4), .val (.int i5), .val (.int i6), .val (.int (0 : Int32)), .val (.ref b1680), .val (.ref b1728), .val (.ref b1770), .val (.int (0 : Int32)), .val (.int (1 : Int32)), .val (.int (1 : Int32)), .val (.int (1 : Int32)), .val (.int (2 : Int32)), .val (.int (1 : Int32)), .unset, .unset] [(.int (own_ho (1 : Int32)))]))
            rw [show (own_ho (1 : Int32)) = (1 : Int32) by decide]
            refine own_iload P2099 at_277 rfl rfl ?_
            refine own_if0N P2099 (pc' := 282) at_279 (not_not_intro (by decide : (0 : Int32) < (1 : Int32))) rfl ?_
            refine own_iconst P2099 at_282 rfl (v := (1 : Int32)) rfl ?_
            refine own_goto P2099 (pc' := 287) at_283 (by decide) (by decide) ?_
            refine own_icmpN P2099 (pc' := 290) at_287 (not_not_intro (by decide : (1 : Int32) = (1 : Int32))) rfl ?_
            refine own_iconst P2099 at_290 rfl (v := (1 : Int32)) rfl ?_
            refine own_goto P2099 (pc' := 295) at_291 (by decide) (by decide) ?_
            refine own_istore P2099 at_295 rfl (Ls' := #[.val (.int i0), .val (.int i1), .val (.int i2), .val (.int i3), .val (.int i4), .val (.int i5), .val (.int i6), .val (.int (0 : Int32)), .val (.ref b1680), .val (.ref b1728), .val (.ref b1770), .val (.int (0 : Int32)), .val (.int (1 : Int32)), .val (.int (1 : Int32)), .val (.int (1 : Int32)), .val (.int (2 : Int32)), .val (.int (1 : Int32)), .val (.int (1 : Int32)), .unset]) rfl ?_
            refine own_iload P2099 at_297 rfl rfl ?_
            refine own_if0N P2099 (pc' := 302) at_299 (not_not_intro (by decide : (0 : Int32) = (0 : Int32))) rfl ?_
            refine own_aload P2099 at_302 rfl rfl rfl ?_
            refine own_iconst P2099 at_304 rfl (v := (1 : Int32)) rfl ?_
            refine own_virtP P2099 (hw _ (List.mem_of_getElem? (i := 85) rfl)) (hw _ (List.mem_of_getElem? (i := 76) rfl)) (hw _ (List.mem_of_getElem? (i := 78) rfl)) (hw _ (List.mem_of_getElem? (i := 77) rfl)) (hw _ (List.mem_of_getElem? (i := 2) rfl)) (hw _ (List.mem_of_getElem? (i := 79) rfl)) (by decide) f2079 (argsL := [(.int (1 : Int32))]) (rest := []) (rmHolds1 l Z a0 hw b1680 co1703 (1 : Int32) (1 : Int32) (0 : Int32) (0 : Int32) h2071 f2085 f2092) at_305 rfl own_pd6 rfl rfl rfl (by decide) 0 rfl (by decide) rfl rfl (by decide) (by decide) (fun T2106 P2105 => ?_)
            show own_Go p e below _ (T2106.setTop (mkF m 308 #[.val (.int i0), .val (.int i1), .val (.int i2), .val (.int i3), .val (.int i4), .val (.int i5), .val (.int i6), .val (.int (0 : Int32)), .val (.ref b1680), .val (.ref b1728), .val (.ref b1770), .val (.int (0 : Int32)), .val (.int (1 : Int32)), .val (.int (1 : Int32)), .val (.int (1 : Int32)), .val (.int (2 : Int32)), .val (.int (1 : Int32)), .val (.int (1 : Int32)), .unset] [(.int (own_ho (1 : Int32)))]))
            rw [show (own_ho (1 : Int32)) = (1 : Int32) by decide]
            refine own_iload P2105 at_308 rfl rfl ?_
            refine own_if0N P2105 (pc' := 313) at_310 (not_not_intro (by decide : (0 : Int32) < (1 : Int32))) rfl ?_
            refine own_iconst P2105 at_313 rfl (v := (1 : Int32)) rfl ?_
            refine own_goto P2105 (pc' := 318) at_314 (by decide) (by decide) ?_
            refine own_icmpN P2105 (pc' := 321) at_318 (not_not_intro (by decide : (1 : Int32) = (1 : Int32))) rfl ?_
            refine own_iconst P2105 at_321 rfl (v := (1 : Int32)) rfl ?_
            refine own_goto P2105 (pc' := 326) at_322 (by decide) (by decide) ?_
            refine own_istore P2105 at_326 rfl (Ls' := #[.val (.int i0), .val (.int i1), .val (.int i2), .val (.int i3), .val (.int i4), .val (.int i5), .val (.int i6), .val (.int (0 : Int32)), .val (.ref b1680), .val (.ref b1728), .val (.ref b1770), .val (.int (0 : Int32)), .val (.int (1 : Int32)), .val (.int (1 : Int32)), .val (.int (1 : Int32)), .val (.int (2 : Int32)), .val (.int (1 : Int32)), .val (.int (1 : Int32)), .val (.int (1 : Int32))]) rfl ?_
            refine own_iload P2105 at_328 rfl rfl ?_
            refine own_if0N P2105 (pc' := 333) at_330 (by decide : ¬ ((1 : Int32) = (0 : Int32))) rfl ?_
            refine own_iload P2105 at_333 rfl rfl ?_
            refine own_if0N P2105 (pc' := 338) at_335 (by decide : ¬ ((1 : Int32) = (0 : Int32))) rfl ?_
            refine own_iload P2105 at_338 rfl rfl ?_
            refine own_if0N P2105 (pc' := 343) at_340 (by decide : ¬ ((1 : Int32) = (0 : Int32))) rfl ?_
            refine own_iconst P2105 at_343 rfl (v := (1 : Int32)) rfl ?_
            refine own_goto P2105 (pc' := 348) at_344 (by decide) (by decide) ?_
            exact own_retZ P2105 at_348 (z := (1 : Int32)) rfl (by decide) (by decide) (hQ _ _ N2078)
        · rw [if_neg hc2049] at hQ
          refine own_if0N P2025 (pc' := 175) at_172 hc2049 rfl ?_
          refine own_aload P2025 at_175 rfl rfl rfl ?_
          refine own_aload P2025 at_177 rfl rfl rfl ?_
          refine own_virt P2025 (hw _ (List.mem_of_getElem? (i := 65) rfl)) (hw _ (List.mem_of_getElem? (i := 66) rfl)) (hw _ (List.mem_of_getElem? (i := 68) rfl)) (hw _ (List.mem_of_getElem? (i := 67) rfl)) (hw _ (List.mem_of_getElem? (i := 2) rfl)) (hw _ (List.mem_of_getElem? (i := 69) rfl)) (by decide) f2035 (argsL := [(.ref b1770)]) (rest := []) (rmRem1 l Z a0 hw b1680 b1770 ro1702 co1703 bp1704 so1821 i1 i0 i1 (0 : Int32) (0 : Int32) (0 : Int32) (1 : Int32) (0 : Int32) (0 : Int32) (2 : Int32) (own_q i0 i1) (own_s2 i0 i1) h2027 n0 (Nat.le_trans (Nat.le_trans (Nat.le_trans (Nat.le_trans (Nat.le_trans (Nat.le_trans (Nat.le_trans (Nat.le_trans (Nat.le_trans Z0 E1682.1) k1706.1) E1730.1) (Keep.of_wr W1755).1) E1772.1) (Keep.of_wr W1799).1) k1823.1) k1857.1) k2032.1) g1688 g1707 g1708 hg1824 ne1709 ne1710 ne1711 ne1712 ne1713 ne1714 ne1838 ne1839 ne1840 ne1841 ne1777 ne1778 ne1779 ne1780 (Ne.symm ne1843) f2035 f2039 f2040 f2041 f2042 f2043 f2044 f2045 f2046 f2048 f2036 f2047 f2038 (own_l2 i0 i1) rfl (own_b2 i0 i1 hab) (by decide)) at_179 rfl own_pd4 rfl rfl rfl (by decide) 0 rfl (by decide) (by decide) (by decide) (fun T2112 h2113 v2114 L2115 hq2116 P2111 => ?_)
          obtain ⟨rfl, n2117, k2118, f2119⟩ := hq2116
          have N2120 := Fr.app N2034 n2117
          have f2121 := f2035.keep k2118
          have f2122 := f2036.keep k2118 (ninS (Ne.symm ne1714) nin0)
          have f2123 := f2037.keep k2118 (ninS (Ne.symm ne1737) nin0)
          have f2124 := f2038.keep k2118 (ninS (Ne.symm ne1779) nin0)
          have f2125 := f2039.keep k2118 (ninS ne1710 nin0)
          have f2126 := f2040.keep k2118 (ninS ne1710 nin0)
          have f2127 := f2041.keep k2118 (ninS ne1710 nin0)
          have f2128 := f2042.keep k2118 (ninS ne1710 nin0)
          have f2129 := f2043.keep k2118 (ninS ne1710 nin0)
          have f2130 := f2044.keep k2118 (ninS ne1710 nin0)
          have f2131 := f2045.keep k2118 (ninS ne1710 nin0)
          have f2132 := f2046.keep k2118 (ninS ne1711 nin0)
          have f2133 := f2047.keep k2118 (ninS (Ne.symm ne1840) nin0)
          have f2134 : own_Ar Z h2113 co1703 .int [(0 : Int32), (0 : Int32), (0 : Int32), (0 : Int32)] := f2119
          show own_Go p e below _ (T2112.setTop (mkF m 182 #[.val (.int i0), .val (.int i1), .val (.int i2), .val (.int i3), .val (.int i4), .val (.int i5), .val (.int i6), .val (.int (0 : Int32)), .val (.ref b1680), .val (.ref b1728), .val (.ref b1770), .val (.int (0 : Int32)), .val (.int (1 : Int32)), .val (.int (0 : Int32)), .val (.int (1 : Int32)), .unset, .unset, .unset, .unset] [(.int (1 : Int32))]))
          refine own_pop P2111 at_182 rfl rfl ?_
          refine own_iload P2111 at_183 rfl rfl ?_
          refine own_if0Y P2111 (pc' := 197) at_185 (by decide : (0 : Int32) = (0 : Int32)) (by decide) (by decide) ?_
          refine own_iload P2111 at_197 rfl rfl ?_
          refine own_iconst P2111 at_199 rfl (v := (1 : Int32)) rfl ?_
          refine own_isub P2111 at_200 rfl ?_
          rw [show ((1 : Int32) - (1 : Int32)) = (0 : Int32) by decide]
          refine own_istore P2111 at_201 rfl (Ls' := #[.val (.int i0), .val (.int i1), .val (.int i2), .val (.int i3), .val (.int i4), .val (.int i5), .val (.int i6), .val (.int (0 : Int32)), .val (.ref b1680), .val (.ref b1728), .val (.ref b1770), .val (.int (0 : Int32)), .val (.int (1 : Int32)), .val (.int (0 : Int32)), .val (.int (0 : Int32)), .unset, .unset, .unset, .unset]) rfl ?_
          refine own_iload P2111 at_203 rfl rfl ?_
          by_cases hc2135 : i6 = (0 : Int32)
          · rw [if_pos hc2135] at hQ
            refine own_if0Y P2111 (pc' := 222) at_205 hc2135 (by decide) (by decide) ?_
            refine own_iload P2111 at_222 rfl rfl ?_
            refine own_if0Y P2111 (pc' := 231) at_224 (by decide : (0 : Int32) = (0 : Int32)) (by decide) (by decide) ?_
            refine own_iconst P2111 at_231 rfl (v := (2 : Int32)) rfl ?_
            refine own_istore P2111 at_232 rfl (Ls' := #[.val (.int i0), .val (.int i1), .val (.int i2), .val (.int i3), .val (.int i4), .val (.int i5), .val (.int i6), .val (.int (0 : Int32)), .val (.ref b1680), .val (.ref b1728), .val (.ref b1770), .val (.int (0 : Int32)), .val (.int (1 : Int32)), .val (.int (0 : Int32)), .val (.int (0 : Int32)), .val (.int (2 : Int32)), .unset, .unset, .unset]) rfl ?_
            refine own_iload P2111 at_234 rfl rfl ?_
            refine own_if0N P2111 (pc' := 239) at_236 (not_not_intro (by decide : (0 : Int32) = (0 : Int32))) rfl ?_
            refine own_iload P2111 at_239 rfl rfl ?_
            refine own_iload P2111 at_241 rfl rfl ?_
            refine own_if0Y P2111 (pc' := 250) at_243 (by decide : (0 : Int32) = (0 : Int32)) (by decide) (by decide) ?_
            refine own_iconst P2111 at_250 rfl (v := (1 : Int32)) rfl ?_
            refine own_icmpN P2111 (pc' := 254) at_251 (not_not_intro (by decide : (1 : Int32) = (1 : Int32))) rfl ?_
            refine own_aload P2111 at_254 rfl rfl rfl ?_
            refine own_virtP P2111 (hw _ (List.mem_of_getElem? (i := 80) rfl)) (hw _ (List.mem_of_getElem? (i := 81) rfl)) (hw _ (List.mem_of_getElem? (i := 83) rfl)) (hw _ (List.mem_of_getElem? (i := 82) rfl)) (hw _ (List.mem_of_getElem? (i := 2) rfl)) (hw _ (List.mem_of_getElem? (i := 84) rfl)) (by decide) f2121 (argsL := []) (rest := []) (rmSize l Z a0 hw b1680 (2 : Int32) h2113 f2129) at_256 rfl own_pd7 rfl rfl rfl (by decide) 0 rfl (by decide) rfl rfl (by decide) (by decide) (fun T2137 P2136 => ?_)
            show own_Go p e below _ (T2137.setTop (mkF m 259 #[.val (.int i0), .val (.int i1), .val (.int i2), .val (.int i3), .val (.int i4), .val (.int i5), .val (.int i6), .val (.int (0 : Int32)), .val (.ref b1680), .val (.ref b1728), .val (.ref b1770), .val (.int (0 : Int32)), .val (.int (1 : Int32)), .val (.int (0 : Int32)), .val (.int (0 : Int32)), .val (.int (2 : Int32)), .unset, .unset, .unset] [(.int (2 : Int32))]))
            refine own_iload P2136 at_259 rfl rfl ?_
            refine own_icmpN P2136 (pc' := 264) at_261 (not_not_intro (by decide : (2 : Int32) = (2 : Int32))) rfl ?_
            refine own_iconst P2136 at_264 rfl (v := (1 : Int32)) rfl ?_
            refine own_goto P2136 (pc' := 269) at_265 (by decide) (by decide) ?_
            refine own_istore P2136 at_269 rfl (Ls' := #[.val (.int i0), .val (.int i1), .val (.int i2), .val (.int i3), .val (.int i4), .val (.int i5), .val (.int i6), .val (.int (0 : Int32)), .val (.ref b1680), .val (.ref b1728), .val (.ref b1770), .val (.int (0 : Int32)), .val (.int (1 : Int32)), .val (.int (0 : Int32)), .val (.int (0 : Int32)), .val (.int (2 : Int32)), .val (.int (1 : Int32)), .unset, .unset]) rfl ?_
            refine own_aload P2136 at_271 rfl rfl rfl ?_
            refine own_iconst P2136 at_273 rfl (v := (0 : Int32)) rfl ?_
            refine own_virtP P2136 (hw _ (List.mem_of_getElem? (i := 85) rfl)) (hw _ (List.mem_of_getElem? (i := 76) rfl)) (hw _ (List.mem_of_getElem? (i := 78) rfl)) (hw _ (List.mem_of_getElem? (i := 77) rfl)) (hw _ (List.mem_of_getElem? (i := 2) rfl)) (hw _ (List.mem_of_getElem? (i := 79) rfl)) (by decide) f2121 (argsL := [(.int (0 : Int32))]) (rest := []) (rmHolds0 l Z a0 hw b1680 co1703 (0 : Int32) (0 : Int32) (0 : Int32) (0 : Int32) h2113 f2127 f2134) at_274 rfl own_pd6 rfl rfl rfl (by decide) 0 rfl (by decide) rfl rfl (by decide) (by decide) (fun T2143 P2142 => ?_)
            show own_Go p e below _ (T2143.setTop (mkF m 277 #[.val (.int i0), .val (.int i1), .val (.int i2), .val (.int i3), .val (.int i4), .val (.int i5), .val (.int i6), .val (.int (0 : Int32)), .val (.ref b1680), .val (.ref b1728), .val (.ref b1770), .val (.int (0 : Int32)), .val (.int (1 : Int32)), .val (.int (0 : Int32)), .val (.int (0 : Int32)), .val (.int (2 : Int32)), .val (.int (1 : Int32)), .unset, .unset] [(.int (own_ho (0 : Int32)))]))
            rw [show (own_ho (0 : Int32)) = (0 : Int32) by decide]
            refine own_iload P2142 at_277 rfl rfl ?_
            refine own_if0Y P2142 (pc' := 286) at_279 (by decide : ¬ ((0 : Int32) < (0 : Int32))) (by decide) (by decide) ?_
            refine own_iconst P2142 at_286 rfl (v := (0 : Int32)) rfl ?_
            refine own_icmpN P2142 (pc' := 290) at_287 (not_not_intro (by decide : (0 : Int32) = (0 : Int32))) rfl ?_
            refine own_iconst P2142 at_290 rfl (v := (1 : Int32)) rfl ?_
            refine own_goto P2142 (pc' := 295) at_291 (by decide) (by decide) ?_
            refine own_istore P2142 at_295 rfl (Ls' := #[.val (.int i0), .val (.int i1), .val (.int i2), .val (.int i3), .val (.int i4), .val (.int i5), .val (.int i6), .val (.int (0 : Int32)), .val (.ref b1680), .val (.ref b1728), .val (.ref b1770), .val (.int (0 : Int32)), .val (.int (1 : Int32)), .val (.int (0 : Int32)), .val (.int (0 : Int32)), .val (.int (2 : Int32)), .val (.int (1 : Int32)), .val (.int (1 : Int32)), .unset]) rfl ?_
            refine own_iload P2142 at_297 rfl rfl ?_
            refine own_if0N P2142 (pc' := 302) at_299 (not_not_intro (by decide : (0 : Int32) = (0 : Int32))) rfl ?_
            refine own_aload P2142 at_302 rfl rfl rfl ?_
            refine own_iconst P2142 at_304 rfl (v := (1 : Int32)) rfl ?_
            refine own_virtP P2142 (hw _ (List.mem_of_getElem? (i := 85) rfl)) (hw _ (List.mem_of_getElem? (i := 76) rfl)) (hw _ (List.mem_of_getElem? (i := 78) rfl)) (hw _ (List.mem_of_getElem? (i := 77) rfl)) (hw _ (List.mem_of_getElem? (i := 2) rfl)) (hw _ (List.mem_of_getElem? (i := 79) rfl)) (by decide) f2121 (argsL := [(.int (1 : Int32))]) (rest := []) (rmHolds1 l Z a0 hw b1680 co1703 (0 : Int32) (0 : Int32) (0 : Int32) (0 : Int32) h2113 f2127 f2134) at_305 rfl own_pd6 rfl rfl rfl (by decide) 0 rfl (by decide) rfl rfl (by decide) (by decide) (fun T2149 P2148 => ?_)
            show own_Go p e below _ (T2149.setTop (mkF m 308 #[.val (.int i0), .val (.int i1), .val (.int i2), .val (.int i3), .val (.int i4), .val (.int i5), .val (.int i6), .val (.int (0 : Int32)), .val (.ref b1680), .val (.ref b1728), .val (.ref b1770), .val (.int (0 : Int32)), .val (.int (1 : Int32)), .val (.int (0 : Int32)), .val (.int (0 : Int32)), .val (.int (2 : Int32)), .val (.int (1 : Int32)), .val (.int (1 : Int32)), .unset] [(.int (own_ho (0 : Int32)))]))
            rw [show (own_ho (0 : Int32)) = (0 : Int32) by decide]
            refine own_iload P2148 at_308 rfl rfl ?_
            refine own_if0Y P2148 (pc' := 317) at_310 (by decide : ¬ ((0 : Int32) < (0 : Int32))) (by decide) (by decide) ?_
            refine own_iconst P2148 at_317 rfl (v := (0 : Int32)) rfl ?_
            refine own_icmpN P2148 (pc' := 321) at_318 (not_not_intro (by decide : (0 : Int32) = (0 : Int32))) rfl ?_
            refine own_iconst P2148 at_321 rfl (v := (1 : Int32)) rfl ?_
            refine own_goto P2148 (pc' := 326) at_322 (by decide) (by decide) ?_
            refine own_istore P2148 at_326 rfl (Ls' := #[.val (.int i0), .val (.int i1), .val (.int i2), .val (.int i3), .val (.int i4), .val (.int i5), .val (.int i6), .val (.int (0 : Int32)), .val (.ref b1680), .val (.ref b1728), .val (.ref b1770), .val (.int (0 : Int32)), .val (.int (1 : Int32)), .val (.int (0 : Int32)), .val (.int (0 : Int32)), .val (.int (2 : Int32)), .val (.int (1 : Int32)), .val (.int (1 : Int32)), .val (.int (1 : Int32))]) rfl ?_
            refine own_iload P2148 at_328 rfl rfl ?_
            refine own_if0N P2148 (pc' := 333) at_330 (by decide : ¬ ((1 : Int32) = (0 : Int32))) rfl ?_
            refine own_iload P2148 at_333 rfl rfl ?_
            refine own_if0N P2148 (pc' := 338) at_335 (by decide : ¬ ((1 : Int32) = (0 : Int32))) rfl ?_
            refine own_iload P2148 at_338 rfl rfl ?_
            refine own_if0N P2148 (pc' := 343) at_340 (by decide : ¬ ((1 : Int32) = (0 : Int32))) rfl ?_
            refine own_iconst P2148 at_343 rfl (v := (1 : Int32)) rfl ?_
            refine own_goto P2148 (pc' := 348) at_344 (by decide) (by decide) ?_
            exact own_retZ P2148 at_348 (z := (1 : Int32)) rfl (by decide) (by decide) (hQ _ _ N2120)
          · rw [if_neg hc2135] at hQ
            refine own_if0N P2111 (pc' := 208) at_205 hc2135 rfl ?_
            refine own_aload P2111 at_208 rfl rfl rfl ?_
            refine own_aload P2111 at_210 rfl rfl rfl ?_
            refine own_virt P2111 (hw _ (List.mem_of_getElem? (i := 20) rfl)) (hw _ (List.mem_of_getElem? (i := 21) rfl)) (hw _ (List.mem_of_getElem? (i := 23) rfl)) (hw _ (List.mem_of_getElem? (i := 22) rfl)) (hw _ (List.mem_of_getElem? (i := 2) rfl)) (hw _ (List.mem_of_getElem? (i := 24) rfl)) (by decide) f2121 (argsL := [(.ref b1728)]) (rest := []) (rmAddA l Z a0 hw b1680 b1728 ro1702 co1703 bp1704 so1821 i0 i0 i1 (0 : Int32) (0 : Int32) (0 : Int32) (0 : Int32) (0 : Int32) (0 : Int32) (2 : Int32) (own_q i0 i1) (own_s2 i0 i1) h2113 n0 (Nat.le_trans (Nat.le_trans (Nat.le_trans (Nat.le_trans (Nat.le_trans (Nat.le_trans (Nat.le_trans (Nat.le_trans (Nat.le_trans (Nat.le_trans Z0 E1682.1) k1706.1) E1730.1) (Keep.of_wr W1755).1) E1772.1) (Keep.of_wr W1799).1) k1823.1) k1857.1) k2032.1) k2118.1) g1688 g1707 g1708 hg1824 ne1709 ne1710 ne1711 ne1712 ne1713 ne1714 ne1838 ne1839 ne1840 ne1841 ne1735 ne1736 ne1737 ne1738 (Ne.symm ne1842) f2121 f2125 f2126 f2127 f2128 f2129 f2130 f2131 f2132 f2134 f2122 f2133 f2123 (own_l2 i0 i1) rfl (own_a2 i0 i1 hab)) at_212 rfl own_pd4 rfl rfl rfl (by decide) 0 rfl (by decide) (by decide) (by decide) (fun T2155 h2156 v2157 L2158 hq2159 P2154 => ?_)
            obtain ⟨rfl, n2160, k2161, f2162⟩ := hq2159
            have N2163 := Fr.app N2120 n2160
            have f2164 := f2121.keep k2161
            have f2165 := f2122.keep k2161 (ninS (Ne.symm ne1714) nin0)
            have f2166 := f2123.keep k2161 (ninS (Ne.symm ne1737) nin0)
            have f2167 := f2124.keep k2161 (ninS (Ne.symm ne1779) nin0)
            have f2168 := f2125.keep k2161 (ninS ne1710 nin0)
            have f2169 := f2126.keep k2161 (ninS ne1710 nin0)
            have f2170 := f2127.keep k2161 (ninS ne1710 nin0)
            have f2171 := f2128.keep k2161 (ninS ne1710 nin0)
            have f2172 := f2129.keep k2161 (ninS ne1710 nin0)
            have f2173 := f2130.keep k2161 (ninS ne1710 nin0)
            have f2174 := f2131.keep k2161 (ninS ne1710 nin0)
            have f2175 := f2132.keep k2161 (ninS ne1711 nin0)
            have f2176 := f2133.keep k2161 (ninS (Ne.symm ne1840) nin0)
            have f2177 : own_Ar Z h2156 co1703 .int [(1 : Int32), (0 : Int32), (0 : Int32), (0 : Int32)] := f2162
            show own_Go p e below _ (T2155.setTop (mkF m 215 #[.val (.int i0), .val (.int i1), .val (.int i2), .val (.int i3), .val (.int i4), .val (.int i5), .val (.int i6), .val (.int (0 : Int32)), .val (.ref b1680), .val (.ref b1728), .val (.ref b1770), .val (.int (0 : Int32)), .val (.int (1 : Int32)), .val (.int (0 : Int32)), .val (.int (0 : Int32)), .unset, .unset, .unset, .unset] [(.int (0 : Int32))]))
            refine own_pop P2154 at_215 rfl rfl ?_
            refine own_iload P2154 at_216 rfl rfl ?_
            refine own_iconst P2154 at_218 rfl (v := (1 : Int32)) rfl ?_
            refine own_iadd P2154 at_219 rfl ?_
            rw [show ((0 : Int32) + (1 : Int32)) = (1 : Int32) by decide]
            refine own_istore P2154 at_220 rfl (Ls' := #[.val (.int i0), .val (.int i1), .val (.int i2), .val (.int i3), .val (.int i4), .val (.int i5), .val (.int i6), .val (.int (0 : Int32)), .val (.ref b1680), .val (.ref b1728), .val (.ref b1770), .val (.int (0 : Int32)), .val (.int (1 : Int32)), .val (.int (1 : Int32)), .val (.int (0 : Int32)), .unset, .unset, .unset, .unset]) rfl ?_
            refine own_iload P2154 at_222 rfl rfl ?_
            refine own_if0Y P2154 (pc' := 231) at_224 (by decide : (0 : Int32) = (0 : Int32)) (by decide) (by decide) ?_
            refine own_iconst P2154 at_231 rfl (v := (2 : Int32)) rfl ?_
            refine own_istore P2154 at_232 rfl (Ls' := #[.val (.int i0), .val (.int i1), .val (.int i2), .val (.int i3), .val (.int i4), .val (.int i5), .val (.int i6), .val (.int (0 : Int32)), .val (.ref b1680), .val (.ref b1728), .val (.ref b1770), .val (.int (0 : Int32)), .val (.int (1 : Int32)), .val (.int (1 : Int32)), .val (.int (0 : Int32)), .val (.int (2 : Int32)), .unset, .unset, .unset]) rfl ?_
            refine own_iload P2154 at_234 rfl rfl ?_
            refine own_if0N P2154 (pc' := 239) at_236 (not_not_intro (by decide : (0 : Int32) = (0 : Int32))) rfl ?_
            refine own_iload P2154 at_239 rfl rfl ?_
            refine own_iload P2154 at_241 rfl rfl ?_
            refine own_if0Y P2154 (pc' := 250) at_243 (by decide : (0 : Int32) = (0 : Int32)) (by decide) (by decide) ?_
            refine own_iconst P2154 at_250 rfl (v := (1 : Int32)) rfl ?_
            refine own_icmpN P2154 (pc' := 254) at_251 (not_not_intro (by decide : (1 : Int32) = (1 : Int32))) rfl ?_
            refine own_aload P2154 at_254 rfl rfl rfl ?_
            refine own_virtP P2154 (hw _ (List.mem_of_getElem? (i := 80) rfl)) (hw _ (List.mem_of_getElem? (i := 81) rfl)) (hw _ (List.mem_of_getElem? (i := 83) rfl)) (hw _ (List.mem_of_getElem? (i := 82) rfl)) (hw _ (List.mem_of_getElem? (i := 2) rfl)) (hw _ (List.mem_of_getElem? (i := 84) rfl)) (by decide) f2164 (argsL := []) (rest := []) (rmSize l Z a0 hw b1680 (2 : Int32) h2156 f2172) at_256 rfl own_pd7 rfl rfl rfl (by decide) 0 rfl (by decide) rfl rfl (by decide) (by decide) (fun T2179 P2178 => ?_)
            show own_Go p e below _ (T2179.setTop (mkF m 259 #[.val (.int i0), .val (.int i1), .val (.int i2), .val (.int i3), .val (.int i4), .val (.int i5), .val (.int i6), .val (.int (0 : Int32)), .val (.ref b1680), .val (.ref b1728), .val (.ref b1770), .val (.int (0 : Int32)), .val (.int (1 : Int32)), .val (.int (1 : Int32)), .val (.int (0 : Int32)), .val (.int (2 : Int32)), .unset, .unset, .unset] [(.int (2 : Int32))]))
            refine own_iload P2178 at_259 rfl rfl ?_
            refine own_icmpN P2178 (pc' := 264) at_261 (not_not_intro (by decide : (2 : Int32) = (2 : Int32))) rfl ?_
            refine own_iconst P2178 at_264 rfl (v := (1 : Int32)) rfl ?_
            refine own_goto P2178 (pc' := 269) at_265 (by decide) (by decide) ?_
            refine own_istore P2178 at_269 rfl (Ls' := #[.val (.int i0), .val (.int i1), .val (.int i2), .val (.int i3), .val (.int i4), .val (.int i5), .val (.int i6), .val (.int (0 : Int32)), .val (.ref b1680), .val (.ref b1728), .val (.ref b1770), .val (.int (0 : Int32)), .val (.int (1 : Int32)), .val (.int (1 : Int32)), .val (.int (0 : Int32)), .val (.int (2 : Int32)), .val (.int (1 : Int32)), .unset, .unset]) rfl ?_
            refine own_aload P2178 at_271 rfl rfl rfl ?_
            refine own_iconst P2178 at_273 rfl (v := (0 : Int32)) rfl ?_
            refine own_virtP P2178 (hw _ (List.mem_of_getElem? (i := 85) rfl)) (hw _ (List.mem_of_getElem? (i := 76) rfl)) (hw _ (List.mem_of_getElem? (i := 78) rfl)) (hw _ (List.mem_of_getElem? (i := 77) rfl)) (hw _ (List.mem_of_getElem? (i := 2) rfl)) (hw _ (List.mem_of_getElem? (i := 79) rfl)) (by decide) f2164 (argsL := [(.int (0 : Int32))]) (rest := []) (rmHolds0 l Z a0 hw b1680 co1703 (1 : Int32) (0 : Int32) (0 : Int32) (0 : Int32) h2156 f2170 f2177) at_274 rfl own_pd6 rfl rfl rfl (by decide) 0 rfl (by decide) rfl rfl (by decide) (by decide) (fun T2185 P2184 => ?_)
            show own_Go p e below _ (T2185.setTop (mkF m 277 #[.val (.int i0), .val (.int i1), .val (.int i2), .val (.int i3), .val (.int i4), .val (.int i5), .val (.int i6), .val (.int (0 : Int32)), .val (.ref b1680), .val (.ref b1728), .val (.ref b1770), .val (.int (0 : Int32)), .val (.int (1 : Int32)), .val (.int (1 : Int32)), .val (.int (0 : Int32)), .val (.int (2 : Int32)), .val (.int (1 : Int32)), .unset, .unset] [(.int (own_ho (1 : Int32)))]))
            rw [show (own_ho (1 : Int32)) = (1 : Int32) by decide]
            refine own_iload P2184 at_277 rfl rfl ?_
            refine own_if0N P2184 (pc' := 282) at_279 (not_not_intro (by decide : (0 : Int32) < (1 : Int32))) rfl ?_
            refine own_iconst P2184 at_282 rfl (v := (1 : Int32)) rfl ?_
            refine own_goto P2184 (pc' := 287) at_283 (by decide) (by decide) ?_
            refine own_icmpN P2184 (pc' := 290) at_287 (not_not_intro (by decide : (1 : Int32) = (1 : Int32))) rfl ?_
            refine own_iconst P2184 at_290 rfl (v := (1 : Int32)) rfl ?_
            refine own_goto P2184 (pc' := 295) at_291 (by decide) (by decide) ?_
            refine own_istore P2184 at_295 rfl (Ls' := #[.val (.int i0), .val (.int i1), .val (.int i2), .val (.int i3), .val (.int i4), .val (.int i5), .val (.int i6), .val (.int (0 : Int32)), .val (.ref b1680), .val (.ref b1728), .val (.ref b1770), .val (.int (0 : Int32)), .val (.int (1 : Int32)), .val (.int (1 : Int32)), .val (.int (0 : Int32)), .val (.int (2 : Int32)), .val (.int (1 : Int32)), .val (.int (1 : Int32)), .unset]) rfl ?_
            refine own_iload P2184 at_297 rfl rfl ?_
            refine own_if0N P2184 (pc' := 302) at_299 (not_not_intro (by decide : (0 : Int32) = (0 : Int32))) rfl ?_
            refine own_aload P2184 at_302 rfl rfl rfl ?_
            refine own_iconst P2184 at_304 rfl (v := (1 : Int32)) rfl ?_
            refine own_virtP P2184 (hw _ (List.mem_of_getElem? (i := 85) rfl)) (hw _ (List.mem_of_getElem? (i := 76) rfl)) (hw _ (List.mem_of_getElem? (i := 78) rfl)) (hw _ (List.mem_of_getElem? (i := 77) rfl)) (hw _ (List.mem_of_getElem? (i := 2) rfl)) (hw _ (List.mem_of_getElem? (i := 79) rfl)) (by decide) f2164 (argsL := [(.int (1 : Int32))]) (rest := []) (rmHolds1 l Z a0 hw b1680 co1703 (1 : Int32) (0 : Int32) (0 : Int32) (0 : Int32) h2156 f2170 f2177) at_305 rfl own_pd6 rfl rfl rfl (by decide) 0 rfl (by decide) rfl rfl (by decide) (by decide) (fun T2191 P2190 => ?_)
            show own_Go p e below _ (T2191.setTop (mkF m 308 #[.val (.int i0), .val (.int i1), .val (.int i2), .val (.int i3), .val (.int i4), .val (.int i5), .val (.int i6), .val (.int (0 : Int32)), .val (.ref b1680), .val (.ref b1728), .val (.ref b1770), .val (.int (0 : Int32)), .val (.int (1 : Int32)), .val (.int (1 : Int32)), .val (.int (0 : Int32)), .val (.int (2 : Int32)), .val (.int (1 : Int32)), .val (.int (1 : Int32)), .unset] [(.int (own_ho (0 : Int32)))]))
            rw [show (own_ho (0 : Int32)) = (0 : Int32) by decide]
            refine own_iload P2190 at_308 rfl rfl ?_
            refine own_if0Y P2190 (pc' := 317) at_310 (by decide : ¬ ((0 : Int32) < (0 : Int32))) (by decide) (by decide) ?_
            refine own_iconst P2190 at_317 rfl (v := (0 : Int32)) rfl ?_
            refine own_icmpN P2190 (pc' := 321) at_318 (not_not_intro (by decide : (0 : Int32) = (0 : Int32))) rfl ?_
            refine own_iconst P2190 at_321 rfl (v := (1 : Int32)) rfl ?_
            refine own_goto P2190 (pc' := 326) at_322 (by decide) (by decide) ?_
            refine own_istore P2190 at_326 rfl (Ls' := #[.val (.int i0), .val (.int i1), .val (.int i2), .val (.int i3), .val (.int i4), .val (.int i5), .val (.int i6), .val (.int (0 : Int32)), .val (.ref b1680), .val (.ref b1728), .val (.ref b1770), .val (.int (0 : Int32)), .val (.int (1 : Int32)), .val (.int (1 : Int32)), .val (.int (0 : Int32)), .val (.int (2 : Int32)), .val (.int (1 : Int32)), .val (.int (1 : Int32)), .val (.int (1 : Int32))]) rfl ?_
            refine own_iload P2190 at_328 rfl rfl ?_
            refine own_if0N P2190 (pc' := 333) at_330 (by decide : ¬ ((1 : Int32) = (0 : Int32))) rfl ?_
            refine own_iload P2190 at_333 rfl rfl ?_
            refine own_if0N P2190 (pc' := 338) at_335 (by decide : ¬ ((1 : Int32) = (0 : Int32))) rfl ?_
            refine own_iload P2190 at_338 rfl rfl ?_
            refine own_if0N P2190 (pc' := 343) at_340 (by decide : ¬ ((1 : Int32) = (0 : Int32))) rfl ?_
            refine own_iconst P2190 at_343 rfl (v := (1 : Int32)) rfl ?_
            refine own_goto P2190 (pc' := 348) at_344 (by decide) (by decide) ?_
            exact own_retZ P2190 at_348 (z := (1 : Int32)) rfl (by decide) (by decide) (hQ _ _ N2163)
    · rw [if_neg hc1876] at hQ
      refine own_if0N P1850 (pc' := 137) at_134 hc1876 rfl ?_
      refine own_aload P1850 at_137 rfl rfl rfl ?_
      refine own_aload P1850 at_139 rfl rfl rfl ?_
      refine own_virt P1850 (hw _ (List.mem_of_getElem? (i := 20) rfl)) (hw _ (List.mem_of_getElem? (i := 21) rfl)) (hw _ (List.mem_of_getElem? (i := 23) rfl)) (hw _ (List.mem_of_getElem? (i := 22) rfl)) (hw _ (List.mem_of_getElem? (i := 2) rfl)) (hw _ (List.mem_of_getElem? (i := 24) rfl)) (by decide) f1858 (argsL := [(.ref b1728)]) (rest := []) (rmAddA l Z a0 hw b1680 b1728 ro1702 co1703 bp1704 so1821 i0 i0 i1 (0 : Int32) (0 : Int32) (1 : Int32) (1 : Int32) (0 : Int32) (0 : Int32) (2 : Int32) (own_q i0 i1) (own_s2 i0 i1) h1852 n0 (Nat.le_trans (Nat.le_trans (Nat.le_trans (Nat.le_trans (Nat.le_trans (Nat.le_trans (Nat.le_trans (Nat.le_trans Z0 E1682.1) k1706.1) E1730.1) (Keep.of_wr W1755).1) E1772.1) (Keep.of_wr W1799).1) k1823.1) k1857.1) g1688 g1707 g1708 hg1824 ne1709 ne1710 ne1711 ne1712 ne1713 ne1714 ne1838 ne1839 ne1840 ne1841 ne1735 ne1736 ne1737 ne1738 (Ne.symm ne1842) f1858 f1859 f1860 f1861 f1862 f1863 f1864 f1865 f1866 f1867 f1868 f1875 f1873 (own_l2 i0 i1) rfl (own_a2 i0 i1 hab)) at_141 rfl own_pd4 rfl rfl rfl (by decide) 0 rfl (by decide) (by decide) (by decide) (fun T2197 h2198 v2199 L2200 hq2201 P2196 => ?_)
      obtain ⟨rfl, n2202, k2203, f2204⟩ := hq2201
      have N2205 := Fr.app N1870 n2202
      have f2206 := f1858.keep k2203
      have f2207 := f1868.keep k2203 (ninS (Ne.symm ne1714) nin0)
      have f2208 := f1873.keep k2203 (ninS (Ne.symm ne1737) nin0)
      have f2209 := f1874.keep k2203 (ninS (Ne.symm ne1779) nin0)
      have f2210 := f1859.keep k2203 (ninS ne1710 nin0)
      have f2211 := f1860.keep k2203 (ninS ne1710 nin0)
      have f2212 := f1861.keep k2203 (ninS ne1710 nin0)
      have f2213 := f1862.keep k2203 (ninS ne1710 nin0)
      have f2214 := f1863.keep k2203 (ninS ne1710 nin0)
      have f2215 := f1864.keep k2203 (ninS ne1710 nin0)
      have f2216 := f1865.keep k2203 (ninS ne1710 nin0)
      have f2217 := f1866.keep k2203 (ninS ne1711 nin0)
      have f2218 := f1875.keep k2203 (ninS (Ne.symm ne1840) nin0)
      have f2219 : own_Ar Z h2198 co1703 .int [(2 : Int32), (1 : Int32), (0 : Int32), (0 : Int32)] := f2204
      show own_Go p e below _ (T2197.setTop (mkF m 144 #[.val (.int i0), .val (.int i1), .val (.int i2), .val (.int i3), .val (.int i4), .val (.int i5), .val (.int i6), .val (.int (0 : Int32)), .val (.ref b1680), .val (.ref b1728), .val (.ref b1770), .val (.int (0 : Int32)), .val (.int (1 : Int32)), .val (.int (1 : Int32)), .val (.int (1 : Int32)), .unset, .unset, .unset, .unset] [(.int (0 : Int32))]))
      refine own_pop P2196 at_144 rfl rfl ?_
      refine own_iload P2196 at_145 rfl rfl ?_
      refine own_iconst P2196 at_147 rfl (v := (1 : Int32)) rfl ?_
      refine own_iadd P2196 at_148 rfl ?_
      rw [show ((1 : Int32) + (1 : Int32)) = (2 : Int32) by decide]
      refine own_istore P2196 at_149 rfl (Ls' := #[.val (.int i0), .val (.int i1), .val (.int i2), .val (.int i3), .val (.int i4), .val (.int i5), .val (.int i6), .val (.int (0 : Int32)), .val (.ref b1680), .val (.ref b1728), .val (.ref b1770), .val (.int (0 : Int32)), .val (.int (1 : Int32)), .val (.int (2 : Int32)), .val (.int (1 : Int32)), .unset, .unset, .unset, .unset]) rfl ?_
      refine own_iload P2196 at_151 rfl rfl ?_
      by_cases hc2220 : i4 = (0 : Int32)
      · rw [if_pos hc2220] at hQ
        refine own_if0Y P2196 (pc' := 170) at_153 hc2220 (by decide) (by decide) ?_
        refine own_iload P2196 at_170 rfl rfl ?_
        by_cases hc2221 : i5 = (0 : Int32)
        · rw [if_pos hc2221] at hQ
          refine own_if0Y P2196 (pc' := 203) at_172 hc2221 (by decide) (by decide) ?_
          refine own_iload P2196 at_203 rfl rfl ?_
          by_cases hc2222 : i6 = (0 : Int32)
          · rw [if_pos hc2222] at hQ
            refine own_if0Y P2196 (pc' := 222) at_205 hc2222 (by decide) (by decide) ?_
            refine own_iload P2196 at_222 rfl rfl ?_
            refine own_if0Y P2196 (pc' := 231) at_224 (by decide : (0 : Int32) = (0 : Int32)) (by decide) (by decide) ?_
            refine own_iconst P2196 at_231 rfl (v := (2 : Int32)) rfl ?_
            refine own_istore P2196 at_232 rfl (Ls' := #[.val (.int i0), .val (.int i1), .val (.int i2), .val (.int i3), .val (.int i4), .val (.int i5), .val (.int i6), .val (.int (0 : Int32)), .val (.ref b1680), .val (.ref b1728), .val (.ref b1770), .val (.int (0 : Int32)), .val (.int (1 : Int32)), .val (.int (2 : Int32)), .val (.int (1 : Int32)), .val (.int (2 : Int32)), .unset, .unset, .unset]) rfl ?_
            refine own_iload P2196 at_234 rfl rfl ?_
            refine own_if0N P2196 (pc' := 239) at_236 (not_not_intro (by decide : (0 : Int32) = (0 : Int32))) rfl ?_
            refine own_iload P2196 at_239 rfl rfl ?_
            refine own_iload P2196 at_241 rfl rfl ?_
            refine own_if0Y P2196 (pc' := 250) at_243 (by decide : (0 : Int32) = (0 : Int32)) (by decide) (by decide) ?_
            refine own_iconst P2196 at_250 rfl (v := (1 : Int32)) rfl ?_
            refine own_icmpN P2196 (pc' := 254) at_251 (not_not_intro (by decide : (1 : Int32) = (1 : Int32))) rfl ?_
            refine own_aload P2196 at_254 rfl rfl rfl ?_
            refine own_virtP P2196 (hw _ (List.mem_of_getElem? (i := 80) rfl)) (hw _ (List.mem_of_getElem? (i := 81) rfl)) (hw _ (List.mem_of_getElem? (i := 83) rfl)) (hw _ (List.mem_of_getElem? (i := 82) rfl)) (hw _ (List.mem_of_getElem? (i := 2) rfl)) (hw _ (List.mem_of_getElem? (i := 84) rfl)) (by decide) f2206 (argsL := []) (rest := []) (rmSize l Z a0 hw b1680 (2 : Int32) h2198 f2214) at_256 rfl own_pd7 rfl rfl rfl (by decide) 0 rfl (by decide) rfl rfl (by decide) (by decide) (fun T2224 P2223 => ?_)
            show own_Go p e below _ (T2224.setTop (mkF m 259 #[.val (.int i0), .val (.int i1), .val (.int i2), .val (.int i3), .val (.int i4), .val (.int i5), .val (.int i6), .val (.int (0 : Int32)), .val (.ref b1680), .val (.ref b1728), .val (.ref b1770), .val (.int (0 : Int32)), .val (.int (1 : Int32)), .val (.int (2 : Int32)), .val (.int (1 : Int32)), .val (.int (2 : Int32)), .unset, .unset, .unset] [(.int (2 : Int32))]))
            refine own_iload P2223 at_259 rfl rfl ?_
            refine own_icmpN P2223 (pc' := 264) at_261 (not_not_intro (by decide : (2 : Int32) = (2 : Int32))) rfl ?_
            refine own_iconst P2223 at_264 rfl (v := (1 : Int32)) rfl ?_
            refine own_goto P2223 (pc' := 269) at_265 (by decide) (by decide) ?_
            refine own_istore P2223 at_269 rfl (Ls' := #[.val (.int i0), .val (.int i1), .val (.int i2), .val (.int i3), .val (.int i4), .val (.int i5), .val (.int i6), .val (.int (0 : Int32)), .val (.ref b1680), .val (.ref b1728), .val (.ref b1770), .val (.int (0 : Int32)), .val (.int (1 : Int32)), .val (.int (2 : Int32)), .val (.int (1 : Int32)), .val (.int (2 : Int32)), .val (.int (1 : Int32)), .unset, .unset]) rfl ?_
            refine own_aload P2223 at_271 rfl rfl rfl ?_
            refine own_iconst P2223 at_273 rfl (v := (0 : Int32)) rfl ?_
            refine own_virtP P2223 (hw _ (List.mem_of_getElem? (i := 85) rfl)) (hw _ (List.mem_of_getElem? (i := 76) rfl)) (hw _ (List.mem_of_getElem? (i := 78) rfl)) (hw _ (List.mem_of_getElem? (i := 77) rfl)) (hw _ (List.mem_of_getElem? (i := 2) rfl)) (hw _ (List.mem_of_getElem? (i := 79) rfl)) (by decide) f2206 (argsL := [(.int (0 : Int32))]) (rest := []) (rmHolds0 l Z a0 hw b1680 co1703 (2 : Int32) (1 : Int32) (0 : Int32) (0 : Int32) h2198 f2212 f2219) at_274 rfl own_pd6 rfl rfl rfl (by decide) 0 rfl (by decide) rfl rfl (by decide) (by decide) (fun T2230 P2229 => ?_)
            show own_Go p e below _ (T2230.setTop (mkF m 277 #[.val (.int i0), .val (.int i1), .val (.int i2), .val (.int i3), .val (.int i4), .val (.int i5), .val (.int i6), .val (.int (0 : Int32)), .val (.ref b1680), .val (.ref b1728), .val (.ref b1770), .val (.int (0 : Int32)), .val (.int (1 : Int32)), .val (.int (2 : Int32)), .val (.int (1 : Int32)), .val (.int (2 : Int32)), .val (.int (1 : Int32)), .unset, .unset] [(.int (own_ho (2 : Int32)))]))
            rw [show (own_ho (2 : Int32)) = (1 : Int32) by decide]
            refine own_iload P2229 at_277 rfl rfl ?_
            refine own_if0N P2229 (pc' := 282) at_279 (not_not_intro (by decide : (0 : Int32) < (2 : Int32))) rfl ?_
            refine own_iconst P2229 at_282 rfl (v := (1 : Int32)) rfl ?_
            refine own_goto P2229 (pc' := 287) at_283 (by decide) (by decide) ?_
            refine own_icmpN P2229 (pc' := 290) at_287 (not_not_intro (by decide : (1 : Int32) = (1 : Int32))) rfl ?_
            refine own_iconst P2229 at_290 rfl (v := (1 : Int32)) rfl ?_
            refine own_goto P2229 (pc' := 295) at_291 (by decide) (by decide) ?_
            refine own_istore P2229 at_295 rfl (Ls' := #[.val (.int i0), .val (.int i1), .val (.int i2), .val (.int i3), .val (.int i4), .val (.int i5), .val (.int i6), .val (.int (0 : Int32)), .val (.ref b1680), .val (.ref b1728), .val (.ref b1770), .val (.int (0 : Int32)), .val (.int (1 : Int32)), .val (.int (2 : Int32)), .val (.int (1 : Int32)), .val (.int (2 : Int32)), .val (.int (1 : Int32)), .val (.int (1 : Int32)), .unset]) rfl ?_
            refine own_iload P2229 at_297 rfl rfl ?_
            refine own_if0N P2229 (pc' := 302) at_299 (not_not_intro (by decide : (0 : Int32) = (0 : Int32))) rfl ?_
            refine own_aload P2229 at_302 rfl rfl rfl ?_
            refine own_iconst P2229 at_304 rfl (v := (1 : Int32)) rfl ?_
            refine own_virtP P2229 (hw _ (List.mem_of_getElem? (i := 85) rfl)) (hw _ (List.mem_of_getElem? (i := 76) rfl)) (hw _ (List.mem_of_getElem? (i := 78) rfl)) (hw _ (List.mem_of_getElem? (i := 77) rfl)) (hw _ (List.mem_of_getElem? (i := 2) rfl)) (hw _ (List.mem_of_getElem? (i := 79) rfl)) (by decide) f2206 (argsL := [(.int (1 : Int32))]) (rest := []) (rmHolds1 l Z a0 hw b1680 co1703 (2 : Int32) (1 : Int32) (0 : Int32) (0 : Int32) h2198 f2212 f2219) at_305 rfl own_pd6 rfl rfl rfl (by decide) 0 rfl (by decide) rfl rfl (by decide) (by decide) (fun T2236 P2235 => ?_)
            show own_Go p e below _ (T2236.setTop (mkF m 308 #[.val (.int i0), .val (.int i1), .val (.int i2), .val (.int i3), .val (.int i4), .val (.int i5), .val (.int i6), .val (.int (0 : Int32)), .val (.ref b1680), .val (.ref b1728), .val (.ref b1770), .val (.int (0 : Int32)), .val (.int (1 : Int32)), .val (.int (2 : Int32)), .val (.int (1 : Int32)), .val (.int (2 : Int32)), .val (.int (1 : Int32)), .val (.int (1 : Int32)), .unset] [(.int (own_ho (1 : Int32)))]))
            rw [show (own_ho (1 : Int32)) = (1 : Int32) by decide]
            refine own_iload P2235 at_308 rfl rfl ?_
            refine own_if0N P2235 (pc' := 313) at_310 (not_not_intro (by decide : (0 : Int32) < (1 : Int32))) rfl ?_
            refine own_iconst P2235 at_313 rfl (v := (1 : Int32)) rfl ?_
            refine own_goto P2235 (pc' := 318) at_314 (by decide) (by decide) ?_
            refine own_icmpN P2235 (pc' := 321) at_318 (not_not_intro (by decide : (1 : Int32) = (1 : Int32))) rfl ?_
            refine own_iconst P2235 at_321 rfl (v := (1 : Int32)) rfl ?_
            refine own_goto P2235 (pc' := 326) at_322 (by decide) (by decide) ?_
            refine own_istore P2235 at_326 rfl (Ls' := #[.val (.int i0), .val (.int i1), .val (.int i2), .val (.int i3), .val (.int i4), .val (.int i5), .val (.int i6), .val (.int (0 : Int32)), .val (.ref b1680), .val (.ref b1728), .val (.ref b1770), .val (.int (0 : Int32)), .val (.int (1 : Int32)), .val (.int (2 : Int32)), .val (.int (1 : Int32)), .val (.int (2 : Int32)), .val (.int (1 : Int32)), .val (.int (1 : Int32)), .val (.int (1 : Int32))]) rfl ?_
            refine own_iload P2235 at_328 rfl rfl ?_
            refine own_if0N P2235 (pc' := 333) at_330 (by decide : ¬ ((1 : Int32) = (0 : Int32))) rfl ?_
            refine own_iload P2235 at_333 rfl rfl ?_
            refine own_if0N P2235 (pc' := 338) at_335 (by decide : ¬ ((1 : Int32) = (0 : Int32))) rfl ?_
            refine own_iload P2235 at_338 rfl rfl ?_
            refine own_if0N P2235 (pc' := 343) at_340 (by decide : ¬ ((1 : Int32) = (0 : Int32))) rfl ?_
            refine own_iconst P2235 at_343 rfl (v := (1 : Int32)) rfl ?_
            refine own_goto P2235 (pc' := 348) at_344 (by decide) (by decide) ?_
            exact own_retZ P2235 at_348 (z := (1 : Int32)) rfl (by decide) (by decide) (hQ _ _ N2205)
          · rw [if_neg hc2222] at hQ
            refine own_if0N P2196 (pc' := 208) at_205 hc2222 rfl ?_
            refine own_aload P2196 at_208 rfl rfl rfl ?_
            refine own_aload P2196 at_210 rfl rfl rfl ?_
            refine own_virt P2196 (hw _ (List.mem_of_getElem? (i := 20) rfl)) (hw _ (List.mem_of_getElem? (i := 21) rfl)) (hw _ (List.mem_of_getElem? (i := 23) rfl)) (hw _ (List.mem_of_getElem? (i := 22) rfl)) (hw _ (List.mem_of_getElem? (i := 2) rfl)) (hw _ (List.mem_of_getElem? (i := 24) rfl)) (by decide) f2206 (argsL := [(.ref b1728)]) (rest := []) (rmAddA l Z a0 hw b1680 b1728 ro1702 co1703 bp1704 so1821 i0 i0 i1 (0 : Int32) (0 : Int32) (2 : Int32) (1 : Int32) (0 : Int32) (0 : Int32) (2 : Int32) (own_q i0 i1) (own_s2 i0 i1) h2198 n0 (Nat.le_trans (Nat.le_trans (Nat.le_trans (Nat.le_trans (Nat.le_trans (Nat.le_trans (Nat.le_trans (Nat.le_trans (Nat.le_trans Z0 E1682.1) k1706.1) E1730.1) (Keep.of_wr W1755).1) E1772.1) (Keep.of_wr W1799).1) k1823.1) k1857.1) k2203.1) g1688 g1707 g1708 hg1824 ne1709 ne1710 ne1711 ne1712 ne1713 ne1714 ne1838 ne1839 ne1840 ne1841 ne1735 ne1736 ne1737 ne1738 (Ne.symm ne1842) f2206 f2210 f2211 f2212 f2213 f2214 f2215 f2216 f2217 f2219 f2207 f2218 f2208 (own_l2 i0 i1) rfl (own_a2 i0 i1 hab)) at_212 rfl own_pd4 rfl rfl rfl (by decide) 0 rfl (by decide) (by decide) (by decide) (fun T2242 h2243 v2244 L2245 hq2246 P2241 => ?_)
            obtain ⟨rfl, n2247, k2248, f2249⟩ := hq2246
            have N2250 := Fr.app N2205 n2247
            have f2251 := f2206.keep k2248
            have f2252 := f2207.keep k2248 (ninS (Ne.symm ne1714) nin0)
            have f2253 := f2208.keep k2248 (ninS (Ne.symm ne1737) nin0)
            have f2254 := f2209.keep k2248 (ninS (Ne.symm ne1779) nin0)
            have f2255 := f2210.keep k2248 (ninS ne1710 nin0)
            have f2256 := f2211.keep k2248 (ninS ne1710 nin0)
            have f2257 := f2212.keep k2248 (ninS ne1710 nin0)
            have f2258 := f2213.keep k2248 (ninS ne1710 nin0)
            have f2259 := f2214.keep k2248 (ninS ne1710 nin0)
            have f2260 := f2215.keep k2248 (ninS ne1710 nin0)
            have f2261 := f2216.keep k2248 (ninS ne1710 nin0)
            have f2262 := f2217.keep k2248 (ninS ne1711 nin0)
            have f2263 := f2218.keep k2248 (ninS (Ne.symm ne1840) nin0)
            have f2264 : own_Ar Z h2243 co1703 .int [(3 : Int32), (1 : Int32), (0 : Int32), (0 : Int32)] := f2249
            show own_Go p e below _ (T2242.setTop (mkF m 215 #[.val (.int i0), .val (.int i1), .val (.int i2), .val (.int i3), .val (.int i4), .val (.int i5), .val (.int i6), .val (.int (0 : Int32)), .val (.ref b1680), .val (.ref b1728), .val (.ref b1770), .val (.int (0 : Int32)), .val (.int (1 : Int32)), .val (.int (2 : Int32)), .val (.int (1 : Int32)), .unset, .unset, .unset, .unset] [(.int (0 : Int32))]))
            refine own_pop P2241 at_215 rfl rfl ?_
            refine own_iload P2241 at_216 rfl rfl ?_
            refine own_iconst P2241 at_218 rfl (v := (1 : Int32)) rfl ?_
            refine own_iadd P2241 at_219 rfl ?_
            rw [show ((2 : Int32) + (1 : Int32)) = (3 : Int32) by decide]
            refine own_istore P2241 at_220 rfl (Ls' := #[.val (.int i0), .val (.int i1), .val (.int i2), .val (.int i3), .val (.int i4), .val (.int i5), .val (.int i6), .val (.int (0 : Int32)), .val (.ref b1680), .val (.ref b1728), .val (.ref b1770), .val (.int (0 : Int32)), .val (.int (1 : Int32)), .val (.int (3 : Int32)), .val (.int (1 : Int32)), .unset, .unset, .unset, .unset]) rfl ?_
            refine own_iload P2241 at_222 rfl rfl ?_
            refine own_if0Y P2241 (pc' := 231) at_224 (by decide : (0 : Int32) = (0 : Int32)) (by decide) (by decide) ?_
            refine own_iconst P2241 at_231 rfl (v := (2 : Int32)) rfl ?_
            refine own_istore P2241 at_232 rfl (Ls' := #[.val (.int i0), .val (.int i1), .val (.int i2), .val (.int i3), .val (.int i4), .val (.int i5), .val (.int i6), .val (.int (0 : Int32)), .val (.ref b1680), .val (.ref b1728), .val (.ref b1770), .val (.int (0 : Int32)), .val (.int (1 : Int32)), .val (.int (3 : Int32)), .val (.int (1 : Int32)), .val (.int (2 : Int32)), .unset, .unset, .unset]) rfl ?_
            refine own_iload P2241 at_234 rfl rfl ?_
            refine own_if0N P2241 (pc' := 239) at_236 (not_not_intro (by decide : (0 : Int32) = (0 : Int32))) rfl ?_
            refine own_iload P2241 at_239 rfl rfl ?_
            refine own_iload P2241 at_241 rfl rfl ?_
            refine own_if0Y P2241 (pc' := 250) at_243 (by decide : (0 : Int32) = (0 : Int32)) (by decide) (by decide) ?_
            refine own_iconst P2241 at_250 rfl (v := (1 : Int32)) rfl ?_
            refine own_icmpN P2241 (pc' := 254) at_251 (not_not_intro (by decide : (1 : Int32) = (1 : Int32))) rfl ?_
            refine own_aload P2241 at_254 rfl rfl rfl ?_
            refine own_virtP P2241 (hw _ (List.mem_of_getElem? (i := 80) rfl)) (hw _ (List.mem_of_getElem? (i := 81) rfl)) (hw _ (List.mem_of_getElem? (i := 83) rfl)) (hw _ (List.mem_of_getElem? (i := 82) rfl)) (hw _ (List.mem_of_getElem? (i := 2) rfl)) (hw _ (List.mem_of_getElem? (i := 84) rfl)) (by decide) f2251 (argsL := []) (rest := []) (rmSize l Z a0 hw b1680 (2 : Int32) h2243 f2259) at_256 rfl own_pd7 rfl rfl rfl (by decide) 0 rfl (by decide) rfl rfl (by decide) (by decide) (fun T2266 P2265 => ?_)
            show own_Go p e below _ (T2266.setTop (mkF m 259 #[.val (.int i0), .val (.int i1), .val (.int i2), .val (.int i3), .val (.int i4), .val (.int i5), .val (.int i6), .val (.int (0 : Int32)), .val (.ref b1680), .val (.ref b1728), .val (.ref b1770), .val (.int (0 : Int32)), .val (.int (1 : Int32)), .val (.int (3 : Int32)), .val (.int (1 : Int32)), .val (.int (2 : Int32)), .unset, .unset, .unset] [(.int (2 : Int32))]))
            refine own_iload P2265 at_259 rfl rfl ?_
            refine own_icmpN P2265 (pc' := 264) at_261 (not_not_intro (by decide : (2 : Int32) = (2 : Int32))) rfl ?_
            refine own_iconst P2265 at_264 rfl (v := (1 : Int32)) rfl ?_
            refine own_goto P2265 (pc' := 269) at_265 (by decide) (by decide) ?_
            refine own_istore P2265 at_269 rfl (Ls' := #[.val (.int i0), .val (.int i1), .val (.int i2), .val (.int i3), .val (.int i4), .val (.int i5), .val (.int i6), .val (.int (0 : Int32)), .val (.ref b1680), .val (.ref b1728), .val (.ref b1770), .val (.int (0 : Int32)), .val (.int (1 : Int32)), .val (.int (3 : Int32)), .val (.int (1 : Int32)), .val (.int (2 : Int32)), .val (.int (1 : Int32)), .unset, .unset]) rfl ?_
            refine own_aload P2265 at_271 rfl rfl rfl ?_
            refine own_iconst P2265 at_273 rfl (v := (0 : Int32)) rfl ?_
            refine own_virtP P2265 (hw _ (List.mem_of_getElem? (i := 85) rfl)) (hw _ (List.mem_of_getElem? (i := 76) rfl)) (hw _ (List.mem_of_getElem? (i := 78) rfl)) (hw _ (List.mem_of_getElem? (i := 77) rfl)) (hw _ (List.mem_of_getElem? (i := 2) rfl)) (hw _ (List.mem_of_getElem? (i := 79) rfl)) (by decide) f2251 (argsL := [(.int (0 : Int32))]) (rest := []) (rmHolds0 l Z a0 hw b1680 co1703 (3 : Int32) (1 : Int32) (0 : Int32) (0 : Int32) h2243 f2257 f2264) at_274 rfl own_pd6 rfl rfl rfl (by decide) 0 rfl (by decide) rfl rfl (by decide) (by decide) (fun T2272 P2271 => ?_)
            show own_Go p e below _ (T2272.setTop (mkF m 277 #[.val (.int i0), .val (.int i1), .val (.int i2), .val (.int i3), .val (.int i4), .val (.int i5), .val (.int i6), .val (.int (0 : Int32)), .val (.ref b1680), .val (.ref b1728), .val (.ref b1770), .val (.int (0 : Int32)), .val (.int (1 : Int32)), .val (.int (3 : Int32)), .val (.int (1 : Int32)), .val (.int (2 : Int32)), .val (.int (1 : Int32)), .unset, .unset] [(.int (own_ho (3 : Int32)))]))
            rw [show (own_ho (3 : Int32)) = (1 : Int32) by decide]
            refine own_iload P2271 at_277 rfl rfl ?_
            refine own_if0N P2271 (pc' := 282) at_279 (not_not_intro (by decide : (0 : Int32) < (3 : Int32))) rfl ?_
            refine own_iconst P2271 at_282 rfl (v := (1 : Int32)) rfl ?_
            refine own_goto P2271 (pc' := 287) at_283 (by decide) (by decide) ?_
            refine own_icmpN P2271 (pc' := 290) at_287 (not_not_intro (by decide : (1 : Int32) = (1 : Int32))) rfl ?_
            refine own_iconst P2271 at_290 rfl (v := (1 : Int32)) rfl ?_
            refine own_goto P2271 (pc' := 295) at_291 (by decide) (by decide) ?_
            refine own_istore P2271 at_295 rfl (Ls' := #[.val (.int i0), .val (.int i1), .val (.int i2), .val (.int i3), .val (.int i4), .val (.int i5), .val (.int i6), .val (.int (0 : Int32)), .val (.ref b1680), .val (.ref b1728), .val (.ref b1770), .val (.int (0 : Int32)), .val (.int (1 : Int32)), .val (.int (3 : Int32)), .val (.int (1 : Int32)), .val (.int (2 : Int32)), .val (.int (1 : Int32)), .val (.int (1 : Int32)), .unset]) rfl ?_
            refine own_iload P2271 at_297 rfl rfl ?_
            refine own_if0N P2271 (pc' := 302) at_299 (not_not_intro (by decide : (0 : Int32) = (0 : Int32))) rfl ?_
            refine own_aload P2271 at_302 rfl rfl rfl ?_
            refine own_iconst P2271 at_304 rfl (v := (1 : Int32)) rfl ?_
            refine own_virtP P2271 (hw _ (List.mem_of_getElem? (i := 85) rfl)) (hw _ (List.mem_of_getElem? (i := 76) rfl)) (hw _ (List.mem_of_getElem? (i := 78) rfl)) (hw _ (List.mem_of_getElem? (i := 77) rfl)) (hw _ (List.mem_of_getElem? (i := 2) rfl)) (hw _ (List.mem_of_getElem? (i := 79) rfl)) (by decide) f2251 (argsL := [(.int (1 : Int32))]) (rest := []) (rmHolds1 l Z a0 hw b1680 co1703 (3 : Int32) (1 : Int32) (0 : Int32) (0 : Int32) h2243 f2257 f2264) at_305 rfl own_pd6 rfl rfl rfl (by decide) 0 rfl (by decide) rfl rfl (by decide) (by decide) (fun T2278 P2277 => ?_)
            show own_Go p e below _ (T2278.setTop (mkF m 308 #[.val (.int i0), .val (.int i1), .val (.int i2), .val (.int i3), .val (.int i4), .val (.int i5), .val (.int i6), .val (.int (0 : Int32)), .val (.ref b1680), .val (.ref b1728), .val (.ref b1770), .val (.int (0 : Int32)), .val (.int (1 : Int32)), .val (.int (3 : Int32)), .val (.int (1 : Int32)), .val (.int (2 : Int32)), .val (.int (1 : Int32)), .val (.int (1 : Int32)), .unset] [(.int (own_ho (1 : Int32)))]))
            rw [show (own_ho (1 : Int32)) = (1 : Int32) by decide]
            refine own_iload P2277 at_308 rfl rfl ?_
            refine own_if0N P2277 (pc' := 313) at_310 (not_not_intro (by decide : (0 : Int32) < (1 : Int32))) rfl ?_
            refine own_iconst P2277 at_313 rfl (v := (1 : Int32)) rfl ?_
            refine own_goto P2277 (pc' := 318) at_314 (by decide) (by decide) ?_
            refine own_icmpN P2277 (pc' := 321) at_318 (not_not_intro (by decide : (1 : Int32) = (1 : Int32))) rfl ?_
            refine own_iconst P2277 at_321 rfl (v := (1 : Int32)) rfl ?_
            refine own_goto P2277 (pc' := 326) at_322 (by decide) (by decide) ?_
            refine own_istore P2277 at_326 rfl (Ls' := #[.val (.int i0), .val (.int i1), .val (.int i2), .val (.int i3), .val (.int i4), .val (.int i5), .val (.int i6), .val (.int (0 : Int32)), .val (.ref b1680), .val (.ref b1728), .val (.ref b1770), .val (.int (0 : Int32)), .val (.int (1 : Int32)), .val (.int (3 : Int32)), .val (.int (1 : Int32)), .val (.int (2 : Int32)), .val (.int (1 : Int32)), .val (.int (1 : Int32)), .val (.int (1 : Int32))]) rfl ?_
            refine own_iload P2277 at_328 rfl rfl ?_
            refine own_if0N P2277 (pc' := 333) at_330 (by decide : ¬ ((1 : Int32) = (0 : Int32))) rfl ?_
            refine own_iload P2277 at_333 rfl rfl ?_
            refine own_if0N P2277 (pc' := 338) at_335 (by decide : ¬ ((1 : Int32) = (0 : Int32))) rfl ?_
            refine own_iload P2277 at_338 rfl rfl ?_
            refine own_if0N P2277 (pc' := 343) at_340 (by decide : ¬ ((1 : Int32) = (0 : Int32))) rfl ?_
            refine own_iconst P2277 at_343 rfl (v := (1 : Int32)) rfl ?_
            refine own_goto P2277 (pc' := 348) at_344 (by decide) (by decide) ?_
            exact own_retZ P2277 at_348 (z := (1 : Int32)) rfl (by decide) (by decide) (hQ _ _ N2250)
        · rw [if_neg hc2221] at hQ
          refine own_if0N P2196 (pc' := 175) at_172 hc2221 rfl ?_
          refine own_aload P2196 at_175 rfl rfl rfl ?_
          refine own_aload P2196 at_177 rfl rfl rfl ?_
          refine own_virt P2196 (hw _ (List.mem_of_getElem? (i := 65) rfl)) (hw _ (List.mem_of_getElem? (i := 66) rfl)) (hw _ (List.mem_of_getElem? (i := 68) rfl)) (hw _ (List.mem_of_getElem? (i := 67) rfl)) (hw _ (List.mem_of_getElem? (i := 2) rfl)) (hw _ (List.mem_of_getElem? (i := 69) rfl)) (by decide) f2206 (argsL := [(.ref b1770)]) (rest := []) (rmRem1 l Z a0 hw b1680 b1770 ro1702 co1703 bp1704 so1821 i1 i0 i1 (0 : Int32) (0 : Int32) (2 : Int32) (1 : Int32) (0 : Int32) (0 : Int32) (2 : Int32) (own_q i0 i1) (own_s2 i0 i1) h2198 n0 (Nat.le_trans (Nat.le_trans (Nat.le_trans (Nat.le_trans (Nat.le_trans (Nat.le_trans (Nat.le_trans (Nat.le_trans (Nat.le_trans Z0 E1682.1) k1706.1) E1730.1) (Keep.of_wr W1755).1) E1772.1) (Keep.of_wr W1799).1) k1823.1) k1857.1) k2203.1) g1688 g1707 g1708 hg1824 ne1709 ne1710 ne1711 ne1712 ne1713 ne1714 ne1838 ne1839 ne1840 ne1841 ne1777 ne1778 ne1779 ne1780 (Ne.symm ne1843) f2206 f2210 f2211 f2212 f2213 f2214 f2215 f2216 f2217 f2219 f2207 f2218 f2209 (own_l2 i0 i1) rfl (own_b2 i0 i1 hab) (by decide)) at_179 rfl own_pd4 rfl rfl rfl (by decide) 0 rfl (by decide) (by decide) (by decide) (fun T2284 h2285 v2286 L2287 hq2288 P2283 => ?_)
          obtain ⟨rfl, n2289, k2290, f2291⟩ := hq2288
          have N2292 := Fr.app N2205 n2289
          have f2293 := f2206.keep k2290
          have f2294 := f2207.keep k2290 (ninS (Ne.symm ne1714) nin0)
          have f2295 := f2208.keep k2290 (ninS (Ne.symm ne1737) nin0)
          have f2296 := f2209.keep k2290 (ninS (Ne.symm ne1779) nin0)
          have f2297 := f2210.keep k2290 (ninS ne1710 nin0)
          have f2298 := f2211.keep k2290 (ninS ne1710 nin0)
          have f2299 := f2212.keep k2290 (ninS ne1710 nin0)
          have f2300 := f2213.keep k2290 (ninS ne1710 nin0)
          have f2301 := f2214.keep k2290 (ninS ne1710 nin0)
          have f2302 := f2215.keep k2290 (ninS ne1710 nin0)
          have f2303 := f2216.keep k2290 (ninS ne1710 nin0)
          have f2304 := f2217.keep k2290 (ninS ne1711 nin0)
          have f2305 := f2218.keep k2290 (ninS (Ne.symm ne1840) nin0)
          have f2306 : own_Ar Z h2285 co1703 .int [(2 : Int32), (0 : Int32), (0 : Int32), (0 : Int32)] := f2291
          show own_Go p e below _ (T2284.setTop (mkF m 182 #[.val (.int i0), .val (.int i1), .val (.int i2), .val (.int i3), .val (.int i4), .val (.int i5), .val (.int i6), .val (.int (0 : Int32)), .val (.ref b1680), .val (.ref b1728), .val (.ref b1770), .val (.int (0 : Int32)), .val (.int (1 : Int32)), .val (.int (2 : Int32)), .val (.int (1 : Int32)), .unset, .unset, .unset, .unset] [(.int (1 : Int32))]))
          refine own_pop P2283 at_182 rfl rfl ?_
          refine own_iload P2283 at_183 rfl rfl ?_
          refine own_if0Y P2283 (pc' := 197) at_185 (by decide : (0 : Int32) = (0 : Int32)) (by decide) (by decide) ?_
          refine own_iload P2283 at_197 rfl rfl ?_
          refine own_iconst P2283 at_199 rfl (v := (1 : Int32)) rfl ?_
          refine own_isub P2283 at_200 rfl ?_
          rw [show ((1 : Int32) - (1 : Int32)) = (0 : Int32) by decide]
          refine own_istore P2283 at_201 rfl (Ls' := #[.val (.int i0), .val (.int i1), .val (.int i2), .val (.int i3), .val (.int i4), .val (.int i5), .val (.int i6), .val (.int (0 : Int32)), .val (.ref b1680), .val (.ref b1728), .val (.ref b1770), .val (.int (0 : Int32)), .val (.int (1 : Int32)), .val (.int (2 : Int32)), .val (.int (0 : Int32)), .unset, .unset, .unset, .unset]) rfl ?_
          refine own_iload P2283 at_203 rfl rfl ?_
          by_cases hc2307 : i6 = (0 : Int32)
          · rw [if_pos hc2307] at hQ
            refine own_if0Y P2283 (pc' := 222) at_205 hc2307 (by decide) (by decide) ?_
            refine own_iload P2283 at_222 rfl rfl ?_
            refine own_if0Y P2283 (pc' := 231) at_224 (by decide : (0 : Int32) = (0 : Int32)) (by decide) (by decide) ?_
            refine own_iconst P2283 at_231 rfl (v := (2 : Int32)) rfl ?_
            refine own_istore P2283 at_232 rfl (Ls' := #[.val (.int i0), .val (.int i1), .val (.int i2), .val (.int i3), .val (.int i4), .val (.int i5), .val (.int i6), .val (.int (0 : Int32)), .val (.ref b1680), .val (.ref b1728), .val (.ref b1770), .val (.int (0 : Int32)), .val (.int (1 : Int32)), .val (.int (2 : Int32)), .val (.int (0 : Int32)), .val (.int (2 : Int32)), .unset, .unset, .unset]) rfl ?_
            refine own_iload P2283 at_234 rfl rfl ?_
            refine own_if0N P2283 (pc' := 239) at_236 (not_not_intro (by decide : (0 : Int32) = (0 : Int32))) rfl ?_
            refine own_iload P2283 at_239 rfl rfl ?_
            refine own_iload P2283 at_241 rfl rfl ?_
            refine own_if0Y P2283 (pc' := 250) at_243 (by decide : (0 : Int32) = (0 : Int32)) (by decide) (by decide) ?_
            refine own_iconst P2283 at_250 rfl (v := (1 : Int32)) rfl ?_
            refine own_icmpN P2283 (pc' := 254) at_251 (not_not_intro (by decide : (1 : Int32) = (1 : Int32))) rfl ?_
            refine own_aload P2283 at_254 rfl rfl rfl ?_
            refine own_virtP P2283 (hw _ (List.mem_of_getElem? (i := 80) rfl)) (hw _ (List.mem_of_getElem? (i := 81) rfl)) (hw _ (List.mem_of_getElem? (i := 83) rfl)) (hw _ (List.mem_of_getElem? (i := 82) rfl)) (hw _ (List.mem_of_getElem? (i := 2) rfl)) (hw _ (List.mem_of_getElem? (i := 84) rfl)) (by decide) f2293 (argsL := []) (rest := []) (rmSize l Z a0 hw b1680 (2 : Int32) h2285 f2301) at_256 rfl own_pd7 rfl rfl rfl (by decide) 0 rfl (by decide) rfl rfl (by decide) (by decide) (fun T2309 P2308 => ?_)
            show own_Go p e below _ (T2309.setTop (mkF m 259 #[.val (.int i0), .val (.int i1), .val (.int i2), .val (.int i3), .val (.int i4), .val (.int i5), .val (.int i6), .val (.int (0 : Int32)), .val (.ref b1680), .val (.ref b1728), .val (.ref b1770), .val (.int (0 : Int32)), .val (.int (1 : Int32)), .val (.int (2 : Int32)), .val (.int (0 : Int32)), .val (.int (2 : Int32)), .unset, .unset, .unset] [(.int (2 : Int32))]))
            refine own_iload P2308 at_259 rfl rfl ?_
            refine own_icmpN P2308 (pc' := 264) at_261 (not_not_intro (by decide : (2 : Int32) = (2 : Int32))) rfl ?_
            refine own_iconst P2308 at_264 rfl (v := (1 : Int32)) rfl ?_
            refine own_goto P2308 (pc' := 269) at_265 (by decide) (by decide) ?_
            refine own_istore P2308 at_269 rfl (Ls' := #[.val (.int i0), .val (.int i1), .val (.int i2), .val (.int i3), .val (.int i4), .val (.int i5), .val (.int i6), .val (.int (0 : Int32)), .val (.ref b1680), .val (.ref b1728), .val (.ref b1770), .val (.int (0 : Int32)), .val (.int (1 : Int32)), .val (.int (2 : Int32)), .val (.int (0 : Int32)), .val (.int (2 : Int32)), .val (.int (1 : Int32)), .unset, .unset]) rfl ?_
            refine own_aload P2308 at_271 rfl rfl rfl ?_
            refine own_iconst P2308 at_273 rfl (v := (0 : Int32)) rfl ?_
            refine own_virtP P2308 (hw _ (List.mem_of_getElem? (i := 85) rfl)) (hw _ (List.mem_of_getElem? (i := 76) rfl)) (hw _ (List.mem_of_getElem? (i := 78) rfl)) (hw _ (List.mem_of_getElem? (i := 77) rfl)) (hw _ (List.mem_of_getElem? (i := 2) rfl)) (hw _ (List.mem_of_getElem? (i := 79) rfl)) (by decide) f2293 (argsL := [(.int (0 : Int32))]) (rest := []) (rmHolds0 l Z a0 hw b1680 co1703 (2 : Int32) (0 : Int32) (0 : Int32) (0 : Int32) h2285 f2299 f2306) at_274 rfl own_pd6 rfl rfl rfl (by decide) 0 rfl (by decide) rfl rfl (by decide) (by decide) (fun T2315 P2314 => ?_)
            show own_Go p e below _ (T2315.setTop (mkF m 277 #[.val (.int i0), .val (.int i1), .val (.int i2), .val (.int i3), .val (.int i4), .val (.int i5), .val (.int i6), .val (.int (0 : Int32)), .val (.ref b1680), .val (.ref b1728), .val (.ref b1770), .val (.int (0 : Int32)), .val (.int (1 : Int32)), .val (.int (2 : Int32)), .val (.int (0 : Int32)), .val (.int (2 : Int32)), .val (.int (1 : Int32)), .unset, .unset] [(.int (own_ho (2 : Int32)))]))
            rw [show (own_ho (2 : Int32)) = (1 : Int32) by decide]
            refine own_iload P2314 at_277 rfl rfl ?_
            refine own_if0N P2314 (pc' := 282) at_279 (not_not_intro (by decide : (0 : Int32) < (2 : Int32))) rfl ?_
            refine own_iconst P2314 at_282 rfl (v := (1 : Int32)) rfl ?_
            refine own_goto P2314 (pc' := 287) at_283 (by decide) (by decide) ?_
            refine own_icmpN P2314 (pc' := 290) at_287 (not_not_intro (by decide : (1 : Int32) = (1 : Int32))) rfl ?_
            refine own_iconst P2314 at_290 rfl (v := (1 : Int32)) rfl ?_
            refine own_goto P2314 (pc' := 295) at_291 (by decide) (by decide) ?_
            refine own_istore P2314 at_295 rfl (Ls' := #[.val (.int i0), .val (.int i1), .val (.int i2), .val (.int i3), .val (.int i4), .val (.int i5), .val (.int i6), .val (.int (0 : Int32)), .val (.ref b1680), .val (.ref b1728), .val (.ref b1770), .val (.int (0 : Int32)), .val (.int (1 : Int32)), .val (.int (2 : Int32)), .val (.int (0 : Int32)), .val (.int (2 : Int32)), .val (.int (1 : Int32)), .val (.int (1 : Int32)), .unset]) rfl ?_
            refine own_iload P2314 at_297 rfl rfl ?_
            refine own_if0N P2314 (pc' := 302) at_299 (not_not_intro (by decide : (0 : Int32) = (0 : Int32))) rfl ?_
            refine own_aload P2314 at_302 rfl rfl rfl ?_
            refine own_iconst P2314 at_304 rfl (v := (1 : Int32)) rfl ?_
            refine own_virtP P2314 (hw _ (List.mem_of_getElem? (i := 85) rfl)) (hw _ (List.mem_of_getElem? (i := 76) rfl)) (hw _ (List.mem_of_getElem? (i := 78) rfl)) (hw _ (List.mem_of_getElem? (i := 77) rfl)) (hw _ (List.mem_of_getElem? (i := 2) rfl)) (hw _ (List.mem_of_getElem? (i := 79) rfl)) (by decide) f2293 (argsL := [(.int (1 : Int32))]) (rest := []) (rmHolds1 l Z a0 hw b1680 co1703 (2 : Int32) (0 : Int32) (0 : Int32) (0 : Int32) h2285 f2299 f2306) at_305 rfl own_pd6 rfl rfl rfl (by decide) 0 rfl (by decide) rfl rfl (by decide) (by decide) (fun T2321 P2320 => ?_)
            show own_Go p e below _ (T2321.setTop (mkF m 308 #[.val (.int i0), .val (.int i1), .val (.int i2), .val (.int i3), .val (.int i4), .val (.int i5), .val (.int i6), .val (.int (0 : Int32)), .val (.ref b1680), .val (.ref b1728), .val (.ref b1770), .val (.int (0 : Int32)), .val (.int (1 : Int32)), .val (.int (2 : Int32)), .val (.int (0 : Int32)), .val (.int (2 : Int32)), .val (.int (1 : Int32)), .val (.int (1 : Int32)), .unset] [(.int (own_ho (0 : Int32)))]))
            rw [show (own_ho (0 : Int32)) = (0 : Int32) by decide]
            refine own_iload P2320 at_308 rfl rfl ?_
            refine own_if0Y P2320 (pc' := 317) at_310 (by decide : ¬ ((0 : Int32) < (0 : Int32))) (by decide) (by decide) ?_
            refine own_iconst P2320 at_317 rfl (v := (0 : Int32)) rfl ?_
            refine own_icmpN P2320 (pc' := 321) at_318 (not_not_intro (by decide : (0 : Int32) = (0 : Int32))) rfl ?_
            refine own_iconst P2320 at_321 rfl (v := (1 : Int32)) rfl ?_
            refine own_goto P2320 (pc' := 326) at_322 (by decide) (by decide) ?_
            refine own_istore P2320 at_326 rfl (Ls' := #[.val (.int i0), .val (.int i1), .val (.int i2), .val (.int i3), .val (.int i4), .val (.int i5), .val (.int i6), .val (.int (0 : Int32)), .val (.ref b1680), .val (.ref b1728), .val (.ref b1770), .val (.int (0 : Int32)), .val (.int (1 : Int32)), .val (.int (2 : Int32)), .val (.int (0 : Int32)), .val (.int (2 : Int32)), .val (.int (1 : Int32)), .val (.int (1 : Int32)), .val (.int (1 : Int32))]) rfl ?_
            refine own_iload P2320 at_328 rfl rfl ?_
            refine own_if0N P2320 (pc' := 333) at_330 (by decide : ¬ ((1 : Int32) = (0 : Int32))) rfl ?_
            refine own_iload P2320 at_333 rfl rfl ?_
            refine own_if0N P2320 (pc' := 338) at_335 (by decide : ¬ ((1 : Int32) = (0 : Int32))) rfl ?_
            refine own_iload P2320 at_338 rfl rfl ?_
            refine own_if0N P2320 (pc' := 343) at_340 (by decide : ¬ ((1 : Int32) = (0 : Int32))) rfl ?_
            refine own_iconst P2320 at_343 rfl (v := (1 : Int32)) rfl ?_
            refine own_goto P2320 (pc' := 348) at_344 (by decide) (by decide) ?_
            exact own_retZ P2320 at_348 (z := (1 : Int32)) rfl (by decide) (by decide) (hQ _ _ N2292)
          · rw [if_neg hc2307] at hQ
            refine own_if0N P2283 (pc' := 208) at_205 hc2307 rfl ?_
            refine own_aload P2283 at_208 rfl rfl rfl ?_
            refine own_aload P2283 at_210 rfl rfl rfl ?_
            refine own_virt P2283 (hw _ (List.mem_of_getElem? (i := 20) rfl)) (hw _ (List.mem_of_getElem? (i := 21) rfl)) (hw _ (List.mem_of_getElem? (i := 23) rfl)) (hw _ (List.mem_of_getElem? (i := 22) rfl)) (hw _ (List.mem_of_getElem? (i := 2) rfl)) (hw _ (List.mem_of_getElem? (i := 24) rfl)) (by decide) f2293 (argsL := [(.ref b1728)]) (rest := []) (rmAddA l Z a0 hw b1680 b1728 ro1702 co1703 bp1704 so1821 i0 i0 i1 (0 : Int32) (0 : Int32) (2 : Int32) (0 : Int32) (0 : Int32) (0 : Int32) (2 : Int32) (own_q i0 i1) (own_s2 i0 i1) h2285 n0 (Nat.le_trans (Nat.le_trans (Nat.le_trans (Nat.le_trans (Nat.le_trans (Nat.le_trans (Nat.le_trans (Nat.le_trans (Nat.le_trans (Nat.le_trans Z0 E1682.1) k1706.1) E1730.1) (Keep.of_wr W1755).1) E1772.1) (Keep.of_wr W1799).1) k1823.1) k1857.1) k2203.1) k2290.1) g1688 g1707 g1708 hg1824 ne1709 ne1710 ne1711 ne1712 ne1713 ne1714 ne1838 ne1839 ne1840 ne1841 ne1735 ne1736 ne1737 ne1738 (Ne.symm ne1842) f2293 f2297 f2298 f2299 f2300 f2301 f2302 f2303 f2304 f2306 f2294 f2305 f2295 (own_l2 i0 i1) rfl (own_a2 i0 i1 hab)) at_212 rfl own_pd4 rfl rfl rfl (by decide) 0 rfl (by decide) (by decide) (by decide) (fun T2327 h2328 v2329 L2330 hq2331 P2326 => ?_)
            obtain ⟨rfl, n2332, k2333, f2334⟩ := hq2331
            have N2335 := Fr.app N2292 n2332
            have f2336 := f2293.keep k2333
            have f2337 := f2294.keep k2333 (ninS (Ne.symm ne1714) nin0)
            have f2338 := f2295.keep k2333 (ninS (Ne.symm ne1737) nin0)
            have f2339 := f2296.keep k2333 (ninS (Ne.symm ne1779) nin0)
            have f2340 := f2297.keep k2333 (ninS ne1710 nin0)
            have f2341 := f2298.keep k2333 (ninS ne1710 nin0)
            have f2342 := f2299.keep k2333 (ninS ne1710 nin0)
            have f2343 := f2300.keep k2333 (ninS ne1710 nin0)
            have f2344 := f2301.keep k2333 (ninS ne1710 nin0)
            have f2345 := f2302.keep k2333 (ninS ne1710 nin0)
            have f2346 := f2303.keep k2333 (ninS ne1710 nin0)
            have f2347 := f2304.keep k2333 (ninS ne1711 nin0)
            have f2348 := f2305.keep k2333 (ninS (Ne.symm ne1840) nin0)
            have f2349 : own_Ar Z h2328 co1703 .int [(3 : Int32), (0 : Int32), (0 : Int32), (0 : Int32)] := f2334
            show own_Go p e below _ (T2327.setTop (mkF m 215 #[.val (.int i0), .val (.int i1), .val (.int i2), .val (.int i3), .val (.int i4), .val (.int i5), .val (.int i6), .val (.int (0 : Int32)), .val (.ref b1680), .val (.ref b1728), .val (.ref b1770), .val (.int (0 : Int32)), .val (.int (1 : Int32)), .val (.int (2 : Int32)), .val (.int (0 : Int32)), .unset, .unset, .unset, .unset] [(.int (0 : Int32))]))
            refine own_pop P2326 at_215 rfl rfl ?_
            refine own_iload P2326 at_216 rfl rfl ?_
            refine own_iconst P2326 at_218 rfl (v := (1 : Int32)) rfl ?_
            refine own_iadd P2326 at_219 rfl ?_
            rw [show ((2 : Int32) + (1 : Int32)) = (3 : Int32) by decide]
            refine own_istore P2326 at_220 rfl (Ls' := #[.val (.int i0), .val (.int i1), .val (.int i2), .val (.int i3), .val (.int i4), .val (.int i5), .val (.int i6), .val (.int (0 : Int32)), .val (.ref b1680), .val (.ref b1728), .val (.ref b1770), .val (.int (0 : Int32)), .val (.int (1 : Int32)), .val (.int (3 : Int32)), .val (.int (0 : Int32)), .unset, .unset, .unset, .unset]) rfl ?_
            refine own_iload P2326 at_222 rfl rfl ?_
            refine own_if0Y P2326 (pc' := 231) at_224 (by decide : (0 : Int32) = (0 : Int32)) (by decide) (by decide) ?_
            refine own_iconst P2326 at_231 rfl (v := (2 : Int32)) rfl ?_
            refine own_istore P2326 at_232 rfl (Ls' := #[.val (.int i0), .val (.int i1), .val (.int i2), .val (.int i3), .val (.int i4), .val (.int i5), .val (.int i6), .val (.int (0 : Int32)), .val (.ref b1680), .val (.ref b1728), .val (.ref b1770), .val (.int (0 : Int32)), .val (.int (1 : Int32)), .val (.int (3 : Int32)), .val (.int (0 : Int32)), .val (.int (2 : Int32)), .unset, .unset, .unset]) rfl ?_
            refine own_iload P2326 at_234 rfl rfl ?_
            refine own_if0N P2326 (pc' := 239) at_236 (not_not_intro (by decide : (0 : Int32) = (0 : Int32))) rfl ?_
            refine own_iload P2326 at_239 rfl rfl ?_
            refine own_iload P2326 at_241 rfl rfl ?_
            refine own_if0Y P2326 (pc' := 250) at_243 (by decide : (0 : Int32) = (0 : Int32)) (by decide) (by decide) ?_
            refine own_iconst P2326 at_250 rfl (v := (1 : Int32)) rfl ?_
            refine own_icmpN P2326 (pc' := 254) at_251 (not_not_intro (by decide : (1 : Int32) = (1 : Int32))) rfl ?_
            refine own_aload P2326 at_254 rfl rfl rfl ?_
            refine own_virtP P2326 (hw _ (List.mem_of_getElem? (i := 80) rfl)) (hw _ (List.mem_of_getElem? (i := 81) rfl)) (hw _ (List.mem_of_getElem? (i := 83) rfl)) (hw _ (List.mem_of_getElem? (i := 82) rfl)) (hw _ (List.mem_of_getElem? (i := 2) rfl)) (hw _ (List.mem_of_getElem? (i := 84) rfl)) (by decide) f2336 (argsL := []) (rest := []) (rmSize l Z a0 hw b1680 (2 : Int32) h2328 f2344) at_256 rfl own_pd7 rfl rfl rfl (by decide) 0 rfl (by decide) rfl rfl (by decide) (by decide) (fun T2351 P2350 => ?_)
            show own_Go p e below _ (T2351.setTop (mkF m 259 #[.val (.int i0), .val (.int i1), .val (.int i2), .val (.int i3), .val (.int i4), .val (.int i5), .val (.int i6), .val (.int (0 : Int32)), .val (.ref b1680), .val (.ref b1728), .val (.ref b1770), .val (.int (0 : Int32)), .val (.int (1 : Int32)), .val (.int (3 : Int32)), .val (.int (0 : Int32)), .val (.int (2 : Int32)), .unset, .unset, .unset] [(.int (2 : Int32))]))
            refine own_iload P2350 at_259 rfl rfl ?_
            refine own_icmpN P2350 (pc' := 264) at_261 (not_not_intro (by decide : (2 : Int32) = (2 : Int32))) rfl ?_
            refine own_iconst P2350 at_264 rfl (v := (1 : Int32)) rfl ?_
            refine own_goto P2350 (pc' := 269) at_265 (by decide) (by decide) ?_
            refine own_istore P2350 at_269 rfl (Ls' := #[.val (.int i0), .val (.int i1), .val (.int i2), .val (.int i3), .val (.int i4), .val (.int i5), .val (.int i6), .val (.int (0 : Int32)), .val (.ref b1680), .val (.ref b1728), .val (.ref b1770), .val (.int (0 : Int32)), .val (.int (1 : Int32)), .val (.int (3 : Int32)), .val (.int (0 : Int32)), .val (.int (2 : Int32)), .val (.int (1 : Int32)), .unset, .unset]) rfl ?_
            refine own_aload P2350 at_271 rfl rfl rfl ?_
            refine own_iconst P2350 at_273 rfl (v := (0 : Int32)) rfl ?_
            refine own_virtP P2350 (hw _ (List.mem_of_getElem? (i := 85) rfl)) (hw _ (List.mem_of_getElem? (i := 76) rfl)) (hw _ (List.mem_of_getElem? (i := 78) rfl)) (hw _ (List.mem_of_getElem? (i := 77) rfl)) (hw _ (List.mem_of_getElem? (i := 2) rfl)) (hw _ (List.mem_of_getElem? (i := 79) rfl)) (by decide) f2336 (argsL := [(.int (0 : Int32))]) (rest := []) (rmHolds0 l Z a0 hw b1680 co1703 (3 : Int32) (0 : Int32) (0 : Int32) (0 : Int32) h2328 f2342 f2349) at_274 rfl own_pd6 rfl rfl rfl (by decide) 0 rfl (by decide) rfl rfl (by decide) (by decide) (fun T2357 P2356 => ?_)
            show own_Go p e below _ (T2357.setTop (mkF m 277 #[.val (.int i0), .val (.int i1), .val (.int i2), .val (.int i3), .val (.int i4), .val (.int i5), .val (.int i6), .val (.int (0 : Int32)), .val (.ref b1680), .val (.ref b1728), .val (.ref b1770), .val (.int (0 : Int32)), .val (.int (1 : Int32)), .val (.int (3 : Int32)), .val (.int (0 : Int32)), .val (.int (2 : Int32)), .val (.int (1 : Int32)), .unset, .unset] [(.int (own_ho (3 : Int32)))]))
            rw [show (own_ho (3 : Int32)) = (1 : Int32) by decide]
            refine own_iload P2356 at_277 rfl rfl ?_
            refine own_if0N P2356 (pc' := 282) at_279 (not_not_intro (by decide : (0 : Int32) < (3 : Int32))) rfl ?_
            refine own_iconst P2356 at_282 rfl (v := (1 : Int32)) rfl ?_
            refine own_goto P2356 (pc' := 287) at_283 (by decide) (by decide) ?_
            refine own_icmpN P2356 (pc' := 290) at_287 (not_not_intro (by decide : (1 : Int32) = (1 : Int32))) rfl ?_
            refine own_iconst P2356 at_290 rfl (v := (1 : Int32)) rfl ?_
            refine own_goto P2356 (pc' := 295) at_291 (by decide) (by decide) ?_
            refine own_istore P2356 at_295 rfl (Ls' := #[.val (.int i0), .val (.int i1), .val (.int i2), .val (.int i3), .val (.int i4), .val (.int i5), .val (.int i6), .val (.int (0 : Int32)), .val (.ref b1680), .val (.ref b1728), .val (.ref b1770), .val (.int (0 : Int32)), .val (.int (1 : Int32)), .val (.int (3 : Int32)), .val (.int (0 : Int32)), .val (.int (2 : Int32)), .val (.int (1 : Int32)), .val (.int (1 : Int32)), .unset]) rfl ?_
            refine own_iload P2356 at_297 rfl rfl ?_
            refine own_if0N P2356 (pc' := 302) at_299 (not_not_intro (by decide : (0 : Int32) = (0 : Int32))) rfl ?_
            refine own_aload P2356 at_302 rfl rfl rfl ?_
            refine own_iconst P2356 at_304 rfl (v := (1 : Int32)) rfl ?_
            refine own_virtP P2356 (hw _ (List.mem_of_getElem? (i := 85) rfl)) (hw _ (List.mem_of_getElem? (i := 76) rfl)) (hw _ (List.mem_of_getElem? (i := 78) rfl)) (hw _ (List.mem_of_getElem? (i := 77) rfl)) (hw _ (List.mem_of_getElem? (i := 2) rfl)) (hw _ (List.mem_of_getElem? (i := 79) rfl)) (by decide) f2336 (argsL := [(.int (1 : Int32))]) (rest := []) (rmHolds1 l Z a0 hw b1680 co1703 (3 : Int32) (0 : Int32) (0 : Int32) (0 : Int32) h2328 f2342 f2349) at_305 rfl own_pd6 rfl rfl rfl (by decide) 0 rfl (by decide) rfl rfl (by decide) (by decide) (fun T2363 P2362 => ?_)
            show own_Go p e below _ (T2363.setTop (mkF m 308 #[.val (.int i0), .val (.int i1), .val (.int i2), .val (.int i3), .val (.int i4), .val (.int i5), .val (.int i6), .val (.int (0 : Int32)), .val (.ref b1680), .val (.ref b1728), .val (.ref b1770), .val (.int (0 : Int32)), .val (.int (1 : Int32)), .val (.int (3 : Int32)), .val (.int (0 : Int32)), .val (.int (2 : Int32)), .val (.int (1 : Int32)), .val (.int (1 : Int32)), .unset] [(.int (own_ho (0 : Int32)))]))
            rw [show (own_ho (0 : Int32)) = (0 : Int32) by decide]
            refine own_iload P2362 at_308 rfl rfl ?_
            refine own_if0Y P2362 (pc' := 317) at_310 (by decide : ¬ ((0 : Int32) < (0 : Int32))) (by decide) (by decide) ?_
            refine own_iconst P2362 at_317 rfl (v := (0 : Int32)) rfl ?_
            refine own_icmpN P2362 (pc' := 321) at_318 (not_not_intro (by decide : (0 : Int32) = (0 : Int32))) rfl ?_
            refine own_iconst P2362 at_321 rfl (v := (1 : Int32)) rfl ?_
            refine own_goto P2362 (pc' := 326) at_322 (by decide) (by decide) ?_
            refine own_istore P2362 at_326 rfl (Ls' := #[.val (.int i0), .val (.int i1), .val (.int i2), .val (.int i3), .val (.int i4), .val (.int i5), .val (.int i6), .val (.int (0 : Int32)), .val (.ref b1680), .val (.ref b1728), .val (.ref b1770), .val (.int (0 : Int32)), .val (.int (1 : Int32)), .val (.int (3 : Int32)), .val (.int (0 : Int32)), .val (.int (2 : Int32)), .val (.int (1 : Int32)), .val (.int (1 : Int32)), .val (.int (1 : Int32))]) rfl ?_
            refine own_iload P2362 at_328 rfl rfl ?_
            refine own_if0N P2362 (pc' := 333) at_330 (by decide : ¬ ((1 : Int32) = (0 : Int32))) rfl ?_
            refine own_iload P2362 at_333 rfl rfl ?_
            refine own_if0N P2362 (pc' := 338) at_335 (by decide : ¬ ((1 : Int32) = (0 : Int32))) rfl ?_
            refine own_iload P2362 at_338 rfl rfl ?_
            refine own_if0N P2362 (pc' := 343) at_340 (by decide : ¬ ((1 : Int32) = (0 : Int32))) rfl ?_
            refine own_iconst P2362 at_343 rfl (v := (1 : Int32)) rfl ?_
            refine own_goto P2362 (pc' := 348) at_344 (by decide) (by decide) ?_
            exact own_retZ P2362 at_348 (z := (1 : Int32)) rfl (by decide) (by decide) (hQ _ _ N2335)
      · rw [if_neg hc2220] at hQ
        refine own_if0N P2196 (pc' := 156) at_153 hc2220 rfl ?_
        refine own_aload P2196 at_156 rfl rfl rfl ?_
        refine own_aload P2196 at_158 rfl rfl rfl ?_
        refine own_virt P2196 (hw _ (List.mem_of_getElem? (i := 65) rfl)) (hw _ (List.mem_of_getElem? (i := 66) rfl)) (hw _ (List.mem_of_getElem? (i := 68) rfl)) (hw _ (List.mem_of_getElem? (i := 67) rfl)) (hw _ (List.mem_of_getElem? (i := 2) rfl)) (hw _ (List.mem_of_getElem? (i := 69) rfl)) (by decide) f2206 (argsL := [(.ref b1728)]) (rest := []) (rmRem0 l Z a0 hw b1680 b1728 ro1702 co1703 bp1704 so1821 i0 i0 i1 (0 : Int32) (0 : Int32) (2 : Int32) (1 : Int32) (0 : Int32) (0 : Int32) (2 : Int32) (own_q i0 i1) (own_s2 i0 i1) h2198 n0 (Nat.le_trans (Nat.le_trans (Nat.le_trans (Nat.le_trans (Nat.le_trans (Nat.le_trans (Nat.le_trans (Nat.le_trans (Nat.le_trans Z0 E1682.1) k1706.1) E1730.1) (Keep.of_wr W1755).1) E1772.1) (Keep.of_wr W1799).1) k1823.1) k1857.1) k2203.1) g1688 g1707 g1708 hg1824 ne1709 ne1710 ne1711 ne1712 ne1713 ne1714 ne1838 ne1839 ne1840 ne1841 ne1735 ne1736 ne1737 ne1738 (Ne.symm ne1842) f2206 f2210 f2211 f2212 f2213 f2214 f2215 f2216 f2217 f2219 f2207 f2218 f2208 (own_l2 i0 i1) rfl (own_a2 i0 i1 hab) (by decide)) at_160 rfl own_pd4 rfl rfl rfl (by decide) 0 rfl (by decide) (by decide) (by decide) (fun T2369 h2370 v2371 L2372 hq2373 P2368 => ?_)
        obtain ⟨rfl, n2374, k2375, f2376⟩ := hq2373
        have N2377 := Fr.app N2205 n2374
        have f2378 := f2206.keep k2375
        have f2379 := f2207.keep k2375 (ninS (Ne.symm ne1714) nin0)
        have f2380 := f2208.keep k2375 (ninS (Ne.symm ne1737) nin0)
        have f2381 := f2209.keep k2375 (ninS (Ne.symm ne1779) nin0)
        have f2382 := f2210.keep k2375 (ninS ne1710 nin0)
        have f2383 := f2211.keep k2375 (ninS ne1710 nin0)
        have f2384 := f2212.keep k2375 (ninS ne1710 nin0)
        have f2385 := f2213.keep k2375 (ninS ne1710 nin0)
        have f2386 := f2214.keep k2375 (ninS ne1710 nin0)
        have f2387 := f2215.keep k2375 (ninS ne1710 nin0)
        have f2388 := f2216.keep k2375 (ninS ne1710 nin0)
        have f2389 := f2217.keep k2375 (ninS ne1711 nin0)
        have f2390 := f2218.keep k2375 (ninS (Ne.symm ne1840) nin0)
        have f2391 : own_Ar Z h2370 co1703 .int [(1 : Int32), (1 : Int32), (0 : Int32), (0 : Int32)] := f2376
        show own_Go p e below _ (T2369.setTop (mkF m 163 #[.val (.int i0), .val (.int i1), .val (.int i2), .val (.int i3), .val (.int i4), .val (.int i5), .val (.int i6), .val (.int (0 : Int32)), .val (.ref b1680), .val (.ref b1728), .val (.ref b1770), .val (.int (0 : Int32)), .val (.int (1 : Int32)), .val (.int (2 : Int32)), .val (.int (1 : Int32)), .unset, .unset, .unset, .unset] [(.int (0 : Int32))]))
        refine own_pop P2368 at_163 rfl rfl ?_
        refine own_iload P2368 at_164 rfl rfl ?_
        refine own_iconst P2368 at_166 rfl (v := (1 : Int32)) rfl ?_
        refine own_isub P2368 at_167 rfl ?_
        rw [show ((2 : Int32) - (1 : Int32)) = (1 : Int32) by decide]
        refine own_istore P2368 at_168 rfl (Ls' := #[.val (.int i0), .val (.int i1), .val (.int i2), .val (.int i3), .val (.int i4), .val (.int i5), .val (.int i6), .val (.int (0 : Int32)), .val (.ref b1680), .val (.ref b1728), .val (.ref b1770), .val (.int (0 : Int32)), .val (.int (1 : Int32)), .val (.int (1 : Int32)), .val (.int (1 : Int32)), .unset, .unset, .unset, .unset]) rfl ?_
        refine own_iload P2368 at_170 rfl rfl ?_
        by_cases hc2392 : i5 = (0 : Int32)
        · rw [if_pos hc2392] at hQ
          refine own_if0Y P2368 (pc' := 203) at_172 hc2392 (by decide) (by decide) ?_
          refine own_iload P2368 at_203 rfl rfl ?_
          by_cases hc2393 : i6 = (0 : Int32)
          · rw [if_pos hc2393] at hQ
            refine own_if0Y P2368 (pc' := 222) at_205 hc2393 (by decide) (by decide) ?_
            refine own_iload P2368 at_222 rfl rfl ?_
            refine own_if0Y P2368 (pc' := 231) at_224 (by decide : (0 : Int32) = (0 : Int32)) (by decide) (by decide) ?_
            refine own_iconst P2368 at_231 rfl (v := (2 : Int32)) rfl ?_
            refine own_istore P2368 at_232 rfl (Ls' := #[.val (.int i0), .val (.int i1), .val (.int i2), .val (.int i3), .val (.int i4), .val (.int i5), .val (.int i6), .val (.int (0 : Int32)), .val (.ref b1680), .val (.ref b1728), .val (.ref b1770), .val (.int (0 : Int32)), .val (.int (1 : Int32)), .val (.int (1 : Int32)), .val (.int (1 : Int32)), .val (.int (2 : Int32)), .unset, .unset, .unset]) rfl ?_
            refine own_iload P2368 at_234 rfl rfl ?_
            refine own_if0N P2368 (pc' := 239) at_236 (not_not_intro (by decide : (0 : Int32) = (0 : Int32))) rfl ?_
            refine own_iload P2368 at_239 rfl rfl ?_
            refine own_iload P2368 at_241 rfl rfl ?_
            refine own_if0Y P2368 (pc' := 250) at_243 (by decide : (0 : Int32) = (0 : Int32)) (by decide) (by decide) ?_
            refine own_iconst P2368 at_250 rfl (v := (1 : Int32)) rfl ?_
            refine own_icmpN P2368 (pc' := 254) at_251 (not_not_intro (by decide : (1 : Int32) = (1 : Int32))) rfl ?_
            refine own_aload P2368 at_254 rfl rfl rfl ?_
            refine own_virtP P2368 (hw _ (List.mem_of_getElem? (i := 80) rfl)) (hw _ (List.mem_of_getElem? (i := 81) rfl)) (hw _ (List.mem_of_getElem? (i := 83) rfl)) (hw _ (List.mem_of_getElem? (i := 82) rfl)) (hw _ (List.mem_of_getElem? (i := 2) rfl)) (hw _ (List.mem_of_getElem? (i := 84) rfl)) (by decide) f2378 (argsL := []) (rest := []) (rmSize l Z a0 hw b1680 (2 : Int32) h2370 f2386) at_256 rfl own_pd7 rfl rfl rfl (by decide) 0 rfl (by decide) rfl rfl (by decide) (by decide) (fun T2395 P2394 => ?_)
            show own_Go p e below _ (T2395.setTop (mkF m 259 #[.val (.int i0), .val (.int i1), .val (.int i2), .val (.int i3), .val (.int i4), .val (.int i5), .val (.int i6), .val (.int (0 : Int32)), .val (.ref b1680), .val (.ref b1728), .val (.ref b1770), .val (.int (0 : Int32)), .val (.int (1 : Int32)), .val (.int (1 : Int32)), .val (.int (1 : Int32)), .val (.int (2 : Int32)), .unset, .unset, .unset] [(.int (2 : Int32))]))
            refine own_iload P2394 at_259 rfl rfl ?_
            refine own_icmpN P2394 (pc' := 264) at_261 (not_not_intro (by decide : (2 : Int32) = (2 : Int32))) rfl ?_
            refine own_iconst P2394 at_264 rfl (v := (1 : Int32)) rfl ?_
            refine own_goto P2394 (pc' := 269) at_265 (by decide) (by decide) ?_
            refine own_istore P2394 at_269 rfl (Ls' := #[.val (.int i0), .val (.int i1), .val (.int i2), .val (.int i3), .val (.int i4), .val (.int i5), .val (.int i6), .val (.int (0 : Int32)), .val (.ref b1680), .val (.ref b1728), .val (.ref b1770), .val (.int (0 : Int32)), .val (.int (1 : Int32)), .val (.int (1 : Int32)), .val (.int (1 : Int32)), .val (.int (2 : Int32)), .val (.int (1 : Int32)), .unset, .unset]) rfl ?_
            refine own_aload P2394 at_271 rfl rfl rfl ?_
            refine own_iconst P2394 at_273 rfl (v := (0 : Int32)) rfl ?_
            refine own_virtP P2394 (hw _ (List.mem_of_getElem? (i := 85) rfl)) (hw _ (List.mem_of_getElem? (i := 76) rfl)) (hw _ (List.mem_of_getElem? (i := 78) rfl)) (hw _ (List.mem_of_getElem? (i := 77) rfl)) (hw _ (List.mem_of_getElem? (i := 2) rfl)) (hw _ (List.mem_of_getElem? (i := 79) rfl)) (by decide) f2378 (argsL := [(.int (0 : Int32))]) (rest := []) (rmHolds0 l Z a0 hw b1680 co1703 (1 : Int32) (1 : Int32) (0 : Int32) (0 : Int32) h2370 f2384 f2391) at_274 rfl own_pd6 rfl rfl rfl (by decide) 0 rfl (by decide) rfl rfl (by decide) (by decide) (fun T2401 P2400 => ?_)
            show own_Go p e below _ (T2401.setTop (mkF m 277 #[.val (.int i0), .val (.int i1), .val (.int i2), .val (.int i3), .val (.int i4), .val (.int i5), .val (.int i6), .val (.int (0 : Int32)), .val (.ref b1680), .val (.ref b1728), .val (.ref b1770), .val (.int (0 : Int32)), .val (.int (1 : Int32)), .val (.int (1 : Int32)), .val (.int (1 : Int32)), .val (.int (2 : Int32)), .val (.int (1 : Int32)), .unset, .unset] [(.int (own_ho (1 : Int32)))]))
            rw [show (own_ho (1 : Int32)) = (1 : Int32) by decide]
            refine own_iload P2400 at_277 rfl rfl ?_
            refine own_if0N P2400 (pc' := 282) at_279 (not_not_intro (by decide : (0 : Int32) < (1 : Int32))) rfl ?_
            refine own_iconst P2400 at_282 rfl (v := (1 : Int32)) rfl ?_
            refine own_goto P2400 (pc' := 287) at_283 (by decide) (by decide) ?_
            refine own_icmpN P2400 (pc' := 290) at_287 (not_not_intro (by decide : (1 : Int32) = (1 : Int32))) rfl ?_
            refine own_iconst P2400 at_290 rfl (v := (1 : Int32)) rfl ?_
            refine own_goto P2400 (pc' := 295) at_291 (by decide) (by decide) ?_
            refine own_istore P2400 at_295 rfl (Ls' := #[.val (.int i0), .val (.int i1), .val (.int i2), .val (.int i3), .val (.int i4), .val (.int i5), .val (.int i6), .val (.int (0 : Int32)), .val (.ref b1680), .val (.ref b1728), .val (.ref b1770), .val (.int (0 : Int32)), .val (.int (1 : Int32)), .val (.int (1 : Int32)), .val (.int (1 : Int32)), .val (.int (2 : Int32)), .val (.int (1 : Int32)), .val (.int (1 : Int32)), .unset]) rfl ?_
            refine own_iload P2400 at_297 rfl rfl ?_
            refine own_if0N P2400 (pc' := 302) at_299 (not_not_intro (by decide : (0 : Int32) = (0 : Int32))) rfl ?_
            refine own_aload P2400 at_302 rfl rfl rfl ?_
            refine own_iconst P2400 at_304 rfl (v := (1 : Int32)) rfl ?_
            refine own_virtP P2400 (hw _ (List.mem_of_getElem? (i := 85) rfl)) (hw _ (List.mem_of_getElem? (i := 76) rfl)) (hw _ (List.mem_of_getElem? (i := 78) rfl)) (hw _ (List.mem_of_getElem? (i := 77) rfl)) (hw _ (List.mem_of_getElem? (i := 2) rfl)) (hw _ (List.mem_of_getElem? (i := 79) rfl)) (by decide) f2378 (argsL := [(.int (1 : Int32))]) (rest := []) (rmHolds1 l Z a0 hw b1680 co1703 (1 : Int32) (1 : Int32) (0 : Int32) (0 : Int32) h2370 f2384 f2391) at_305 rfl own_pd6 rfl rfl rfl (by decide) 0 rfl (by decide) rfl rfl (by decide) (by decide) (fun T2407 P2406 => ?_)
            show own_Go p e below _ (T2407.setTop (mkF m 308 #[.val (.int i0), .val (.int i1), .val (.int i2), .val (.int i3), .val (.int i4), .val (.int i5), .val (.int i6), .val (.int (0 : Int32)), .val (.ref b1680), .val (.ref b1728), .val (.ref b1770), .val (.int (0 : Int32)), .val (.int (1 : Int32)), .val (.int (1 : Int32)), .val (.int (1 : Int32)), .val (.int (2 : Int32)), .val (.int (1 : Int32)), .val (.int (1 : Int32)), .unset] [(.int (own_ho (1 : Int32)))]))
            rw [show (own_ho (1 : Int32)) = (1 : Int32) by decide]
            refine own_iload P2406 at_308 rfl rfl ?_
            refine own_if0N P2406 (pc' := 313) at_310 (not_not_intro (by decide : (0 : Int32) < (1 : Int32))) rfl ?_
            refine own_iconst P2406 at_313 rfl (v := (1 : Int32)) rfl ?_
            refine own_goto P2406 (pc' := 318) at_314 (by decide) (by decide) ?_
            refine own_icmpN P2406 (pc' := 321) at_318 (not_not_intro (by decide : (1 : Int32) = (1 : Int32))) rfl ?_
            refine own_iconst P2406 at_321 rfl (v := (1 : Int32)) rfl ?_
            refine own_goto P2406 (pc' := 326) at_322 (by decide) (by decide) ?_
            refine own_istore P2406 at_326 rfl (Ls' := #[.val (.int i0), .val (.int i1), .val (.int i2), .val (.int i3), .val (.int i4), .val (.int i5), .val (.int i6), .val (.int (0 : Int32)), .val (.ref b1680), .val (.ref b1728), .val (.ref b1770), .val (.int (0 : Int32)), .val (.int (1 : Int32)), .val (.int (1 : Int32)), .val (.int (1 : Int32)), .val (.int (2 : Int32)), .val (.int (1 : Int32)), .val (.int (1 : Int32)), .val (.int (1 : Int32))]) rfl ?_
            refine own_iload P2406 at_328 rfl rfl ?_
            refine own_if0N P2406 (pc' := 333) at_330 (by decide : ¬ ((1 : Int32) = (0 : Int32))) rfl ?_
            refine own_iload P2406 at_333 rfl rfl ?_
            refine own_if0N P2406 (pc' := 338) at_335 (by decide : ¬ ((1 : Int32) = (0 : Int32))) rfl ?_
            refine own_iload P2406 at_338 rfl rfl ?_
            refine own_if0N P2406 (pc' := 343) at_340 (by decide : ¬ ((1 : Int32) = (0 : Int32))) rfl ?_
            refine own_iconst P2406 at_343 rfl (v := (1 : Int32)) rfl ?_
            refine own_goto P2406 (pc' := 348) at_344 (by decide) (by decide) ?_
            exact own_retZ P2406 at_348 (z := (1 : Int32)) rfl (by decide) (by decide) (hQ _ _ N2377)
          · rw [if_neg hc2393] at hQ
            refine own_if0N P2368 (pc' := 208) at_205 hc2393 rfl ?_
            refine own_aload P2368 at_208 rfl rfl rfl ?_
            refine own_aload P2368 at_210 rfl rfl rfl ?_
            refine own_virt P2368 (hw _ (List.mem_of_getElem? (i := 20) rfl)) (hw _ (List.mem_of_getElem? (i := 21) rfl)) (hw _ (List.mem_of_getElem? (i := 23) rfl)) (hw _ (List.mem_of_getElem? (i := 22) rfl)) (hw _ (List.mem_of_getElem? (i := 2) rfl)) (hw _ (List.mem_of_getElem? (i := 24) rfl)) (by decide) f2378 (argsL := [(.ref b1728)]) (rest := []) (rmAddA l Z a0 hw b1680 b1728 ro1702 co1703 bp1704 so1821 i0 i0 i1 (0 : Int32) (0 : Int32) (1 : Int32) (1 : Int32) (0 : Int32) (0 : Int32) (2 : Int32) (own_q i0 i1) (own_s2 i0 i1) h2370 n0 (Nat.le_trans (Nat.le_trans (Nat.le_trans (Nat.le_trans (Nat.le_trans (Nat.le_trans (Nat.le_trans (Nat.le_trans (Nat.le_trans (Nat.le_trans Z0 E1682.1) k1706.1) E1730.1) (Keep.of_wr W1755).1) E1772.1) (Keep.of_wr W1799).1) k1823.1) k1857.1) k2203.1) k2375.1) g1688 g1707 g1708 hg1824 ne1709 ne1710 ne1711 ne1712 ne1713 ne1714 ne1838 ne1839 ne1840 ne1841 ne1735 ne1736 ne1737 ne1738 (Ne.symm ne1842) f2378 f2382 f2383 f2384 f2385 f2386 f2387 f2388 f2389 f2391 f2379 f2390 f2380 (own_l2 i0 i1) rfl (own_a2 i0 i1 hab)) at_212 rfl own_pd4 rfl rfl rfl (by decide) 0 rfl (by decide) (by decide) (by decide) (fun T2413 h2414 v2415 L2416 hq2417 P2412 => ?_)
            obtain ⟨rfl, n2418, k2419, f2420⟩ := hq2417
            have N2421 := Fr.app N2377 n2418
            have f2422 := f2378.keep k2419
            have f2423 := f2379.keep k2419 (ninS (Ne.symm ne1714) nin0)
            have f2424 := f2380.keep k2419 (ninS (Ne.symm ne1737) nin0)
            have f2425 := f2381.keep k2419 (ninS (Ne.symm ne1779) nin0)
            have f2426 := f2382.keep k2419 (ninS ne1710 nin0)
            have f2427 := f2383.keep k2419 (ninS ne1710 nin0)
            have f2428 := f2384.keep k2419 (ninS ne1710 nin0)
            have f2429 := f2385.keep k2419 (ninS ne1710 nin0)
            have f2430 := f2386.keep k2419 (ninS ne1710 nin0)
            have f2431 := f2387.keep k2419 (ninS ne1710 nin0)
            have f2432 := f2388.keep k2419 (ninS ne1710 nin0)
            have f2433 := f2389.keep k2419 (ninS ne1711 nin0)
            have f2434 := f2390.keep k2419 (ninS (Ne.symm ne1840) nin0)
            have f2435 : own_Ar Z h2414 co1703 .int [(2 : Int32), (1 : Int32), (0 : Int32), (0 : Int32)] := f2420
            show own_Go p e below _ (T2413.setTop (mkF m 215 #[.val (.int i0), .val (.int i1), .val (.int i2), .val (.int i3), .val (.int i4), .val (.int i5), .val (.int i6), .val (.int (0 : Int32)), .val (.ref b1680), .val (.ref b1728), .val (.ref b1770), .val (.int (0 : Int32)), .val (.int (1 : Int32)), .val (.int (1 : Int32)), .val (.int (1 : Int32)), .unset, .unset, .unset, .unset] [(.int (0 : Int32))]))
            refine own_pop P2412 at_215 rfl rfl ?_
            refine own_iload P2412 at_216 rfl rfl ?_
            refine own_iconst P2412 at_218 rfl (v := (1 : Int32)) rfl ?_
            refine own_iadd P2412 at_219 rfl ?_
            rw [show ((1 : Int32) + (1 : Int32)) = (2 : Int32) by decide]
            refine own_istore P2412 at_220 rfl (Ls' := #[.val (.int i0), .val (.int i1), .val (.int i2), .val (.int i3), .val (.int i4), .val (.int i5), .val (.int i6), .val (.int (0 : Int32)), .val (.ref b1680), .val (.ref b1728), .val (.ref b1770), .val (.int (0 : Int32)), .val (.int (1 : Int32)), .val (.int (2 : Int32)), .val (.int (1 : Int32)), .unset, .unset, .unset, .unset]) rfl ?_
            refine own_iload P2412 at_222 rfl rfl ?_
            refine own_if0Y P2412 (pc' := 231) at_224 (by decide : (0 : Int32) = (0 : Int32)) (by decide) (by decide) ?_
            refine own_iconst P2412 at_231 rfl (v := (2 : Int32)) rfl ?_
            refine own_istore P2412 at_232 rfl (Ls' := #[.val (.int i0), .val (.int i1), .val (.int i2), .val (.int i3), .val (.int i4), .val (.int i5), .val (.int i6), .val (.int (0 : Int32)), .val (.ref b1680), .val (.ref b1728), .val (.ref b1770), .val (.int (0 : Int32)), .val (.int (1 : Int32)), .val (.int (2 : Int32)), .val (.int (1 : Int32)), .val (.int (2 : Int32)), .unset, .unset, .unset]) rfl ?_
            refine own_iload P2412 at_234 rfl rfl ?_
            refine own_if0N P2412 (pc' := 239) at_236 (not_not_intro (by decide : (0 : Int32) = (0 : Int32))) rfl ?_
            refine own_iload P2412 at_239 rfl rfl ?_
            refine own_iload P2412 at_241 rfl rfl ?_
            refine own_if0Y P2412 (pc' := 250) at_243 (by decide : (0 : Int32) = (0 : Int32)) (by decide) (by decide) ?_
            refine own_iconst P2412 at_250 rfl (v := (1 : Int32)) rfl ?_
            refine own_icmpN P2412 (pc' := 254) at_251 (not_not_intro (by decide : (1 : Int32) = (1 : Int32))) rfl ?_
            refine own_aload P2412 at_254 rfl rfl rfl ?_
            refine own_virtP P2412 (hw _ (List.mem_of_getElem? (i := 80) rfl)) (hw _ (List.mem_of_getElem? (i := 81) rfl)) (hw _ (List.mem_of_getElem? (i := 83) rfl)) (hw _ (List.mem_of_getElem? (i := 82) rfl)) (hw _ (List.mem_of_getElem? (i := 2) rfl)) (hw _ (List.mem_of_getElem? (i := 84) rfl)) (by decide) f2422 (argsL := []) (rest := []) (rmSize l Z a0 hw b1680 (2 : Int32) h2414 f2430) at_256 rfl own_pd7 rfl rfl rfl (by decide) 0 rfl (by decide) rfl rfl (by decide) (by decide) (fun T2437 P2436 => ?_)
            show own_Go p e below _ (T2437.setTop (mkF m 259 #[.val (.int i0), .val (.int i1), .val (.int i2), .val (.int i3), .val (.int i4), .val (.int i5), .val (.int i6), .val (.int (0 : Int32)), .val (.ref b1680), .val (.ref b1728), .val (.ref b1770), .val (.int (0 : Int32)), .val (.int (1 : Int32)), .val (.int (2 : Int32)), .val (.int (1 : Int32)), .val (.int (2 : Int32)), .unset, .unset, .unset] [(.int (2 : Int32))]))
            refine own_iload P2436 at_259 rfl rfl ?_
            refine own_icmpN P2436 (pc' := 264) at_261 (not_not_intro (by decide : (2 : Int32) = (2 : Int32))) rfl ?_
            refine own_iconst P2436 at_264 rfl (v := (1 : Int32)) rfl ?_
            refine own_goto P2436 (pc' := 269) at_265 (by decide) (by decide) ?_
            refine own_istore P2436 at_269 rfl (Ls' := #[.val (.int i0), .val (.int i1), .val (.int i2), .val (.int i3), .val (.int i4), .val (.int i5), .val (.int i6), .val (.int (0 : Int32)), .val (.ref b1680), .val (.ref b1728), .val (.ref b1770), .val (.int (0 : Int32)), .val (.int (1 : Int32)), .val (.int (2 : Int32)), .val (.int (1 : Int32)), .val (.int (2 : Int32)), .val (.int (1 : Int32)), .unset, .unset]) rfl ?_
            refine own_aload P2436 at_271 rfl rfl rfl ?_
            refine own_iconst P2436 at_273 rfl (v := (0 : Int32)) rfl ?_
            refine own_virtP P2436 (hw _ (List.mem_of_getElem? (i := 85) rfl)) (hw _ (List.mem_of_getElem? (i := 76) rfl)) (hw _ (List.mem_of_getElem? (i := 78) rfl)) (hw _ (List.mem_of_getElem? (i := 77) rfl)) (hw _ (List.mem_of_getElem? (i := 2) rfl)) (hw _ (List.mem_of_getElem? (i := 79) rfl)) (by decide) f2422 (argsL := [(.int (0 : Int32))]) (rest := []) (rmHolds0 l Z a0 hw b1680 co1703 (2 : Int32) (1 : Int32) (0 : Int32) (0 : Int32) h2414 f2428 f2435) at_274 rfl own_pd6 rfl rfl rfl (by decide) 0 rfl (by decide) rfl rfl (by decide) (by decide) (fun T2443 P2442 => ?_)
            show own_Go p e below _ (T2443.setTop (mkF m 277 #[.val (.int i0), .val (.int i1), .val (.int i2), .val (.int i3), .val (.int i4), .val (.int i5), .val (.int i6), .val (.int (0 : Int32)), .val (.ref b1680), .val (.ref b1728), .val (.ref b1770), .val (.int (0 : Int32)), .val (.int (1 : Int32)), .val (.int (2 : Int32)), .val (.int (1 : Int32)), .val (.int (2 : Int32)), .val (.int (1 : Int32)), .unset, .unset] [(.int (own_ho (2 : Int32)))]))
            rw [show (own_ho (2 : Int32)) = (1 : Int32) by decide]
            refine own_iload P2442 at_277 rfl rfl ?_
            refine own_if0N P2442 (pc' := 282) at_279 (not_not_intro (by decide : (0 : Int32) < (2 : Int32))) rfl ?_
            refine own_iconst P2442 at_282 rfl (v := (1 : Int32)) rfl ?_
            refine own_goto P2442 (pc' := 287) at_283 (by decide) (by decide) ?_
            refine own_icmpN P2442 (pc' := 290) at_287 (not_not_intro (by decide : (1 : Int32) = (1 : Int32))) rfl ?_
            refine own_iconst P2442 at_290 rfl (v := (1 : Int32)) rfl ?_
            refine own_goto P2442 (pc' := 295) at_291 (by decide) (by decide) ?_
            refine own_istore P2442 at_295 rfl (Ls' := #[.val (.int i0), .val (.int i1), .val (.int i2), .val (.int i3), .val (.int i4), .val (.int i5), .val (.int i6), .val (.int (0 : Int32)), .val (.ref b1680), .val (.ref b1728), .val (.ref b1770), .val (.int (0 : Int32)), .val (.int (1 : Int32)), .val (.int (2 : Int32)), .val (.int (1 : Int32)), .val (.int (2 : Int32)), .val (.int (1 : Int32)), .val (.int (1 : Int32)), .unset]) rfl ?_
            refine own_iload P2442 at_297 rfl rfl ?_
            refine own_if0N P2442 (pc' := 302) at_299 (not_not_intro (by decide : (0 : Int32) = (0 : Int32))) rfl ?_
            refine own_aload P2442 at_302 rfl rfl rfl ?_
            refine own_iconst P2442 at_304 rfl (v := (1 : Int32)) rfl ?_
            refine own_virtP P2442 (hw _ (List.mem_of_getElem? (i := 85) rfl)) (hw _ (List.mem_of_getElem? (i := 76) rfl)) (hw _ (List.mem_of_getElem? (i := 78) rfl)) (hw _ (List.mem_of_getElem? (i := 77) rfl)) (hw _ (List.mem_of_getElem? (i := 2) rfl)) (hw _ (List.mem_of_getElem? (i := 79) rfl)) (by decide) f2422 (argsL := [(.int (1 : Int32))]) (rest := []) (rmHolds1 l Z a0 hw b1680 co1703 (2 : Int32) (1 : Int32) (0 : Int32) (0 : Int32) h2414 f2428 f2435) at_305 rfl own_pd6 rfl rfl rfl (by decide) 0 rfl (by decide) rfl rfl (by decide) (by decide) (fun T2449 P2448 => ?_)
            show own_Go p e below _ (T2449.setTop (mkF m 308 #[.val (.int i0), .val (.int i1), .val (.int i2), .val (.int i3), .val (.int i4), .val (.int i5), .val (.int i6), .val (.int (0 : Int32)), .val (.ref b1680), .val (.ref b1728), .val (.ref b1770), .val (.int (0 : Int32)), .val (.int (1 : Int32)), .val (.int (2 : Int32)), .val (.int (1 : Int32)), .val (.int (2 : Int32)), .val (.int (1 : Int32)), .val (.int (1 : Int32)), .unset] [(.int (own_ho (1 : Int32)))]))
            rw [show (own_ho (1 : Int32)) = (1 : Int32) by decide]
            refine own_iload P2448 at_308 rfl rfl ?_
            refine own_if0N P2448 (pc' := 313) at_310 (not_not_intro (by decide : (0 : Int32) < (1 : Int32))) rfl ?_
            refine own_iconst P2448 at_313 rfl (v := (1 : Int32)) rfl ?_
            refine own_goto P2448 (pc' := 318) at_314 (by decide) (by decide) ?_
            refine own_icmpN P2448 (pc' := 321) at_318 (not_not_intro (by decide : (1 : Int32) = (1 : Int32))) rfl ?_
            refine own_iconst P2448 at_321 rfl (v := (1 : Int32)) rfl ?_
            refine own_goto P2448 (pc' := 326) at_322 (by decide) (by decide) ?_
            refine own_istore P2448 at_326 rfl (Ls' := #[.val (.int i0), .val (.int i1), .val (.int i2), .val (.int i3), .val (.int i4), .val (.int i5), .val (.int i6), .val (.int (0 : Int32)), .val (.ref b1680), .val (.ref b1728), .val (.ref b1770), .val (.int (0 : Int32)), .val (.int (1 : Int32)), .val (.int (2 : Int32)), .val (.int (1 : Int32)), .val (.int (2 : Int32)), .val (.int (1 : Int32)), .val (.int (1 : Int32)), .val (.int (1 : Int32))]) rfl ?_
            refine own_iload P2448 at_328 rfl rfl ?_
            refine own_if0N P2448 (pc' := 333) at_330 (by decide : ¬ ((1 : Int32) = (0 : Int32))) rfl ?_
            refine own_iload P2448 at_333 rfl rfl ?_
            refine own_if0N P2448 (pc' := 338) at_335 (by decide : ¬ ((1 : Int32) = (0 : Int32))) rfl ?_
            refine own_iload P2448 at_338 rfl rfl ?_
            refine own_if0N P2448 (pc' := 343) at_340 (by decide : ¬ ((1 : Int32) = (0 : Int32))) rfl ?_
            refine own_iconst P2448 at_343 rfl (v := (1 : Int32)) rfl ?_
            refine own_goto P2448 (pc' := 348) at_344 (by decide) (by decide) ?_
            exact own_retZ P2448 at_348 (z := (1 : Int32)) rfl (by decide) (by decide) (hQ _ _ N2421)
        · rw [if_neg hc2392] at hQ
          refine own_if0N P2368 (pc' := 175) at_172 hc2392 rfl ?_
          refine own_aload P2368 at_175 rfl rfl rfl ?_
          refine own_aload P2368 at_177 rfl rfl rfl ?_
          refine own_virt P2368 (hw _ (List.mem_of_getElem? (i := 65) rfl)) (hw _ (List.mem_of_getElem? (i := 66) rfl)) (hw _ (List.mem_of_getElem? (i := 68) rfl)) (hw _ (List.mem_of_getElem? (i := 67) rfl)) (hw _ (List.mem_of_getElem? (i := 2) rfl)) (hw _ (List.mem_of_getElem? (i := 69) rfl)) (by decide) f2378 (argsL := [(.ref b1770)]) (rest := []) (rmRem1 l Z a0 hw b1680 b1770 ro1702 co1703 bp1704 so1821 i1 i0 i1 (0 : Int32) (0 : Int32) (1 : Int32) (1 : Int32) (0 : Int32) (0 : Int32) (2 : Int32) (own_q i0 i1) (own_s2 i0 i1) h2370 n0 (Nat.le_trans (Nat.le_trans (Nat.le_trans (Nat.le_trans (Nat.le_trans (Nat.le_trans (Nat.le_trans (Nat.le_trans (Nat.le_trans (Nat.le_trans Z0 E1682.1) k1706.1) E1730.1) (Keep.of_wr W1755).1) E1772.1) (Keep.of_wr W1799).1) k1823.1) k1857.1) k2203.1) k2375.1) g1688 g1707 g1708 hg1824 ne1709 ne1710 ne1711 ne1712 ne1713 ne1714 ne1838 ne1839 ne1840 ne1841 ne1777 ne1778 ne1779 ne1780 (Ne.symm ne1843) f2378 f2382 f2383 f2384 f2385 f2386 f2387 f2388 f2389 f2391 f2379 f2390 f2381 (own_l2 i0 i1) rfl (own_b2 i0 i1 hab) (by decide)) at_179 rfl own_pd4 rfl rfl rfl (by decide) 0 rfl (by decide) (by decide) (by decide) (fun T2455 h2456 v2457 L2458 hq2459 P2454 => ?_)
          obtain ⟨rfl, n2460, k2461, f2462⟩ := hq2459
          have N2463 := Fr.app N2377 n2460
          have f2464 := f2378.keep k2461
          have f2465 := f2379.keep k2461 (ninS (Ne.symm ne1714) nin0)
          have f2466 := f2380.keep k2461 (ninS (Ne.symm ne1737) nin0)
          have f2467 := f2381.keep k2461 (ninS (Ne.symm ne1779) nin0)
          have f2468 := f2382.keep k2461 (ninS ne1710 nin0)
          have f2469 := f2383.keep k2461 (ninS ne1710 nin0)
          have f2470 := f2384.keep k2461 (ninS ne1710 nin0)
          have f2471 := f2385.keep k2461 (ninS ne1710 nin0)
          have f2472 := f2386.keep k2461 (ninS ne1710 nin0)
          have f2473 := f2387.keep k2461 (ninS ne1710 nin0)
          have f2474 := f2388.keep k2461 (ninS ne1710 nin0)
          have f2475 := f2389.keep k2461 (ninS ne1711 nin0)
          have f2476 := f2390.keep k2461 (ninS (Ne.symm ne1840) nin0)
          have f2477 : own_Ar Z h2456 co1703 .int [(1 : Int32), (0 : Int32), (0 : Int32), (0 : Int32)] := f2462
          show own_Go p e below _ (T2455.setTop (mkF m 182 #[.val (.int i0), .val (.int i1), .val (.int i2), .val (.int i3), .val (.int i4), .val (.int i5), .val (.int i6), .val (.int (0 : Int32)), .val (.ref b1680), .val (.ref b1728), .val (.ref b1770), .val (.int (0 : Int32)), .val (.int (1 : Int32)), .val (.int (1 : Int32)), .val (.int (1 : Int32)), .unset, .unset, .unset, .unset] [(.int (1 : Int32))]))
          refine own_pop P2454 at_182 rfl rfl ?_
          refine own_iload P2454 at_183 rfl rfl ?_
          refine own_if0Y P2454 (pc' := 197) at_185 (by decide : (0 : Int32) = (0 : Int32)) (by decide) (by decide) ?_
          refine own_iload P2454 at_197 rfl rfl ?_
          refine own_iconst P2454 at_199 rfl (v := (1 : Int32)) rfl ?_
          refine own_isub P2454 at_200 rfl ?_
          rw [show ((1 : Int32) - (1 : Int32)) = (0 : Int32) by decide]
          refine own_istore P2454 at_201 rfl (Ls' := #[.val (.int i0), .val (.int i1), .val (.int i2), .val (.int i3), .val (.int i4), .val (.int i5), .val (.int i6), .val (.int (0 : Int32)), .val (.ref b1680), .val (.ref b1728), .val (.ref b1770), .val (.int (0 : Int32)), .val (.int (1 : Int32)), .val (.int (1 : Int32)), .val (.int (0 : Int32)), .unset, .unset, .unset, .unset]) rfl ?_
          refine own_iload P2454 at_203 rfl rfl ?_
          by_cases hc2478 : i6 = (0 : Int32)
          · rw [if_pos hc2478] at hQ
            refine own_if0Y P2454 (pc' := 222) at_205 hc2478 (by decide) (by decide) ?_
            refine own_iload P2454 at_222 rfl rfl ?_
            refine own_if0Y P2454 (pc' := 231) at_224 (by decide : (0 : Int32) = (0 : Int32)) (by decide) (by decide) ?_
            refine own_iconst P2454 at_231 rfl (v := (2 : Int32)) rfl ?_
            refine own_istore P2454 at_232 rfl (Ls' := #[.val (.int i0), .val (.int i1), .val (.int i2), .val (.int i3), .val (.int i4), .val (.int i5), .val (.int i6), .val (.int (0 : Int32)), .val (.ref b1680), .val (.ref b1728), .val (.ref b1770), .val (.int (0 : Int32)), .val (.int (1 : Int32)), .val (.int (1 : Int32)), .val (.int (0 : Int32)), .val (.int (2 : Int32)), .unset, .unset, .unset]) rfl ?_
            refine own_iload P2454 at_234 rfl rfl ?_
            refine own_if0N P2454 (pc' := 239) at_236 (not_not_intro (by decide : (0 : Int32) = (0 : Int32))) rfl ?_
            refine own_iload P2454 at_239 rfl rfl ?_
            refine own_iload P2454 at_241 rfl rfl ?_
            refine own_if0Y P2454 (pc' := 250) at_243 (by decide : (0 : Int32) = (0 : Int32)) (by decide) (by decide) ?_
            refine own_iconst P2454 at_250 rfl (v := (1 : Int32)) rfl ?_
            refine own_icmpN P2454 (pc' := 254) at_251 (not_not_intro (by decide : (1 : Int32) = (1 : Int32))) rfl ?_
            refine own_aload P2454 at_254 rfl rfl rfl ?_
            refine own_virtP P2454 (hw _ (List.mem_of_getElem? (i := 80) rfl)) (hw _ (List.mem_of_getElem? (i := 81) rfl)) (hw _ (List.mem_of_getElem? (i := 83) rfl)) (hw _ (List.mem_of_getElem? (i := 82) rfl)) (hw _ (List.mem_of_getElem? (i := 2) rfl)) (hw _ (List.mem_of_getElem? (i := 84) rfl)) (by decide) f2464 (argsL := []) (rest := []) (rmSize l Z a0 hw b1680 (2 : Int32) h2456 f2472) at_256 rfl own_pd7 rfl rfl rfl (by decide) 0 rfl (by decide) rfl rfl (by decide) (by decide) (fun T2480 P2479 => ?_)
            show own_Go p e below _ (T2480.setTop (mkF m 259 #[.val (.int i0), .val (.int i1), .val (.int i2), .val (.int i3), .val (.int i4), .val (.int i5), .val (.int i6), .val (.int (0 : Int32)), .val (.ref b1680), .val (.ref b1728), .val (.ref b1770), .val (.int (0 : Int32)), .val (.int (1 : Int32)), .val (.int (1 : Int32)), .val (.int (0 : Int32)), .val (.int (2 : Int32)), .unset, .unset, .unset] [(.int (2 : Int32))]))
            refine own_iload P2479 at_259 rfl rfl ?_
            refine own_icmpN P2479 (pc' := 264) at_261 (not_not_intro (by decide : (2 : Int32) = (2 : Int32))) rfl ?_
            refine own_iconst P2479 at_264 rfl (v := (1 : Int32)) rfl ?_
            refine own_goto P2479 (pc' := 269) at_265 (by decide) (by decide) ?_
            refine own_istore P2479 at_269 rfl (Ls' := #[.val (.int i0), .val (.int i1), .val (.int i2), .val (.int i3), .val (.int i4), .val (.int i5), .val (.int i6), .val (.int (0 : Int32)), .val (.ref b1680), .val (.ref b1728), .val (.ref b1770), .val (.int (0 : Int32)), .val (.int (1 : Int32)), .val (.int (1 : Int32)), .val (.int (0 : Int32)), .val (.int (2 : Int32)), .val (.int (1 : Int32)), .unset, .unset]) rfl ?_
            refine own_aload P2479 at_271 rfl rfl rfl ?_
            refine own_iconst P2479 at_273 rfl (v := (0 : Int32)) rfl ?_
            refine own_virtP P2479 (hw _ (List.mem_of_getElem? (i := 85) rfl)) (hw _ (List.mem_of_getElem? (i := 76) rfl)) (hw _ (List.mem_of_getElem? (i := 78) rfl)) (hw _ (List.mem_of_getElem? (i := 77) rfl)) (hw _ (List.mem_of_getElem? (i := 2) rfl)) (hw _ (List.mem_of_getElem? (i := 79) rfl)) (by decide) f2464 (argsL := [(.int (0 : Int32))]) (rest := []) (rmHolds0 l Z a0 hw b1680 co1703 (1 : Int32) (0 : Int32) (0 : Int32) (0 : Int32) h2456 f2470 f2477) at_274 rfl own_pd6 rfl rfl rfl (by decide) 0 rfl (by decide) rfl rfl (by decide) (by decide) (fun T2486 P2485 => ?_)
            show own_Go p e below _ (T2486.setTop (mkF m 277 #[.val (.int i0), .val (.int i1), .val (.int i2), .val (.int i3), .val (.int i4), .val (.int i5), .val (.int i6), .val (.int (0 : Int32)), .val (.ref b1680), .val (.ref b1728), .val (.ref b1770), .val (.int (0 : Int32)), .val (.int (1 : Int32)), .val (.int (1 : Int32)), .val (.int (0 : Int32)), .val (.int (2 : Int32)), .val (.int (1 : Int32)), .unset, .unset] [(.int (own_ho (1 : Int32)))]))
            rw [show (own_ho (1 : Int32)) = (1 : Int32) by decide]
            refine own_iload P2485 at_277 rfl rfl ?_
            refine own_if0N P2485 (pc' := 282) at_279 (not_not_intro (by decide : (0 : Int32) < (1 : Int32))) rfl ?_
            refine own_iconst P2485 at_282 rfl (v := (1 : Int32)) rfl ?_
            refine own_goto P2485 (pc' := 287) at_283 (by decide) (by decide) ?_
            refine own_icmpN P2485 (pc' := 290) at_287 (not_not_intro (by decide : (1 : Int32) = (1 : Int32))) rfl ?_
            refine own_iconst P2485 at_290 rfl (v := (1 : Int32)) rfl ?_
            refine own_goto P2485 (pc' := 295) at_291 (by decide) (by decide) ?_
            refine own_istore P2485 at_295 rfl (Ls' := #[.val (.int i0), .val (.int i1), .val (.int i2), .val (.int i3), .val (.int i4), .val (.int i5), .val (.int i6), .val (.int (0 : Int32)), .val (.ref b1680), .val (.ref b1728), .val (.ref b1770), .val (.int (0 : Int32)), .val (.int (1 : Int32)), .val (.int (1 : Int32)), .val (.int (0 : Int32)), .val (.int (2 : Int32)), .val (.int (1 : Int32)), .val (.int (1 : Int32)), .unset]) rfl ?_
            refine own_iload P2485 at_297 rfl rfl ?_
            refine own_if0N P2485 (pc' := 302) at_299 (not_not_intro (by decide : (0 : Int32) = (0 : Int32))) rfl ?_
            refine own_aload P2485 at_302 rfl rfl rfl ?_
            refine own_iconst P2485 at_304 rfl (v := (1 : Int32)) rfl ?_
            refine own_virtP P2485 (hw _ (List.mem_of_getElem? (i := 85) rfl)) (hw _ (List.mem_of_getElem? (i := 76) rfl)) (hw _ (List.mem_of_getElem? (i := 78) rfl)) (hw _ (List.mem_of_getElem? (i := 77) rfl)) (hw _ (List.mem_of_getElem? (i := 2) rfl)) (hw _ (List.mem_of_getElem? (i := 79) rfl)) (by decide) f2464 (argsL := [(.int (1 : Int32))]) (rest := []) (rmHolds1 l Z a0 hw b1680 co1703 (1 : Int32) (0 : Int32) (0 : Int32) (0 : Int32) h2456 f2470 f2477) at_305 rfl own_pd6 rfl rfl rfl (by decide) 0 rfl (by decide) rfl rfl (by decide) (by decide) (fun T2492 P2491 => ?_)
            show own_Go p e below _ (T2492.setTop (mkF m 308 #[.val (.int i0), .val (.int i1), .val (.int i2), .val (.int i3), .val (.int i4), .val (.int i5), .val (.int i6), .val (.int (0 : Int32)), .val (.ref b1680), .val (.ref b1728), .val (.ref b1770), .val (.int (0 : Int32)), .val (.int (1 : Int32)), .val (.int (1 : Int32)), .val (.int (0 : Int32)), .val (.int (2 : Int32)), .val (.int (1 : Int32)), .val (.int (1 : Int32)), .unset] [(.int (own_ho (0 : Int32)))]))
            rw [show (own_ho (0 : Int32)) = (0 : Int32) by decide]
            refine own_iload P2491 at_308 rfl rfl ?_
            refine own_if0Y P2491 (pc' := 317) at_310 (by decide : ¬ ((0 : Int32) < (0 : Int32))) (by decide) (by decide) ?_
            refine own_iconst P2491 at_317 rfl (v := (0 : Int32)) rfl ?_
            refine own_icmpN P2491 (pc' := 321) at_318 (not_not_intro (by decide : (0 : Int32) = (0 : Int32))) rfl ?_
            refine own_iconst P2491 at_321 rfl (v := (1 : Int32)) rfl ?_
            refine own_goto P2491 (pc' := 326) at_322 (by decide) (by decide) ?_
            refine own_istore P2491 at_326 rfl (Ls' := #[.val (.int i0), .val (.int i1), .val (.int i2), .val (.int i3), .val (.int i4), .val (.int i5), .val (.int i6), .val (.int (0 : Int32)), .val (.ref b1680), .val (.ref b1728), .val (.ref b1770), .val (.int (0 : Int32)), .val (.int (1 : Int32)), .val (.int (1 : Int32)), .val (.int (0 : Int32)), .val (.int (2 : Int32)), .val (.int (1 : Int32)), .val (.int (1 : Int32)), .val (.int (1 : Int32))]) rfl ?_
            refine own_iload P2491 at_328 rfl rfl ?_
            refine own_if0N P2491 (pc' := 333) at_330 (by decide : ¬ ((1 : Int32) = (0 : Int32))) rfl ?_
            refine own_iload P2491 at_333 rfl rfl ?_
            refine own_if0N P2491 (pc' := 338) at_335 (by decide : ¬ ((1 : Int32) = (0 : Int32))) rfl ?_
            refine own_iload P2491 at_338 rfl rfl ?_
            refine own_if0N P2491 (pc' := 343) at_340 (by decide : ¬ ((1 : Int32) = (0 : Int32))) rfl ?_
            refine own_iconst P2491 at_343 rfl (v := (1 : Int32)) rfl ?_
            refine own_goto P2491 (pc' := 348) at_344 (by decide) (by decide) ?_
            exact own_retZ P2491 at_348 (z := (1 : Int32)) rfl (by decide) (by decide) (hQ _ _ N2463)
          · rw [if_neg hc2478] at hQ
            refine own_if0N P2454 (pc' := 208) at_205 hc2478 rfl ?_
            refine own_aload P2454 at_208 rfl rfl rfl ?_
            refine own_aload P2454 at_210 rfl rfl rfl ?_
            refine own_virt P2454 (hw _ (List.mem_of_getElem? (i := 20) rfl)) (hw _ (List.mem_of_getElem? (i := 21) rfl)) (hw _ (List.mem_of_getElem? (i := 23) rfl)) (hw _ (List.mem_of_getElem? (i := 22) rfl)) (hw _ (List.mem_of_getElem? (i := 2) rfl)) (hw _ (List.mem_of_getElem? (i := 24) rfl)) (by decide) f2464 (argsL := [(.ref b1728)]) (rest := []) (rmAddA l Z a0 hw b1680 b1728 ro1702 co1703 bp1704 so1821 i0 i0 i1 (0 : Int32) (0 : Int32) (1 : Int32) (0 : Int32) (0 : Int32) (0 : Int32) (2 : Int32) (own_q i0 i1) (own_s2 i0 i1) h2456 n0 (Nat.le_trans (Nat.le_trans (Nat.le_trans (Nat.le_trans (Nat.le_trans (Nat.le_trans (Nat.le_trans (Nat.le_trans (Nat.le_trans (Nat.le_trans (Nat.le_trans Z0 E1682.1) k1706.1) E1730.1) (Keep.of_wr W1755).1) E1772.1) (Keep.of_wr W1799).1) k1823.1) k1857.1) k2203.1) k2375.1) k2461.1) g1688 g1707 g1708 hg1824 ne1709 ne1710 ne1711 ne1712 ne1713 ne1714 ne1838 ne1839 ne1840 ne1841 ne1735 ne1736 ne1737 ne1738 (Ne.symm ne1842) f2464 f2468 f2469 f2470 f2471 f2472 f2473 f2474 f2475 f2477 f2465 f2476 f2466 (own_l2 i0 i1) rfl (own_a2 i0 i1 hab)) at_212 rfl own_pd4 rfl rfl rfl (by decide) 0 rfl (by decide) (by decide) (by decide) (fun T2498 h2499 v2500 L2501 hq2502 P2497 => ?_)
            obtain ⟨rfl, n2503, k2504, f2505⟩ := hq2502
            have N2506 := Fr.app N2463 n2503
            have f2507 := f2464.keep k2504
            have f2508 := f2465.keep k2504 (ninS (Ne.symm ne1714) nin0)
            have f2509 := f2466.keep k2504 (ninS (Ne.symm ne1737) nin0)
            have f2510 := f2467.keep k2504 (ninS (Ne.symm ne1779) nin0)
            have f2511 := f2468.keep k2504 (ninS ne1710 nin0)
            have f2512 := f2469.keep k2504 (ninS ne1710 nin0)
            have f2513 := f2470.keep k2504 (ninS ne1710 nin0)
            have f2514 := f2471.keep k2504 (ninS ne1710 nin0)
            have f2515 := f2472.keep k2504 (ninS ne1710 nin0)
            have f2516 := f2473.keep k2504 (ninS ne1710 nin0)
            have f2517 := f2474.keep k2504 (ninS ne1710 nin0)
            have f2518 := f2475.keep k2504 (ninS ne1711 nin0)
            have f2519 := f2476.keep k2504 (ninS (Ne.symm ne1840) nin0)
            have f2520 : own_Ar Z h2499 co1703 .int [(2 : Int32), (0 : Int32), (0 : Int32), (0 : Int32)] := f2505
            show own_Go p e below _ (T2498.setTop (mkF m 215 #[.val (.int i0), .val (.int i1), .val (.int i2), .val (.int i3), .val (.int i4), .val (.int i5), .val (.int i6), .val (.int (0 : Int32)), .val (.ref b1680), .val (.ref b1728), .val (.ref b1770), .val (.int (0 : Int32)), .val (.int (1 : Int32)), .val (.int (1 : Int32)), .val (.int (0 : Int32)), .unset, .unset, .unset, .unset] [(.int (0 : Int32))]))
            refine own_pop P2497 at_215 rfl rfl ?_
            refine own_iload P2497 at_216 rfl rfl ?_
            refine own_iconst P2497 at_218 rfl (v := (1 : Int32)) rfl ?_
            refine own_iadd P2497 at_219 rfl ?_
            rw [show ((1 : Int32) + (1 : Int32)) = (2 : Int32) by decide]
            refine own_istore P2497 at_220 rfl (Ls' := #[.val (.int i0), .val (.int i1), .val (.int i2), .val (.int i3), .val (.int i4), .val (.int i5), .val (.int i6), .val (.int (0 : Int32)), .val (.ref b1680), .val (.ref b1728), .val (.ref b1770), .val (.int (0 : Int32)), .val (.int (1 : Int32)), .val (.int (2 : Int32)), .val (.int (0 : Int32)), .unset, .unset, .unset, .unset]) rfl ?_
            refine own_iload P2497 at_222 rfl rfl ?_
            refine own_if0Y P2497 (pc' := 231) at_224 (by decide : (0 : Int32) = (0 : Int32)) (by decide) (by decide) ?_
            refine own_iconst P2497 at_231 rfl (v := (2 : Int32)) rfl ?_
            refine own_istore P2497 at_232 rfl (Ls' := #[.val (.int i0), .val (.int i1), .val (.int i2), .val (.int i3), .val (.int i4), .val (.int i5), .val (.int i6), .val (.int (0 : Int32)), .val (.ref b1680), .val (.ref b1728), .val (.ref b1770), .val (.int (0 : Int32)), .val (.int (1 : Int32)), .val (.int (2 : Int32)), .val (.int (0 : Int32)), .val (.int (2 : Int32)), .unset, .unset, .unset]) rfl ?_
            refine own_iload P2497 at_234 rfl rfl ?_
            refine own_if0N P2497 (pc' := 239) at_236 (not_not_intro (by decide : (0 : Int32) = (0 : Int32))) rfl ?_
            refine own_iload P2497 at_239 rfl rfl ?_
            refine own_iload P2497 at_241 rfl rfl ?_
            refine own_if0Y P2497 (pc' := 250) at_243 (by decide : (0 : Int32) = (0 : Int32)) (by decide) (by decide) ?_
            refine own_iconst P2497 at_250 rfl (v := (1 : Int32)) rfl ?_
            refine own_icmpN P2497 (pc' := 254) at_251 (not_not_intro (by decide : (1 : Int32) = (1 : Int32))) rfl ?_
            refine own_aload P2497 at_254 rfl rfl rfl ?_
            refine own_virtP P2497 (hw _ (List.mem_of_getElem? (i := 80) rfl)) (hw _ (List.mem_of_getElem? (i := 81) rfl)) (hw _ (List.mem_of_getElem? (i := 83) rfl)) (hw _ (List.mem_of_getElem? (i := 82) rfl)) (hw _ (List.mem_of_getElem? (i := 2) rfl)) (hw _ (List.mem_of_getElem? (i := 84) rfl)) (by decide) f2507 (argsL := []) (rest := []) (rmSize l Z a0 hw b1680 (2 : Int32) h2499 f2515) at_256 rfl own_pd7 rfl rfl rfl (by decide) 0 rfl (by decide) rfl rfl (by decide) (by decide) (fun T2522 P2521 => ?_)
            show own_Go p e below _ (T2522.setTop (mkF m 259 #[.val (.int i0), .val (.int i1), .val (.int i2), .val (.int i3), .val (.int i4), .val (.int i5), .val (.int i6), .val (.int (0 : Int32)), .val (.ref b1680), .val (.ref b1728), .val (.ref b1770), .val (.int (0 : Int32)), .val (.int (1 : Int32)), .val (.int (2 : Int32)), .val (.int (0 : Int32)), .val (.int (2 : Int32)), .unset, .unset, .unset] [(.int (2 : Int32))]))
            refine own_iload P2521 at_259 rfl rfl ?_
            refine own_icmpN P2521 (pc' := 264) at_261 (not_not_intro (by decide : (2 : Int32) = (2 : Int32))) rfl ?_
            refine own_iconst P2521 at_264 rfl (v := (1 : Int32)) rfl ?_
            refine own_goto P2521 (pc' := 269) at_265 (by decide) (by decide) ?_
            refine own_istore P2521 at_269 rfl (Ls' := #[.val (.int i0), .val (.int i1), .val (.int i2), .val (.int i3), .val (.int i4), .val (.int i5), .val (.int i6), .val (.int (0 : Int32)), .val (.ref b1680), .val (.ref b1728), .val (.ref b1770), .val (.int (0 : Int32)), .val (.int (1 : Int32)), .val (.int (2 : Int32)), .val (.int (0 : Int32)), .val (.int (2 : Int32)), .val (.int (1 : Int32)), .unset, .unset]) rfl ?_
            refine own_aload P2521 at_271 rfl rfl rfl ?_
            refine own_iconst P2521 at_273 rfl (v := (0 : Int32)) rfl ?_
            refine own_virtP P2521 (hw _ (List.mem_of_getElem? (i := 85) rfl)) (hw _ (List.mem_of_getElem? (i := 76) rfl)) (hw _ (List.mem_of_getElem? (i := 78) rfl)) (hw _ (List.mem_of_getElem? (i := 77) rfl)) (hw _ (List.mem_of_getElem? (i := 2) rfl)) (hw _ (List.mem_of_getElem? (i := 79) rfl)) (by decide) f2507 (argsL := [(.int (0 : Int32))]) (rest := []) (rmHolds0 l Z a0 hw b1680 co1703 (2 : Int32) (0 : Int32) (0 : Int32) (0 : Int32) h2499 f2513 f2520) at_274 rfl own_pd6 rfl rfl rfl (by decide) 0 rfl (by decide) rfl rfl (by decide) (by decide) (fun T2528 P2527 => ?_)
            show own_Go p e below _ (T2528.setTop (mkF m 277 #[.val (.int i0), .val (.int i1), .val (.int i2), .val (.int i3), .val (.int i4), .val (.int i5), .val (.int i6), .val (.int (0 : Int32)), .val (.ref b1680), .val (.ref b1728), .val (.ref b1770), .val (.int (0 : Int32)), .val (.int (1 : Int32)), .val (.int (2 : Int32)), .val (.int (0 : Int32)), .val (.int (2 : Int32)), .val (.int (1 : Int32)), .unset, .unset] [(.int (own_ho (2 : Int32)))]))
            rw [show (own_ho (2 : Int32)) = (1 : Int32) by decide]
            refine own_iload P2527 at_277 rfl rfl ?_
            refine own_if0N P2527 (pc' := 282) at_279 (not_not_intro (by decide : (0 : Int32) < (2 : Int32))) rfl ?_
            refine own_iconst P2527 at_282 rfl (v := (1 : Int32)) rfl ?_
            refine own_goto P2527 (pc' := 287) at_283 (by decide) (by decide) ?_
            refine own_icmpN P2527 (pc' := 290) at_287 (not_not_intro (by decide : (1 : Int32) = (1 : Int32))) rfl ?_
            refine own_iconst P2527 at_290 rfl (v := (1 : Int32)) rfl ?_
            refine own_goto P2527 (pc' := 295) at_291 (by decide) (by decide) ?_
            refine own_istore P2527 at_295 rfl (Ls' := #[.val (.int i0), .val (.int i1), .val (.int i2), .val (.int i3), .val (.int i4), .val (.int i5), .val (.int i6), .val (.int (0 : Int32)), .val (.ref b1680), .val (.ref b1728), .val (.ref b1770), .val (.int (0 : Int32)), .val (.int (1 : Int32)), .val (.int (2 : Int32)), .val (.int (0 : Int32)), .val (.int (2 : Int32)), .val (.int (1 : Int32)), .val (.int (1 : Int32)), .unset]) rfl ?_
            refine own_iload P2527 at_297 rfl rfl ?_
            refine own_if0N P2527 (pc' := 302) at_299 (not_not_intro (by decide : (0 : Int32) = (0 : Int32))) rfl ?_
            refine own_aload P2527 at_302 rfl rfl rfl ?_
            refine own_iconst P2527 at_304 rfl (v := (1 : Int32)) rfl ?_
            refine own_virtP P2527 (hw _ (List.mem_of_getElem? (i := 85) rfl)) (hw _ (List.mem_of_getElem? (i := 76) rfl)) (hw _ (List.mem_of_getElem? (i := 78) rfl)) (hw _ (List.mem_of_getElem? (i := 77) rfl)) (hw _ (List.mem_of_getElem? (i := 2) rfl)) (hw _ (List.mem_of_getElem? (i := 79) rfl)) (by decide) f2507 (argsL := [(.int (1 : Int32))]) (rest := []) (rmHolds1 l Z a0 hw b1680 co1703 (2 : Int32) (0 : Int32) (0 : Int32) (0 : Int32) h2499 f2513 f2520) at_305 rfl own_pd6 rfl rfl rfl (by decide) 0 rfl (by decide) rfl rfl (by decide) (by decide) (fun T2534 P2533 => ?_)
            show own_Go p e below _ (T2534.setTop (mkF m 308 #[.val (.int i0), .val (.int i1), .val (.int i2), .val (.int i3), .val (.int i4), .val (.int i5), .val (.int i6), .val (.int (0 : Int32)), .val (.ref b1680), .val (.ref b1728), .val (.ref b1770), .val (.int (0 : Int32)), .val (.int (1 : Int32)), .val (.int (2 : Int32)), .val (.int (0 : Int32)), .val (.int (2 : Int32)), .val (.int (1 : Int32)), .val (.int (1 : Int32)), .unset] [(.int (own_ho (0 : Int32)))]))
            rw [show (own_ho (0 : Int32)) = (0 : Int32) by decide]
            refine own_iload P2533 at_308 rfl rfl ?_
            refine own_if0Y P2533 (pc' := 317) at_310 (by decide : ¬ ((0 : Int32) < (0 : Int32))) (by decide) (by decide) ?_
            refine own_iconst P2533 at_317 rfl (v := (0 : Int32)) rfl ?_
            refine own_icmpN P2533 (pc' := 321) at_318 (not_not_intro (by decide : (0 : Int32) = (0 : Int32))) rfl ?_
            refine own_iconst P2533 at_321 rfl (v := (1 : Int32)) rfl ?_
            refine own_goto P2533 (pc' := 326) at_322 (by decide) (by decide) ?_
            refine own_istore P2533 at_326 rfl (Ls' := #[.val (.int i0), .val (.int i1), .val (.int i2), .val (.int i3), .val (.int i4), .val (.int i5), .val (.int i6), .val (.int (0 : Int32)), .val (.ref b1680), .val (.ref b1728), .val (.ref b1770), .val (.int (0 : Int32)), .val (.int (1 : Int32)), .val (.int (2 : Int32)), .val (.int (0 : Int32)), .val (.int (2 : Int32)), .val (.int (1 : Int32)), .val (.int (1 : Int32)), .val (.int (1 : Int32))]) rfl ?_
            refine own_iload P2533 at_328 rfl rfl ?_
            refine own_if0N P2533 (pc' := 333) at_330 (by decide : ¬ ((1 : Int32) = (0 : Int32))) rfl ?_
            refine own_iload P2533 at_333 rfl rfl ?_
            refine own_if0N P2533 (pc' := 338) at_335 (by decide : ¬ ((1 : Int32) = (0 : Int32))) rfl ?_
            refine own_iload P2533 at_338 rfl rfl ?_
            refine own_if0N P2533 (pc' := 343) at_340 (by decide : ¬ ((1 : Int32) = (0 : Int32))) rfl ?_
            refine own_iconst P2533 at_343 rfl (v := (1 : Int32)) rfl ?_
            refine own_goto P2533 (pc' := 348) at_344 (by decide) (by decide) ?_
            exact own_retZ P2533 at_348 (z := (1 : Int32)) rfl (by decide) (by decide) (hQ _ _ N2506)
def F0_62 (i3 : Int32) (i4 : Int32) (i5 : Int32) (i6 : Int32) (si0 : Int32) : Int32 := (F0_64 i3 i4 i5 i6 si0)
set_option maxRecDepth 65536 in
set_option maxHeartbeats 40000000 in
theorem b0_62 {p : Program} {l : Launch} {e : Env} {s : State} {m : MethodId} {args : Array Value} {below : List Frame} {meth : Method} {c : Code} {T : State} {h : Heap} {locs : List Loc} {Z : State} {a0 : Array Value} {Q : Option Value → Heap → List Loc → Prop} (hw : ∀ d ∈ tables_1, d.before a0 Z = true) (i0 : Int32) (i1 : Int32) (i2 : Int32) (i3 : Int32) (i4 : Int32) (i5 : Int32) (i6 : Int32) (si0 : Int32)  (n0 : Nat) (N : Fr n0 locs) (Z0 : n0 ≤ h.size) (hsp0 : ((si0 = (1 : Int32) ∧ i0 = i1) ∨ (si0 = (0 : Int32) ∧ ¬ (i0 = i1)))) (P : own_S Z "com/example/projectum/projectum/reasoning/RelationHoldsPinLaw" "law" code 19 (some .boolean) p l e room_1 s m args below meth c T h locs 0 0) (hQ : ∀ h' L', Fr n0 L' → Q (some (.int (F0_62 i3 i4 i5 i6 si0))) h' L') :
    own_Go p e below (own_K s Q room_1.cells room_1.slots) (T.setTop (mkF m 62 #[.val (.int i0), .val (.int i1), .val (.int i2), .val (.int i3), .val (.int i4), .val (.int i5), .val (.int i6), .unset, .unset, .unset, .unset, .unset, .unset, .unset, .unset, .unset, .unset, .unset, .unset] [(.int si0)])) := by
  unfold F0_62 at hQ
  refine own_istore P at_62 rfl (Ls' := #[.val (.int i0), .val (.int i1), .val (.int i2), .val (.int i3), .val (.int i4), .val (.int i5), .val (.int i6), .val (.int si0), .unset, .unset, .unset, .unset, .unset, .unset, .unset, .unset, .unset, .unset, .unset]) rfl ?_
  exact b0_64 hw i0 i1 i2 i3 i4 i5 i6 si0  n0 N Z0    hsp0 P hQ
def F0_50 (i0 : Int32) (i1 : Int32) (i3 : Int32) (i4 : Int32) (i5 : Int32) (si0 : Int32) : Int32 := (if i0 = i1 then (F0_62 i3 i4 i5 si0 (1 : Int32)) else (F0_62 i3 i4 i5 si0 (0 : Int32)))
set_option maxRecDepth 65536 in
set_option maxHeartbeats 40000000 in
theorem b0_50 {p : Program} {l : Launch} {e : Env} {s : State} {m : MethodId} {args : Array Value} {below : List Frame} {meth : Method} {c : Code} {T : State} {h : Heap} {locs : List Loc} {Z : State} {a0 : Array Value} {Q : Option Value → Heap → List Loc → Prop} (hw : ∀ d ∈ tables_1, d.before a0 Z = true) (i0 : Int32) (i1 : Int32) (i2 : Int32) (i3 : Int32) (i4 : Int32) (i5 : Int32) (si0 : Int32)  (n0 : Nat) (N : Fr n0 locs) (Z0 : n0 ≤ h.size) (P : own_S Z "com/example/projectum/projectum/reasoning/RelationHoldsPinLaw" "law" code 19 (some .boolean) p l e room_1 s m args below meth c T h locs 0 0) (hQ : ∀ h' L', Fr n0 L' → Q (some (.int (F0_50 i0 i1 i3 i4 i5 si0))) h' L') :
    own_Go p e below (own_K s Q room_1.cells room_1.slots) (T.setTop (mkF m 50 #[.val (.int i0), .val (.int i1), .val (.int i2), .val (.int i3), .val (.int i4), .val (.int i5), .unset, .unset, .unset, .unset, .unset, .unset, .unset, .unset, .unset, .unset, .unset, .unset, .unset] [(.int si0)])) := by
  unfold F0_50 at hQ
  refine own_istore P at_50 rfl (Ls' := #[.val (.int i0), .val (.int i1), .val (.int i2), .val (.int i3), .val (.int i4), .val (.int i5), .val (.int si0), .unset, .unset, .unset, .unset, .unset, .unset, .unset, .unset, .unset, .unset, .unset, .unset]) rfl ?_
  refine own_iloadN P at_52 rfl rfl ?_
  refine own_iloadN P at_53 rfl rfl ?_
  by_cases hc918 : i0 = i1
  · rw [if_pos hc918] at hQ
    refine own_icmpN P (pc' := 57) at_54 (not_not_intro hc918) rfl ?_
    refine own_iconst P at_57 rfl (v := (1 : Int32)) rfl ?_
    refine own_goto P (pc' := 62) at_58 (by decide) (by decide) ?_
    exact b0_62 hw i0 i1 i2 i3 i4 i5 si0 (1 : Int32)  n0 N Z0    (Or.inl ⟨rfl, hc918⟩) P hQ
  · rw [if_neg hc918] at hQ
    refine own_icmpY P (pc' := 61) at_54 hc918 (by decide) (by decide) ?_
    refine own_iconst P at_61 rfl (v := (0 : Int32)) rfl ?_
    exact b0_62 hw i0 i1 i2 i3 i4 i5 si0 (0 : Int32)  n0 N Z0    (Or.inr ⟨rfl, hc918⟩) P hQ
def F0_36 (i0 : Int32) (i1 : Int32) (i2 : Int32) (i3 : Int32) (i4 : Int32) (si0 : Int32) : Int32 := (if (i2 &&& (8 : Int32)) = (0 : Int32) then (F0_50 i0 i1 i3 i4 si0 (0 : Int32)) else (F0_50 i0 i1 i3 i4 si0 (1 : Int32)))
set_option maxRecDepth 65536 in
set_option maxHeartbeats 40000000 in
theorem b0_36 {p : Program} {l : Launch} {e : Env} {s : State} {m : MethodId} {args : Array Value} {below : List Frame} {meth : Method} {c : Code} {T : State} {h : Heap} {locs : List Loc} {Z : State} {a0 : Array Value} {Q : Option Value → Heap → List Loc → Prop} (hw : ∀ d ∈ tables_1, d.before a0 Z = true) (i0 : Int32) (i1 : Int32) (i2 : Int32) (i3 : Int32) (i4 : Int32) (si0 : Int32)  (n0 : Nat) (N : Fr n0 locs) (Z0 : n0 ≤ h.size) (P : own_S Z "com/example/projectum/projectum/reasoning/RelationHoldsPinLaw" "law" code 19 (some .boolean) p l e room_1 s m args below meth c T h locs 0 0) (hQ : ∀ h' L', Fr n0 L' → Q (some (.int (F0_36 i0 i1 i2 i3 i4 si0))) h' L') :
    own_Go p e below (own_K s Q room_1.cells room_1.slots) (T.setTop (mkF m 36 #[.val (.int i0), .val (.int i1), .val (.int i2), .val (.int i3), .val (.int i4), .unset, .unset, .unset, .unset, .unset, .unset, .unset, .unset, .unset, .unset, .unset, .unset, .unset, .unset] [(.int si0)])) := by
  unfold F0_36 at hQ
  refine own_istore P at_36 rfl (Ls' := #[.val (.int i0), .val (.int i1), .val (.int i2), .val (.int i3), .val (.int i4), .val (.int si0), .unset, .unset, .unset, .unset, .unset, .unset, .unset, .unset, .unset, .unset, .unset, .unset, .unset]) rfl ?_
  refine own_iloadN P at_38 rfl rfl ?_
  refine own_bipush P at_39 rfl (v := (8 : Int32)) rfl ?_
  refine own_iand P at_41 rfl ?_
  by_cases hc917 : (i2 &&& (8 : Int32)) = (0 : Int32)
  · rw [if_pos hc917] at hQ
    refine own_if0Y P (pc' := 49) at_42 hc917 (by decide) (by decide) ?_
    refine own_iconst P at_49 rfl (v := (0 : Int32)) rfl ?_
    exact b0_50 hw i0 i1 i2 i3 i4 si0 (0 : Int32)  n0 N Z0    P hQ
  · rw [if_neg hc917] at hQ
    refine own_if0N P (pc' := 45) at_42 hc917 rfl ?_
    refine own_iconst P at_45 rfl (v := (1 : Int32)) rfl ?_
    refine own_goto P (pc' := 50) at_46 (by decide) (by decide) ?_
    exact b0_50 hw i0 i1 i2 i3 i4 si0 (1 : Int32)  n0 N Z0    P hQ
def F0_23 (i0 : Int32) (i1 : Int32) (i2 : Int32) (i3 : Int32) (si0 : Int32) : Int32 := (if (i2 &&& (4 : Int32)) = (0 : Int32) then (F0_36 i0 i1 i2 i3 si0 (0 : Int32)) else (F0_36 i0 i1 i2 i3 si0 (1 : Int32)))
set_option maxRecDepth 65536 in
set_option maxHeartbeats 40000000 in
theorem b0_23 {p : Program} {l : Launch} {e : Env} {s : State} {m : MethodId} {args : Array Value} {below : List Frame} {meth : Method} {c : Code} {T : State} {h : Heap} {locs : List Loc} {Z : State} {a0 : Array Value} {Q : Option Value → Heap → List Loc → Prop} (hw : ∀ d ∈ tables_1, d.before a0 Z = true) (i0 : Int32) (i1 : Int32) (i2 : Int32) (i3 : Int32) (si0 : Int32)  (n0 : Nat) (N : Fr n0 locs) (Z0 : n0 ≤ h.size) (P : own_S Z "com/example/projectum/projectum/reasoning/RelationHoldsPinLaw" "law" code 19 (some .boolean) p l e room_1 s m args below meth c T h locs 0 0) (hQ : ∀ h' L', Fr n0 L' → Q (some (.int (F0_23 i0 i1 i2 i3 si0))) h' L') :
    own_Go p e below (own_K s Q room_1.cells room_1.slots) (T.setTop (mkF m 23 #[.val (.int i0), .val (.int i1), .val (.int i2), .val (.int i3), .unset, .unset, .unset, .unset, .unset, .unset, .unset, .unset, .unset, .unset, .unset, .unset, .unset, .unset, .unset] [(.int si0)])) := by
  unfold F0_23 at hQ
  refine own_istore P at_23 rfl (Ls' := #[.val (.int i0), .val (.int i1), .val (.int i2), .val (.int i3), .val (.int si0), .unset, .unset, .unset, .unset, .unset, .unset, .unset, .unset, .unset, .unset, .unset, .unset, .unset, .unset]) rfl ?_
  refine own_iloadN P at_25 rfl rfl ?_
  refine own_iconst P at_26 rfl (v := (4 : Int32)) rfl ?_
  refine own_iand P at_27 rfl ?_
  by_cases hc916 : (i2 &&& (4 : Int32)) = (0 : Int32)
  · rw [if_pos hc916] at hQ
    refine own_if0Y P (pc' := 35) at_28 hc916 (by decide) (by decide) ?_
    refine own_iconst P at_35 rfl (v := (0 : Int32)) rfl ?_
    exact b0_36 hw i0 i1 i2 i3 si0 (0 : Int32)  n0 N Z0    P hQ
  · rw [if_neg hc916] at hQ
    refine own_if0N P (pc' := 31) at_28 hc916 rfl ?_
    refine own_iconst P at_31 rfl (v := (1 : Int32)) rfl ?_
    refine own_goto P (pc' := 36) at_32 (by decide) (by decide) ?_
    exact b0_36 hw i0 i1 i2 i3 si0 (1 : Int32)  n0 N Z0    P hQ
def F0_11 (i0 : Int32) (i1 : Int32) (i2 : Int32) (si0 : Int32) : Int32 := (if (i2 &&& (2 : Int32)) = (0 : Int32) then (F0_23 i0 i1 i2 si0 (0 : Int32)) else (F0_23 i0 i1 i2 si0 (1 : Int32)))
set_option maxRecDepth 65536 in
set_option maxHeartbeats 40000000 in
theorem b0_11 {p : Program} {l : Launch} {e : Env} {s : State} {m : MethodId} {args : Array Value} {below : List Frame} {meth : Method} {c : Code} {T : State} {h : Heap} {locs : List Loc} {Z : State} {a0 : Array Value} {Q : Option Value → Heap → List Loc → Prop} (hw : ∀ d ∈ tables_1, d.before a0 Z = true) (i0 : Int32) (i1 : Int32) (i2 : Int32) (si0 : Int32)  (n0 : Nat) (N : Fr n0 locs) (Z0 : n0 ≤ h.size) (P : own_S Z "com/example/projectum/projectum/reasoning/RelationHoldsPinLaw" "law" code 19 (some .boolean) p l e room_1 s m args below meth c T h locs 0 0) (hQ : ∀ h' L', Fr n0 L' → Q (some (.int (F0_11 i0 i1 i2 si0))) h' L') :
    own_Go p e below (own_K s Q room_1.cells room_1.slots) (T.setTop (mkF m 11 #[.val (.int i0), .val (.int i1), .val (.int i2), .unset, .unset, .unset, .unset, .unset, .unset, .unset, .unset, .unset, .unset, .unset, .unset, .unset, .unset, .unset, .unset] [(.int si0)])) := by
  unfold F0_11 at hQ
  refine own_istoreN P at_11 rfl (Ls' := #[.val (.int i0), .val (.int i1), .val (.int i2), .val (.int si0), .unset, .unset, .unset, .unset, .unset, .unset, .unset, .unset, .unset, .unset, .unset, .unset, .unset, .unset, .unset]) rfl ?_
  refine own_iloadN P at_12 rfl rfl ?_
  refine own_iconst P at_13 rfl (v := (2 : Int32)) rfl ?_
  refine own_iand P at_14 rfl ?_
  by_cases hc915 : (i2 &&& (2 : Int32)) = (0 : Int32)
  · rw [if_pos hc915] at hQ
    refine own_if0Y P (pc' := 22) at_15 hc915 (by decide) (by decide) ?_
    refine own_iconst P at_22 rfl (v := (0 : Int32)) rfl ?_
    exact b0_23 hw i0 i1 i2 si0 (0 : Int32)  n0 N Z0    P hQ
  · rw [if_neg hc915] at hQ
    refine own_if0N P (pc' := 18) at_15 hc915 rfl ?_
    refine own_iconst P at_18 rfl (v := (1 : Int32)) rfl ?_
    refine own_goto P (pc' := 23) at_19 (by decide) (by decide) ?_
    exact b0_23 hw i0 i1 i2 si0 (1 : Int32)  n0 N Z0    P hQ
def F0_0 (i0 : Int32) (i1 : Int32) (i2 : Int32) : Int32 := (if (i2 &&& (1 : Int32)) = (0 : Int32) then (F0_11 i0 i1 i2 (0 : Int32)) else (F0_11 i0 i1 i2 (1 : Int32)))
set_option maxRecDepth 65536 in
set_option maxHeartbeats 40000000 in
theorem b0_0 {p : Program} {l : Launch} {e : Env} {s : State} {m : MethodId} {args : Array Value} {below : List Frame} {meth : Method} {c : Code} {T : State} {h : Heap} {locs : List Loc} {Z : State} {a0 : Array Value} {Q : Option Value → Heap → List Loc → Prop} (hw : ∀ d ∈ tables_1, d.before a0 Z = true) (i0 : Int32) (i1 : Int32) (i2 : Int32)  (n0 : Nat) (N : Fr n0 locs) (Z0 : n0 ≤ h.size) (P : own_S Z "com/example/projectum/projectum/reasoning/RelationHoldsPinLaw" "law" code 19 (some .boolean) p l e room_1 s m args below meth c T h locs 0 0) (hQ : ∀ h' L', Fr n0 L' → Q (some (.int (F0_0 i0 i1 i2))) h' L') :
    own_Go p e below (own_K s Q room_1.cells room_1.slots) (T.setTop (mkF m 0 #[.val (.int i0), .val (.int i1), .val (.int i2), .unset, .unset, .unset, .unset, .unset, .unset, .unset, .unset, .unset, .unset, .unset, .unset, .unset, .unset, .unset, .unset] [])) := by
  unfold F0_0 at hQ
  refine own_iloadN P at_0 rfl rfl ?_
  refine own_iconst P at_1 rfl (v := (1 : Int32)) rfl ?_
  refine own_iand P at_2 rfl ?_
  by_cases hc914 : (i2 &&& (1 : Int32)) = (0 : Int32)
  · rw [if_pos hc914] at hQ
    refine own_if0Y P (pc' := 10) at_3 hc914 (by decide) (by decide) ?_
    refine own_iconst P at_10 rfl (v := (0 : Int32)) rfl ?_
    exact b0_11 hw i0 i1 i2 (0 : Int32)  n0 N Z0    P hQ
  · rw [if_neg hc914] at hQ
    refine own_if0N P (pc' := 6) at_3 hc914 rfl ?_
    refine own_iconst P at_6 rfl (v := (1 : Int32)) rfl ?_
    refine own_goto P (pc' := 11) at_7 (by decide) (by decide) ?_
    exact b0_11 hw i0 i1 i2 (1 : Int32)  n0 N Z0    P hQ
theorem own_pn3 : plainName "com/example/projectum/projectum/reasoning/RelationHoldsPinLaw" = true := by first | (simp [plainName, overriddenIn]; done) | decide +kernel
theorem rm0 (l : Launch) (Z : State) (a0 : Array Value) (hw : ∀ d ∈ tables_1, d.before a0 Z = true) (i0 : Int32) (i1 : Int32) (i2 : Int32) (ws : List Jvm.Cond) (h : Heap) :
    own_Con l Z x code maxLocals ret ws room_1 #[(.int i0), (.int i1), (.int i2)] h (fun v _ L => v = some (.int (F0_0 i0 i1 i2)) ∧ Fr h.size L) :=
  own_enter (plainFor_of_name own_pn3) #[.val (.int i0), .val (.int i1), .val (.int i2), .unset, .unset, .unset, .unset, .unset, .unset, .unset, .unset, .unset, .unset, .unset, .unset, .unset, .unset, .unset, .unset] (fun m => by first | (simp [entryFrame, mkF, argsToLocals, Value.category, maxLocals]; done) | rfl) (fun p e s m below meth c T P => b0_0 hw i0 i1 i2 h.size (Fr.nil _) (Nat.le_refl _) P (fun _ _ q => ⟨rfl, q⟩))
theorem own_law (i0 i1 i2 : Int32) : F0_0 i0 i1 i2 = 1 := by
  unfold F0_0 F0_11 F0_23 F0_36 F0_50 F0_62 F0_64
  simp only [ite_self]

theorem own_rm0 (l : Launch) (Z : State) (a0 : Array Value) (hw : ∀ d ∈ tables_1, d.before a0 Z = true) (i0 : Int32) (i1 : Int32) (i2 : Int32) (ws : List Jvm.Cond) (h : Heap) :
    own_Con l Z x code maxLocals ret ws room_1 #[(.int i0), (.int i1), (.int i2)] h (fun v _ L => v = some (.int 1) ∧ Fr h.size L) := by
  have q := rm0 l Z a0 hw i0 i1 i2 ws h
  rw [own_law i0 i1 i2] at q
  exact q
set_option maxRecDepth 65536 in
set_option maxHeartbeats 40000000 in
theorem comes_1 {Post : Tables → Env → Array Value → State → Outcome → State → Prop} (hpost : ∀ tb e args s v u, (limb_1_1.after args s (.returned v) u = true ∧ limb_1_2.after args s (.returned v) u = true ∧ True) → FrameEnd s (.returned v) u (Jvm.fieldLocs frame_1_writes args s ++ Jvm.arrayLocs frame_1_arrays args s ++ Jvm.staticLocs frame_1_statics s) 24 192 → Post tb e args s (.returned v) u) :
    ArmFor flags0 classFile x code maxLocals ret World_1 tables_1 room_1 Calls_1 rest_1 Pre_1 Post := by
  intro l hfl _ _ p e ha hc hk s m args below hf hA hF happ hP
  obtain ⟨hcalls, hrest, hpre⟩ := hP
  obtain ⟨-, -, -, hnamed, -, -, -, hat⟩ := (Spec.applies_iff hf).mp happ
  obtain ⟨hg, hn⟩ := and_e (Cond.before_iff.mp (show (Jvm.Cond.and given_1 narrow_1).before args s = true from hpre))
  obtain ⟨g0, hg1⟩ := and_e hg
  obtain ⟨k0, hg2⟩ := and_e hg1
  obtain ⟨k1, hg3⟩ := and_e hg2
  obtain ⟨w0, w1, w2, rfl⟩ : ∃ w0 w1 w2 : Value, args = #[w0, w1, w2] := by
    have hs : args.size = 3 := by simpa [Cond.value, given_1] using g0
    obtain ⟨L⟩ := args
    match L, hs with
    | [w0, w1, w2], _ => exact ⟨w0, w1, w2, rfl⟩
  have hw := fun d (hd : d ∈ tables_1) => atoms_spec (ws := Jvm.Cond.code x code maxLocals ret :: tables_1) hat d (List.mem_cons_of_mem _ hd)
  obtain ⟨i0, ei0⟩ := is_v k0
  obtain rfl : w0 = (.int i0) := Option.some.inj ei0
  obtain ⟨i1, ei1⟩ := is_v k1
  obtain rfl : w1 = (.int i1) := Option.some.inj ei1
  obtain ⟨i2, ei2⟩ := is_v hg3
  obtain rfl : w2 = (.int i2) := Option.some.inj ei2
  obtain ⟨n, o, h1, h2, h3, _, L, rfl, ⟨rfl, N⟩, hq⟩ := own_rm0 l s _ hw i0 i1 i2 tables_1 s.heap p e ha hc hk s m _ below hf ((Spec.applies_iff_loose hf).mp happ).1 ⟨rfl, State.Warmed39.refl s, rfl⟩ trivial
  refine ⟨n, _, h1, h2, h3, hpost _ _ _ _ _ _ ⟨Cond.after_iff.mpr rfl, Cond.after_iff.mpr (eq_i res_at (Term.int_eval (1)) rfl), trivial⟩ ⟨hq.1, hq.2.1, (hq.2.2.sift fun y hy => Or.inr (N y hy)).mono (by decide) (by decide)⟩⟩
theorem main_1_1 : Claimed_1_1 := comes_1 fun _ _ _ _ _ _ h hF => ⟨h.1, hF⟩
theorem main_1_2 : Claimed_1_2 := comes_1 fun _ _ _ _ _ _ h hF => ⟨h.2.1, hF⟩
end Jvm.Pilot.@@N@@
namespace Jvm.Pilot.@@N@@
open Jvm Jvm.ClassFile Sem Op Lib Jvm.Free Jvm.Stand Jvm.Pilot.@@N@@.Jvm.D
/-! MADE BY PROGRAM (witnessworld.py) out of the Statement's table words and the real class files: 19 classes; the members and pool entries that the words name. The judged class is class 1, her method 1. -/
namespace start1
open Jvm.ClassFile
def u (s : String) : CpInfo := .utf8 (stringToUtf16 s)
/-- a pool by its gaps: so many unusable entries, then the entry; so many at the end -/
def gap : Nat → List CpInfo → List CpInfo
  | 0, r => r
  | n + 1, r => .unusable :: gap n r
def poolList (es : List (Nat × CpInfo)) (last : Nat) : List CpInfo := es.foldr (fun e r => gap e.1 (e.2 :: r)) (gap last [])
def pool (es : List (Nat × CpInfo)) (last : Nat) : Array CpInfo := ⟨poolList es last⟩
def fileOf (pool : Array CpInfo) (this : Nat) (attrs : Array Attribute := #[]) (ms : Array MethodInfo := #[]) (fl : Nat := 33) (sup : Nat := 0) (ifs : Array Nat := #[]) (fds : Array FieldInfo := #[]) : ClassFile where
  minorVersion := 0
  majorVersion := 65
  constantPool := pool
  accessFlags := fl
  thisClass := this
  superClass := sup
  interfaces := ifs
  fields := fds
  methods := ms
  attributes := attrs
def plain (name : String) (sup : Option ClassId) : Class where
  name := name
  kind := .ordinary
  loader := none
  accessFlags := 33
  super := sup
  interfaces := #[]
  cf := none
  fields := #[]
  methods := #[]
  instanceTypes := #[]
  staticTypes := #[]
  resolved := #[]
  callSites := []
  init := .initialized
  statics := none
  mirror := none

def pool0 : Array CpInfo := pool [(5, u "<init>"), (0, u "()V"), (1, .class_ 10), (1, u "java/lang/Object")] 113

def k0c0 : Code := { maxStack := 0, maxLocals := 1, code := object_method_1_code, exceptionTable := #[], attributes := #[] }
def k0m0 : Method := { name := "<init>", desc := "()V", sig := { parameters := [], returnType := none }, accessFlags := 1, code := some k0c0 }
/-- java/lang/Object -/
def k0 : Class := { plain "java/lang/Object" none with
  accessFlags := 33
  interfaces := #[]
  cf := some (fileOf pool0 8 #[] #[{ accessFlags := 1, nameIndex := 5, descriptorIndex := 6, attributes := #[] }] 33 0 #[] #[])
  fields := #[]
  methods := #[k0m0]
  instanceTypes := #[]
  staticTypes := #[]
  resolved := Array.replicate 124 none
  statics := none }

def pool1 : Array CpInfo := pool [(2, .class_ 4), (1, u "java/lang/Object"), (0, u "<init>"), (0, u "()V"), (0, .class_ 8), (0, u "com/example/projectum/projectum/reasoning/Relation"), (0, .methodref 7 10), (0, .nameAndType 5 11), (0, u "(I)V"), (0, .methodref 7 13), (0, .nameAndType 14 15), (0, u "add"), (0, u "([I)I"), (0, .methodref 7 17), (0, .nameAndType 18 15), (0, u "remove"), (0, .methodref 7 20), (0, .nameAndType 21 22), (0, u "size"), (0, u "()I"), (0, .methodref 7 24), (0, .nameAndType 25 26), (0, u "holds"), (0, u "(I)Z"), (0, .class_ 28), (0, u "com/example/projectum/projectum/reasoning/RelationHoldsPinLaw"), (2, u "law"), (0, u "(III)Z")] 5

def k1m0 : Method := { name := "<init>", desc := "()V", sig := { parameters := [], returnType := none }, accessFlags := 1, code := none }
def k1c1 : Code := { maxStack := 4, maxLocals := 19, code := code, exceptionTable := #[], attributes := #[] }
def k1m1 : Method := { name := "law", desc := "(III)Z", sig := { parameters := [.int, .int, .int], returnType := some .boolean }, accessFlags := 9, code := some k1c1 }
/-- com/example/projectum/projectum/reasoning/RelationHoldsPinLaw -/
def k1 : Class := { plain "com/example/projectum/projectum/reasoning/RelationHoldsPinLaw" (some 0) with
  accessFlags := 49
  interfaces := #[]
  cf := some (fileOf pool1 27 #[] #[{ accessFlags := 1, nameIndex := 5, descriptorIndex := 6, attributes := #[] }, { accessFlags := 9, nameIndex := 31, descriptorIndex := 32, attributes := #[] }] 49 2 #[] #[])
  fields := #[]
  methods := #[k1m0, k1m1]
  instanceTypes := #[]
  staticTypes := #[]
  resolved := Array.replicate 38 none
  statics := none }

def pool2 : Array CpInfo := pool [(1, .class_ 2), (0, u "com/example/projectum/projectum/reasoning/Lookup"), (0, .class_ 4), (0, u "java/lang/Object")] 15

/-- com/example/projectum/projectum/reasoning/Lookup -/
def k2 : Class := { plain "com/example/projectum/projectum/reasoning/Lookup" (some 0) with
  accessFlags := 1536
  interfaces := #[]
  cf := some (fileOf pool2 1 #[] #[] 1536 3 #[] #[])
  fields := #[]
  methods := #[]
  instanceTypes := #[]
  staticTypes := #[]
  resolved := Array.replicate 20 none
  statics := none }

def pool3 : Array CpInfo := pool [(1, .methodref 2 3), (0, .class_ 4), (0, .nameAndType 5 6), (0, u "java/lang/Object"), (0, u "<init>"), (0, u "()V"), (0, .fieldref 8 9), (0, .class_ 10), (0, .nameAndType 11 12), (0, u "com/example/projectum/projectum/reasoning/Relation"), (0, u "arity"), (0, u "I"), (0, .fieldref 8 14), (0, .nameAndType 15 16), (0, u "rows"), (0, u "[I"), (0, .fieldref 8 18), (0, .nameAndType 19 16), (0, u "counts"), (0, .class_ 21), (0, u "com/example/projectum/projectum/reasoning/Relation$NodeIndex"), (0, .fieldref 8 23), (0, .nameAndType 24 25), (0, u "byPosition"), (0, u "[Lcom/example/projectum/projectum/reasoning/Relation$NodeIndex;"), (0, .fieldref 8 27), (0, .nameAndType 28 12), (0, u "size"), (6, .methodref 8 36), (0, .nameAndType 37 38), (0, u "indexOf"), (0, u "([I)I"), (0, .methodref 8 40), (0, .nameAndType 41 42), (0, u "raise"), (0, u "(I[I)I"), (0, .methodref 8 44), (0, .nameAndType 45 38), (0, u "append"), (0, .fieldref 8 47), (0, .nameAndType 48 16), (0, u "slots"), (1, .class_ 52), (1, u "java/lang/Math"), (1, u "(II)I"), (4, .methodref 60 61), (0, .class_ 62), (0, .nameAndType 63 64), (0, u "java/lang/System"), (0, u "arraycopy"), (0, u "(Ljava/lang/Object;ILjava/lang/Object;II)V"), (4, .class_ 70), (0, u "java/lang/Integer"), (9, u "(I)V"), (0, .methodref 50 82), (0, .nameAndType 83 54), (0, u "max"), (4, .methodref 8 89), (0, .nameAndType 90 80), (0, u "rehash"), (0, .fieldref 8 92), (0, .nameAndType 93 12), (0, u "freeSlot"), (2, u "add"), (0, .methodref 8 98), (0, .nameAndType 99 38), (0, u "find"), (16, .methodref 8 117), (0, .nameAndType 118 119), (0, u "holds"), (0, u "(I)Z"), (0, .methodref 69 121), (0, .nameAndType 122 123), (0, u "highestOneBit"), (0, u "(I)I"), (0, .methodref 8 125), (0, .nameAndType 126 127), (0, u "hash"), (0, u "([II)I"), (6, u "NONE"), (0, u "Lcom/example/projectum/projectum/reasoning/IntList;"), (3, .integer 2654435769), (1, .class_ 142), (0, u "com/example/projectum/projectum/reasoning/Lookup"), (2, u "()I"), (9, u "remove")] 25

def k3c0 : Code := { maxStack := 3, maxLocals := 2, code := prog_73_method_1_code, exceptionTable := #[], attributes := #[] }
def k3m0 : Method := { name := "<init>", desc := "(I)V", sig := { parameters := [.int], returnType := none }, accessFlags := 0, code := some k3c0 }
def k3c1 : Code := { maxStack := 1, maxLocals := 1, code := prog_73_method_3_code, exceptionTable := #[], attributes := #[] }
def k3m1 : Method := { name := "size", desc := "()I", sig := { parameters := [], returnType := some .int }, accessFlags := 1, code := some k3c1 }
def k3c2 : Code := { maxStack := 2, maxLocals := 2, code := prog_73_method_6_code, exceptionTable := #[], attributes := #[] }
def k3m2 : Method := { name := "holds", desc := "(I)Z", sig := { parameters := [.int], returnType := some .boolean }, accessFlags := 1, code := some k3c2 }
def k3c3 : Code := { maxStack := 3, maxLocals := 3, code := prog_73_method_7_code, exceptionTable := #[], attributes := #[] }
def k3m3 : Method := { name := "add", desc := "([I)I", sig := { parameters := [(.array .int)], returnType := some .int }, accessFlags := 0, code := some k3c3 }
def k3c4 : Code := { maxStack := 5, maxLocals := 4, code := prog_73_method_13_code, exceptionTable := #[], attributes := #[] }
def k3m4 : Method := { name := "raise", desc := "(I[I)I", sig := { parameters := [.int, (.array .int)], returnType := some .int }, accessFlags := 2, code := some k3c4 }
def k3c5 : Code := { maxStack := 5, maxLocals := 4, code := prog_73_method_14_code, exceptionTable := #[], attributes := #[] }
def k3m5 : Method := { name := "append", desc := "([I)I", sig := { parameters := [(.array .int)], returnType := some .int }, accessFlags := 2, code := some k3c5 }
def k3c6 : Code := { maxStack := 4, maxLocals := 4, code := prog_73_method_15_code, exceptionTable := #[], attributes := #[] }
def k3m6 : Method := { name := "remove", desc := "([I)I", sig := { parameters := [(.array .int)], returnType := some .int }, accessFlags := 0, code := some k3c6 }
def k3c7 : Code := { maxStack := 2, maxLocals := 3, code := prog_73_method_16_code, exceptionTable := #[], attributes := #[] }
def k3m7 : Method := { name := "find", desc := "([I)I", sig := { parameters := [(.array .int)], returnType := some .int }, accessFlags := 1, code := some k3c7 }
def k3c8 : Code := { maxStack := 4, maxLocals := 7, code := prog_73_method_17_code, exceptionTable := #[], attributes := #[] }
def k3m8 : Method := { name := "indexOf", desc := "([I)I", sig := { parameters := [(.array .int)], returnType := some .int }, accessFlags := 2, code := some k3c8 }
def k3c9 : Code := { maxStack := 2, maxLocals := 3, code := prog_73_method_21_code, exceptionTable := #[], attributes := #[] }
def k3m9 : Method := { name := "rehash", desc := "(I)V", sig := { parameters := [.int], returnType := none }, accessFlags := 2, code := some k3c9 }
def k3c10 : Code := { maxStack := 3, maxLocals := 5, code := prog_73_method_23_code, exceptionTable := #[], attributes := #[] }
def k3m10 : Method := { name := "hash", desc := "([II)I", sig := { parameters := [(.array .int), .int], returnType := some .int }, accessFlags := 2, code := some k3c10 }
/-- com/example/projectum/projectum/reasoning/Relation -/
def k3 : Class := { plain "com/example/projectum/projectum/reasoning/Relation" (some 0) with
  accessFlags := 48
  interfaces := #[2]
  cf := some (fileOf pool3 8 #[.nestMembers #[20]] #[{ accessFlags := 0, nameIndex := 5, descriptorIndex := 80, attributes := #[] }, { accessFlags := 1, nameIndex := 28, descriptorIndex := 145, attributes := #[] }, { accessFlags := 1, nameIndex := 118, descriptorIndex := 119, attributes := #[] }, { accessFlags := 0, nameIndex := 96, descriptorIndex := 38, attributes := #[] }, { accessFlags := 2, nameIndex := 41, descriptorIndex := 42, attributes := #[] }, { accessFlags := 2, nameIndex := 45, descriptorIndex := 38, attributes := #[] }, { accessFlags := 0, nameIndex := 155, descriptorIndex := 38, attributes := #[] }, { accessFlags := 1, nameIndex := 99, descriptorIndex := 38, attributes := #[] }, { accessFlags := 2, nameIndex := 37, descriptorIndex := 38, attributes := #[] }, { accessFlags := 2, nameIndex := 90, descriptorIndex := 80, attributes := #[] }, { accessFlags := 2, nameIndex := 126, descriptorIndex := 127, attributes := #[] }] 48 2 #[141] #[{ accessFlags := 26, nameIndex := 134, descriptorIndex := 135, attributes := #[] }, { accessFlags := 18, nameIndex := 11, descriptorIndex := 12, attributes := #[] }, { accessFlags := 2, nameIndex := 15, descriptorIndex := 16, attributes := #[] }, { accessFlags := 2, nameIndex := 19, descriptorIndex := 16, attributes := #[] }, { accessFlags := 2, nameIndex := 28, descriptorIndex := 12, attributes := #[] }, { accessFlags := 2, nameIndex := 48, descriptorIndex := 16, attributes := #[] }, { accessFlags := 2, nameIndex := 93, descriptorIndex := 12, attributes := #[] }, { accessFlags := 18, nameIndex := 24, descriptorIndex := 25, attributes := #[] }])
  fields := #[{ name := "NONE", type := (.object "com/example/projectum/projectum/reasoning/IntList"), accessFlags := 26, slot := 0, constantValue := 0 }, { name := "arity", type := .int, accessFlags := 18, slot := 0, constantValue := 0 }, { name := "rows", type := (.array .int), accessFlags := 2, slot := 1, constantValue := 0 }, { name := "counts", type := (.array .int), accessFlags := 2, slot := 2, constantValue := 0 }, { name := "size", type := .int, accessFlags := 2, slot := 3, constantValue := 0 }, { name := "slots", type := (.array .int), accessFlags := 2, slot := 4, constantValue := 0 }, { name := "freeSlot", type := .int, accessFlags := 2, slot := 5, constantValue := 0 }, { name := "byPosition", type := (.array (.object "com/example/projectum/projectum/reasoning/Relation$NodeIndex")), accessFlags := 18, slot := 6, constantValue := 0 }]
  methods := #[k3m0, k3m1, k3m2, k3m3, k3m4, k3m5, k3m6, k3m7, k3m8, k3m9, k3m10]
  instanceTypes := #[.int, (.array .int), (.array .int), .int, (.array .int), .int, (.array (.object "com/example/projectum/projectum/reasoning/Relation$NodeIndex"))]
  staticTypes := #[(.object "com/example/projectum/projectum/reasoning/IntList")]
  resolved := Array.replicate 181 none
  statics := none }

def pool4 : Array CpInfo := pool [(2, .class_ 4), (1, u "java/lang/Object"), (19, .class_ 26), (1, u "com/example/projectum/projectum/reasoning/Relation$NodeIndex"), (0, u "nodes"), (0, u "[I"), (4, u "lists"), (0, u "[Lcom/example/projectum/projectum/reasoning/IntList;"), (9, u "size"), (0, u "I"), (15, .class_ 62), (0, u "com/example/projectum/projectum/reasoning/Relation")] 2

/-- com/example/projectum/projectum/reasoning/Relation$NodeIndex -/
def k4 : Class := { plain "com/example/projectum/projectum/reasoning/Relation$NodeIndex" (some 0) with
  accessFlags := 48
  interfaces := #[]
  cf := some (fileOf pool4 24 #[.nestHost 61] #[] 48 2 #[] #[{ accessFlags := 2, nameIndex := 27, descriptorIndex := 28, attributes := #[] }, { accessFlags := 2, nameIndex := 33, descriptorIndex := 34, attributes := #[] }, { accessFlags := 2, nameIndex := 44, descriptorIndex := 45, attributes := #[] }])
  fields := #[{ name := "nodes", type := (.array .int), accessFlags := 2, slot := 0, constantValue := 0 }, { name := "lists", type := (.array (.object "com/example/projectum/projectum/reasoning/IntList")), accessFlags := 2, slot := 1, constantValue := 0 }, { name := "size", type := .int, accessFlags := 2, slot := 2, constantValue := 0 }]
  methods := #[]
  instanceTypes := #[(.array .int), (.array (.object "com/example/projectum/projectum/reasoning/IntList")), .int]
  staticTypes := #[]
  resolved := Array.replicate 65 none
  statics := none }

def pool5 : Array CpInfo := pool [(1, .class_ 2), (0, u "java/lang/Math"), (1, .class_ 6), (1, u "java/lang/Object"), (0, u "<init>"), (0, u "()V"), (89, .class_ 100), (1, u "java/lang/Math$RandomNumberGeneratorHolder"), (71, u "negativeZeroFloatBits"), (0, u "J"), (2, u "negativeZeroDoubleBits"), (21, u "max"), (46, u "$assertionsDisabled"), (0, u "Z"), (88, u "(II)I"), (2, u "twoToTheDoubleScaleDown"), (0, u "D"), (4, u "twoToTheDoubleScaleUp"), (9, u "E"), (3, u "PI"), (2, u "TAU"), (2, u "DEGREES_TO_RADIANS"), (0, u "RADIANS_TO_DEGREES")] 94

def k5m0 : Method := { name := "<init>", desc := "()V", sig := { parameters := [], returnType := none }, accessFlags := 2, code := none }
def k5c1 : Code := { maxStack := 2, maxLocals := 2, code := jdk_29_method_65_code, exceptionTable := #[], attributes := #[] }
def k5m1 : Method := { name := "max", desc := "(II)I", sig := { parameters := [.int, .int], returnType := some .int }, accessFlags := 9, code := some k5c1 }
/-- java/lang/Math -/
def k5 : Class := { plain "java/lang/Math" (some 0) with
  accessFlags := 49
  interfaces := #[]
  cf := some (fileOf pool5 1 #[.nestMembers #[98]] #[{ accessFlags := 2, nameIndex := 7, descriptorIndex := 8, attributes := #[] }, { accessFlags := 9, nameIndex := 198, descriptorIndex := 335, attributes := #[] }] 49 4 #[] #[{ accessFlags := 25, nameIndex := 354, descriptorIndex := 339, attributes := #[] }, { accessFlags := 25, nameIndex := 358, descriptorIndex := 339, attributes := #[] }, { accessFlags := 25, nameIndex := 361, descriptorIndex := 339, attributes := #[] }, { accessFlags := 26, nameIndex := 364, descriptorIndex := 339, attributes := #[] }, { accessFlags := 26, nameIndex := 365, descriptorIndex := 339, attributes := #[] }, { accessFlags := 26, nameIndex := 172, descriptorIndex := 173, attributes := #[] }, { accessFlags := 26, nameIndex := 176, descriptorIndex := 173, attributes := #[] }, { accessFlags := 8, nameIndex := 344, descriptorIndex := 339, attributes := #[] }, { accessFlags := 8, nameIndex := 338, descriptorIndex := 339, attributes := #[] }, { accessFlags := 4120, nameIndex := 245, descriptorIndex := 246, attributes := #[] }])
  fields := #[{ name := "E", type := .double, accessFlags := 25, slot := 0, constantValue := 0 }, { name := "PI", type := .double, accessFlags := 25, slot := 1, constantValue := 0 }, { name := "TAU", type := .double, accessFlags := 25, slot := 2, constantValue := 0 }, { name := "DEGREES_TO_RADIANS", type := .double, accessFlags := 26, slot := 3, constantValue := 0 }, { name := "RADIANS_TO_DEGREES", type := .double, accessFlags := 26, slot := 4, constantValue := 0 }, { name := "negativeZeroFloatBits", type := .long, accessFlags := 26, slot := 5, constantValue := 0 }, { name := "negativeZeroDoubleBits", type := .long, accessFlags := 26, slot := 6, constantValue := 0 }, { name := "twoToTheDoubleScaleUp", type := .double, accessFlags := 8, slot := 7, constantValue := 0 }, { name := "twoToTheDoubleScaleDown", type := .double, accessFlags := 8, slot := 8, constantValue := 0 }, { name := "$assertionsDisabled", type := .boolean, accessFlags := 4120, slot := 9, constantValue := 0 }]
  methods := #[k5m0, k5m1]
  instanceTypes := #[]
  staticTypes := #[.double, .double, .double, .double, .double, .long, .long, .double, .double, .boolean]
  resolved := Array.replicate 460 none
  statics := none }

def pool6 : Array CpInfo := pool [(1, .class_ 2), (0, u "java/io/Serializable"), (0, .class_ 4), (0, u "java/lang/Object")] 2

/-- java/io/Serializable -/
def k6 : Class := { plain "java/io/Serializable" (some 0) with
  accessFlags := 1537
  interfaces := #[]
  cf := some (fileOf pool6 1 #[] #[] 1537 3 #[] #[])
  fields := #[]
  methods := #[]
  instanceTypes := #[]
  staticTypes := #[]
  resolved := Array.replicate 7 none
  statics := none }

def pool7 : Array CpInfo := pool [(2, .class_ 4), (1, u "java/lang/Object"), (0, u "<init>"), (0, u "()V"), (1, .class_ 10), (1, u "java/lang/Number"), (2, .class_ 14), (0, u "java/io/Serializable"), (0, u "serialVersionUID"), (0, u "J")] 20

def k7m0 : Method := { name := "<init>", desc := "()V", sig := { parameters := [], returnType := none }, accessFlags := 1, code := none }
/-- java/lang/Number -/
def k7 : Class := { plain "java/lang/Number" (some 0) with
  accessFlags := 1057
  interfaces := #[6]
  cf := some (fileOf pool7 8 #[] #[{ accessFlags := 1, nameIndex := 5, descriptorIndex := 6, attributes := #[] }] 1057 2 #[13] #[{ accessFlags := 26, nameIndex := 15, descriptorIndex := 16, attributes := #[] }])
  fields := #[{ name := "serialVersionUID", type := .long, accessFlags := 26, slot := 0, constantValue := 0 }]
  methods := #[k7m0]
  instanceTypes := #[]
  staticTypes := #[.long]
  resolved := Array.replicate 37 none
  statics := none }

def pool8 : Array CpInfo := pool [(1, .class_ 2), (0, u "java/lang/Comparable"), (0, .class_ 4), (0, u "java/lang/Object")] 7

/-- java/lang/Comparable -/
def k8 : Class := { plain "java/lang/Comparable" (some 0) with
  accessFlags := 1537
  interfaces := #[]
  cf := some (fileOf pool8 1 #[] #[] 1537 3 #[] #[])
  fields := #[]
  methods := #[]
  instanceTypes := #[]
  staticTypes := #[]
  resolved := Array.replicate 12 none
  statics := none }

def pool9 : Array CpInfo := pool [(1, .class_ 2), (0, u "java/lang/constant/Constable"), (0, .class_ 4), (0, u "java/lang/Object")] 6

/-- java/lang/constant/Constable -/
def k9 : Class := { plain "java/lang/constant/Constable" (some 0) with
  accessFlags := 1537
  interfaces := #[]
  cf := some (fileOf pool9 1 #[] #[] 1537 3 #[] #[])
  fields := #[]
  methods := #[]
  instanceTypes := #[]
  staticTypes := #[]
  resolved := Array.replicate 11 none
  statics := none }

def pool10 : Array CpInfo := pool [(1, .class_ 2), (0, u "java/lang/constant/ConstantDesc"), (0, .class_ 4), (0, u "java/lang/Object")] 32

/-- java/lang/constant/ConstantDesc -/
def k10 : Class := { plain "java/lang/constant/ConstantDesc" (some 0) with
  accessFlags := 1537
  interfaces := #[]
  cf := some (fileOf pool10 1 #[] #[] 1537 3 #[] #[])
  fields := #[]
  methods := #[]
  instanceTypes := #[]
  staticTypes := #[]
  resolved := Array.replicate 37 none
  statics := none }

def pool11 : Array CpInfo := pool [(1, .class_ 2), (0, u "java/lang/Integer"), (16, u "digits"), (0, u "[C"), (30, .methodref 1 52), (0, .nameAndType 53 54), (0, u "numberOfLeadingZeros"), (0, u "(I)I"), (30, u "DigitOnes"), (0, u "[B"), (2, u "DigitTens"), (37, .integer 2147483648), (61, .class_ 190), (0, u "java/lang/Integer$IntegerCache"), (3, u "I"), (8, .class_ 204), (0, u "java/lang/Number"), (2, u "value"), (56, .integer 65536), (37, u "TYPE"), (0, u "Ljava/lang/Class;"), (0, .class_ 305), (0, u "java/lang/Comparable"), (0, .class_ 307), (0, u "java/lang/constant/Constable"), (0, .class_ 309), (0, u "java/lang/constant/ConstantDesc"), (0, u "MIN_VALUE"), (1, u "MAX_VALUE"), (3, u "SIZE"), (1, u "BYTES"), (1, u "serialVersionUID"), (0, u "J"), (81, u "highestOneBit")] 49

def k11c0 : Code := { maxStack := 3, maxLocals := 1, code := jdk_33_method_45_code, exceptionTable := #[], attributes := #[] }
def k11m0 : Method := { name := "highestOneBit", desc := "(I)I", sig := { parameters := [.int], returnType := some .int }, accessFlags := 9, code := some k11c0 }
def k11c1 : Code := { maxStack := 3, maxLocals := 2, code := jdk_33_method_47_code, exceptionTable := #[], attributes := #[] }
def k11m1 : Method := { name := "numberOfLeadingZeros", desc := "(I)I", sig := { parameters := [.int], returnType := some .int }, accessFlags := 9, code := some k11c1 }
/-- java/lang/Integer -/
def k11 : Class := { plain "java/lang/Integer" (some 7) with
  accessFlags := 49
  interfaces := #[8, 9, 10]
  cf := some (fileOf pool11 1 #[.nestMembers #[189]] #[{ accessFlags := 9, nameIndex := 403, descriptorIndex := 54, attributes := #[] }, { accessFlags := 9, nameIndex := 53, descriptorIndex := 54, attributes := #[] }] 49 203 #[304, 306, 308] #[{ accessFlags := 25, nameIndex := 310, descriptorIndex := 194, attributes := #[] }, { accessFlags := 25, nameIndex := 312, descriptorIndex := 194, attributes := #[] }, { accessFlags := 25, nameIndex := 302, descriptorIndex := 303, attributes := #[] }, { accessFlags := 24, nameIndex := 19, descriptorIndex := 20, attributes := #[] }, { accessFlags := 24, nameIndex := 89, descriptorIndex := 86, attributes := #[] }, { accessFlags := 24, nameIndex := 85, descriptorIndex := 86, attributes := #[] }, { accessFlags := 18, nameIndex := 207, descriptorIndex := 194, attributes := #[] }, { accessFlags := 25, nameIndex := 316, descriptorIndex := 194, attributes := #[] }, { accessFlags := 25, nameIndex := 318, descriptorIndex := 194, attributes := #[] }, { accessFlags := 26, nameIndex := 320, descriptorIndex := 321, attributes := #[] }])
  fields := #[{ name := "MIN_VALUE", type := .int, accessFlags := 25, slot := 0, constantValue := 0 }, { name := "MAX_VALUE", type := .int, accessFlags := 25, slot := 1, constantValue := 0 }, { name := "TYPE", type := (.object "java/lang/Class"), accessFlags := 25, slot := 2, constantValue := 0 }, { name := "digits", type := (.array .char), accessFlags := 24, slot := 3, constantValue := 0 }, { name := "DigitTens", type := (.array .byte), accessFlags := 24, slot := 4, constantValue := 0 }, { name := "DigitOnes", type := (.array .byte), accessFlags := 24, slot := 5, constantValue := 0 }, { name := "value", type := .int, accessFlags := 18, slot := 0, constantValue := 0 }, { name := "SIZE", type := .int, accessFlags := 25, slot := 6, constantValue := 0 }, { name := "BYTES", type := .int, accessFlags := 25, slot := 7, constantValue := 0 }, { name := "serialVersionUID", type := .long, accessFlags := 26, slot := 8, constantValue := 0 }]
  methods := #[k11m0, k11m1]
  instanceTypes := #[.int]
  staticTypes := #[.int, .int, (.object "java/lang/Class"), (.array .char), (.array .byte), (.array .byte), .int, .int, .long]
  resolved := Array.replicate 453 none
  statics := none }

def pool12 : Array CpInfo := pool [(2, .class_ 4), (1, u "java/lang/Object"), (0, u "<init>"), (0, u "()V"), (1, .class_ 10), (1, u "java/lang/System"), (0, u "allowSecurityManager"), (0, u "I"), (16, u "cons"), (0, u "Ljava/io/Console;"), (77, .class_ 110), (1, u "java/lang/System$CallersHolder"), (43, u "initialErrStream"), (0, u "Ljava/io/PrintStream;"), (19, u "security"), (0, u "Ljava/lang/SecurityManager;"), (31, .class_ 209), (0, u "java/lang/System$1"), (7, u "props"), (0, u "Ljava/util/Properties;"), (2, u "lineSeparator"), (0, u "Ljava/lang/String;"), (96, .class_ 321), (1, u "java/lang/System$LoggerFinder"), (5, .class_ 328), (0, u "java/lang/System$Logger"), (67, u "err"), (2, u "out"), (91, u "notSupportedJnuEncoding"), (15, u "in"), (17, u "initialIn"), (0, u "Ljava/io/InputStream;"), (35, u "bootLayer"), (0, u "Ljava/lang/ModuleLayer;"), (99, .class_ 664), (0, u "java/lang/System$2"), (9, u "NEVER"), (2, u "MAYBE"), (49, u "arraycopy"), (0, u "(Ljava/lang/Object;ILjava/lang/Object;II)V"), (72, .class_ 802), (0, u "java/lang/System$Logger$Level")] 31

def k12m0 : Method := { name := "<init>", desc := "()V", sig := { parameters := [], returnType := none }, accessFlags := 2, code := none }
def k12m1 : Method := { name := "arraycopy", desc := "(Ljava/lang/Object;ILjava/lang/Object;II)V", sig := { parameters := [(.object "java/lang/Object"), .int, (.object "java/lang/Object"), .int, .int], returnType := none }, accessFlags := 265, code := none }
/-- java/lang/System -/
def k12 : Class := { plain "java/lang/System" (some 0) with
  accessFlags := 49
  interfaces := #[]
  cf := some (fileOf pool12 8 #[.nestMembers #[319, 327, 801, 108, 663, 208]] #[{ accessFlags := 2, nameIndex := 5, descriptorIndex := 6, attributes := #[] }, { accessFlags := 265, nameIndex := 727, descriptorIndex := 728, attributes := #[] }] 49 2 #[] #[{ accessFlags := 25, nameIndex := 507, descriptorIndex := 526, attributes := #[] }, { accessFlags := 25, nameIndex := 399, descriptorIndex := 155, attributes := #[] }, { accessFlags := 25, nameIndex := 396, descriptorIndex := 155, attributes := #[] }, { accessFlags := 10, nameIndex := 525, descriptorIndex := 526, attributes := #[] }, { accessFlags := 26, nameIndex := 674, descriptorIndex := 12, attributes := #[] }, { accessFlags := 26, nameIndex := 677, descriptorIndex := 12, attributes := #[] }, { accessFlags := 10, nameIndex := 11, descriptorIndex := 12, attributes := #[] }, { accessFlags := 74, nameIndex := 175, descriptorIndex := 176, attributes := #[] }, { accessFlags := 10, nameIndex := 491, descriptorIndex := 222, attributes := #[] }, { accessFlags := 74, nameIndex := 29, descriptorIndex := 30, attributes := #[] }, { accessFlags := 74, nameIndex := 154, descriptorIndex := 155, attributes := #[] }, { accessFlags := 10, nameIndex := 217, descriptorIndex := 218, attributes := #[] }, { accessFlags := 10, nameIndex := 221, descriptorIndex := 222, attributes := #[] }, { accessFlags := 8, nameIndex := 562, descriptorIndex := 563, attributes := #[] }])
  fields := #[{ name := "in", type := (.object "java/io/InputStream"), accessFlags := 25, slot := 0, constantValue := 0 }, { name := "out", type := (.object "java/io/PrintStream"), accessFlags := 25, slot := 1, constantValue := 0 }, { name := "err", type := (.object "java/io/PrintStream"), accessFlags := 25, slot := 2, constantValue := 0 }, { name := "initialIn", type := (.object "java/io/InputStream"), accessFlags := 10, slot := 3, constantValue := 0 }, { name := "NEVER", type := .int, accessFlags := 26, slot := 4, constantValue := 0 }, { name := "MAYBE", type := .int, accessFlags := 26, slot := 5, constantValue := 0 }, { name := "allowSecurityManager", type := .int, accessFlags := 10, slot := 6, constantValue := 0 }, { name := "security", type := (.object "java/lang/SecurityManager"), accessFlags := 74, slot := 7, constantValue := 0 }, { name := "notSupportedJnuEncoding", type := (.object "java/lang/String"), accessFlags := 10, slot := 8, constantValue := 0 }, { name := "cons", type := (.object "java/io/Console"), accessFlags := 74, slot := 9, constantValue := 0 }, { name := "initialErrStream", type := (.object "java/io/PrintStream"), accessFlags := 74, slot := 10, constantValue := 0 }, { name := "props", type := (.object "java/util/Properties"), accessFlags := 10, slot := 11, constantValue := 0 }, { name := "lineSeparator", type := (.object "java/lang/String"), accessFlags := 10, slot := 12, constantValue := 0 }, { name := "bootLayer", type := (.object "java/lang/ModuleLayer"), accessFlags := 8, slot := 13, constantValue := 0 }]
  methods := #[k12m0, k12m1]
  instanceTypes := #[]
  staticTypes := #[(.object "java/io/InputStream"), (.object "java/io/PrintStream"), (.object "java/io/PrintStream"), (.object "java/io/InputStream"), .int, .int, .int, (.object "java/lang/SecurityManager"), (.object "java/lang/String"), (.object "java/io/Console"), (.object "java/io/PrintStream"), (.object "java/util/Properties"), (.object "java/lang/String"), (.object "java/lang/ModuleLayer")]
  resolved := Array.replicate 834 none
  statics := none }

def pool13 : Array CpInfo := pool [(1, u "java/lang/Cloneable"), (0, .class_ 1), (0, u "java/lang/Object"), (0, .class_ 3)] 3

/-- java/lang/Cloneable -/
def k13 : Class := { plain "java/lang/Cloneable" (some 0) with
  accessFlags := 1537
  interfaces := #[]
  cf := some (fileOf pool13 2 #[] #[] 1537 4 #[] #[])
  fields := #[]
  methods := #[]
  instanceTypes := #[]
  staticTypes := #[]
  resolved := Array.replicate 8 none
  statics := none }

/-- the primitive byte -/
def k14 : Class := { plain "byte" none with kind := .primitive 'B', accessFlags := 0x411 }
/-- [B -/
def k15 : Class := { plain "[B" (some 0) with kind := .array 14 .byte, interfaces := #[13, 6], accessFlags := 1041 }

/-- the primitive int -/
def k16 : Class := { plain "int" none with kind := .primitive 'I', accessFlags := 0x411 }
/-- [I -/
def k17 : Class := { plain "[I" (some 0) with kind := .array 16 .int, interfaces := #[13, 6], accessFlags := 1041 }

/-- [Lcom/example/projectum/projectum/reasoning/Relation$NodeIndex; -/
def k18 : Class := { plain "[Lcom/example/projectum/projectum/reasoning/Relation$NodeIndex;" (some 0) with kind := .array 4 (.object "com/example/projectum/projectum/reasoning/Relation$NodeIndex"), interfaces := #[13, 6], accessFlags := 1041 }

def heap : Heap := #[]
def classes : Array Class := #[k0, k1, k2, k3, k4, k5, k6, k7, k8, k9, k10, k11, k12, k13, k14, k15, k16, k17, k18]
def interned : List (Array UInt16 × Addr) := []
def slotsUsed : Nat := 0
def theMethod : MethodId := ⟨1, 1⟩
def args0 : Array Value := #[.int 4, .int 46, .int 5]
def aboutOver (below : List Frame) : State where
  vm := { classes := classes, interned := interned.toArray }
  heap := heap
  slotsUsed := slotsUsed
  threads := #[{ frames := .invoking theMethod args0 :: below }]
def below0 : List Frame := [.native { method := ⟨0, 0⟩, args := #[] }]
def about1 : State := aboutOver below0
def p0 : Program := .bare "" "" ""
def e0 : Env := launch0.env 0 0 0
theorem w_frames : about1.frames = Frame.invoking theMethod args0 :: below0 := rfl
set_option maxRecDepth 65536 in
theorem w_args : argsFit about1.vm theMethod args0 = true := by decide +kernel
set_option maxRecDepth 65536 in
theorem w_heap : heapFits about1 = true := by decide +kernel
set_option maxRecDepth 65536 in
theorem w_runnable : about1.curStatus? = some .runnable := by decide +kernel
set_option maxRecDepth 65536 in
theorem w_alone : about1.alone = true := by decide +kernel
set_option maxRecDepth 65536 in
theorem w_named : about1.methodNamed? x = some theMethod := by decide +kernel
set_option maxRecDepth 65536 in
theorem w_hears : about1.hears theMethod below0 = true := by decide +kernel
set_option maxRecDepth 65536 in
theorem w_ripe : about1.ripe theMethod args0 below0 = true := by decide +kernel
theorem w_running : about1.status = .running := rfl
set_option maxRecDepth 65536 in
theorem w_room : about1.hasRoom e0.platform room_1 = true :=
  launch0.hasRoom_least _ room_1 (by decide +kernel) (by decide +kernel) (by decide +kernel) (by decide +kernel) (by decide +kernel) (by decide +kernel)
theorem allAtoms_all (ts : List Jvm.Cond) (a : Array Jvm.Value) (st : Jvm.State) : (allAtoms ts).before a st = ts.all (fun c => c.before a st) := by
  induction ts with
  | nil => rfl
  | cons c t ih =>
    show (Jvm.Cond.and c (allAtoms t)).before a st = _
    rw [Jvm.Cond.before_and, ih, List.all_cons]
def words1 : List Jvm.Cond := Jvm.Cond.code x code maxLocals ret :: tables_1
/-- a 'code' word, met by the world's own term for the bytes: nothing is compared byte by byte -/
theorem code_word {y : MethodName} {bytes : ByteArray} {mx : Nat} {rt : Option FieldType} {a : Array Value} {s : State} {m : MethodId} {meth : Method} {c : Code} (h1 : s.methodNamed? y = some m) (h2 : s.vm.method? m = some meth) (h3 : meth.code = some c) (h4 : c.code = bytes)
    (h5 : (c.maxLocals == mx && c.exceptionTable.isEmpty && decide (c.maxStack ≤ mostOperands) && decide (meth.sig.returnType = rt) && !meth.locks && decide (parseMethodDescriptor y.desc = some meth.sig)) = true) : (Jvm.Cond.code y bytes mx rt).before a s = true := by
  simp only [Bool.and_eq_true, beq_iff_eq, Bool.not_eq_true', decide_eq_true_eq] at h5
  obtain ⟨⟨⟨⟨⟨g1, g2⟩, g3⟩, g4⟩, g5⟩, g6⟩ := h5
  simp [Cond.before, Cond.holds, Cond.value, h1, h2, h3, h4, g1, g2, g3, g4, g5, g6]
def isCode : Jvm.Cond → Bool
  | .code _ _ _ _ => true
  | _ => false
theorem all_split {L : List Jvm.Cond} {P : Jvm.Cond → Bool} (h1 : L.all (fun c => isCode c || P c) = true) (h2 : ∀ c ∈ L.filter isCode, P c = true) : L.all P = true := by
  refine List.all_eq_true.mpr fun c hc => ?_
  have h := List.all_eq_true.mp h1 c hc
  rcases Bool.eq_false_or_eq_true (isCode c) with hi | hi
  · exact h2 c (List.mem_filter.mpr ⟨hc, hi⟩)
  · simpa [hi] using h
set_option maxRecDepth 65536 in
theorem w_c0 : (Jvm.Cond.code x code maxLocals ret).before args0 about1 = true := code_word (m := ⟨1, 1⟩) (meth := k1m1) (c := k1c1) (by decide +kernel) rfl rfl rfl (by decide +kernel)
set_option maxRecDepth 65536 in
theorem w_c1 : (Jvm.Cond.code ({ cls := "com/example/projectum/projectum/reasoning/Relation", name := "<init>", desc := "(I)V" } : Jvm.MethodName) prog_73_method_1_code (2 : Nat) (Option.none : Option Jvm.ClassFile.FieldType)).before args0 about1 = true := code_word (m := ⟨3, 0⟩) (meth := k3m0) (c := k3c0) (by decide +kernel) rfl rfl rfl (by decide +kernel)
set_option maxRecDepth 65536 in
theorem w_c2 : (Jvm.Cond.code ({ cls := "java/lang/Object", name := "<init>", desc := "()V" } : Jvm.MethodName) object_method_1_code (1 : Nat) (Option.none : Option Jvm.ClassFile.FieldType)).before args0 about1 = true := code_word (m := ⟨0, 0⟩) (meth := k0m0) (c := k0c0) (by decide +kernel) rfl rfl rfl (by decide +kernel)
set_option maxRecDepth 65536 in
theorem w_c3 : (Jvm.Cond.code ({ cls := "com/example/projectum/projectum/reasoning/Relation", name := "add", desc := "([I)I" } : Jvm.MethodName) prog_73_method_7_code (3 : Nat) (Option.some Jvm.ClassFile.FieldType.int)).before args0 about1 = true := code_word (m := ⟨3, 3⟩) (meth := k3m3) (c := k3c3) (by decide +kernel) rfl rfl rfl (by decide +kernel)
set_option maxRecDepth 65536 in
theorem w_c4 : (Jvm.Cond.code ({ cls := "com/example/projectum/projectum/reasoning/Relation", name := "indexOf", desc := "([I)I" } : Jvm.MethodName) prog_73_method_17_code (7 : Nat) (Option.some Jvm.ClassFile.FieldType.int)).before args0 about1 = true := code_word (m := ⟨3, 8⟩) (meth := k3m8) (c := k3c8) (by decide +kernel) rfl rfl rfl (by decide +kernel)
set_option maxRecDepth 65536 in
theorem w_c5 : (Jvm.Cond.code ({ cls := "java/lang/Math", name := "max", desc := "(II)I" } : Jvm.MethodName) jdk_29_method_65_code (2 : Nat) (Option.some Jvm.ClassFile.FieldType.int)).before args0 about1 = true := code_word (m := ⟨5, 1⟩) (meth := k5m1) (c := k5c1) (by decide +kernel) rfl rfl rfl (by decide +kernel)
set_option maxRecDepth 65536 in
theorem w_c6 : (Jvm.Cond.code ({ cls := "java/lang/Integer", name := "highestOneBit", desc := "(I)I" } : Jvm.MethodName) jdk_33_method_45_code (1 : Nat) (Option.some Jvm.ClassFile.FieldType.int)).before args0 about1 = true := code_word (m := ⟨11, 0⟩) (meth := k11m0) (c := k11c0) (by decide +kernel) rfl rfl rfl (by decide +kernel)
set_option maxRecDepth 65536 in
theorem w_c7 : (Jvm.Cond.code ({ cls := "java/lang/Integer", name := "numberOfLeadingZeros", desc := "(I)I" } : Jvm.MethodName) jdk_33_method_47_code (2 : Nat) (Option.some Jvm.ClassFile.FieldType.int)).before args0 about1 = true := code_word (m := ⟨11, 1⟩) (meth := k11m1) (c := k11c1) (by decide +kernel) rfl rfl rfl (by decide +kernel)
set_option maxRecDepth 65536 in
theorem w_c8 : (Jvm.Cond.code ({ cls := "com/example/projectum/projectum/reasoning/Relation", name := "rehash", desc := "(I)V" } : Jvm.MethodName) prog_73_method_21_code (3 : Nat) (Option.none : Option Jvm.ClassFile.FieldType)).before args0 about1 = true := code_word (m := ⟨3, 9⟩) (meth := k3m9) (c := k3c9) (by decide +kernel) rfl rfl rfl (by decide +kernel)
set_option maxRecDepth 65536 in
theorem w_c9 : (Jvm.Cond.code ({ cls := "com/example/projectum/projectum/reasoning/Relation", name := "hash", desc := "([II)I" } : Jvm.MethodName) prog_73_method_23_code (5 : Nat) (Option.some Jvm.ClassFile.FieldType.int)).before args0 about1 = true := code_word (m := ⟨3, 10⟩) (meth := k3m10) (c := k3c10) (by decide +kernel) rfl rfl rfl (by decide +kernel)
set_option maxRecDepth 65536 in
theorem w_c10 : (Jvm.Cond.code ({ cls := "com/example/projectum/projectum/reasoning/Relation", name := "append", desc := "([I)I" } : Jvm.MethodName) prog_73_method_14_code (4 : Nat) (Option.some Jvm.ClassFile.FieldType.int)).before args0 about1 = true := code_word (m := ⟨3, 5⟩) (meth := k3m5) (c := k3c5) (by decide +kernel) rfl rfl rfl (by decide +kernel)
set_option maxRecDepth 65536 in
theorem w_c11 : (Jvm.Cond.code ({ cls := "com/example/projectum/projectum/reasoning/Relation", name := "remove", desc := "([I)I" } : Jvm.MethodName) prog_73_method_15_code (4 : Nat) (Option.some Jvm.ClassFile.FieldType.int)).before args0 about1 = true := code_word (m := ⟨3, 6⟩) (meth := k3m6) (c := k3c6) (by decide +kernel) rfl rfl rfl (by decide +kernel)
set_option maxRecDepth 65536 in
theorem w_c12 : (Jvm.Cond.code ({ cls := "com/example/projectum/projectum/reasoning/Relation", name := "find", desc := "([I)I" } : Jvm.MethodName) prog_73_method_16_code (3 : Nat) (Option.some Jvm.ClassFile.FieldType.int)).before args0 about1 = true := code_word (m := ⟨3, 7⟩) (meth := k3m7) (c := k3c7) (by decide +kernel) rfl rfl rfl (by decide +kernel)
set_option maxRecDepth 65536 in
theorem w_c13 : (Jvm.Cond.code ({ cls := "com/example/projectum/projectum/reasoning/Relation", name := "holds", desc := "(I)Z" } : Jvm.MethodName) prog_73_method_6_code (2 : Nat) (Option.some Jvm.ClassFile.FieldType.boolean)).before args0 about1 = true := code_word (m := ⟨3, 2⟩) (meth := k3m2) (c := k3c2) (by decide +kernel) rfl rfl rfl (by decide +kernel)
set_option maxRecDepth 65536 in
theorem w_c14 : (Jvm.Cond.code ({ cls := "com/example/projectum/projectum/reasoning/Relation", name := "size", desc := "()I" } : Jvm.MethodName) prog_73_method_3_code (1 : Nat) (Option.some Jvm.ClassFile.FieldType.int)).before args0 about1 = true := code_word (m := ⟨3, 1⟩) (meth := k3m1) (c := k3c1) (by decide +kernel) rfl rfl rfl (by decide +kernel)
set_option maxRecDepth 65536 in
theorem w_c15 : (Jvm.Cond.code ({ cls := "com/example/projectum/projectum/reasoning/Relation", name := "raise", desc := "(I[I)I" } : Jvm.MethodName) prog_73_method_13_code (4 : Nat) (Option.some Jvm.ClassFile.FieldType.int)).before args0 about1 = true := code_word (m := ⟨3, 4⟩) (meth := k3m4) (c := k3c4) (by decide +kernel) rfl rfl rfl (by decide +kernel)
def codes1 : List Jvm.Cond := [Jvm.Cond.code x code maxLocals ret, Jvm.Cond.code ({ cls := "com/example/projectum/projectum/reasoning/Relation", name := "<init>", desc := "(I)V" } : Jvm.MethodName) prog_73_method_1_code (2 : Nat) (Option.none : Option Jvm.ClassFile.FieldType), Jvm.Cond.code ({ cls := "java/lang/Object", name := "<init>", desc := "()V" } : Jvm.MethodName) object_method_1_code (1 : Nat) (Option.none : Option Jvm.ClassFile.FieldType), Jvm.Cond.code ({ cls := "com/example/projectum/projectum/reasoning/Relation", name := "add", desc := "([I)I" } : Jvm.MethodName) prog_73_method_7_code (3 : Nat) (Option.some Jvm.ClassFile.FieldType.int), Jvm.Cond.code ({ cls := "com/example/projectum/projectum/reasoning/Relation", name := "indexOf", desc := "([I)I" } : Jvm.MethodName) prog_73_method_17_code (7 : Nat) (Option.some Jvm.ClassFile.FieldType.int), Jvm.Cond.code ({ cls := "java/lang/Math", name := "max", desc := "(II)I" } : Jvm.MethodName) jdk_29_method_65_code (2 : Nat) (Option.some Jvm.ClassFile.FieldType.int), Jvm.Cond.code ({ cls := "java/lang/Integer", name := "highestOneBit", desc := "(I)I" } : Jvm.MethodName) jdk_33_method_45_code (1 : Nat) (Option.some Jvm.ClassFile.FieldType.int), Jvm.Cond.code ({ cls := "java/lang/Integer", name := "numberOfLeadingZeros", desc := "(I)I" } : Jvm.MethodName) jdk_33_method_47_code (2 : Nat) (Option.some Jvm.ClassFile.FieldType.int), Jvm.Cond.code ({ cls := "com/example/projectum/projectum/reasoning/Relation", name := "rehash", desc := "(I)V" } : Jvm.MethodName) prog_73_method_21_code (3 : Nat) (Option.none : Option Jvm.ClassFile.FieldType), Jvm.Cond.code ({ cls := "com/example/projectum/projectum/reasoning/Relation", name := "hash", desc := "([II)I" } : Jvm.MethodName) prog_73_method_23_code (5 : Nat) (Option.some Jvm.ClassFile.FieldType.int), Jvm.Cond.code ({ cls := "com/example/projectum/projectum/reasoning/Relation", name := "append", desc := "([I)I" } : Jvm.MethodName) prog_73_method_14_code (4 : Nat) (Option.some Jvm.ClassFile.FieldType.int), Jvm.Cond.code ({ cls := "com/example/projectum/projectum/reasoning/Relation", name := "remove", desc := "([I)I" } : Jvm.MethodName) prog_73_method_15_code (4 : Nat) (Option.some Jvm.ClassFile.FieldType.int), Jvm.Cond.code ({ cls := "com/example/projectum/projectum/reasoning/Relation", name := "find", desc := "([I)I" } : Jvm.MethodName) prog_73_method_16_code (3 : Nat) (Option.some Jvm.ClassFile.FieldType.int), Jvm.Cond.code ({ cls := "com/example/projectum/projectum/reasoning/Relation", name := "holds", desc := "(I)Z" } : Jvm.MethodName) prog_73_method_6_code (2 : Nat) (Option.some Jvm.ClassFile.FieldType.boolean), Jvm.Cond.code ({ cls := "com/example/projectum/projectum/reasoning/Relation", name := "size", desc := "()I" } : Jvm.MethodName) prog_73_method_3_code (1 : Nat) (Option.some Jvm.ClassFile.FieldType.int), Jvm.Cond.code ({ cls := "com/example/projectum/projectum/reasoning/Relation", name := "raise", desc := "(I[I)I" } : Jvm.MethodName) prog_73_method_13_code (4 : Nat) (Option.some Jvm.ClassFile.FieldType.int)]
set_option maxRecDepth 65536 in
theorem codes_eq : words1.filter isCode = codes1 := rfl
theorem w_codes : ∀ c ∈ words1.filter isCode, c.before args0 about1 = true := by
  rw [codes_eq]
  intro c hc
  simp only [codes1, List.mem_cons, List.not_mem_nil, or_false] at hc
  rcases hc with rfl | rfl | rfl | rfl | rfl | rfl | rfl | rfl | rfl | rfl | rfl | rfl | rfl | rfl | rfl | rfl
  · exact w_c0
  · exact w_c1
  · exact w_c2
  · exact w_c3
  · exact w_c4
  · exact w_c5
  · exact w_c6
  · exact w_c7
  · exact w_c8
  · exact w_c9
  · exact w_c10
  · exact w_c11
  · exact w_c12
  · exact w_c13
  · exact w_c14
  · exact w_c15
set_option maxRecDepth 65536 in
theorem w_t1 : (words1.take 24).all (fun c => isCode c || c.before args0 about1) = true := by decide +kernel
set_option maxRecDepth 65536 in
theorem w_t2 : ((words1.drop 24).take 24).all (fun c => isCode c || c.before args0 about1) = true := by decide +kernel
set_option maxRecDepth 65536 in
theorem w_t3 : (((words1.drop 24).drop 24).take 24).all (fun c => isCode c || c.before args0 about1) = true := by decide +kernel
set_option maxRecDepth 65536 in
theorem w_t4 : (((words1.drop 24).drop 24).drop 24).all (fun c => isCode c || c.before args0 about1) = true := by decide +kernel
theorem w_tables : (allAtoms (Jvm.Cond.code x code maxLocals ret :: tables_1)).before args0 about1 = true := by
  rw [allAtoms_all]
  show words1.all (fun c => c.before args0 about1) = true
  refine all_split ?_ w_codes
  rw [← List.take_append_drop 24 words1, List.all_append, w_t1, ← List.take_append_drop 24 (words1.drop 24), List.all_append, w_t2, ← List.take_append_drop 24 ((words1.drop 24).drop 24), List.all_append, w_t3, w_t4]
  rfl
set_option maxRecDepth 65536 in
theorem w_case : (Jvm.Cond.and given_1 narrow_1).before args0 about1 = true := by decide +kernel
theorem w_applies : (headSpec (Jvm.Cond.code x code maxLocals ret :: tables_1) room_1).applies x e0.platform about1 = true :=
  (Spec.applies_iff w_frames).mpr ⟨w_running, w_runnable, w_alone, w_named, w_hears, w_ripe, w_room, w_tables⟩
theorem atStart : AtStart classFile x code maxLocals ret World_1 tables_1 room_1 Calls_1 rest_1 Pre_1 launch0 p0 e0 about1 theMethod args0 below0 :=
  ⟨lists_1, trivial, launch0.admits_env _ _ _, launch0.least_env, fairChoices_fair.cas, fairChoices_fair.clock, w_frames, w_args, w_heap, w_applies, trivial, trivial, w_case⟩
end start1
theorem witness_1 : WitnessClaimed_1 := ⟨start1.p0, start1.e0, start1.about1, start1.theMethod, start1.args0, start1.below0, start1.atStart⟩
end Jvm.Pilot.@@N@@
