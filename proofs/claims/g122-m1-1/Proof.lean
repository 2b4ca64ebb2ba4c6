import JvmDerived
import JvmDerived.Pilot.@@N@@Statement
import JvmDerived.Pilot.@@N@@Code
set_option linter.unusedVariables false
set_option linter.unusedSimpArgs false
@@BLOCK:NumsL.lean.txt@@
namespace Jvm.RoadKit
open Sem ClassFile Op Lib Jvm.Stand Jvm.Free Jvm.LawKit
section New
variable {p : Program} {l : Launch} {e : Env} {R : Room} {s : State} {m : MethodId} {args : Array Value} {below : List Frame} {meth : Method} {c : Code} {T : State} {locs : List Loc} {cells slots : Nat}
theorem retI (X : Stand p l e R s m args below meth c T locs cells slots) (hx : p.tables.exec = Jvm.exec) {pc : Nat} {Ls : Array Slot} {z : Int32} {rest : List Value} (hret : meth.sig.returnType = some .int) (hd : decode c.code pc = .ok (.ireturn, 1)) {fs : List Frame}
    (hl : ∀ (f : JFrame) (acts : List Action), f.method = m → f.locked = none → f.entered = [] → (doReturn e (T.setTop f) acts (some (.int z))).1 = T.setFrames fs) : Steps p.tables e below (T.setTop (mkF m pc Ls (.int z :: rest))) (T.setFrames fs) := by
  have hm' : T.vm.method? m = some meth := X.method'
  have hn : narrow .int (.int z) = .int z := rfl
  show Steps p.tables e below (T.setTop { method := m, pc := pc, locals := Ls, stack := _ :: rest, locked := none }) _
  jvm_step X.here [X.here.top, hx, hd, hm', hret, hn]
  first | (intro acts; rw [hl _ acts rfl rfl rfl]) | rw [hl _ _ rfl rfl rfl]
  exact Steps.refl _
end New
end Jvm.RoadKit
namespace Jvm.Pilot.@@N@@
open Jvm Jvm.ClassFile Sem Op Lib Jvm.Free Jvm.Stand Jvm.LawKit Jvm.RoadKit Bundle Jvm.Pilot.@@N@@.Jvm.D
section OwnBase
variable {p : Program} {l : Launch} {e : Env} {R : Room} {s : State} {m : MethodId} {args : Array Value} {below : List Frame} {meth : Method} {c : Code} {T : State} {h : Heap} {locs : List Loc} {cells slots : Nat} {Z : State} {a0 : Array Value} {own nm : String} {bytes : ByteArray} {mx : Nat} {rt : Option FieldType} {K : State → Outcome → Prop} {pc pc' : Nat} {Ls : Array Slot} {rest : List Value}
/-- the run from S comes to an end that is as K says -/
def own_Go (p : Program) (e : Env) (below : List Frame) (K : State → Outcome → Prop) (S : State) : Prop :=
  ∃ t o, Steps p.tables e below S t ∧ t.status = .running ∧ Ended t below o ∧ K t o
def own_K (s : State) (Q : Option Value → Heap → List Loc → Prop) (kc ks : Nat) (t : State) (o : Outcome) : Prop :=
  ∃ v L, o = .returned v ∧ Q v t.heap L ∧ FrameEnd s o t L kc ks
/-- the walk stands: all that a step asks, in one word -/
def own_S (Z : State) (own nm : String) (bytes : ByteArray) (mx : Nat) (rt : Option FieldType) (p : Program) (l : Launch) (e : Env) (R : Room) (s : State) (m : MethodId) (args : Array Value) (below : List Frame) (meth : Method) (c : Code) (T : State) (h : Heap) (locs : List Loc) (cells slots : Nat) : Prop :=
  Stand p l e R s m args below meth c T locs cells slots ∧ p.tables.exec = Jvm.exec ∧ c.code = bytes ∧ c.maxLocals = mx ∧ s.vm.findClass own = some m.cls ∧ Z.Warmed39 s.vm ∧ meth.sig.returnType = rt ∧ meth.locks = false ∧ T.heap = h ∧ meth.name = nm
theorem own_S.st (P : own_S Z own nm bytes mx rt p l e R s m args below meth c T h locs cells slots) : Stand p l e R s m args below meth c T locs cells slots := P.1
theorem own_S.ex (P : own_S Z own nm bytes mx rt p l e R s m args below meth c T h locs cells slots) : p.tables.exec = Jvm.exec := P.2.1
theorem own_S.cd (P : own_S Z own nm bytes mx rt p l e R s m args below meth c T h locs cells slots) {pc : Nat} {r : Except ClassFile.DecodeError (ClassFile.Instr × Nat)} (hd : decode bytes pc = r) : decode c.code pc = r := hb P.2.2.1 hd
theorem own_S.ml (P : own_S Z own nm bytes mx rt p l e R s m args below meth c T h locs cells slots) : c.maxLocals = mx := P.2.2.2.1
theorem own_S.ow (P : own_S Z own nm bytes mx rt p l e R s m args below meth c T h locs cells slots) : s.vm.findClass own = some m.cls := P.2.2.2.2.1
theorem own_S.wz (P : own_S Z own nm bytes mx rt p l e R s m args below meth c T h locs cells slots) : Z.Warmed39 s.vm := P.2.2.2.2.2.1
theorem own_S.rty (P : own_S Z own nm bytes mx rt p l e R s m args below meth c T h locs cells slots) : meth.sig.returnType = rt := P.2.2.2.2.2.2.1
theorem own_S.lk (P : own_S Z own nm bytes mx rt p l e R s m args below meth c T h locs cells slots) : meth.locks = false := P.2.2.2.2.2.2.2.1
theorem own_S.hp (P : own_S Z own nm bytes mx rt p l e R s m args below meth c T h locs cells slots) : T.heap = h := P.2.2.2.2.2.2.2.2.1
theorem own_S.nmm (P : own_S Z own nm bytes mx rt p l e R s m args below meth c T h locs cells slots) : meth.name = nm := P.2.2.2.2.2.2.2.2.2
theorem own_S.move (P : own_S Z own nm bytes mx rt p l e R s m args below meth c T h locs cells slots) {T' : State} {h' : Heap} {locs' : List Loc} {cells' slots' : Nat} (X : Stand p l e R s m args below meth c T' locs' cells' slots') (eh : T'.heap = h') : own_S Z own nm bytes mx rt p l e R s m args below meth c T' h' locs' cells' slots' :=
  ⟨X, P.2.1, P.2.2.1, P.2.2.2.1, P.2.2.2.2.1, P.2.2.2.2.2.1, P.2.2.2.2.2.2.1, P.2.2.2.2.2.2.2.1, eh, P.2.2.2.2.2.2.2.2.2⟩
theorem own_st {S S' : State} (h : ∀ t, Steps p.tables e below S' t → Steps p.tables e below S t) (k : own_Go p e below K S') : own_Go p e below K S := by
  obtain ⟨t, o, h1, h2⟩ := k
  exact ⟨t, o, h t h1, h2⟩

theorem own_iadd (P : own_S Z own nm bytes mx rt p l e R s m args below meth c T h locs cells slots) {x y : Int32} (hd : decode bytes pc = .ok (.iadd, 1)) (hp : pc + 1 = pc')
    (k : own_Go p e below K (T.setTop (mkF m pc' Ls (.int (x + y) :: rest)))) : own_Go p e below K (T.setTop (mkF m pc Ls (.int y :: .int x :: rest))) := by
  subst hp
  exact own_st (fun t k => XS.iadd P.st.here P.ex rfl (P.cd hd) rfl k) k
theorem own_isub (P : own_S Z own nm bytes mx rt p l e R s m args below meth c T h locs cells slots) {x y : Int32} (hd : decode bytes pc = .ok (.isub, 1)) (hp : pc + 1 = pc')
    (k : own_Go p e below K (T.setTop (mkF m pc' Ls (.int (x - y) :: rest)))) : own_Go p e below K (T.setTop (mkF m pc Ls (.int y :: .int x :: rest))) := by
  subst hp
  exact own_st (fun t k => XS.isub P.st.here P.ex rfl (P.cd hd) rfl k) k
theorem own_imul (P : own_S Z own nm bytes mx rt p l e R s m args below meth c T h locs cells slots) {x y : Int32} (hd : decode bytes pc = .ok (.imul, 1)) (hp : pc + 1 = pc')
    (k : own_Go p e below K (T.setTop (mkF m pc' Ls (.int (x * y) :: rest)))) : own_Go p e below K (T.setTop (mkF m pc Ls (.int y :: .int x :: rest))) := by
  subst hp
  exact own_st (fun t k => XS.imul P.st.here P.ex rfl (P.cd hd) rfl k) k
theorem own_iand (P : own_S Z own nm bytes mx rt p l e R s m args below meth c T h locs cells slots) {x y : Int32} (hd : decode bytes pc = .ok (.iand, 1)) (hp : pc + 1 = pc')
    (k : own_Go p e below K (T.setTop (mkF m pc' Ls (.int (x &&& y) :: rest)))) : own_Go p e below K (T.setTop (mkF m pc Ls (.int y :: .int x :: rest))) := by
  subst hp
  exact own_st (fun t k => XS.iand P.st.here P.ex rfl (P.cd hd) rfl k) k
theorem own_ior (P : own_S Z own nm bytes mx rt p l e R s m args below meth c T h locs cells slots) {x y : Int32} (hd : decode bytes pc = .ok (.ior, 1)) (hp : pc + 1 = pc')
    (k : own_Go p e below K (T.setTop (mkF m pc' Ls (.int (x ||| y) :: rest)))) : own_Go p e below K (T.setTop (mkF m pc Ls (.int y :: .int x :: rest))) := by
  subst hp
  exact own_st (fun t k => XS.ior P.st.here P.ex rfl (P.cd hd) rfl k) k
theorem own_ixor (P : own_S Z own nm bytes mx rt p l e R s m args below meth c T h locs cells slots) {x y : Int32} (hd : decode bytes pc = .ok (.ixor, 1)) (hp : pc + 1 = pc')
    (k : own_Go p e below K (T.setTop (mkF m pc' Ls (.int (x ^^^ y) :: rest)))) : own_Go p e below K (T.setTop (mkF m pc Ls (.int y :: .int x :: rest))) := by
  subst hp
  exact own_st (fun t k => XS.ixor P.st.here P.ex rfl (P.cd hd) rfl k) k
theorem own_idiv (P : own_S Z own nm bytes mx rt p l e R s m args below meth c T h locs cells slots) {x y : Int32} (hd : decode bytes pc = .ok (.idiv, 1)) (hp : pc + 1 = pc') (hy : y ≠ 0)
    (k : own_Go p e below K (T.setTop (mkF m pc' Ls (.int (x / y) :: rest)))) : own_Go p e below K (T.setTop (mkF m pc Ls (.int y :: .int x :: rest))) := by
  subst hp
  exact own_st (fun t k => XS.idiv P.st.here P.ex rfl (P.cd hd) rfl hy k) k
theorem own_irem (P : own_S Z own nm bytes mx rt p l e R s m args below meth c T h locs cells slots) {x y : Int32} (hd : decode bytes pc = .ok (.irem, 1)) (hp : pc + 1 = pc') (hy : y ≠ 0)
    (k : own_Go p e below K (T.setTop (mkF m pc' Ls (.int (x - (x / y) * y) :: rest)))) : own_Go p e below K (T.setTop (mkF m pc Ls (.int y :: .int x :: rest))) := by
  subst hp
  exact own_st (fun t k => XS.irem P.st.here P.ex rfl (P.cd hd) rfl hy k) k
theorem own_ladd (P : own_S Z own nm bytes mx rt p l e R s m args below meth c T h locs cells slots) {x y : Int64} (hd : decode bytes pc = .ok (.ladd, 1)) (hp : pc + 1 = pc')
    (k : own_Go p e below K (T.setTop (mkF m pc' Ls (.long (x + y) :: rest)))) : own_Go p e below K (T.setTop (mkF m pc Ls (.long y :: .long x :: rest))) := by
  subst hp
  exact own_st (fun t k => XS.ladd P.st.here P.ex rfl (P.cd hd) rfl k) k
theorem own_lsub (P : own_S Z own nm bytes mx rt p l e R s m args below meth c T h locs cells slots) {x y : Int64} (hd : decode bytes pc = .ok (.lsub, 1)) (hp : pc + 1 = pc')
    (k : own_Go p e below K (T.setTop (mkF m pc' Ls (.long (x - y) :: rest)))) : own_Go p e below K (T.setTop (mkF m pc Ls (.long y :: .long x :: rest))) := by
  subst hp
  exact own_st (fun t k => XS.lsub P.st.here P.ex rfl (P.cd hd) rfl k) k
theorem own_lmul (P : own_S Z own nm bytes mx rt p l e R s m args below meth c T h locs cells slots) {x y : Int64} (hd : decode bytes pc = .ok (.lmul, 1)) (hp : pc + 1 = pc')
    (k : own_Go p e below K (T.setTop (mkF m pc' Ls (.long (x * y) :: rest)))) : own_Go p e below K (T.setTop (mkF m pc Ls (.long y :: .long x :: rest))) := by
  subst hp
  exact own_st (fun t k => XS.lmul P.st.here P.ex rfl (P.cd hd) rfl k) k
theorem own_land (P : own_S Z own nm bytes mx rt p l e R s m args below meth c T h locs cells slots) {x y : Int64} (hd : decode bytes pc = .ok (.land, 1)) (hp : pc + 1 = pc')
    (k : own_Go p e below K (T.setTop (mkF m pc' Ls (.long (x &&& y) :: rest)))) : own_Go p e below K (T.setTop (mkF m pc Ls (.long y :: .long x :: rest))) := by
  subst hp
  exact own_st (fun t k => XS.land P.st.here P.ex rfl (P.cd hd) rfl k) k
theorem own_lor (P : own_S Z own nm bytes mx rt p l e R s m args below meth c T h locs cells slots) {x y : Int64} (hd : decode bytes pc = .ok (.lor, 1)) (hp : pc + 1 = pc')
    (k : own_Go p e below K (T.setTop (mkF m pc' Ls (.long (x ||| y) :: rest)))) : own_Go p e below K (T.setTop (mkF m pc Ls (.long y :: .long x :: rest))) := by
  subst hp
  exact own_st (fun t k => XS.lor P.st.here P.ex rfl (P.cd hd) rfl k) k
theorem own_lxor (P : own_S Z own nm bytes mx rt p l e R s m args below meth c T h locs cells slots) {x y : Int64} (hd : decode bytes pc = .ok (.lxor, 1)) (hp : pc + 1 = pc')
    (k : own_Go p e below K (T.setTop (mkF m pc' Ls (.long (x ^^^ y) :: rest)))) : own_Go p e below K (T.setTop (mkF m pc Ls (.long y :: .long x :: rest))) := by
  subst hp
  exact own_st (fun t k => XS.lxor P.st.here P.ex rfl (P.cd hd) rfl k) k
theorem own_ldiv (P : own_S Z own nm bytes mx rt p l e R s m args below meth c T h locs cells slots) {x y : Int64} (hd : decode bytes pc = .ok (.ldiv, 1)) (hp : pc + 1 = pc') (hy : y ≠ 0)
    (k : own_Go p e below K (T.setTop (mkF m pc' Ls (.long (x / y) :: rest)))) : own_Go p e below K (T.setTop (mkF m pc Ls (.long y :: .long x :: rest))) := by
  subst hp
  exact own_st (fun t k => XS.ldiv P.st.here P.ex rfl (P.cd hd) rfl hy k) k
theorem own_lrem (P : own_S Z own nm bytes mx rt p l e R s m args below meth c T h locs cells slots) {x y : Int64} (hd : decode bytes pc = .ok (.lrem, 1)) (hp : pc + 1 = pc') (hy : y ≠ 0)
    (k : own_Go p e below K (T.setTop (mkF m pc' Ls (.long (x - (x / y) * y) :: rest)))) : own_Go p e below K (T.setTop (mkF m pc Ls (.long y :: .long x :: rest))) := by
  subst hp
  exact own_st (fun t k => XS.lrem P.st.here P.ex rfl (P.cd hd) rfl hy k) k
theorem own_ishl (P : own_S Z own nm bytes mx rt p l e R s m args below meth c T h locs cells slots) {x y : Int32} (hd : decode bytes pc = .ok (.ishl, 1)) (hp : pc + 1 = pc')
    (k : own_Go p e below K (T.setTop (mkF m pc' Ls (.int (x <<< (y &&& 31)) :: rest)))) : own_Go p e below K (T.setTop (mkF m pc Ls (.int y :: .int x :: rest))) := by
  subst hp
  exact own_st (fun t k => XS.ishl P.st.here P.ex rfl (P.cd hd) rfl k) k
theorem own_ishr (P : own_S Z own nm bytes mx rt p l e R s m args below meth c T h locs cells slots) {x y : Int32} (hd : decode bytes pc = .ok (.ishr, 1)) (hp : pc + 1 = pc')
    (k : own_Go p e below K (T.setTop (mkF m pc' Ls (.int (x >>> (y &&& 31)) :: rest)))) : own_Go p e below K (T.setTop (mkF m pc Ls (.int y :: .int x :: rest))) := by
  subst hp
  exact own_st (fun t k => XS.ishr P.st.here P.ex rfl (P.cd hd) rfl k) k
theorem own_iushr (P : own_S Z own nm bytes mx rt p l e R s m args below meth c T h locs cells slots) {x y : Int32} (hd : decode bytes pc = .ok (.iushr, 1)) (hp : pc + 1 = pc')
    (k : own_Go p e below K (T.setTop (mkF m pc' Ls (.int ((x.toUInt32 >>> (y &&& 31).toUInt32).toInt32) :: rest)))) : own_Go p e below K (T.setTop (mkF m pc Ls (.int y :: .int x :: rest))) := by
  subst hp
  exact own_st (fun t k => XS.iushr P.st.here P.ex rfl (P.cd hd) rfl k) k
theorem own_lshl (P : own_S Z own nm bytes mx rt p l e R s m args below meth c T h locs cells slots) {x : Int64} {y : Int32} (hd : decode bytes pc = .ok (.lshl, 1)) (hp : pc + 1 = pc')
    (k : own_Go p e below K (T.setTop (mkF m pc' Ls (.long (x <<< (y &&& 0x3f).toInt64) :: rest)))) : own_Go p e below K (T.setTop (mkF m pc Ls (.int y :: .long x :: rest))) := by
  subst hp
  exact own_st (fun t k => XS.lshl P.st.here P.ex rfl (P.cd hd) rfl k) k
theorem own_lshr (P : own_S Z own nm bytes mx rt p l e R s m args below meth c T h locs cells slots) {x : Int64} {y : Int32} (hd : decode bytes pc = .ok (.lshr, 1)) (hp : pc + 1 = pc')
    (k : own_Go p e below K (T.setTop (mkF m pc' Ls (.long (x >>> (y &&& 0x3f).toInt64) :: rest)))) : own_Go p e below K (T.setTop (mkF m pc Ls (.int y :: .long x :: rest))) := by
  subst hp
  exact own_st (fun t k => XS.lshr P.st.here P.ex rfl (P.cd hd) rfl k) k
theorem own_lushr (P : own_S Z own nm bytes mx rt p l e R s m args below meth c T h locs cells slots) {x : Int64} {y : Int32} (hd : decode bytes pc = .ok (.lushr, 1)) (hp : pc + 1 = pc')
    (k : own_Go p e below K (T.setTop (mkF m pc' Ls (.long ((x.toUInt64 >>> (y &&& 0x3f).toInt64.toUInt64).toInt64) :: rest)))) : own_Go p e below K (T.setTop (mkF m pc Ls (.int y :: .long x :: rest))) := by
  subst hp
  exact own_st (fun t k => XS.lushr P.st.here P.ex rfl (P.cd hd) rfl k) k
theorem own_i2l (P : own_S Z own nm bytes mx rt p l e R s m args below meth c T h locs cells slots) {x : Int32} (hd : decode bytes pc = .ok (.i2l, 1)) (hp : pc + 1 = pc')
    (k : own_Go p e below K (T.setTop (mkF m pc' Ls (.long (x.toInt64) :: rest)))) : own_Go p e below K (T.setTop (mkF m pc Ls (.int x :: rest))) := by
  subst hp
  exact own_st (fun t k => XS.i2l P.st.here P.ex rfl (P.cd hd) rfl k) k
theorem own_l2i (P : own_S Z own nm bytes mx rt p l e R s m args below meth c T h locs cells slots) {x : Int64} (hd : decode bytes pc = .ok (.l2i, 1)) (hp : pc + 1 = pc')
    (k : own_Go p e below K (T.setTop (mkF m pc' Ls (.int (x.toInt32) :: rest)))) : own_Go p e below K (T.setTop (mkF m pc Ls (.long x :: rest))) := by
  subst hp
  exact own_st (fun t k => XS.l2i P.st.here P.ex rfl (P.cd hd) rfl k) k
theorem own_i2b (P : own_S Z own nm bytes mx rt p l e R s m args below meth c T h locs cells slots) {x : Int32} (hd : decode bytes pc = .ok (.i2b, 1)) (hp : pc + 1 = pc')
    (k : own_Go p e below K (T.setTop (mkF m pc' Ls (.int (x.toInt8.toInt32) :: rest)))) : own_Go p e below K (T.setTop (mkF m pc Ls (.int x :: rest))) := by
  subst hp
  exact own_st (fun t k => XS.i2b P.st.here P.ex rfl (P.cd hd) rfl k) k
theorem own_i2c (P : own_S Z own nm bytes mx rt p l e R s m args below meth c T h locs cells slots) {x : Int32} (hd : decode bytes pc = .ok (.i2c, 1)) (hp : pc + 1 = pc')
    (k : own_Go p e below K (T.setTop (mkF m pc' Ls (.int (x.toUInt32.toUInt16.toUInt32.toInt32) :: rest)))) : own_Go p e below K (T.setTop (mkF m pc Ls (.int x :: rest))) := by
  subst hp
  exact own_st (fun t k => XS.i2c P.st.here P.ex rfl (P.cd hd) rfl k) k
theorem own_i2s (P : own_S Z own nm bytes mx rt p l e R s m args below meth c T h locs cells slots) {x : Int32} (hd : decode bytes pc = .ok (.i2s, 1)) (hp : pc + 1 = pc')
    (k : own_Go p e below K (T.setTop (mkF m pc' Ls (.int (x.toInt16.toInt32) :: rest)))) : own_Go p e below K (T.setTop (mkF m pc Ls (.int x :: rest))) := by
  subst hp
  exact own_st (fun t k => XS.i2s P.st.here P.ex rfl (P.cd hd) rfl k) k
theorem own_lneg (P : own_S Z own nm bytes mx rt p l e R s m args below meth c T h locs cells slots) {x : Int64} (hd : decode bytes pc = .ok (.lneg, 1)) (hp : pc + 1 = pc')
    (k : own_Go p e below K (T.setTop (mkF m pc' Ls (.long (-x) :: rest)))) : own_Go p e below K (T.setTop (mkF m pc Ls (.long x :: rest))) := by
  subst hp
  exact own_st (fun t k => XS.lneg P.st.here P.ex rfl (P.cd hd) rfl k) k
theorem own_ineg (P : own_S Z own nm bytes mx rt p l e R s m args below meth c T h locs cells slots) {x : Int32} (hd : decode bytes pc = .ok (.ineg, 1)) (hp : pc + 1 = pc')
    (k : own_Go p e below K (T.setTop (mkF m pc' Ls (.int (-x) :: rest)))) : own_Go p e below K (T.setTop (mkF m pc Ls (.int x :: rest))) := by
  subst hp
  exact own_st (fun t k => XS.ineg P.st.here P.ex rfl (P.cd hd) rfl k) k
theorem own_iloadN (P : own_S Z own nm bytes mx rt p l e R s m args below meth c T h locs cells slots) {j : Fin 4} {v : Int32} (hd : decode bytes pc = .ok (.iload_n j, 1)) (hp : pc + 1 = pc') (hl : Ls[j.val]? = some (.val (.int v)))
    (k : own_Go p e below K (T.setTop (mkF m pc' Ls (.int v :: rest)))) : own_Go p e below K (T.setTop (mkF m pc Ls rest)) := by
  subst hp
  exact own_st (fun t k => XS.iloadN P.st.here P.ex rfl (P.cd hd) hl k) k
theorem own_iload (P : own_S Z own nm bytes mx rt p l e R s m args below meth c T h locs cells slots) {j : Nat} {v : Int32} (hd : decode bytes pc = .ok (.iload j, 2)) (hp : pc + 2 = pc') (hl : Ls[j]? = some (.val (.int v)))
    (k : own_Go p e below K (T.setTop (mkF m pc' Ls (.int v :: rest)))) : own_Go p e below K (T.setTop (mkF m pc Ls rest)) := by
  subst hp
  exact own_st (fun t k => XS.iload P.st.here P.ex rfl (P.cd hd) hl k) k
theorem own_lloadN (P : own_S Z own nm bytes mx rt p l e R s m args below meth c T h locs cells slots) {j : Fin 4} {v : Int64} (hd : decode bytes pc = .ok (.lload_n j, 1)) (hp : pc + 1 = pc') (hl : Ls[j.val]? = some (.val (.long v)))
    (k : own_Go p e below K (T.setTop (mkF m pc' Ls (.long v :: rest)))) : own_Go p e below K (T.setTop (mkF m pc Ls rest)) := by
  subst hp
  exact own_st (fun t k => XS.lloadN P.st.here P.ex rfl (P.cd hd) hl k) k
theorem own_lload (P : own_S Z own nm bytes mx rt p l e R s m args below meth c T h locs cells slots) {j : Nat} {v : Int64} (hd : decode bytes pc = .ok (.lload j, 2)) (hp : pc + 2 = pc') (hl : Ls[j]? = some (.val (.long v)))
    (k : own_Go p e below K (T.setTop (mkF m pc' Ls (.long v :: rest)))) : own_Go p e below K (T.setTop (mkF m pc Ls rest)) := by
  subst hp
  exact own_st (fun t k => XS.lload P.st.here P.ex rfl (P.cd hd) hl k) k
theorem own_aloadN (P : own_S Z own nm bytes mx rt p l e R s m args below meth c T h locs cells slots) {j : Fin 4} {v : Value} (hd : decode bytes pc = .ok (.aload_n j, 1)) (hp : pc + 1 = pc') (hl : Ls[j.val]? = some (.val v)) (hv : v.isRef = true)
    (k : own_Go p e below K (T.setTop (mkF m pc' Ls (v :: rest)))) : own_Go p e below K (T.setTop (mkF m pc Ls rest)) := by
  subst hp
  exact own_st (fun t k => XS.aloadN P.st.here P.ex rfl (P.cd hd) hl hv k) k
theorem own_aload (P : own_S Z own nm bytes mx rt p l e R s m args below meth c T h locs cells slots) {j : Nat} {v : Value} (hd : decode bytes pc = .ok (.aload j, 2)) (hp : pc + 2 = pc') (hl : Ls[j]? = some (.val v)) (hv : v.isRef = true)
    (k : own_Go p e below K (T.setTop (mkF m pc' Ls (v :: rest)))) : own_Go p e below K (T.setTop (mkF m pc Ls rest)) := by
  subst hp
  exact own_st (fun t k => XS.aload P.st.here P.ex rfl (P.cd hd) hl hv k) k
theorem own_istoreN (P : own_S Z own nm bytes mx rt p l e R s m args below meth c T h locs cells slots) {j : Fin 4} {v : Int32} {Ls' : Array Slot} (hd : decode bytes pc = .ok (.istore_n j, 1)) (hp : pc + 1 = pc') (hl : storeLocals Ls j.val (.int v) = some Ls')
    (k : own_Go p e below K (T.setTop (mkF m pc' Ls' rest))) : own_Go p e below K (T.setTop (mkF m pc Ls (.int v :: rest))) := by
  subst hp
  exact own_st (fun t k => XS.istoreN P.st.here P.ex rfl (P.cd hd) rfl hl k) k
theorem own_istore (P : own_S Z own nm bytes mx rt p l e R s m args below meth c T h locs cells slots) {j : Nat} {v : Int32} {Ls' : Array Slot} (hd : decode bytes pc = .ok (.istore j, 2)) (hp : pc + 2 = pc') (hl : storeLocals Ls j (.int v) = some Ls')
    (k : own_Go p e below K (T.setTop (mkF m pc' Ls' rest))) : own_Go p e below K (T.setTop (mkF m pc Ls (.int v :: rest))) := by
  subst hp
  exact own_st (fun t k => XS.istore P.st.here P.ex rfl (P.cd hd) rfl hl k) k
theorem own_lstoreN (P : own_S Z own nm bytes mx rt p l e R s m args below meth c T h locs cells slots) {j : Fin 4} {v : Int64} {Ls' : Array Slot} (hd : decode bytes pc = .ok (.lstore_n j, 1)) (hp : pc + 1 = pc') (hl : storeLocals Ls j.val (.long v) = some Ls')
    (k : own_Go p e below K (T.setTop (mkF m pc' Ls' rest))) : own_Go p e below K (T.setTop (mkF m pc Ls (.long v :: rest))) := by
  subst hp
  exact own_st (fun t k => XS.lstoreN P.st.here P.ex rfl (P.cd hd) rfl hl k) k
theorem own_lstore (P : own_S Z own nm bytes mx rt p l e R s m args below meth c T h locs cells slots) {j : Nat} {v : Int64} {Ls' : Array Slot} (hd : decode bytes pc = .ok (.lstore j, 2)) (hp : pc + 2 = pc') (hl : storeLocals Ls j (.long v) = some Ls')
    (k : own_Go p e below K (T.setTop (mkF m pc' Ls' rest))) : own_Go p e below K (T.setTop (mkF m pc Ls (.long v :: rest))) := by
  subst hp
  exact own_st (fun t k => XS.lstore P.st.here P.ex rfl (P.cd hd) rfl hl k) k
theorem own_astoreN (P : own_S Z own nm bytes mx rt p l e R s m args below meth c T h locs cells slots) {j : Fin 4} {v : Value} {Ls' : Array Slot} (hd : decode bytes pc = .ok (.astore_n j, 1)) (hp : pc + 1 = pc') (hv : v.isRef = true) (hl : storeLocals Ls j.val v = some Ls')
    (k : own_Go p e below K (T.setTop (mkF m pc' Ls' rest))) : own_Go p e below K (T.setTop (mkF m pc Ls (v :: rest))) := by
  subst hp
  exact own_st (fun t k => XS.astoreN P.st.here P.ex rfl (P.cd hd) rfl hv hl k) k
theorem own_astore (P : own_S Z own nm bytes mx rt p l e R s m args below meth c T h locs cells slots) {j : Nat} {v : Value} {Ls' : Array Slot} (hd : decode bytes pc = .ok (.astore j, 2)) (hp : pc + 2 = pc') (hv : v.isRef = true) (hl : storeLocals Ls j v = some Ls')
    (k : own_Go p e below K (T.setTop (mkF m pc' Ls' rest))) : own_Go p e below K (T.setTop (mkF m pc Ls (v :: rest))) := by
  subst hp
  exact own_st (fun t k => XS.astore P.st.here P.ex rfl (P.cd hd) rfl hv hl k) k
theorem own_iconst (P : own_S Z own nm bytes mx rt p l e R s m args below meth c T h locs cells slots) {i : Int} {v : Int32} (hd : decode bytes pc = .ok (.iconst i, 1)) (hp : pc + 1 = pc') (hv : Int32.ofInt i = v)
    (k : own_Go p e below K (T.setTop (mkF m pc' Ls (.int v :: rest)))) : own_Go p e below K (T.setTop (mkF m pc Ls rest)) := by
  subst hp
  exact own_st (fun t k => XS.iconst P.st.here P.ex rfl (P.cd hd) (by rw [hv]; exact k)) k
theorem own_bipush (P : own_S Z own nm bytes mx rt p l e R s m args below meth c T h locs cells slots) {i : Int} {v : Int32} (hd : decode bytes pc = .ok (.bipush i, 2)) (hp : pc + 2 = pc') (hv : (Int8.ofInt i).toInt32 = v)
    (k : own_Go p e below K (T.setTop (mkF m pc' Ls (.int v :: rest)))) : own_Go p e below K (T.setTop (mkF m pc Ls rest)) := by
  subst hp
  exact own_st (fun t k => XS.bipush P.st.here P.ex rfl (P.cd hd) (by rw [hv]; exact k)) k
theorem own_sipush (P : own_S Z own nm bytes mx rt p l e R s m args below meth c T h locs cells slots) {i : Int} {v : Int32} (hd : decode bytes pc = .ok (.sipush i, 3)) (hp : pc + 3 = pc') (hv : (Int16.ofInt i).toInt32 = v)
    (k : own_Go p e below K (T.setTop (mkF m pc' Ls (.int v :: rest)))) : own_Go p e below K (T.setTop (mkF m pc Ls rest)) := by
  subst hp
  exact own_st (fun t k => XS.sipush P.st.here P.ex rfl (P.cd hd) (by rw [hv]; exact k)) k
theorem own_lconst (P : own_S Z own nm bytes mx rt p l e R s m args below meth c T h locs cells slots) {j : Fin 2} {v : Int64} (hd : decode bytes pc = .ok (.lconst j, 1)) (hp : pc + 1 = pc') (hv : Int64.ofNat j = v)
    (k : own_Go p e below K (T.setTop (mkF m pc' Ls (.long v :: rest)))) : own_Go p e below K (T.setTop (mkF m pc Ls rest)) := by
  subst hp
  exact own_st (fun t k => XS.lconst P.st.here P.ex rfl (P.cd hd) (by rw [hv]; exact k)) k
theorem own_aconstNull (P : own_S Z own nm bytes mx rt p l e R s m args below meth c T h locs cells slots)  (hd : decode bytes pc = .ok (.aconst_null, 1)) (hp : pc + 1 = pc')
    (k : own_Go p e below K (T.setTop (mkF m pc' Ls (.null :: rest)))) : own_Go p e below K (T.setTop (mkF m pc Ls rest)) := by
  subst hp
  exact own_st (fun t k => XS.aconstNull P.st.here P.ex rfl (P.cd hd) k) k
theorem own_iinc (P : own_S Z own nm bytes mx rt p l e R s m args below meth c T h locs cells slots) {j : Nat} {i : Int} {x v : Int32} {Ls' : Array Slot} (hd : decode bytes pc = .ok (.iinc j i, 3)) (hp : pc + 3 = pc') (hl : Ls[j]? = some (.val (.int x))) (hv : Int32.ofInt i = v) (hl' : storeLocals Ls j (.int (x + v)) = some Ls')
    (k : own_Go p e below K (T.setTop (mkF m pc' Ls' rest))) : own_Go p e below K (T.setTop (mkF m pc Ls rest)) := by
  subst hp
  exact own_st (fun t k => XS.iinc P.st.here P.ex rfl (P.cd hd) hl (by rw [hv]; exact hl') k) k
theorem own_dup (P : own_S Z own nm bytes mx rt p l e R s m args below meth c T h locs cells slots) {v : Value} (hd : decode bytes pc = .ok (.dup, 1)) (hp : pc + 1 = pc') (hc : v.category = 1)
    (k : own_Go p e below K (T.setTop (mkF m pc' Ls (v :: v :: rest)))) : own_Go p e below K (T.setTop (mkF m pc Ls (v :: rest))) := by
  subst hp
  exact own_st (fun t k => XS.dup P.st.here P.ex rfl (P.cd hd) rfl hc k) k
theorem own_dupX1 (P : own_S Z own nm bytes mx rt p l e R s m args below meth c T h locs cells slots) {v u : Value} (hd : decode bytes pc = .ok (.dup_x1, 1)) (hp : pc + 1 = pc') (hc : v.category = 1) (hc' : u.category = 1)
    (k : own_Go p e below K (T.setTop (mkF m pc' Ls (v :: u :: v :: rest)))) : own_Go p e below K (T.setTop (mkF m pc Ls (v :: u :: rest))) := by
  subst hp
  exact own_st (fun t k => XS.dupX1 P.st.here P.ex rfl (P.cd hd) rfl hc hc' k) k
theorem own_pop (P : own_S Z own nm bytes mx rt p l e R s m args below meth c T h locs cells slots) {v : Value} (hd : decode bytes pc = .ok (.pop, 1)) (hp : pc + 1 = pc') (hc : v.category = 1)
    (k : own_Go p e below K (T.setTop (mkF m pc' Ls rest))) : own_Go p e below K (T.setTop (mkF m pc Ls (v :: rest))) := by
  subst hp
  exact own_st (fun t k => XS.pop P.st.here P.ex rfl (P.cd hd) rfl hc k) k
theorem own_goto (P : own_S Z own nm bytes mx rt p l e R s m args below meth c T h locs cells slots) {o : Int} (hd : decode bytes pc = .ok (.goto o, 3)) (ho : 0 ≤ (pc : Int) + o) (hp : ((pc : Int) + o).toNat = pc')
    (k : own_Go p e below K (T.setTop (mkF m pc' Ls rest))) : own_Go p e below K (T.setTop (mkF m pc Ls rest)) := own_st (fun t k => XS.goto P.st.here P.ex rfl rfl (P.cd hd) ho hp k) k
/-- what a branch asks of two ints, of two longs -/
def own_ci (cd : ClassFile.Cond) (x y : Int32) : Prop := match cd with | .eq => x = y | .ne => ¬ x = y | .lt => x < y | .ge => ¬ x < y | .gt => y < x | .le => ¬ y < x
def own_cl (cd : ClassFile.Cond) (x y : Int64) : Prop := match cd with | .eq => x = y | .ne => ¬ x = y | .lt => x < y | .ge => ¬ x < y | .gt => y < x | .le => ¬ y < x
theorem own_ciY {cd : ClassFile.Cond} {x y : Int32} (q : own_ci cd x y) : if_icmp.holds cd x y = true := by
  cases cd
  · exact (teq q).1
  · exact (feq q).2
  · exact (tlt q).1
  · exact (flt q).2.1
  · exact (tlt q).2.2.1
  · exact (flt q).2.2.2
theorem own_ciN {cd : ClassFile.Cond} {x y : Int32} (q : ¬ own_ci cd x y) : if_icmp.holds cd x y = false := by
  cases cd
  · exact (feq q).1
  · exact (teq (Classical.not_not.mp q)).2
  · exact (flt q).1
  · exact (tlt (Classical.not_not.mp q)).2.1
  · exact (flt q).2.2.1
  · exact (tlt (Classical.not_not.mp q)).2.2.2
theorem own_clY {cd : ClassFile.Cond} {x y : Int64} (q : own_cl cd x y) : own_ci cd (lcmpW x y) 0 := by
  rw [lcW]
  cases cd
  · exact (lc_eq x y).mpr q
  · exact fun r => q ((lc_eq x y).mp r)
  · exact (lc_lt x y).mpr q
  · exact fun r => q ((lc_lt x y).mp r)
  · exact (lc_gt x y).mpr q
  · exact fun r => q ((lc_gt x y).mp r)
theorem own_clN {cd : ClassFile.Cond} {x y : Int64} (q : ¬ own_cl cd x y) : ¬ own_ci cd (lcmpW x y) 0 := by
  rw [lcW]
  cases cd
  · exact fun r => q ((lc_eq x y).mp r)
  · exact fun r => q fun z => r ((lc_eq x y).mpr z)
  · exact fun r => q ((lc_lt x y).mp r)
  · exact fun r => q fun z => r ((lc_lt x y).mpr z)
  · exact fun r => q ((lc_gt x y).mp r)
  · exact fun r => q fun z => r ((lc_gt x y).mpr z)
theorem own_icmpY (P : own_S Z own nm bytes mx rt p l e R s m args below meth c T h locs cells slots) {cd : ClassFile.Cond} {o : Int} {x y : Int32} (hd : decode bytes pc = .ok (.if_icmp cd o, 3)) (q : own_ci cd x y) (ho : 0 ≤ (pc : Int) + o) (hp : ((pc : Int) + o).toNat = pc')
    (k : own_Go p e below K (T.setTop (mkF m pc' Ls rest))) : own_Go p e below K (T.setTop (mkF m pc Ls (.int y :: .int x :: rest))) := own_st (fun t k => XS.icmpYes P.st.here P.ex rfl rfl (P.cd hd) rfl (own_ciY q) ho hp k) k
theorem own_icmpN (P : own_S Z own nm bytes mx rt p l e R s m args below meth c T h locs cells slots) {cd : ClassFile.Cond} {o : Int} {x y : Int32} (hd : decode bytes pc = .ok (.if_icmp cd o, 3)) (q : ¬ own_ci cd x y) (hp : pc + 3 = pc')
    (k : own_Go p e below K (T.setTop (mkF m pc' Ls rest))) : own_Go p e below K (T.setTop (mkF m pc Ls (.int y :: .int x :: rest))) := by
  subst hp
  exact own_st (fun t k => XS.icmpNo P.st.here P.ex rfl (P.cd hd) rfl (own_ciN q) k) k
theorem own_if0Y (P : own_S Z own nm bytes mx rt p l e R s m args below meth c T h locs cells slots) {cd : ClassFile.Cond} {o : Int} {x : Int32} (hd : decode bytes pc = .ok (.ifCond cd o, 3)) (q : own_ci cd x 0) (ho : 0 ≤ (pc : Int) + o) (hp : ((pc : Int) + o).toNat = pc')
    (k : own_Go p e below K (T.setTop (mkF m pc' Ls rest))) : own_Go p e below K (T.setTop (mkF m pc Ls (.int x :: rest))) := own_st (fun t k => XS.ifYes P.st.here P.ex rfl rfl (P.cd hd) rfl ((if0 _ _).trans (own_ciY q)) ho hp k) k
theorem own_if0N (P : own_S Z own nm bytes mx rt p l e R s m args below meth c T h locs cells slots) {cd : ClassFile.Cond} {o : Int} {x : Int32} (hd : decode bytes pc = .ok (.ifCond cd o, 3)) (q : ¬ own_ci cd x 0) (hp : pc + 3 = pc')
    (k : own_Go p e below K (T.setTop (mkF m pc' Ls rest))) : own_Go p e below K (T.setTop (mkF m pc Ls (.int x :: rest))) := by
  subst hp
  exact own_st (fun t k => XS.ifNo P.st.here P.ex rfl (P.cd hd) rfl ((if0 _ _).trans (own_ciN q)) k) k
theorem own_lcmp (P : own_S Z own nm bytes mx rt p l e R s m args below meth c T h locs cells slots) {x y : Int64} (hd : decode bytes pc = .ok (.lcmp, 1)) (hp : pc + 1 = pc')
    (k : own_Go p e below K (T.setTop (mkF m pc' Ls (.int (lcmpW x y) :: rest)))) : own_Go p e below K (T.setTop (mkF m pc Ls (.long y :: .long x :: rest))) := by
  subst hp
  exact own_st (fun t k => XS.lcmp P.st.here P.ex rfl (P.cd hd) rfl k) k
theorem own_lcY (P : own_S Z own nm bytes mx rt p l e R s m args below meth c T h locs cells slots) {cd : ClassFile.Cond} {o : Int} {x y : Int64} (hd : decode bytes pc = .ok (.lcmp, 1)) (hd2 : decode bytes (pc + 1) = .ok (.ifCond cd o, 3)) (q : own_cl cd x y) (ho : 0 ≤ ((pc + 1 : Nat) : Int) + o) (hp : (((pc + 1 : Nat) : Int) + o).toNat = pc')
    (k : own_Go p e below K (T.setTop (mkF m pc' Ls rest))) : own_Go p e below K (T.setTop (mkF m pc Ls (.long y :: .long x :: rest))) :=
  own_lcmp P hd rfl (own_if0Y P hd2 (own_clY q) ho hp k)
theorem own_lcN (P : own_S Z own nm bytes mx rt p l e R s m args below meth c T h locs cells slots) {cd : ClassFile.Cond} {o : Int} {x y : Int64} (hd : decode bytes pc = .ok (.lcmp, 1)) (hd2 : decode bytes (pc + 1) = .ok (.ifCond cd o, 3)) (q : ¬ own_cl cd x y) (hp : pc + 1 + 3 = pc')
    (k : own_Go p e below K (T.setTop (mkF m pc' Ls rest))) : own_Go p e below K (T.setTop (mkF m pc Ls (.long y :: .long x :: rest))) :=
  own_lcmp P hd rfl (own_if0N P hd2 (own_clN q) hp k)

theorem own_ldc (P : own_S Z own nm bytes mx rt p l e R s m args below meth c T h locs cells slots) {idx : Nat} {v : Int32} (wc : (Cond.constant own idx v).before a0 Z = true) (hd : decode bytes pc = .ok (.ldc idx, 2)) (hp : pc + 2 = pc')
    (k : own_Go p e below K (T.setTop (mkF m pc' Ls (.int v :: rest)))) : own_Go p e below K (T.setTop (mkF m pc Ls rest)) := by
  subst hp
  exact own_st (fun t k => P.st.ldcInt P.ex P.ow (mvT P.wz wc) (g := mkF m pc Ls rest) rfl (P.cd hd) t k) k
theorem own_ldcw (P : own_S Z own nm bytes mx rt p l e R s m args below meth c T h locs cells slots) {idx : Nat} {v : Int32} (wc : (Cond.constant own idx v).before a0 Z = true) (hd : decode bytes pc = .ok (.ldc_w idx, 3)) (hp : pc + 3 = pc')
    (k : own_Go p e below K (T.setTop (mkF m pc' Ls (.int v :: rest)))) : own_Go p e below K (T.setTop (mkF m pc Ls rest)) := by
  subst hp
  exact own_st (fun t k => P.st.ldcwInt P.ex P.ow (mvT P.wz wc) (g := mkF m pc Ls rest) rfl (P.cd hd) t k) k
theorem own_ldc2 (P : own_S Z own nm bytes mx rt p l e R s m args below meth c T h locs cells slots) {idx : Nat} {v : Int64} (wc : (Cond.constantLong own idx v).before a0 Z = true) (hd : decode bytes pc = .ok (.ldc2_w idx, 3)) (hp : pc + 3 = pc')
    (k : own_Go p e below K (T.setTop (mkF m pc' Ls (.long v :: rest)))) : own_Go p e below K (T.setTop (mkF m pc Ls rest)) := by
  subst hp
  exact own_st (fun t k => P.st.ldc2Long P.ex P.ow (mvT P.wz wc) (g := mkF m pc Ls rest) rfl (P.cd hd) t k) k

theorem own_retL {Q : Option Value → Heap → List Loc → Prop} {kc ks : Nat} (P : own_S Z own nm bytes mx (some .long) p l e R s m args below meth c T h locs cells slots) {v : Int64} (hd : decode bytes pc = .ok (.lreturn, 1)) (hc : cells ≤ kc) (hs : slots ≤ ks) (hq : Q (some (.long v)) h locs) :
    own_Go p e below (own_K s Q kc ks) (T.setTop (mkF m pc Ls [(.long v)])) := by
  obtain ⟨X, hx, hby, hml, hown, hZ, hr0, hlk, hh, -⟩ := P
  obtain ⟨fs, hr, hrun, hended, hW, hsame⟩ := X.leave (v := some (.long v)) (fun h => by rw [hr0] at h; cases h) hlk
  refine ⟨_, _, X.lreturnOut hx hr0 (hb hby hd) hr, hrun, hended, _, _, rfl, ?_, ⟨_, rfl⟩, hW, hsame.mono hc hs⟩
  rw [← hh] at hq
  exact hq
theorem own_retI {Q : Option Value → Heap → List Loc → Prop} {kc ks : Nat} (P : own_S Z own nm bytes mx (some .int) p l e R s m args below meth c T h locs cells slots) {v : Int32} (hd : decode bytes pc = .ok (.ireturn, 1)) (hc : cells ≤ kc) (hs : slots ≤ ks) (hq : Q (some (.int v)) h locs) :
    own_Go p e below (own_K s Q kc ks) (T.setTop (mkF m pc Ls [(.int v)])) := by
  obtain ⟨X, hx, hby, hml, hown, hZ, hr0, hlk, hh, -⟩ := P
  obtain ⟨fs, hr, hrun, hended, hW, hsame⟩ := X.leave (v := some (.int v)) (fun h => by rw [hr0] at h; cases h) hlk
  refine ⟨_, _, retI X hx hr0 (hb hby hd) hr, hrun, hended, _, _, rfl, ?_, ⟨_, rfl⟩, hW, hsame.mono hc hs⟩
  rw [← hh] at hq
  exact hq
theorem own_retZ {Q : Option Value → Heap → List Loc → Prop} {kc ks : Nat} (P : own_S Z own nm bytes mx (some .boolean) p l e R s m args below meth c T h locs cells slots) {v z : Int32} (hd : decode bytes pc = .ok (.ireturn, 1)) (hz : nar .boolean v = z) (hc : cells ≤ kc) (hs : slots ≤ ks) (hq : Q (some (.int z)) h locs) :
    own_Go p e below (own_K s Q kc ks) (T.setTop (mkF m pc Ls [(.int v)])) := by
  obtain ⟨X, hx, hby, hml, hown, hZ, hr0, hlk, hh, -⟩ := P
  obtain ⟨fs, hr, hrun, hended, hW, hsame⟩ := X.leave (v := some (.int z)) (fun h => by rw [hr0] at h; cases h) hlk
  refine ⟨_, _, retN X hx (t := .boolean) hr0 (by simp) (hb hby hd) (by rw [hz]; exact hr), hrun, hended, _, _, rfl, ?_, ⟨_, rfl⟩, hW, hsame.mono hc hs⟩
  rw [← hh] at hq
  exact hq
theorem own_retV {Q : Option Value → Heap → List Loc → Prop} {kc ks : Nat} (P : own_S Z own nm bytes mx none p l e R s m args below meth c T h locs cells slots) (hd : decode bytes pc = .ok (.return_, 1)) (hc : cells ≤ kc) (hs : slots ≤ ks) (hq : Q none h locs) :
    own_Go p e below (own_K s Q kc ks) (T.setTop (mkF m pc Ls [])) := by
  obtain ⟨X, hx, hby, hml, hown, hZ, hr0, hlk, hh, -⟩ := P
  obtain ⟨fs, hr, hrun, hended, hW, hsame⟩ := X.leave (v := none) (fun _ => rfl) hlk
  refine ⟨_, _, X.returnOut hx hr0 (hb hby hd) hr, hrun, hended, _, _, rfl, ?_, ⟨_, rfl⟩, hW, hsame.mono hc hs⟩
  rw [← hh] at hq
  exact hq
/-- a method's contract: from these arguments and this heap it returns as Q says -/
def own_Con (l : Launch) (Z : State) (y : MethodName) (bytes : ByteArray) (mx : Nat) (rt : Option FieldType) (ws : List Jvm.Cond) (rm : Room) (as' : Array Value) (h : Heap) (Q : Option Value → Heap → List Loc → Prop) : Prop :=
  MetFree l y (head1 (Jvm.Cond.code y bytes mx rt :: ws) rm) (fun a U => a = as' ∧ Z.Warmed39 U.vm ∧ U.heap = h) (fun _ _ _ _ _ => True) (fun _ U o U' => ∃ v L, o = .returned v ∧ Q v U'.heap L ∧ FrameEnd U o U' L rm.cells rm.slots)
/-- it returned v, wrote nothing and made nothing -/
def own_P (v : Option Value) (h : Heap) (v' : Option Value) (h' : Heap) (L : List Loc) : Prop := v' = v ∧ L = [] ∧ h' = h
theorem own_enter {y : MethodName} {ws : List Jvm.Cond} {rm : Room} {as' : Array Value} {Q : Option Value → Heap → List Loc → Prop} (hpl : plainFor y = true) (Ls : Array Slot) (hef : ∀ m, entryFrame m as' mx = mkF m 0 Ls [])
    (body : ∀ (p : Program) (e : Env) (s : State) (m : MethodId) (below : List Frame) (meth : Method) (c : Code) (T : State), own_S Z y.cls y.name bytes mx rt p l e rm s m as' below meth c T h [] 0 0 → own_Go p e below (own_K s Q rm.cells rm.slots) (T.setTop (mkF m 0 Ls []))) :
    own_Con l Z y bytes mx rt ws rm as' h Q := by
  refine MetFree.of_bodySF hpl hisR ?_
  intro p e s m args below meth c s₁ Bd hml0 hP hK
  obtain ⟨rfl, hZ, hh⟩ := hP
  have e0 : s₁.heap = h := by rw [← hh, Bd.state]; rfl
  obtain ⟨t, o, h1, h2, h3, v, L, ho, hq, hf⟩ := body p e s m below meth c s₁ ⟨Stand.of_body Bd, Bd.exec, Bd.bytes, hml0, findClass_of_methodNamed Bd.named, hZ, Bd.returns, BodyLoose.notSynchronized Bd, e0, (name_of_methodNamed Bd.named Bd.method).1⟩
  exact ⟨t, o, castTop (hef m) h1, h2, h3, v, L, ho, hq, hf⟩
theorem own_callQ (P : own_S Z own nm bytes mx rt p l e R s m args below meth c T h locs cells slots) {idx : Nat} {y : MethodName} {by' : ByteArray} {mx' : Nat} {rt' : Option FieldType} {rm : Room} {Q : Option Value → Heap → List Loc → Prop} {argsL st : List Value} {ps : List FieldType} {rr : Option FieldType}
    (wl : (Cond.methodLink own idx y).before a0 Z = true) (wt : (Cond.static y).before a0 Z = true) (wi : (Cond.initialized y.cls).before a0 Z = true) (wc : (Cond.code y by' mx' rt').before a0 Z = true) (hy : y.cls ≠ "java/lang/invoke/MethodHandle" ∧ y.cls ≠ "java/lang/invoke/VarHandle")
    (hM : own_Con l Z y by' mx' rt' [] rm argsL.toArray h Q) (hd : decode bytes pc = .ok (.invokestatic idx, 3)) (hp : pc + 3 = pc') (hdes : parseMethodDescriptor y.desc = some ⟨ps, rr⟩) (hlen : argsL.length = ps.length) (hsz : Ls.size = mx) (hst : st = argsL.reverse ++ rest)
    (hf : rm.frames + 1 ≤ R.frames) (W : Nat) (hW : (rest.map fun v => v.category).sum = W) (hl : W + (mx' + 11) + rm.locals ≤ R.locals) (hc : cells + rm.cells ≤ R.cells) (hs : slots + rm.slots ≤ R.slots)
    (k : ∀ T' h' v L, Q v h' L → own_S Z own nm bytes mx rt p l e R s m args below meth c T' h' (locs ++ L) (cells + rm.cells) (slots + rm.slots) → own_Go p e below K (T'.setTop (mkF m pc' Ls (v.toList ++ rest)))) :
    own_Go p e below K (T.setTop (mkF m pc Ls st)) := by
  subst hp
  obtain ⟨v, _, ⟨T3, L3, k3, n3⟩, -, X3, ⟨Lc3, hQ3, l3, y3, z3⟩, st3⟩ := Jvm.LawKit.callS P.st P.ex (y := y) P.ow (mvT P.wz wl) (mvT P.wz wt) (mvT P.wz wi) (mvT P.wz wc) hy (backOf (W := W) hM P.wz wc wi hf hl) (g := (mkF m pc Ls st)) rfl (by rw [P.ml]; exact hsz) (argsL := argsL) (rest := rest) (lenOf hdes hlen) hst (by show 2 * 0 + _ ≤ _; rw [hW]; exact Nat.le_of_eq (by simp)) (P.cd hd) (fun _ _ => ⟨rfl, P.hp, hc, hs⟩)
  dsimp only [Pt.U, Pt.locs, Pt.cells, Pt.slots] at X3 l3 y3 z3 st3 hQ3
  subst l3 y3 z3
  exact own_st st3 (k T3 T3.heap v Lc3 hQ3 (P.move X3 rfl))
theorem own_callP (P : own_S Z own nm bytes mx rt p l e R s m args below meth c T h locs cells slots) {idx : Nat} {y : MethodName} {by' : ByteArray} {mx' : Nat} {rt' : Option FieldType} {rm : Room} {v : Option Value} {argsL st : List Value} {ps : List FieldType} {rr : Option FieldType}
    (wl : (Cond.methodLink own idx y).before a0 Z = true) (wt : (Cond.static y).before a0 Z = true) (wi : (Cond.initialized y.cls).before a0 Z = true) (wc : (Cond.code y by' mx' rt').before a0 Z = true) (hy : y.cls ≠ "java/lang/invoke/MethodHandle" ∧ y.cls ≠ "java/lang/invoke/VarHandle")
    (hM : own_Con l Z y by' mx' rt' [] rm argsL.toArray h (own_P v h)) (hd : decode bytes pc = .ok (.invokestatic idx, 3)) (hp : pc + 3 = pc') (hdes : parseMethodDescriptor y.desc = some ⟨ps, rr⟩) (hlen : argsL.length = ps.length) (hsz : Ls.size = mx) (hst : st = argsL.reverse ++ rest)
    (hf : rm.frames + 1 ≤ R.frames) (W : Nat) (hW : (rest.map fun v => v.category).sum = W) (hl : W + (mx' + 11) + rm.locals ≤ R.locals) (hc : rm.cells = 0) (hs : rm.slots = 0) (hcc : cells ≤ R.cells) (hss : slots ≤ R.slots)
    (k : ∀ T', own_S Z own nm bytes mx rt p l e R s m args below meth c T' h locs cells slots → own_Go p e below K (T'.setTop (mkF m pc' Ls (v.toList ++ rest)))) :
    own_Go p e below K (T.setTop (mkF m pc Ls st)) := by
  refine own_callQ P wl wt wi wc hy hM hd hp hdes hlen hsz hst hf W hW hl (by rw [hc]; exact hcc) (by rw [hs]; exact hss) fun T' h' v' L hQ P' => ?_
  obtain ⟨rfl, rfl, rfl⟩ := hQ
  rw [hc, hs, List.append_nil] at P'
  exact k T' P'
def own_One (s : Slot) : Prop := s = .unset ∨ ∃ w : Value, s = .val w ∧ w.category = 1
theorem own_conMono {y : MethodName} {ws : List Jvm.Cond} {rm : Room} {as' : Array Value} {Q Q' : Option Value → Heap → List Loc → Prop} (q : own_Con l Z y bytes mx rt ws rm as' h Q) (f : ∀ v h' L, Q v h' L → Q' v h' L) : own_Con l Z y bytes mx rt ws rm as' h Q' := by
  intro p e ha hc hk s m args below hf happ hP hK
  obtain ⟨n, o, h1, h2, h3, v, L, h4, h5, h6⟩ := q p e ha hc hk s m args below hf happ hP hK
  exact ⟨n, o, h1, h2, h3, v, L, h4, f _ _ _ h5, h6⟩
theorem own_S.mono (P : own_S Z own nm bytes mx rt p l e R s m args below meth c T h locs cells slots) {cells' slots' : Nat} (hc : cells ≤ cells') (hs : slots ≤ slots') : own_S Z own nm bytes mx rt p l e R s m args below meth c T h locs cells' slots' :=
  P.move { P.st with same := P.st.same.mono hc hs } P.hp
end OwnBase
section OwnHeap
variable {p : Program} {l : Launch} {e : Env} {R : Room} {s : State} {m : MethodId} {args : Array Value} {below : List Frame} {meth : Method} {c : Code} {T : State} {h : Heap} {locs : List Loc} {cells slots : Nat} {Z : State} {a0 : Array Value} {own nm : String} {bytes : ByteArray} {mx : Nat} {rt : Option FieldType} {K : State → Outcome → Prop} {pc pc' : Nat} {Ls : Array Slot} {rest : List Value}
theorem own_new (P : own_S Z own nm bytes mx rt p l e R s m args below meth c T h locs cells slots) {C : String} {idx n : Nat} (wl : (Cond.classLink own idx C).before a0 Z = true) (wi : (Cond.instantiable C n).before a0 Z = true) (wz : (Cond.initialized C).before a0 Z = true) (hd : decode bytes pc = .ok (.new idx, 3)) (hp : pc + 3 = pc') (hc : cells + 1 ≤ R.cells) (hl : slots + n ≤ R.slots)
    (k : ∀ (T' : State) (h' : Heap) (a : Addr), a = h.size → Ext h h' → Exa Z h' a C → (∀ {O fn d : String} {ty : FieldType}, Laid Z a0 C O fn d → parseFieldDescriptor d = some ty → Fld Z h' a O fn d (defaultValue ty)) → own_S Z own nm bytes mx rt p l e R s m args below meth c T' h' locs (cells + 1) (slots + n) → own_Go p e below K (T'.setTop (mkF m pc' Ls (.ref a :: rest)))) :
    own_Go p e below K (T.setTop (mkF m pc Ls rest)) := by
  subst hp
  obtain ⟨T2, h2, X2, e2, E2, A2, D2, -, st2⟩ := newO P.st P.ex P.wz P.ow wl wi wz P.hp (g := mkF m pc Ls rest) rfl (P.cd hd) hc hl
  exact own_st st2 (k T2 h2 h.size rfl E2 A2 D2 (P.move X2 e2))
theorem own_initO (P : own_S Z own nm bytes mx rt p l e R s m args below meth c T h locs cells slots) {idx : Nat} {a : Addr} (w1 : (Cond.methodLink own idx Lib.objectInit).before a0 Z = true) (w2 : (Cond.instanceMethod Lib.objectInit).before a0 Z = true) (w3 : (Cond.code Lib.objectInit ⟨#[0xb1]⟩ 1 none).before a0 Z = true) (hd : decode bytes pc = .ok (.invokespecial idx, 3)) (hp : pc + 3 = pc') (hsz : Ls.size = mx) (hf : 1 ≤ R.frames) (W : Nat) (hW : (rest.map fun v => v.category).sum = W) (hl : W + 12 ≤ R.locals)
    (k : ∀ T' : State, own_S Z own nm bytes mx rt p l e R s m args below meth c T' h locs cells slots → own_Go p e below K (T'.setTop (mkF m pc' Ls rest))) : own_Go p e below K (T.setTop (mkF m pc Ls (.ref a :: rest))) := by
  subst hp
  obtain ⟨T2, X2, e2, st2⟩ := initO P.st P.ex P.wz P.ow w1 w2 w3 P.hp (g := mkF m pc Ls (.ref a :: rest)) rfl (by rw [P.ml]; exact hsz) rfl (P.cd hd) hf (W := W) (by show 2 * 0 + _ ≤ _; rw [hW]; exact Nat.le_of_eq (by simp)) hl
  exact own_st st2 (k T2 (P.move X2 e2))
theorem own_getF (P : own_S Z own nm bytes mx rt p l e R s m args below meth c T h locs cells slots) {idx : Nat} {O fn d : String} {a : Addr} {v : Value} (wf : (Cond.fieldLink own idx O fn d).before a0 Z = true) (F : Fld Z h a O fn d v) (hd : decode bytes pc = .ok (.getfield idx, 3)) (hp : pc + 3 = pc')
    (k : ∀ T' : State, own_S Z own nm bytes mx rt p l e R s m args below meth c T' h locs cells slots → own_Go p e below K (T'.setTop (mkF m pc' Ls (v :: rest)))) : own_Go p e below K (T.setTop (mkF m pc Ls (.ref a :: rest))) := by
  subst hp
  obtain ⟨T2, X2, e2, st2⟩ := getF P.st P.ex P.wz P.ow (host := "") (Or.inl wf) Via.refl P.hp F (g := mkF m pc Ls (.ref a :: rest)) rfl rfl (P.cd hd)
  exact own_st st2 (k T2 (P.move X2 e2))
theorem own_putF (P : own_S Z own nm bytes mx rt p l e R s m args below meth c T h locs cells slots) {idx kk : Nat} {C O fn d : String} {ty : FieldType} {a : Addr} {v old : Value} (wf : (Cond.fieldLink own idx O fn d).before a0 Z = true) (F : Fld Z h a O fn d old) (E : Exa Z h a C) (L : (Cond.lays C O fn d).before a0 Z = true ∨ ((Cond.laysFinal C O fn d).before a0 Z = true ∧ own = O ∧ nm = "<init>")) (wi : (Cond.instantiable C kk).before a0 Z = true) (hty : parseFieldDescriptor d = some ty) (hn : narrow ty v = v) (hf : fits ty v = true) (hd : decode bytes pc = .ok (.putfield idx, 3)) (hp : pc + 3 = pc')
    (k : ∀ (T' : State) (h' : Heap), Wr h h' a (Jvm.RoadKit.slotOf Z O fn d) v → own_S Z own nm bytes mx rt p l e R s m args below meth c T' h' (locs ++ [⟨a, Jvm.RoadKit.slotOf Z O fn d⟩]) cells slots → own_Go p e below K (T'.setTop (mkF m pc' Ls rest))) : own_Go p e below K (T.setTop (mkF m pc Ls (v :: .ref a :: rest))) := by
  subst hp
  obtain ⟨T2, h2, X2, e2, W2, st2⟩ := putF P.st P.ex P.wz P.ow (host := "") (Or.inl wf) Via.refl P.hp F E (L.imp id fun q => ⟨q.1, q.2.1, P.nmm.trans q.2.2⟩) wi hty hn hf (g := mkF m pc Ls (v :: .ref a :: rest)) rfl rfl (P.cd hd)
  exact own_st st2 (k T2 h2 W2 (P.move X2 e2))
theorem own_init (P : own_S Z own nm bytes mx rt p l e R s m args below meth c T h locs cells slots) {idx : Nat} {y : MethodName} {by' : ByteArray} {mx' : Nat} {rm : Room} {Q : Option Value → Heap → List Loc → Prop} {a : Addr} {argsL st : List Value} {ps : List FieldType} {rr : Option FieldType} (hy1 : y.name = "<init>")
    (wl : (Cond.methodLink own idx y).before a0 Z = true) (wm : (Cond.instanceMethod y).before a0 Z = true) (wi : (Cond.initialized y.cls).before a0 Z = true) (wc : (Cond.code y by' mx' none).before a0 Z = true) (hy : y.cls ≠ "java/lang/invoke/MethodHandle" ∧ y.cls ≠ "java/lang/invoke/VarHandle")
    (hM : own_Con l Z y by' mx' none [] rm (.ref a :: argsL).toArray h Q) (hd : decode bytes pc = .ok (.invokespecial idx, 3)) (hp : pc + 3 = pc') (hdes : parseMethodDescriptor y.desc = some ⟨ps, rr⟩) (hlen : argsL.length = ps.length) (hsz : Ls.size = mx) (hst : st = argsL.reverse ++ .ref a :: rest)
    (hf : rm.frames + 1 ≤ R.frames) (W : Nat) (hW : (rest.map fun v => v.category).sum = W) (hl : W + (mx' + 11) + rm.locals ≤ R.locals) (hc : cells + rm.cells ≤ R.cells) (hs : slots + rm.slots ≤ R.slots)
    (k : ∀ T' h' v L, Q v h' L → own_S Z own nm bytes mx rt p l e R s m args below meth c T' h' (locs ++ L) (cells + rm.cells) (slots + rm.slots) → own_Go p e below K (T'.setTop (mkF m pc' Ls (v.toList ++ rest)))) :
    own_Go p e below K (T.setTop (mkF m pc Ls st)) := by
  subst hp
  obtain ⟨v, _, ⟨T3, L3, k3, n3⟩, -, X3, ⟨Lc3, hQ3, l3, y3, z3⟩, st3⟩ := P.st.specialBack P.ex (y := y) hy1 P.ow (mvT P.wz wl) (mvT P.wz wm) (mvT P.wz wc) hy (backOf (W := W) hM P.wz wc wi hf hl) (g := (mkF m pc Ls st)) rfl (by rw [P.ml]; exact hsz) (Steps.refl _) (a := a) (argsL := argsL) (rest := rest) (lenOf hdes hlen) hst (by show 2 * 0 + _ ≤ _; rw [hW]; exact Nat.le_of_eq (by simp)) (P.cd hd) (fun _ _ => ⟨rfl, P.hp, hc, hs⟩)
  dsimp only [Pt.U, Pt.locs, Pt.cells, Pt.slots] at X3 l3 y3 z3 st3 hQ3
  subst l3 y3 z3
  exact own_st (fun t q => st3.trans q) (k T3 T3.heap v Lc3 hQ3 (P.move X3 rfl))
theorem own_virt (P : own_S Z own nm bytes mx rt p l e R s m args below meth c T h locs cells slots) {idx : Nat} {C : String} {y : MethodName} {by' : ByteArray} {mx' : Nat} {rt' : Option FieldType} {rm : Room} {Q : Option Value → Heap → List Loc → Prop} {a : Addr} {argsL st : List Value} {ps : List FieldType} {rr : Option FieldType}
    (wl : (Cond.methodLink own idx y).before a0 Z = true) (wd : (Cond.declares y).before a0 Z = true) (wsel : (Cond.selects C y y).before a0 Z = true) (wm : (Cond.instanceMethod y).before a0 Z = true) (wi : (Cond.initialized y.cls).before a0 Z = true) (wc : (Cond.code y by' mx' rt').before a0 Z = true) (hy : y.cls ≠ "java/lang/invoke/MethodHandle" ∧ y.cls ≠ "java/lang/invoke/VarHandle") (E : Exa Z h a C)
    (hM : own_Con l Z y by' mx' rt' [] rm (.ref a :: argsL).toArray h Q) (hd : decode bytes pc = .ok (.invokevirtual idx, 3)) (hp : pc + 3 = pc') (hdes : parseMethodDescriptor y.desc = some ⟨ps, rr⟩) (hlen : argsL.length = ps.length) (hsz : Ls.size = mx) (hst : st = argsL.reverse ++ .ref a :: rest)
    (hf : rm.frames + 1 ≤ R.frames) (W : Nat) (hW : (rest.map fun v => v.category).sum = W) (hl : W + (mx' + 11) + rm.locals ≤ R.locals) (hc : cells + rm.cells ≤ R.cells) (hs : slots + rm.slots ≤ R.slots)
    (k : ∀ T' h' v L, Q v h' L → own_S Z own nm bytes mx rt p l e R s m args below meth c T' h' (locs ++ L) (cells + rm.cells) (slots + rm.slots) → own_Go p e below K (T'.setTop (mkF m pc' Ls (v.toList ++ rest)))) :
    own_Go p e below K (T.setTop (mkF m pc Ls st)) := by
  subst hp
  obtain ⟨cq, kq, qa, qb, qc⟩ := isOf P.wz P.hp E
  obtain ⟨v, _, ⟨T3, L3, k3, n3⟩, -, X3, ⟨Lc3, hQ3, l3, y3, z3⟩, st3⟩ := P.st.virtualBack P.ex (y := y) (z := y) P.ow (mvT P.wz wl) (mvT P.wz wd) (notFace_of_selects (args := #[]) (mvT P.wz wsel)) (mvT P.wz wsel) (mvT P.wz wm) hy (backOf (W := W) hM P.wz wc wi hf hl) qa qc (g := (mkF m pc Ls st)) rfl (by rw [P.ml]; exact hsz) (Steps.refl _) (argsL := argsL) (rest := rest) (lenOf hdes hlen) hst (by show 2 * 0 + _ ≤ _; rw [hW]; exact Nat.le_of_eq (by simp)) (P.cd hd) (fun _ _ => ⟨rfl, P.hp, hc, hs⟩)
  dsimp only [Pt.U, Pt.locs, Pt.cells, Pt.slots] at X3 l3 y3 z3 st3 hQ3
  subst l3 y3 z3
  exact own_st (fun t q => st3.trans q) (k T3 T3.heap v Lc3 hQ3 (P.move X3 rfl))
theorem own_initP (P : own_S Z own nm bytes mx rt p l e R s m args below meth c T h locs cells slots) {idx : Nat} {y : MethodName} {by' : ByteArray} {mx' : Nat} {rm : Room} {v : Option Value} {a : Addr} {argsL st : List Value} {ps : List FieldType} {rr : Option FieldType} (hy1 : y.name = "<init>")
    (wl : (Cond.methodLink own idx y).before a0 Z = true) (wm : (Cond.instanceMethod y).before a0 Z = true) (wi : (Cond.initialized y.cls).before a0 Z = true) (wc : (Cond.code y by' mx' none).before a0 Z = true) (hy : y.cls ≠ "java/lang/invoke/MethodHandle" ∧ y.cls ≠ "java/lang/invoke/VarHandle")
    (hM : own_Con l Z y by' mx' none [] rm (.ref a :: argsL).toArray h (own_P v h)) (hd : decode bytes pc = .ok (.invokespecial idx, 3)) (hp : pc + 3 = pc') (hdes : parseMethodDescriptor y.desc = some ⟨ps, rr⟩) (hlen : argsL.length = ps.length) (hsz : Ls.size = mx) (hst : st = argsL.reverse ++ .ref a :: rest)
    (hf : rm.frames + 1 ≤ R.frames) (W : Nat) (hW : (rest.map fun v => v.category).sum = W) (hl : W + (mx' + 11) + rm.locals ≤ R.locals) (hc : rm.cells = 0) (hs : rm.slots = 0) (hcc : cells ≤ R.cells) (hss : slots ≤ R.slots)
    (k : ∀ T', own_S Z own nm bytes mx rt p l e R s m args below meth c T' h locs cells slots → own_Go p e below K (T'.setTop (mkF m pc' Ls (v.toList ++ rest)))) :
    own_Go p e below K (T.setTop (mkF m pc Ls st)) := by
  refine own_init P hy1 wl wm wi wc hy hM hd hp hdes hlen hsz hst hf W hW hl (by rw [hc]; exact hcc) (by rw [hs]; exact hss) fun T' h' v' L hQ P' => ?_
  obtain ⟨rfl, rfl, rfl⟩ := hQ
  rw [hc, hs, List.append_nil] at P'
  exact k T' P'
theorem own_virtP (P : own_S Z own nm bytes mx rt p l e R s m args below meth c T h locs cells slots) {idx : Nat} {C : String} {y : MethodName} {by' : ByteArray} {mx' : Nat} {rt' : Option FieldType} {rm : Room} {v : Option Value} {a : Addr} {argsL st : List Value} {ps : List FieldType} {rr : Option FieldType}
    (wl : (Cond.methodLink own idx y).before a0 Z = true) (wd : (Cond.declares y).before a0 Z = true) (wsel : (Cond.selects C y y).before a0 Z = true) (wm : (Cond.instanceMethod y).before a0 Z = true) (wi : (Cond.initialized y.cls).before a0 Z = true) (wc : (Cond.code y by' mx' rt').before a0 Z = true) (hy : y.cls ≠ "java/lang/invoke/MethodHandle" ∧ y.cls ≠ "java/lang/invoke/VarHandle") (E : Exa Z h a C)
    (hM : own_Con l Z y by' mx' rt' [] rm (.ref a :: argsL).toArray h (own_P v h)) (hd : decode bytes pc = .ok (.invokevirtual idx, 3)) (hp : pc + 3 = pc') (hdes : parseMethodDescriptor y.desc = some ⟨ps, rr⟩) (hlen : argsL.length = ps.length) (hsz : Ls.size = mx) (hst : st = argsL.reverse ++ .ref a :: rest)
    (hf : rm.frames + 1 ≤ R.frames) (W : Nat) (hW : (rest.map fun v => v.category).sum = W) (hl : W + (mx' + 11) + rm.locals ≤ R.locals) (hc : rm.cells = 0) (hs : rm.slots = 0) (hcc : cells ≤ R.cells) (hss : slots ≤ R.slots)
    (k : ∀ T', own_S Z own nm bytes mx rt p l e R s m args below meth c T' h locs cells slots → own_Go p e below K (T'.setTop (mkF m pc' Ls (v.toList ++ rest)))) :
    own_Go p e below K (T.setTop (mkF m pc Ls st)) := by
  refine own_virt P wl wd wsel wm wi wc hy E hM hd hp hdes hlen hsz hst hf W hW hl (by rw [hc]; exact hcc) (by rw [hs]; exact hss) fun T' h' v' L hQ P' => ?_
  obtain ⟨rfl, rfl, rfl⟩ := hQ
  rw [hc, hs, List.append_nil] at P'
  exact k T' P'
/-- an array of ints (chars, bytes) that holds just the list vs -/
def own_Ar (Z : State) (h : Heap) (a : Addr) (ty : FieldType) (vs : List Int32) : Prop := ∃ c : Cell, Arr Z h a c ty ∧ c.slots = (vs.map Value.int).toArray
theorem own_Ar.lt {a : Addr} {ty : FieldType} {vs : List Int32} (A : own_Ar Z h a ty vs) : a < h.size := by obtain ⟨c, q, -⟩ := A; exact q.lt
theorem own_Ar.ext {h' : Heap} {a : Addr} {ty : FieldType} {vs : List Int32} (A : own_Ar Z h a ty vs) (E : Ext h h') : own_Ar Z h' a ty vs := by obtain ⟨c, q, r⟩ := A; exact ⟨c, q.ext E, r⟩
theorem own_Ar.other {h' : Heap} {a b : Addr} {ty : FieldType} {vs : List Int32} {sl : Nat} {v : Value} (A : own_Ar Z h b ty vs) (W : Wr h h' a sl v) (ne : b ≠ a) : own_Ar Z h' b ty vs := by obtain ⟨c, q, r⟩ := A; exact ⟨c, q.other W ne, r⟩
theorem own_Ar.keep {h' : Heap} {a : Addr} {ty : FieldType} {vs : List Int32} {ws : List Addr} (A : own_Ar Z h a ty vs) (Kp : Keep h h' ws) (ne : a ∉ ws) : own_Ar Z h' a ty vs := by obtain ⟨c, q, r⟩ := A; exact ⟨c, ⟨Kp.2.1 a c q.1 ne, q.2⟩, r⟩
theorem own_Ar.set {h' : Heap} {a : Addr} {ty : FieldType} {vs : List Int32} {j : Nat} {x : Int32} (A : own_Ar Z h a ty vs) (W : Wr h h' a j (.int x)) : own_Ar Z h' a ty (vs.set j x) := by
  obtain ⟨c, q, r⟩ := A
  refine ⟨_, q.same W, ?_⟩
  simp only [Cell.setSlot]
  rw [r]
  simp
theorem own_arrNew (P : own_S Z own nm bytes mx rt p l e R s m args below meth c T h locs cells slots) {aty : ArrayType} {ty : FieldType} {n : Int32} (cap : Nat) (wa : (Cond.arrayClass ty).before a0 Z = true) (ht : newarray.typeOf aty = ty) (hdv : defaultValue ty = .int 0) (hd : decode bytes pc = .ok (.newarray aty, 2)) (hp : pc + 2 = pc') (hn : 0 ≤ n.toInt) (hcap : n.toInt.toNat ≤ cap) (hb : cap * 8 ≤ 536870912) (hc : cells + 1 ≤ R.cells) (hl : slots + cap ≤ R.slots)
    (k : ∀ (T' : State) (h' : Heap) (a : Addr), a = h.size → Ext h h' → own_Ar Z h' a ty (List.replicate n.toInt.toNat 0) → own_S Z own nm bytes mx rt p l e R s m args below meth c T' h' locs (cells + 1) (slots + cap) → own_Go p e below K (T'.setTop (mkF m pc' Ls (.ref a :: rest)))) :
    own_Go p e below K (T.setTop (mkF m pc Ls (.int n :: rest))) := by
  subst hp ht
  have hn' : ¬ n < 0 := by rw [Int32.lt_iff_toInt_lt]; exact Int.not_lt.mpr hn
  obtain ⟨T2, h2, cA, X2, e2, E2, A2, st2⟩ := newP P.st P.ex P.wz (aty := aty) wa P.hp (g := mkF m pc Ls (.int n :: rest)) rfl (P.cd hd) rfl hn' (cap := cap) hcap hb hc hl
  refine own_st st2 (k T2 h2 h.size rfl E2 ⟨_, A2, ?_⟩ (P.move X2 e2))
  show Array.replicate n.toNatClampNeg (defaultValue _) = _
  rw [hdv]
  show Array.replicate n.toInt.toNat (Value.int 0) = _
  simp
theorem own_arrIn {a : Addr} {ty : FieldType} {vs : List Int32} {c : Cell} {j : Int32} (r : c.slots = (vs.map Value.int).toArray) (h1 : 0 ≤ j.toInt) (h2 : j.toInt.toNat < vs.length) : ¬ (j < 0 ∨ c.slots.size ≤ j.toNatClampNeg) := by
  rintro (q | q)
  · rw [Int32.lt_iff_toInt_lt] at q
    have z : (0 : Int32).toInt = 0 := rfl
    omega
  · rw [r] at q
    simp only [List.size_toArray, List.length_map, Int32.toNatClampNeg] at q
    omega
theorem own_arrAt {vs : List Int32} {c : Cell} {j x : Int32} (r : c.slots = (vs.map Value.int).toArray) (h2 : j.toInt.toNat < vs.length) (hx : vs.getD j.toInt.toNat 0 = x) : c.slots[j.toNatClampNeg]? = some (.int x) := by
  subst hx
  rw [r]
  show (vs.map Value.int).toArray[j.toInt.toNat]? = _
  rw [List.getElem?_toArray, List.getElem?_map, List.getD_eq_getElem?_getD, List.getElem?_eq_getElem h2]
  rfl
theorem own_alen (P : own_S Z own nm bytes mx rt p l e R s m args below meth c T h locs cells slots) {a : Addr} {ty : FieldType} {vs : List Int32} {v : Int32} (A : own_Ar Z h a ty vs) (hd : decode bytes pc = .ok (.arraylength, 1)) (hp : pc + 1 = pc') (hv : Int32.ofNat vs.length = v)
    (k : own_Go p e below K (T.setTop (mkF m pc' Ls (.int v :: rest)))) : own_Go p e below K (T.setTop (mkF m pc Ls (.ref a :: rest))) := by
  subst hp hv
  obtain ⟨c, q, r⟩ := A
  have hsz : c.slots.size.toInt32 = Int32.ofNat vs.length := by rw [r]; simp
  refine own_st (fun t kk => P.st.arraylength P.ex (cell := c) (by rw [P.hp]; exact q.1) (State.isArrayOf_alike P.wz.alike q.2.1) (g := mkF m pc Ls (.ref a :: rest)) rfl (rest := rest) rfl (P.cd hd) t ?_) k
  rw [hsz]
  exact kk
theorem own_iaload (P : own_S Z own nm bytes mx rt p l e R s m args below meth c T h locs cells slots) {a : Addr} {vs : List Int32} {j x : Int32} (A : own_Ar Z h a .int vs) (hd : decode bytes pc = .ok (.iaload, 1)) (hp : pc + 1 = pc') (h1 : 0 ≤ j.toInt) (h2 : j.toInt.toNat < vs.length) (hx : vs.getD j.toInt.toNat 0 = x)
    (k : own_Go p e below K (T.setTop (mkF m pc' Ls (.int x :: rest)))) : own_Go p e below K (T.setTop (mkF m pc Ls (.int j :: .ref a :: rest))) := by
  subst hp
  obtain ⟨c, q, r⟩ := A
  exact own_st (fun t kk => P.st.iaload P.ex (j := j) (v := .int x) (by rw [P.hp]; exact q.1) (State.isArrayOf_alike P.wz.alike q.2.1) q.2.2 (own_arrIn (a := a) (ty := .int) r h1 h2) (own_arrAt r h2 hx) (g := mkF m pc Ls (.int j :: .ref a :: rest)) rfl rfl (P.cd hd) t kk) k
theorem own_caload (P : own_S Z own nm bytes mx rt p l e R s m args below meth c T h locs cells slots) {a : Addr} {vs : List Int32} {j x : Int32} (A : own_Ar Z h a .char vs) (hd : decode bytes pc = .ok (.caload, 1)) (hp : pc + 1 = pc') (h1 : 0 ≤ j.toInt) (h2 : j.toInt.toNat < vs.length) (hx : vs.getD j.toInt.toNat 0 = x)
    (k : own_Go p e below K (T.setTop (mkF m pc' Ls (.int x :: rest)))) : own_Go p e below K (T.setTop (mkF m pc Ls (.int j :: .ref a :: rest))) := by
  subst hp
  obtain ⟨c, q, r⟩ := A
  exact own_st (fun t kk => P.st.caload P.ex (j := j) (v := .int x) (by rw [P.hp]; exact q.1) (State.isArrayOf_alike P.wz.alike q.2.1) q.2.2 (own_arrIn (a := a) (ty := .char) r h1 h2) (own_arrAt r h2 hx) (g := mkF m pc Ls (.int j :: .ref a :: rest)) rfl rfl (P.cd hd) t kk) k
theorem own_baload (P : own_S Z own nm bytes mx rt p l e R s m args below meth c T h locs cells slots) {a : Addr} {vs : List Int32} {j x : Int32} (A : own_Ar Z h a .byte vs) (hd : decode bytes pc = .ok (.baload, 1)) (hp : pc + 1 = pc') (h1 : 0 ≤ j.toInt) (h2 : j.toInt.toNat < vs.length) (hx : vs.getD j.toInt.toNat 0 = x)
    (k : own_Go p e below K (T.setTop (mkF m pc' Ls (.int x :: rest)))) : own_Go p e below K (T.setTop (mkF m pc Ls (.int j :: .ref a :: rest))) := by
  subst hp
  obtain ⟨c, q, r⟩ := A
  exact own_st (fun t kk => P.st.baloadBytes P.ex (j := j) (v := .int x) (by rw [P.hp]; exact q.1) (State.isArrayOf_alike P.wz.alike q.2.1) q.2.2 (own_arrIn (a := a) (ty := .byte) r h1 h2) (own_arrAt r h2 hx) (g := mkF m pc Ls (.int j :: .ref a :: rest)) rfl rfl (P.cd hd) t kk) k
theorem own_iastore (P : own_S Z own nm bytes mx rt p l e R s m args below meth c T h locs cells slots) {a : Addr} {vs : List Int32} {j x z : Int32} (A : own_Ar Z h a .int vs) (hd : decode bytes pc = .ok (.iastore, 1)) (hp : pc + 1 = pc') (h1 : 0 ≤ j.toInt) (h2 : j.toInt.toNat < vs.length) (hz : x = z)
    (k : ∀ (T' : State) (h' : Heap), Wr h h' a j.toInt.toNat (.int z) → own_Ar Z h' a .int (vs.set j.toInt.toNat z) → own_S Z own nm bytes mx rt p l e R s m args below meth c T' h' (locs ++ [⟨a, j.toInt.toNat⟩]) cells slots → own_Go p e below K (T'.setTop (mkF m pc' Ls rest))) : own_Go p e below K (T.setTop (mkF m pc Ls (.int x :: .int j :: .ref a :: rest))) := by
  subst hp hz
  have A' := A
  obtain ⟨c, q, r⟩ := A'
  obtain ⟨T2, h2', X2, e2, W2, st2⟩ := stI P.st P.ex P.wz P.hp q (j := j) (own_arrIn (a := a) (ty := .int) r h1 h2) (g := mkF m pc Ls (.int x :: .int j :: .ref a :: rest)) rfl rfl (P.cd hd)
  exact own_st st2 (k T2 h2' W2 (A.set W2) (P.move X2 e2))
theorem own_castore (P : own_S Z own nm bytes mx rt p l e R s m args below meth c T h locs cells slots) {a : Addr} {vs : List Int32} {j x z : Int32} (A : own_Ar Z h a .char vs) (hd : decode bytes pc = .ok (.castore, 1)) (hp : pc + 1 = pc') (h1 : 0 ≤ j.toInt) (h2 : j.toInt.toNat < vs.length) (hz : nar .char x = z)
    (k : ∀ (T' : State) (h' : Heap), Wr h h' a j.toInt.toNat (.int z) → own_Ar Z h' a .char (vs.set j.toInt.toNat z) → own_S Z own nm bytes mx rt p l e R s m args below meth c T' h' (locs ++ [⟨a, j.toInt.toNat⟩]) cells slots → own_Go p e below K (T'.setTop (mkF m pc' Ls rest))) : own_Go p e below K (T.setTop (mkF m pc Ls (.int x :: .int j :: .ref a :: rest))) := by
  subst hp hz
  have A' := A
  obtain ⟨c, q, r⟩ := A'
  obtain ⟨T2, h2', X2, e2, W2, st2⟩ := stC P.st P.ex P.wz P.hp q (j := j) (own_arrIn (a := a) (ty := .char) r h1 h2) (g := mkF m pc Ls (.int x :: .int j :: .ref a :: rest)) rfl rfl (P.cd hd)
  exact own_st st2 (k T2 h2' W2 (A.set W2) (P.move X2 e2))
theorem own_bastore (P : own_S Z own nm bytes mx rt p l e R s m args below meth c T h locs cells slots) {a : Addr} {vs : List Int32} {j x z : Int32} (A : own_Ar Z h a .byte vs) (hd : decode bytes pc = .ok (.bastore, 1)) (hp : pc + 1 = pc') (h1 : 0 ≤ j.toInt) (h2 : j.toInt.toNat < vs.length) (hz : nar .byte x = z)
    (k : ∀ (T' : State) (h' : Heap), Wr h h' a j.toInt.toNat (.int z) → own_Ar Z h' a .byte (vs.set j.toInt.toNat z) → own_S Z own nm bytes mx rt p l e R s m args below meth c T' h' (locs ++ [⟨a, j.toInt.toNat⟩]) cells slots → own_Go p e below K (T'.setTop (mkF m pc' Ls rest))) : own_Go p e below K (T.setTop (mkF m pc Ls (.int x :: .int j :: .ref a :: rest))) := by
  subst hp hz
  have A' := A
  obtain ⟨c, q, r⟩ := A'
  obtain ⟨T2, h2', X2, e2, W2, st2⟩ := stB P.st P.ex P.wz P.hp q (j := j) (own_arrIn (a := a) (ty := .byte) r h1 h2) (g := mkF m pc Ls (.int x :: .int j :: .ref a :: rest)) rfl rfl (P.cd hd)
  exact own_st st2 (k T2 h2' W2 (A.set W2) (P.move X2 e2))
end OwnHeap

theorem d1_0 : decode jdk_29_method_69_code 0 = .ok (.iload_n 0, 1) := by decide +kernel
theorem d1_1 : decode jdk_29_method_69_code 1 = .ok (.iload_n 1, 1) := by decide +kernel
theorem d1_2 : decode jdk_29_method_69_code 2 = .ok (.if_icmp .gt 7, 3) := by decide +kernel
theorem d1_9 : decode jdk_29_method_69_code 9 = .ok (.iload_n 1, 1) := by decide +kernel
theorem d1_10 : decode jdk_29_method_69_code 10 = .ok (.ireturn, 1) := by decide +kernel
theorem d1_5 : decode jdk_29_method_69_code 5 = .ok (.iload_n 0, 1) := by decide +kernel
theorem d1_6 : decode jdk_29_method_69_code 6 = .ok (.goto 4, 3) := by decide +kernel
def F1_0 (i0 : Int32) (i1 : Int32) : Int32 := (if i1 < i0 then i1 else i0)
set_option maxRecDepth 65536 in
set_option maxHeartbeats 40000000 in
theorem b1_0 {p : Program} {l : Launch} {e : Env} {s : State} {m : MethodId} {args : Array Value} {below : List Frame} {meth : Method} {c : Code} {T : State} {h : Heap} {Z : State} {a0 : Array Value} {Q : Option Value → Heap → List Loc → Prop} (hw : ∀ d ∈ tables_1, d.before a0 Z = true) (i0 : Int32) (i1 : Int32) (P : own_S Z "java/lang/Math" "min" jdk_29_method_69_code 2 (some .int) p l e ({ frames := 0, cells := 0, slots := 0, locals := 0 } : Room) s m args below meth c T h [] 0 0) (hQ : Q (some (.int (F1_0 i0 i1))) h []) :
    own_Go p e below (own_K s Q 0 0) (T.setTop (mkF m 0 #[.val (.int i0), .val (.int i1)] [])) := by
  unfold F1_0 at hQ
  refine own_iloadN P d1_0 rfl rfl ?_
  refine own_iloadN P d1_1 rfl rfl ?_
  by_cases hc1 : i1 < i0
  · rw [if_pos hc1] at hQ
    refine own_icmpY P (pc' := 9) d1_2 hc1 (by decide) (by decide) ?_
    refine own_iloadN P d1_9 rfl rfl ?_
    exact own_retI P d1_10 (by decide) (by decide) hQ
  · rw [if_neg hc1] at hQ
    refine own_icmpN P (pc' := 5) d1_2 hc1 rfl ?_
    refine own_iloadN P d1_5 rfl rfl ?_
    refine own_goto P (pc' := 10) d1_6 (by decide) (by decide) ?_
    exact own_retI P d1_10 (by decide) (by decide) hQ
theorem rm1 (l : Launch) (Z : State) (a0 : Array Value) (hw : ∀ d ∈ tables_1, d.before a0 Z = true) (i0 : Int32) (i1 : Int32) (h : Heap) :
    own_Con l Z (⟨"java/lang/Math", "min", "(II)I"⟩ : MethodName) jdk_29_method_69_code 2 (some .int) [] ({ frames := 0, cells := 0, slots := 0, locals := 0 } : Room) #[(.int i0), (.int i1)] h (own_P (some (.int (F1_0 i0 i1))) h) :=
  own_enter (Jvm.Free.JP.mathPlain rfl (by decide +kernel)) #[.val (.int i0), .val (.int i1)] (fun m => by first | (simp [entryFrame, mkF, argsToLocals, Value.category]; done) | rfl) (fun p e s m below meth c T P => b1_0 hw i0 i1 P ⟨rfl, rfl, rfl⟩)
theorem d2_0 : decode jdk_29_method_65_code 0 = .ok (.iload_n 0, 1) := by decide +kernel
theorem d2_1 : decode jdk_29_method_65_code 1 = .ok (.iload_n 1, 1) := by decide +kernel
theorem d2_2 : decode jdk_29_method_65_code 2 = .ok (.if_icmp .lt 7, 3) := by decide +kernel
theorem d2_9 : decode jdk_29_method_65_code 9 = .ok (.iload_n 1, 1) := by decide +kernel
theorem d2_10 : decode jdk_29_method_65_code 10 = .ok (.ireturn, 1) := by decide +kernel
theorem d2_5 : decode jdk_29_method_65_code 5 = .ok (.iload_n 0, 1) := by decide +kernel
theorem d2_6 : decode jdk_29_method_65_code 6 = .ok (.goto 4, 3) := by decide +kernel
def F2_0 (i0 : Int32) (i1 : Int32) : Int32 := (if i0 < i1 then i1 else i0)
set_option maxRecDepth 65536 in
set_option maxHeartbeats 40000000 in
theorem b2_0 {p : Program} {l : Launch} {e : Env} {s : State} {m : MethodId} {args : Array Value} {below : List Frame} {meth : Method} {c : Code} {T : State} {h : Heap} {Z : State} {a0 : Array Value} {Q : Option Value → Heap → List Loc → Prop} (hw : ∀ d ∈ tables_1, d.before a0 Z = true) (i0 : Int32) (i1 : Int32) (P : own_S Z "java/lang/Math" "max" jdk_29_method_65_code 2 (some .int) p l e ({ frames := 0, cells := 0, slots := 0, locals := 0 } : Room) s m args below meth c T h [] 0 0) (hQ : Q (some (.int (F2_0 i0 i1))) h []) :
    own_Go p e below (own_K s Q 0 0) (T.setTop (mkF m 0 #[.val (.int i0), .val (.int i1)] [])) := by
  unfold F2_0 at hQ
  refine own_iloadN P d2_0 rfl rfl ?_
  refine own_iloadN P d2_1 rfl rfl ?_
  by_cases hc2 : i0 < i1
  · rw [if_pos hc2] at hQ
    refine own_icmpY P (pc' := 9) d2_2 hc2 (by decide) (by decide) ?_
    refine own_iloadN P d2_9 rfl rfl ?_
    exact own_retI P d2_10 (by decide) (by decide) hQ
  · rw [if_neg hc2] at hQ
    refine own_icmpN P (pc' := 5) d2_2 hc2 rfl ?_
    refine own_iloadN P d2_5 rfl rfl ?_
    refine own_goto P (pc' := 10) d2_6 (by decide) (by decide) ?_
    exact own_retI P d2_10 (by decide) (by decide) hQ
theorem rm2 (l : Launch) (Z : State) (a0 : Array Value) (hw : ∀ d ∈ tables_1, d.before a0 Z = true) (i0 : Int32) (i1 : Int32) (h : Heap) :
    own_Con l Z (⟨"java/lang/Math", "max", "(II)I"⟩ : MethodName) jdk_29_method_65_code 2 (some .int) [] ({ frames := 0, cells := 0, slots := 0, locals := 0 } : Room) #[(.int i0), (.int i1)] h (own_P (some (.int (F2_0 i0 i1))) h) :=
  own_enter (Jvm.Free.JP.mathPlain rfl (by decide +kernel)) #[.val (.int i0), .val (.int i1)] (fun m => by first | (simp [entryFrame, mkF, argsToLocals, Value.category]; done) | rfl) (fun p e s m below meth c T P => b2_0 hw i0 i1 P ⟨rfl, rfl, rfl⟩)
theorem own_on {n : Nat} (h : n < 2147483648) : (Int32.ofNat n).toInt = n := Int32.toInt_ofNat_of_lt (by omega)
theorem own_one (i : Nat) : Int32.ofNat i + (1 : Int32) = Int32.ofNat (i + 1) := (Int32.ofNat_add i 1).symm
theorem own_ltN {a b : Nat} (ha : a < 1001) (hb : b < 1001) : Int32.ofNat a < Int32.ofNat b ↔ a < b := by
  rw [Int32.lt_iff_toInt_lt, own_on (by omega), own_on (by omega)]; omega
theorem own_ne {a b : Nat} (h : ¬ (Int32.ofNat a = Int32.ofNat b)) : a ≠ b := fun q => h (by rw [q])
theorem own_idx {i1 c : Int32} {vs : List Int32} (hn : i1.toInt = vs.length ∧ vs.length ≤ 3) (hc : c < i1) (h0 : 0 ≤ c.toInt) : c.toInt.toNat < vs.length := by
  rw [Int32.lt_iff_toInt_lt] at hc; omega
theorem own_p {i1 c k : Int32} {us : List Int32} (hp : i1.toInt = us.length ∧ us.length ≤ 2) (hc : ¬ (i1 < c)) (hk : k.toInt + 1 = c.toInt) (h0 : 0 ≤ k.toInt) : k.toInt.toNat < us.length := by
  rw [Int32.lt_iff_toInt_lt] at hc; omega
theorem own_ne0 {i : Int32} (h : (0 : Int32) < i) : i ≠ 0 := fun q => by rw [q] at h; exact absurd h (by decide)
theorem own_a3 (x : Int32) : 0 ≤ (x &&& (3 : Int32)).toInt ∧ (x &&& (3 : Int32)).toInt ≤ 3 := by
  rw [Jvm.Kit.i32_mask x _ (k := 2) (by decide) (by decide)]; omega
theorem own_rem (x i6 : Int32) (vs : List Int32) (h : (0 : Int32) < i6) (hn : i6.toInt = vs.length ∧ vs.length ≤ 3) : 0 ≤ ((x &&& (3 : Int32)) - (x &&& (3 : Int32)) / i6 * i6).toInt ∧ ((x &&& (3 : Int32)) - (x &&& (3 : Int32)) / i6 * i6).toInt.toNat < vs.length := by
  have a := own_a3 x
  generalize (x &&& (3 : Int32)) = y at *
  rw [Int32.lt_iff_toInt_lt, show (0 : Int32).toInt = 0 by decide] at h
  rw [irem_eq_mod, Jvm.Kit.i32_rem_nonneg a.1]
  have q1 := Int.emod_nonneg y.toInt (by omega : i6.toInt ≠ 0)
  have q2 := Int.emod_lt_of_pos y.toInt h
  omega
theorem own_is3 {i6 : Int32} (h : 0 ≤ i6.toInt ∧ i6.toInt ≤ 3) (h0 : ¬ (i6 = (0 : Int32))) (h1 : ¬ (i6 = (1 : Int32))) (h2 : ¬ (i6 = (2 : Int32))) : i6.toInt = 3 := by
  rw [← Int32.toInt_inj, show (0 : Int32).toInt = 0 by decide] at h0
  rw [← Int32.toInt_inj, show (1 : Int32).toInt = 1 by decide] at h1
  rw [← Int32.toInt_inj, show (2 : Int32).toInt = 2 by decide] at h2
  omega
theorem own_is2 {i6 : Int32} (h : 0 ≤ i6.toInt ∧ i6.toInt ≤ 2) (h0 : ¬ (i6 = (0 : Int32))) (h1 : ¬ (i6 = (1 : Int32))) : i6.toInt = 2 := by
  rw [← Int32.toInt_inj, show (0 : Int32).toInt = 0 by decide] at h0
  rw [← Int32.toInt_inj, show (1 : Int32).toInt = 1 by decide] at h1
  omega
theorem own_r3 (x : Int32) : 0 ≤ ((x &&& (3 : Int32)) - (x &&& (3 : Int32)) / (3 : Int32) * (3 : Int32)).toInt ∧ ((x &&& (3 : Int32)) - (x &&& (3 : Int32)) / (3 : Int32) * (3 : Int32)).toInt ≤ 2 := by
  have a := own_a3 x
  generalize (x &&& (3 : Int32)) = y at *
  rw [irem_eq_mod, Jvm.Kit.i32_rem_nonneg a.1, show (3 : Int32).toInt = 3 by decide]
  omega

theorem d4_0 : decode method_3_code 0 = .ok (.iload_n 1, 1) := by decide +kernel
theorem d4_1 : decode method_3_code 1 = .ok (.ifCond .le 10, 3) := by decide +kernel
theorem d4_4 : decode method_3_code 4 = .ok (.aload_n 0, 1) := by decide +kernel
theorem d4_5 : decode method_3_code 5 = .ok (.iconst 0, 1) := by decide +kernel
theorem d4_6 : decode method_3_code 6 = .ok (.iaload, 1) := by decide +kernel
theorem d4_7 : decode method_3_code 7 = .ok (.iload_n 2, 1) := by decide +kernel
theorem d4_8 : decode method_3_code 8 = .ok (.if_icmp .eq 27, 3) := by decide +kernel
theorem d4_35 : decode method_3_code 35 = .ok (.iconst 1, 1) := by decide +kernel
theorem d4_36 : decode method_3_code 36 = .ok (.goto 4, 3) := by decide +kernel
theorem d4_40 : decode method_3_code 40 = .ok (.ireturn, 1) := by decide +kernel
theorem d4_11 : decode method_3_code 11 = .ok (.iload_n 1, 1) := by decide +kernel
theorem d4_12 : decode method_3_code 12 = .ok (.iconst 1, 1) := by decide +kernel
theorem d4_13 : decode method_3_code 13 = .ok (.if_icmp .le 10, 3) := by decide +kernel
theorem d4_16 : decode method_3_code 16 = .ok (.aload_n 0, 1) := by decide +kernel
theorem d4_17 : decode method_3_code 17 = .ok (.iconst 1, 1) := by decide +kernel
theorem d4_18 : decode method_3_code 18 = .ok (.iaload, 1) := by decide +kernel
theorem d4_19 : decode method_3_code 19 = .ok (.iload_n 2, 1) := by decide +kernel
theorem d4_20 : decode method_3_code 20 = .ok (.if_icmp .eq 15, 3) := by decide +kernel
theorem d4_23 : decode method_3_code 23 = .ok (.iload_n 1, 1) := by decide +kernel
theorem d4_24 : decode method_3_code 24 = .ok (.iconst 2, 1) := by decide +kernel
theorem d4_25 : decode method_3_code 25 = .ok (.if_icmp .le 14, 3) := by decide +kernel
theorem d4_28 : decode method_3_code 28 = .ok (.aload_n 0, 1) := by decide +kernel
theorem d4_29 : decode method_3_code 29 = .ok (.iconst 2, 1) := by decide +kernel
theorem d4_30 : decode method_3_code 30 = .ok (.iaload, 1) := by decide +kernel
theorem d4_31 : decode method_3_code 31 = .ok (.iload_n 2, 1) := by decide +kernel
theorem d4_32 : decode method_3_code 32 = .ok (.if_icmp .ne 7, 3) := by decide +kernel
theorem d4_39 : decode method_3_code 39 = .ok (.iconst 0, 1) := by decide +kernel
def F4_35  : Int32 := (1 : Int32)
set_option maxRecDepth 65536 in
set_option maxHeartbeats 40000000 in
theorem b4_35 {p : Program} {l : Launch} {e : Env} {s : State} {m : MethodId} {args : Array Value} {below : List Frame} {meth : Method} {c : Code} {T : State} {h : Heap} {Z : State} {a0 : Array Value} {Q : Option Value → Heap → List Loc → Prop} (hw : ∀ d ∈ tables_1, d.before a0 Z = true) (o0 : Addr) (i1 : Int32) (i2 : Int32) (vs : List Int32) (A_o0 : own_Ar Z h o0 .int vs) (hn : i1.toInt = vs.length ∧ vs.length ≤ 3) (P : own_S Z "com/example/lucid_concepts/lucidconcepts/reasoning/SortedLiteralsContainsAllPinLaw" "has" method_3_code 3 (some .boolean) p l e ({ frames := 0, cells := 0, slots := 0, locals := 0 } : Room) s m args below meth c T h [] 0 0) (hQ : Q (some (.int F4_35)) h []) :
    own_Go p e below (own_K s Q 0 0) (T.setTop (mkF m 35 #[.val (.ref o0), .val (.int i1), .val (.int i2)] [])) := by
  unfold F4_35 at hQ
  refine own_iconst P d4_35 rfl (v := (1 : Int32)) rfl ?_
  refine own_goto P (pc' := 40) d4_36 (by decide) (by decide) ?_
  exact own_retZ P d4_40 (z := (1 : Int32)) rfl (by decide) (by decide) hQ
def F4_23 (i1 : Int32) (i2 : Int32) (vs : List Int32) : Int32 := (if (2 : Int32) < i1 then (if (vs.getD 2 0) = i2 then F4_35 else (0 : Int32)) else (0 : Int32))
set_option maxRecDepth 65536 in
set_option maxHeartbeats 40000000 in
theorem b4_23 {p : Program} {l : Launch} {e : Env} {s : State} {m : MethodId} {args : Array Value} {below : List Frame} {meth : Method} {c : Code} {T : State} {h : Heap} {Z : State} {a0 : Array Value} {Q : Option Value → Heap → List Loc → Prop} (hw : ∀ d ∈ tables_1, d.before a0 Z = true) (o0 : Addr) (i1 : Int32) (i2 : Int32) (vs : List Int32) (A_o0 : own_Ar Z h o0 .int vs) (hn : i1.toInt = vs.length ∧ vs.length ≤ 3) (P : own_S Z "com/example/lucid_concepts/lucidconcepts/reasoning/SortedLiteralsContainsAllPinLaw" "has" method_3_code 3 (some .boolean) p l e ({ frames := 0, cells := 0, slots := 0, locals := 0 } : Room) s m args below meth c T h [] 0 0) (hQ : Q (some (.int (F4_23 i1 i2 vs))) h []) :
    own_Go p e below (own_K s Q 0 0) (T.setTop (mkF m 23 #[.val (.ref o0), .val (.int i1), .val (.int i2)] [])) := by
  unfold F4_23 at hQ
  refine own_iloadN P d4_23 rfl rfl ?_
  refine own_iconst P d4_24 rfl (v := (2 : Int32)) rfl ?_
  by_cases hc7 : (2 : Int32) < i1
  · rw [if_pos hc7] at hQ
    refine own_icmpN P (pc' := 28) d4_25 (not_not_intro hc7) rfl ?_
    refine own_aloadN P d4_28 rfl rfl rfl ?_
    refine own_iconst P d4_29 rfl (v := (2 : Int32)) rfl ?_
    refine own_iaload P A_o0 d4_30 rfl (by decide) (own_idx hn hc7 (by decide)) (x := (vs.getD 2 0)) rfl ?_
    refine own_iloadN P d4_31 rfl rfl ?_
    by_cases hc8 : (vs.getD 2 0) = i2
    · rw [if_pos hc8] at hQ
      refine own_icmpN P (pc' := 35) d4_32 (not_not_intro hc8) rfl ?_
      exact b4_35 hw o0 i1 i2 vs A_o0 hn P hQ
    · rw [if_neg hc8] at hQ
      refine own_icmpY P (pc' := 39) d4_32 hc8 (by decide) (by decide) ?_
      refine own_iconst P d4_39 rfl (v := (0 : Int32)) rfl ?_
      exact own_retZ P d4_40 (z := (0 : Int32)) rfl (by decide) (by decide) hQ
  · rw [if_neg hc7] at hQ
    refine own_icmpY P (pc' := 39) d4_25 hc7 (by decide) (by decide) ?_
    refine own_iconst P d4_39 rfl (v := (0 : Int32)) rfl ?_
    exact own_retZ P d4_40 (z := (0 : Int32)) rfl (by decide) (by decide) hQ
def F4_11 (i1 : Int32) (i2 : Int32) (vs : List Int32) : Int32 := (if (1 : Int32) < i1 then (if (vs.getD 1 0) = i2 then F4_35 else (F4_23 i1 i2 vs)) else (F4_23 i1 i2 vs))
set_option maxRecDepth 65536 in
set_option maxHeartbeats 40000000 in
theorem b4_11 {p : Program} {l : Launch} {e : Env} {s : State} {m : MethodId} {args : Array Value} {below : List Frame} {meth : Method} {c : Code} {T : State} {h : Heap} {Z : State} {a0 : Array Value} {Q : Option Value → Heap → List Loc → Prop} (hw : ∀ d ∈ tables_1, d.before a0 Z = true) (o0 : Addr) (i1 : Int32) (i2 : Int32) (vs : List Int32) (A_o0 : own_Ar Z h o0 .int vs) (hn : i1.toInt = vs.length ∧ vs.length ≤ 3) (P : own_S Z "com/example/lucid_concepts/lucidconcepts/reasoning/SortedLiteralsContainsAllPinLaw" "has" method_3_code 3 (some .boolean) p l e ({ frames := 0, cells := 0, slots := 0, locals := 0 } : Room) s m args below meth c T h [] 0 0) (hQ : Q (some (.int (F4_11 i1 i2 vs))) h []) :
    own_Go p e below (own_K s Q 0 0) (T.setTop (mkF m 11 #[.val (.ref o0), .val (.int i1), .val (.int i2)] [])) := by
  unfold F4_11 at hQ
  refine own_iloadN P d4_11 rfl rfl ?_
  refine own_iconst P d4_12 rfl (v := (1 : Int32)) rfl ?_
  by_cases hc5 : (1 : Int32) < i1
  · rw [if_pos hc5] at hQ
    refine own_icmpN P (pc' := 16) d4_13 (not_not_intro hc5) rfl ?_
    refine own_aloadN P d4_16 rfl rfl rfl ?_
    refine own_iconst P d4_17 rfl (v := (1 : Int32)) rfl ?_
    refine own_iaload P A_o0 d4_18 rfl (by decide) (own_idx hn hc5 (by decide)) (x := (vs.getD 1 0)) rfl ?_
    refine own_iloadN P d4_19 rfl rfl ?_
    by_cases hc6 : (vs.getD 1 0) = i2
    · rw [if_pos hc6] at hQ
      refine own_icmpY P (pc' := 35) d4_20 hc6 (by decide) (by decide) ?_
      exact b4_35 hw o0 i1 i2 vs A_o0 hn P hQ
    · rw [if_neg hc6] at hQ
      refine own_icmpN P (pc' := 23) d4_20 hc6 rfl ?_
      exact b4_23 hw o0 i1 i2 vs A_o0 hn P hQ
  · rw [if_neg hc5] at hQ
    refine own_icmpY P (pc' := 23) d4_13 hc5 (by decide) (by decide) ?_
    exact b4_23 hw o0 i1 i2 vs A_o0 hn P hQ
def F4_0 (i1 : Int32) (i2 : Int32) (vs : List Int32) : Int32 := (if (0 : Int32) < i1 then (if (vs.getD 0 0) = i2 then F4_35 else (F4_11 i1 i2 vs)) else (F4_11 i1 i2 vs))
set_option maxRecDepth 65536 in
set_option maxHeartbeats 40000000 in
theorem b4_0 {p : Program} {l : Launch} {e : Env} {s : State} {m : MethodId} {args : Array Value} {below : List Frame} {meth : Method} {c : Code} {T : State} {h : Heap} {Z : State} {a0 : Array Value} {Q : Option Value → Heap → List Loc → Prop} (hw : ∀ d ∈ tables_1, d.before a0 Z = true) (o0 : Addr) (i1 : Int32) (i2 : Int32) (vs : List Int32) (A_o0 : own_Ar Z h o0 .int vs) (hn : i1.toInt = vs.length ∧ vs.length ≤ 3) (P : own_S Z "com/example/lucid_concepts/lucidconcepts/reasoning/SortedLiteralsContainsAllPinLaw" "has" method_3_code 3 (some .boolean) p l e ({ frames := 0, cells := 0, slots := 0, locals := 0 } : Room) s m args below meth c T h [] 0 0) (hQ : Q (some (.int (F4_0 i1 i2 vs))) h []) :
    own_Go p e below (own_K s Q 0 0) (T.setTop (mkF m 0 #[.val (.ref o0), .val (.int i1), .val (.int i2)] [])) := by
  unfold F4_0 at hQ
  refine own_iloadN P d4_0 rfl rfl ?_
  by_cases hc3 : (0 : Int32) < i1
  · rw [if_pos hc3] at hQ
    refine own_if0N P (pc' := 4) d4_1 (not_not_intro hc3) rfl ?_
    refine own_aloadN P d4_4 rfl rfl rfl ?_
    refine own_iconst P d4_5 rfl (v := (0 : Int32)) rfl ?_
    refine own_iaload P A_o0 d4_6 rfl (by decide) (own_idx hn hc3 (by decide)) (x := (vs.getD 0 0)) rfl ?_
    refine own_iloadN P d4_7 rfl rfl ?_
    by_cases hc4 : (vs.getD 0 0) = i2
    · rw [if_pos hc4] at hQ
      refine own_icmpY P (pc' := 35) d4_8 hc4 (by decide) (by decide) ?_
      exact b4_35 hw o0 i1 i2 vs A_o0 hn P hQ
    · rw [if_neg hc4] at hQ
      refine own_icmpN P (pc' := 11) d4_8 hc4 rfl ?_
      exact b4_11 hw o0 i1 i2 vs A_o0 hn P hQ
  · rw [if_neg hc3] at hQ
    refine own_if0Y P (pc' := 11) d4_1 hc3 (by decide) (by decide) ?_
    exact b4_11 hw o0 i1 i2 vs A_o0 hn P hQ
theorem own_pn0 : plainName "com/example/lucid_concepts/lucidconcepts/reasoning/SortedLiteralsContainsAllPinLaw" = true := by first | (simp [plainName, overriddenIn]; done) | decide +kernel
theorem rm4 (l : Launch) (Z : State) (a0 : Array Value) (hw : ∀ d ∈ tables_1, d.before a0 Z = true) (o0 : Addr) (i1 : Int32) (i2 : Int32) (vs : List Int32) (h : Heap) (A_o0 : own_Ar Z h o0 .int vs) (hn : i1.toInt = vs.length ∧ vs.length ≤ 3) :
    own_Con l Z (⟨"com/example/lucid_concepts/lucidconcepts/reasoning/SortedLiteralsContainsAllPinLaw", "has", "([III)Z"⟩ : MethodName) method_3_code 3 (some .boolean) [] ({ frames := 0, cells := 0, slots := 0, locals := 0 } : Room) #[(.ref o0), (.int i1), (.int i2)] h (own_P (some (.int (F4_0 i1 i2 vs))) h) :=
  own_enter (plainFor_of_name own_pn0) #[.val (.ref o0), .val (.int i1), .val (.int i2)] (fun m => by first | (simp [entryFrame, mkF, argsToLocals, Value.category]; done) | rfl) (fun p e s m below meth c T P => b4_0 hw o0 i1 i2 vs A_o0 hn P ⟨rfl, rfl, rfl⟩)
theorem d3_24 : decode prog_94_method_3_code 24 = .ok (.iload_n 2, 1) := by decide +kernel
theorem d3_25 : decode prog_94_method_3_code 25 = .ok (.aload_n 0, 1) := by decide +kernel
theorem d3_26 : decode prog_94_method_3_code 26 = .ok (.arraylength, 1) := by decide +kernel
theorem d3_27 : decode prog_94_method_3_code 27 = .ok (.if_icmp .ge 17, 3) := by decide +kernel
theorem d3_30 : decode prog_94_method_3_code 30 = .ok (.aload_n 0, 1) := by decide +kernel
theorem d3_31 : decode prog_94_method_3_code 31 = .ok (.iload_n 2, 1) := by decide +kernel
theorem d3_32 : decode prog_94_method_3_code 32 = .ok (.iaload, 1) := by decide +kernel
theorem d3_33 : decode prog_94_method_3_code 33 = .ok (.iload 6, 2) := by decide +kernel
theorem d3_35 : decode prog_94_method_3_code 35 = .ok (.if_icmp .ge 9, 3) := by decide +kernel
theorem d3_38 : decode prog_94_method_3_code 38 = .ok (.iinc 2 1, 3) := by decide +kernel
theorem d3_41 : decode prog_94_method_3_code 41 = .ok (.goto (-17), 3) := by decide +kernel
theorem d3_11 : decode prog_94_method_3_code 11 = .ok (.iload 5, 2) := by decide +kernel
theorem d3_13 : decode prog_94_method_3_code 13 = .ok (.iload 4, 2) := by decide +kernel
theorem d3_15 : decode prog_94_method_3_code 15 = .ok (.if_icmp .ge 51, 3) := by decide +kernel
theorem d3_66 : decode prog_94_method_3_code 66 = .ok (.iconst 1, 1) := by decide +kernel
theorem d3_67 : decode prog_94_method_3_code 67 = .ok (.ireturn, 1) := by decide +kernel
theorem d3_18 : decode prog_94_method_3_code 18 = .ok (.aload_n 3, 1) := by decide +kernel
theorem d3_19 : decode prog_94_method_3_code 19 = .ok (.iload 5, 2) := by decide +kernel
theorem d3_21 : decode prog_94_method_3_code 21 = .ok (.iaload, 1) := by decide +kernel
theorem d3_22 : decode prog_94_method_3_code 22 = .ok (.istore 6, 2) := by decide +kernel
theorem d3_44 : decode prog_94_method_3_code 44 = .ok (.iload_n 2, 1) := by decide +kernel
theorem d3_45 : decode prog_94_method_3_code 45 = .ok (.aload_n 0, 1) := by decide +kernel
theorem d3_46 : decode prog_94_method_3_code 46 = .ok (.arraylength, 1) := by decide +kernel
theorem d3_47 : decode prog_94_method_3_code 47 = .ok (.if_icmp .eq 11, 3) := by decide +kernel
theorem d3_58 : decode prog_94_method_3_code 58 = .ok (.iconst 0, 1) := by decide +kernel
theorem d3_59 : decode prog_94_method_3_code 59 = .ok (.ireturn, 1) := by decide +kernel
theorem d3_50 : decode prog_94_method_3_code 50 = .ok (.aload_n 0, 1) := by decide +kernel
theorem d3_51 : decode prog_94_method_3_code 51 = .ok (.iload_n 2, 1) := by decide +kernel
theorem d3_52 : decode prog_94_method_3_code 52 = .ok (.iaload, 1) := by decide +kernel
theorem d3_53 : decode prog_94_method_3_code 53 = .ok (.iload 6, 2) := by decide +kernel
theorem d3_55 : decode prog_94_method_3_code 55 = .ok (.if_icmp .eq 5, 3) := by decide +kernel
theorem d3_60 : decode prog_94_method_3_code 60 = .ok (.iinc 5 1, 3) := by decide +kernel
theorem d3_63 : decode prog_94_method_3_code 63 = .ok (.goto (-52), 3) := by decide +kernel
theorem d3_0 : decode prog_94_method_3_code 0 = .ok (.iconst 0, 1) := by decide +kernel
theorem d3_1 : decode prog_94_method_3_code 1 = .ok (.istore_n 2, 1) := by decide +kernel
theorem d3_2 : decode prog_94_method_3_code 2 = .ok (.aload_n 1, 1) := by decide +kernel
theorem d3_3 : decode prog_94_method_3_code 3 = .ok (.astore_n 3, 1) := by decide +kernel
theorem d3_4 : decode prog_94_method_3_code 4 = .ok (.aload_n 3, 1) := by decide +kernel
theorem d3_5 : decode prog_94_method_3_code 5 = .ok (.arraylength, 1) := by decide +kernel
theorem d3_6 : decode prog_94_method_3_code 6 = .ok (.istore 4, 2) := by decide +kernel
theorem d3_8 : decode prog_94_method_3_code 8 = .ok (.iconst 0, 1) := by decide +kernel
theorem d3_9 : decode prog_94_method_3_code 9 = .ok (.istore 5, 2) := by decide +kernel
def own_in (vs : List Int32) (v : Int32) : Nat → Nat → Nat
  | 0, n => n
  | k + 1, n => if (vs.getD n 0) < v then own_in vs v k (n + 1) else n
theorem own_in_le (vs : List Int32) (v : Int32) : ∀ k n : Nat, own_in vs v k n ≤ n + k := by
  intro k
  induction k with
  | zero => intro n; exact Nat.le_refl _
  | succ k ih =>
    intro n
    rw [own_in]
    split
    · have := ih (n + 1); omega
    · omega
set_option maxRecDepth 65536 in
set_option maxHeartbeats 40000000 in
theorem b3_24 {p : Program} {l : Launch} {e : Env} {s : State} {m : MethodId} {args : Array Value} {below : List Frame} {meth : Method} {c : Code}  {h : Heap} {Z : State} {a0 : Array Value} {K : State → Outcome → Prop} (hw : ∀ d ∈ tables_1, d.before a0 Z = true) (o0 o1 : Addr) (vs : List Int32) (us : List Int32) (A_o0 : own_Ar Z h o0 .int vs) (A_o1 : own_Ar Z h o1 .int us) (hl0 : vs.length < 1000) (hl1 : us.length < 1000) (i4 i5 i6 : Int32) : ∀ (k n : Nat) (T : State), n + k = vs.length → own_S Z "com/example/lucid_concepts/lucidconcepts/reasoning/SortedLiterals" "containsAll" prog_94_method_3_code 7 (some .boolean) p l e ({ frames := 0, cells := 0, slots := 0, locals := 0 } : Room) s m args below meth c T h [] 0 0 → (∀ (n' : Nat) (T' : State), own_S Z "com/example/lucid_concepts/lucidconcepts/reasoning/SortedLiterals" "containsAll" prog_94_method_3_code 7 (some .boolean) p l e ({ frames := 0, cells := 0, slots := 0, locals := 0 } : Room) s m args below meth c T' h [] 0 0 → n' = own_in vs i6 k n → own_Go p e below K (T'.setTop (mkF m 44 #[.val (.ref o0), .val (.ref o1), .val (.int (Int32.ofNat n')), .val (.ref o1), .val (.int i4), .val (.int i5), .val (.int i6)] []))) →
    own_Go p e below K (T.setTop (mkF m 24 #[.val (.ref o0), .val (.ref o1), .val (.int (Int32.ofNat n)), .val (.ref o1), .val (.int i4), .val (.int i5), .val (.int i6)] [])) := by
  intro k
  induction k with
  | zero =>
    intro n T hi P cont
    have hc : ¬ ((Int32.ofNat n) < (Int32.ofNat vs.length)) := by rw [own_ltN (by omega) (by omega)]; omega
    refine own_iloadN P d3_24 rfl rfl ?_
    refine own_aloadN P d3_25 rfl rfl rfl ?_
    refine own_alen P A_o0 d3_26 rfl (v := (Int32.ofNat vs.length)) rfl ?_
    refine own_icmpY P (pc' := 44) d3_27 hc (by decide) (by decide) ?_
    exact cont n _ P rfl
  | succ k ih =>
    intro n T hi P cont
    have hc : (Int32.ofNat n) < (Int32.ofNat vs.length) := by rw [own_ltN (by omega) (by omega)]; omega
    refine own_iloadN P d3_24 rfl rfl ?_
    refine own_aloadN P d3_25 rfl rfl rfl ?_
    refine own_alen P A_o0 d3_26 rfl (v := (Int32.ofNat vs.length)) rfl ?_
    refine own_icmpN P (pc' := 30) d3_27 (not_not_intro hc) rfl ?_
    refine own_aloadN P d3_30 rfl rfl rfl ?_
    refine own_iloadN P d3_31 rfl rfl ?_
    refine own_iaload P A_o0 d3_32 rfl (by rw [own_on (by omega)]; omega) (by rw [own_on (by omega)]; omega) (x := (vs.getD n 0)) (by rw [own_on (by omega)]; rfl) ?_
    refine own_iload P d3_33 rfl rfl ?_
    by_cases hc9 : (vs.getD n 0) < i6
    · refine own_icmpN P (pc' := 38) d3_35 (not_not_intro hc9) rfl ?_
      refine own_iinc P d3_38 rfl rfl (v := (1 : Int32)) rfl (Ls' := #[.val (.ref o0), .val (.ref o1), .val (.int ((Int32.ofNat n) + (1 : Int32))), .val (.ref o1), .val (.int i4), .val (.int i5), .val (.int i6)]) rfl ?_
      refine own_goto P (pc' := 24) d3_41 (by decide) (by decide) ?_
      rw [own_one n]
      exact ih (n + 1) _ (by omega) P (fun n' T' P' q => cont n' T' P' (q.trans (by rw [own_in, if_pos hc9])))
    · refine own_icmpY P (pc' := 44) d3_35 hc9 (by decide) (by decide) ?_
      exact cont n _ P (by rw [own_in, if_neg hc9])
def own_o2 (vs us : List Int32) (f : Nat → Int32) (mi n' : Nat) : Int32 := (if (Int32.ofNat n') = (Int32.ofNat vs.length) then (0 : Int32) else (if (vs.getD n' 0) = (us.getD mi 0) then (f n') else (0 : Int32)))
def own_out (vs us : List Int32) : Nat → Nat → Nat → Int32
  | 0, _, _ => (1 : Int32)
  | k + 1, mi, n => own_o2 vs us (fun n' => own_out vs us k (mi + 1) n') mi (own_in vs (us.getD mi 0) (vs.length - n) n)
set_option maxRecDepth 65536 in
set_option maxHeartbeats 40000000 in
theorem b3_11 {p : Program} {l : Launch} {e : Env} {s : State} {m : MethodId} {args : Array Value} {below : List Frame} {meth : Method} {c : Code}  {h : Heap} {Z : State} {a0 : Array Value} {Q : Option Value → Heap → List Loc → Prop} (hw : ∀ d ∈ tables_1, d.before a0 Z = true) (o0 o1 : Addr) (vs : List Int32) (us : List Int32) (A_o0 : own_Ar Z h o0 .int vs) (A_o1 : own_Ar Z h o1 .int us) (hl0 : vs.length < 1000) (hl1 : us.length < 1000) : ∀ (k mi n : Nat) (s6 : Slot), own_One s6 → ∀ (T : State), mi + k = us.length → n ≤ vs.length → own_S Z "com/example/lucid_concepts/lucidconcepts/reasoning/SortedLiterals" "containsAll" prog_94_method_3_code 7 (some .boolean) p l e ({ frames := 0, cells := 0, slots := 0, locals := 0 } : Room) s m args below meth c T h [] 0 0 → Q (some (.int (own_out vs us k mi n))) h [] →
    own_Go p e below (own_K s Q 0 0) (T.setTop (mkF m 11 #[.val (.ref o0), .val (.ref o1), .val (.int (Int32.ofNat n)), .val (.ref o1), .val (.int (Int32.ofNat us.length)), .val (.int (Int32.ofNat mi)), s6] [])) := by
  intro k
  induction k with
  | zero =>
    intro mi n s6 h_s6 T hi hn P hQ
    have hc : ¬ ((Int32.ofNat mi) < (Int32.ofNat us.length)) := by rw [own_ltN (by omega) (by omega)]; omega
    refine own_iload P d3_11 rfl rfl ?_
    refine own_iload P d3_13 rfl rfl ?_
    refine own_icmpY P (pc' := 66) d3_15 hc (by decide) (by decide) ?_
    refine own_iconst P d3_66 rfl (v := (1 : Int32)) rfl ?_
    exact own_retZ P d3_67 (z := (1 : Int32)) rfl (by decide) (by decide) hQ
  | succ k ih =>
    intro mi n s6 h_s6 T hi hn P hQ
    have hc : (Int32.ofNat mi) < (Int32.ofNat us.length) := by rw [own_ltN (by omega) (by omega)]; omega
    rw [own_out, own_o2] at hQ
    refine own_iload P d3_11 rfl rfl ?_
    refine own_iload P d3_13 rfl rfl ?_
    refine own_icmpN P (pc' := 18) d3_15 (not_not_intro hc) rfl ?_
    refine own_aloadN P d3_18 rfl rfl rfl ?_
    refine own_iload P d3_19 rfl rfl ?_
    refine own_iaload P A_o1 d3_21 rfl (by rw [own_on (by omega)]; omega) (by rw [own_on (by omega)]; omega) (x := (us.getD mi 0)) (by rw [own_on (by omega)]; rfl) ?_
    refine own_istore P d3_22 rfl (Ls' := #[.val (.ref o0), .val (.ref o1), .val (.int (Int32.ofNat n)), .val (.ref o1), .val (.int (Int32.ofNat us.length)), .val (.int (Int32.ofNat mi)), .val (.int (us.getD mi 0))]) (by rcases h_s6 with rfl | ⟨w, rfl, hw⟩; rfl; cases w <;> first | rfl | (simp [Value.category] at hw)) ?_
    refine b3_24 hw o0 o1 vs us A_o0 A_o1 hl0 hl1 _ _ _ (vs.length - n) n _ (by omega) P (fun n' T11 P10 hn' => ?_)
    have hle : n' ≤ vs.length := by rw [hn']; have := own_in_le vs (us.getD mi 0) (vs.length - n) n; omega
    rw [← hn'] at hQ
    refine own_iloadN P10 d3_44 rfl rfl ?_
    refine own_aloadN P10 d3_45 rfl rfl rfl ?_
    refine own_alen P10 A_o0 d3_46 rfl (v := (Int32.ofNat vs.length)) rfl ?_
    by_cases hc12 : (Int32.ofNat n') = (Int32.ofNat vs.length)
    · rw [if_pos hc12] at hQ
      refine own_icmpY P10 (pc' := 58) d3_47 hc12 (by decide) (by decide) ?_
      refine own_iconst P10 d3_58 rfl (v := (0 : Int32)) rfl ?_
      exact own_retZ P10 d3_59 (z := (0 : Int32)) rfl (by decide) (by decide) hQ
    · rw [if_neg hc12] at hQ
      refine own_icmpN P10 (pc' := 50) d3_47 hc12 rfl ?_
      refine own_aloadN P10 d3_50 rfl rfl rfl ?_
      refine own_iloadN P10 d3_51 rfl rfl ?_
      refine own_iaload P10 A_o0 d3_52 rfl (by rw [own_on (by omega)]; omega) (by have q := own_ne hc12; rw [own_on (by omega)]; omega) (x := (vs.getD n' 0)) (by rw [own_on (by omega)]; rfl) ?_
      refine own_iload P10 d3_53 rfl rfl ?_
      by_cases hc13 : (vs.getD n' 0) = (us.getD mi 0)
      · rw [if_pos hc13] at hQ
        refine own_icmpY P10 (pc' := 60) d3_55 hc13 (by decide) (by decide) ?_
        refine own_iinc P10 d3_60 rfl rfl (v := (1 : Int32)) rfl (Ls' := #[.val (.ref o0), .val (.ref o1), .val (.int (Int32.ofNat n')), .val (.ref o1), .val (.int (Int32.ofNat us.length)), .val (.int ((Int32.ofNat mi) + (1 : Int32))), .val (.int (us.getD mi 0))]) rfl ?_
        refine own_goto P10 (pc' := 11) d3_63 (by decide) (by decide) ?_
        rw [own_one mi]
        exact ih (mi + 1) n' _ (Or.inr ⟨_, rfl, rfl⟩) _ (by omega) hle P10 hQ
      · rw [if_neg hc13] at hQ
        refine own_icmpN P10 (pc' := 58) d3_55 hc13 rfl ?_
        refine own_iconst P10 d3_58 rfl (v := (0 : Int32)) rfl ?_
        exact own_retZ P10 d3_59 (z := (0 : Int32)) rfl (by decide) (by decide) hQ
def F3_0 (vs : List Int32) (us : List Int32) : Int32 := (own_out vs us us.length 0 0)
set_option maxRecDepth 65536 in
set_option maxHeartbeats 40000000 in
theorem b3_0 {p : Program} {l : Launch} {e : Env} {s : State} {m : MethodId} {args : Array Value} {below : List Frame} {meth : Method} {c : Code} {T : State} {h : Heap} {Z : State} {a0 : Array Value} {Q : Option Value → Heap → List Loc → Prop} (hw : ∀ d ∈ tables_1, d.before a0 Z = true) (o0 : Addr) (o1 : Addr) (vs : List Int32) (us : List Int32) (A_o0 : own_Ar Z h o0 .int vs) (A_o1 : own_Ar Z h o1 .int us) (hl0 : vs.length < 1000) (hl1 : us.length < 1000) (P : own_S Z "com/example/lucid_concepts/lucidconcepts/reasoning/SortedLiterals" "containsAll" prog_94_method_3_code 7 (some .boolean) p l e ({ frames := 0, cells := 0, slots := 0, locals := 0 } : Room) s m args below meth c T h [] 0 0) (hQ : Q (some (.int (F3_0 vs us))) h []) :
    own_Go p e below (own_K s Q 0 0) (T.setTop (mkF m 0 #[.val (.ref o0), .val (.ref o1), .unset, .unset, .unset, .unset, .unset] [])) := by
  unfold F3_0 at hQ
  refine own_iconst P d3_0 rfl (v := (0 : Int32)) rfl ?_
  refine own_istoreN P d3_1 rfl (Ls' := #[.val (.ref o0), .val (.ref o1), .val (.int (0 : Int32)), .unset, .unset, .unset, .unset]) rfl ?_
  refine own_aloadN P d3_2 rfl rfl rfl ?_
  refine own_astoreN P d3_3 rfl rfl (Ls' := #[.val (.ref o0), .val (.ref o1), .val (.int (0 : Int32)), .val (.ref o1), .unset, .unset, .unset]) rfl ?_
  refine own_aloadN P d3_4 rfl rfl rfl ?_
  refine own_alen P A_o1 d3_5 rfl (v := (Int32.ofNat us.length)) rfl ?_
  refine own_istore P d3_6 rfl (Ls' := #[.val (.ref o0), .val (.ref o1), .val (.int (0 : Int32)), .val (.ref o1), .val (.int (Int32.ofNat us.length)), .unset, .unset]) rfl ?_
  refine own_iconst P d3_8 rfl (v := (0 : Int32)) rfl ?_
  refine own_istore P d3_9 rfl (Ls' := #[.val (.ref o0), .val (.ref o1), .val (.int (0 : Int32)), .val (.ref o1), .val (.int (Int32.ofNat us.length)), .val (.int (0 : Int32)), .unset]) rfl ?_
  exact b3_11 hw o0 o1 vs us A_o0 A_o1 hl0 hl1 us.length 0 0 .unset (Or.inl rfl) _ (Nat.zero_add _) (Nat.zero_le _) P hQ
theorem own_pn1 : plainName "com/example/lucid_concepts/lucidconcepts/reasoning/SortedLiterals" = true := by first | (simp [plainName, overriddenIn]; done) | decide +kernel
theorem rm3 (l : Launch) (Z : State) (a0 : Array Value) (hw : ∀ d ∈ tables_1, d.before a0 Z = true) (o0 : Addr) (o1 : Addr) (vs : List Int32) (us : List Int32) (h : Heap) (A_o0 : own_Ar Z h o0 .int vs) (A_o1 : own_Ar Z h o1 .int us) (hl0 : vs.length < 1000) (hl1 : us.length < 1000) :
    own_Con l Z (⟨"com/example/lucid_concepts/lucidconcepts/reasoning/SortedLiterals", "containsAll", "([I[I)Z"⟩ : MethodName) prog_94_method_3_code 7 (some .boolean) [] ({ frames := 0, cells := 0, slots := 0, locals := 0 } : Room) #[(.ref o0), (.ref o1)] h (own_P (some (.int (F3_0 vs us))) h) :=
  own_enter (plainFor_of_name own_pn1) #[.val (.ref o0), .val (.ref o1), .unset, .unset, .unset, .unset, .unset] (fun m => by first | (simp [entryFrame, mkF, argsToLocals, Value.category]; done) | rfl) (fun p e s m below meth c T P => b3_0 hw o0 o1 vs us A_o0 A_o1 hl0 hl1 P ⟨rfl, rfl, rfl⟩)
theorem own_pd0 : parseMethodDescriptor "([I[I)Z" = some ⟨[(.array .int), (.array .int)], some .boolean⟩ := by decide +kernel
theorem own_pd1 : parseMethodDescriptor "([III)Z" = some ⟨[(.array .int), .int, .int], some .boolean⟩ := by decide +kernel
theorem own_pd2 : parseMethodDescriptor "(II)I" = some ⟨[.int, .int], some .int⟩ := by decide +kernel
def F0_335 (si0 : Int32) (vs : List Int32) (us : List Int32) : Int32 := (if (F3_0 vs us) = si0 then (1 : Int32) else (0 : Int32))
set_option maxRecDepth 65536 in
set_option maxHeartbeats 40000000 in
theorem b0_335 {p : Program} {l : Launch} {e : Env} {s : State} {m : MethodId} {args : Array Value} {below : List Frame} {meth : Method} {c : Code} {T : State} {h : Heap} {locs : List Loc} {Z : State} {a0 : Array Value} {Q : Option Value → Heap → List Loc → Prop} (hw : ∀ d ∈ tables_1, d.before a0 Z = true) (i0 : Int32) (i1 : Int32) (i2 : Int32) (i3 : Int32) (i4 : Int32) (i5 : Int32) (i6 : Int32) (i7 : Int32) (i8 : Int32) (i9 : Int32) (o10 : Addr) (i11 : Int32) (i12 : Int32) (i13 : Int32) (o14 : Addr) (si0 : Int32) (vs : List Int32) (us : List Int32) (n0 : Nat) (N : Fr n0 locs) (Z0 : n0 ≤ h.size) (g_o10 : n0 ≤ o10) (g_o14 : n0 ≤ o14) (A_o10 : own_Ar Z h o10 .int vs) (A_o14 : own_Ar Z h o14 .int us) (ne_o10_o14 : o10 ≠ o14) (hn : i6.toInt = vs.length ∧ vs.length ≤ 3) (hp : i13.toInt = us.length ∧ us.length ≤ 2) (P : own_S Z "com/example/lucid_concepts/lucidconcepts/reasoning/SortedLiteralsContainsAllPinLaw" "law" code 16 (some .boolean) p l e room_1 s m args below meth c T h locs 2 5) (hQ : ∀ h' L', Fr n0 L' → Q (some (.int (F0_335 si0 vs us))) h' L') :
    own_Go p e below (own_K s Q room_1.cells room_1.slots) (T.setTop (mkF m 335 #[.val (.int i0), .val (.int i1), .val (.int i2), .val (.int i3), .val (.int i4), .val (.int i5), .val (.int i6), .val (.int i7), .val (.int i8), .val (.int i9), .val (.ref o10), .val (.int i11), .val (.int i12), .val (.int i13), .val (.ref o14), .unset] [(.int si0)])) := by
  unfold F0_335 at hQ
  refine own_istore P at_335 rfl (Ls' := #[.val (.int i0), .val (.int i1), .val (.int i2), .val (.int i3), .val (.int i4), .val (.int i5), .val (.int i6), .val (.int i7), .val (.int i8), .val (.int i9), .val (.ref o10), .val (.int i11), .val (.int i12), .val (.int i13), .val (.ref o14), .val (.int si0)]) rfl ?_
  refine own_aload P at_337 rfl rfl rfl ?_
  refine own_aload P at_339 rfl rfl rfl ?_
  refine own_callP P (hw _ (List.mem_of_getElem? (i := 8) rfl)) (hw _ (List.mem_of_getElem? (i := 9) rfl)) (hw _ (List.mem_of_getElem? (i := 10) rfl)) (hw _ (List.mem_of_getElem? (i := 11) rfl)) (by decide) (argsL := [(.ref o10), (.ref o14)]) (rest := []) (rm3 l Z a0 hw o10 o14 vs us h A_o10 A_o14 (by omega) (by omega)) at_341 rfl own_pd0 rfl rfl rfl (by decide) 0 rfl (by decide) rfl rfl (by decide) (by decide) (fun T42 P41 => ?_)
  show own_Go p e below _ (T42.setTop (mkF m 344 #[.val (.int i0), .val (.int i1), .val (.int i2), .val (.int i3), .val (.int i4), .val (.int i5), .val (.int i6), .val (.int i7), .val (.int i8), .val (.int i9), .val (.ref o10), .val (.int i11), .val (.int i12), .val (.int i13), .val (.ref o14), .val (.int si0)] [(.int (F3_0 vs us))]))
  refine own_iload P41 at_344 rfl rfl ?_
  by_cases hc47 : (F3_0 vs us) = si0
  · rw [if_pos hc47] at hQ
    refine own_icmpN P41 (pc' := 349) at_346 (not_not_intro hc47) rfl ?_
    refine own_iconst P41 at_349 rfl (v := (1 : Int32)) rfl ?_
    refine own_goto P41 (pc' := 354) at_350 (by decide) (by decide) ?_
    exact own_retZ P41 at_354 (z := (1 : Int32)) rfl (by decide) (by decide) (hQ _ _ N)
  · rw [if_neg hc47] at hQ
    refine own_icmpY P41 (pc' := 353) at_346 hc47 (by decide) (by decide) ?_
    refine own_iconst P41 at_353 rfl (v := (0 : Int32)) rfl ?_
    exact own_retZ P41 at_354 (z := (0 : Int32)) rfl (by decide) (by decide) (hQ _ _ N)
def F0_330 (vs : List Int32) (us : List Int32) : Int32 := (F0_335 (1 : Int32) vs us)
set_option maxRecDepth 65536 in
set_option maxHeartbeats 40000000 in
theorem b0_330 {p : Program} {l : Launch} {e : Env} {s : State} {m : MethodId} {args : Array Value} {below : List Frame} {meth : Method} {c : Code} {T : State} {h : Heap} {locs : List Loc} {Z : State} {a0 : Array Value} {Q : Option Value → Heap → List Loc → Prop} (hw : ∀ d ∈ tables_1, d.before a0 Z = true) (i0 : Int32) (i1 : Int32) (i2 : Int32) (i3 : Int32) (i4 : Int32) (i5 : Int32) (i6 : Int32) (i7 : Int32) (i8 : Int32) (i9 : Int32) (o10 : Addr) (i11 : Int32) (i12 : Int32) (i13 : Int32) (o14 : Addr) (vs : List Int32) (us : List Int32) (n0 : Nat) (N : Fr n0 locs) (Z0 : n0 ≤ h.size) (g_o10 : n0 ≤ o10) (g_o14 : n0 ≤ o14) (A_o10 : own_Ar Z h o10 .int vs) (A_o14 : own_Ar Z h o14 .int us) (ne_o10_o14 : o10 ≠ o14) (hn : i6.toInt = vs.length ∧ vs.length ≤ 3) (hp : i13.toInt = us.length ∧ us.length ≤ 2) (P : own_S Z "com/example/lucid_concepts/lucidconcepts/reasoning/SortedLiteralsContainsAllPinLaw" "law" code 16 (some .boolean) p l e room_1 s m args below meth c T h locs 2 5) (hQ : ∀ h' L', Fr n0 L' → Q (some (.int (F0_330 vs us))) h' L') :
    own_Go p e below (own_K s Q room_1.cells room_1.slots) (T.setTop (mkF m 330 #[.val (.int i0), .val (.int i1), .val (.int i2), .val (.int i3), .val (.int i4), .val (.int i5), .val (.int i6), .val (.int i7), .val (.int i8), .val (.int i9), .val (.ref o10), .val (.int i11), .val (.int i12), .val (.int i13), .val (.ref o14), .unset] [])) := by
  unfold F0_330 at hQ
  refine own_iconst P at_330 rfl (v := (1 : Int32)) rfl ?_
  refine own_goto P (pc' := 335) at_331 (by decide) (by decide) ?_
  exact b0_335 hw i0 i1 i2 i3 i4 i5 i6 i7 i8 i9 o10 i11 i12 i13 o14 (1 : Int32) vs us n0 N Z0 g_o10 g_o14 A_o10 A_o14 ne_o10_o14 (by assumption) (by assumption) P hQ
def F0_334 (vs : List Int32) (us : List Int32) : Int32 := (F0_335 (0 : Int32) vs us)
set_option maxRecDepth 65536 in
set_option maxHeartbeats 40000000 in
theorem b0_334 {p : Program} {l : Launch} {e : Env} {s : State} {m : MethodId} {args : Array Value} {below : List Frame} {meth : Method} {c : Code} {T : State} {h : Heap} {locs : List Loc} {Z : State} {a0 : Array Value} {Q : Option Value → Heap → List Loc → Prop} (hw : ∀ d ∈ tables_1, d.before a0 Z = true) (i0 : Int32) (i1 : Int32) (i2 : Int32) (i3 : Int32) (i4 : Int32) (i5 : Int32) (i6 : Int32) (i7 : Int32) (i8 : Int32) (i9 : Int32) (o10 : Addr) (i11 : Int32) (i12 : Int32) (i13 : Int32) (o14 : Addr) (vs : List Int32) (us : List Int32) (n0 : Nat) (N : Fr n0 locs) (Z0 : n0 ≤ h.size) (g_o10 : n0 ≤ o10) (g_o14 : n0 ≤ o14) (A_o10 : own_Ar Z h o10 .int vs) (A_o14 : own_Ar Z h o14 .int us) (ne_o10_o14 : o10 ≠ o14) (hn : i6.toInt = vs.length ∧ vs.length ≤ 3) (hp : i13.toInt = us.length ∧ us.length ≤ 2) (P : own_S Z "com/example/lucid_concepts/lucidconcepts/reasoning/SortedLiteralsContainsAllPinLaw" "law" code 16 (some .boolean) p l e room_1 s m args below meth c T h locs 2 5) (hQ : ∀ h' L', Fr n0 L' → Q (some (.int (F0_334 vs us))) h' L') :
    own_Go p e below (own_K s Q room_1.cells room_1.slots) (T.setTop (mkF m 334 #[.val (.int i0), .val (.int i1), .val (.int i2), .val (.int i3), .val (.int i4), .val (.int i5), .val (.int i6), .val (.int i7), .val (.int i8), .val (.int i9), .val (.ref o10), .val (.int i11), .val (.int i12), .val (.int i13), .val (.ref o14), .unset] [])) := by
  unfold F0_334 at hQ
  refine own_iconst P at_334 rfl (v := (0 : Int32)) rfl ?_
  exact b0_335 hw i0 i1 i2 i3 i4 i5 i6 i7 i8 i9 o10 i11 i12 i13 o14 (0 : Int32) vs us n0 N Z0 g_o10 g_o14 A_o10 A_o14 ne_o10_o14 (by assumption) (by assumption) P hQ
def F0_310 (i6 : Int32) (i13 : Int32) (vs : List Int32) (us : List Int32) : Int32 := (if i13 < (2 : Int32) then (F0_330 vs us) else (if (F4_0 i6 (us.getD 1 0) vs) = (0 : Int32) then (F0_334 vs us) else (F0_330 vs us)))
set_option maxRecDepth 65536 in
set_option maxHeartbeats 40000000 in
theorem b0_310 {p : Program} {l : Launch} {e : Env} {s : State} {m : MethodId} {args : Array Value} {below : List Frame} {meth : Method} {c : Code} {T : State} {h : Heap} {locs : List Loc} {Z : State} {a0 : Array Value} {Q : Option Value → Heap → List Loc → Prop} (hw : ∀ d ∈ tables_1, d.before a0 Z = true) (i0 : Int32) (i1 : Int32) (i2 : Int32) (i3 : Int32) (i4 : Int32) (i5 : Int32) (i6 : Int32) (i7 : Int32) (i8 : Int32) (i9 : Int32) (o10 : Addr) (i11 : Int32) (i12 : Int32) (i13 : Int32) (o14 : Addr) (vs : List Int32) (us : List Int32) (n0 : Nat) (N : Fr n0 locs) (Z0 : n0 ≤ h.size) (g_o10 : n0 ≤ o10) (g_o14 : n0 ≤ o14) (A_o10 : own_Ar Z h o10 .int vs) (A_o14 : own_Ar Z h o14 .int us) (ne_o10_o14 : o10 ≠ o14) (hn : i6.toInt = vs.length ∧ vs.length ≤ 3) (hp : i13.toInt = us.length ∧ us.length ≤ 2) (P : own_S Z "com/example/lucid_concepts/lucidconcepts/reasoning/SortedLiteralsContainsAllPinLaw" "law" code 16 (some .boolean) p l e room_1 s m args below meth c T h locs 2 5) (hQ : ∀ h' L', Fr n0 L' → Q (some (.int (F0_310 i6 i13 vs us))) h' L') :
    own_Go p e below (own_K s Q room_1.cells room_1.slots) (T.setTop (mkF m 310 #[.val (.int i0), .val (.int i1), .val (.int i2), .val (.int i3), .val (.int i4), .val (.int i5), .val (.int i6), .val (.int i7), .val (.int i8), .val (.int i9), .val (.ref o10), .val (.int i11), .val (.int i12), .val (.int i13), .val (.ref o14), .unset] [])) := by
  unfold F0_310 at hQ
  refine own_iload P at_310 rfl rfl ?_
  refine own_iconst P at_312 rfl (v := (2 : Int32)) rfl ?_
  by_cases hc40 : i13 < (2 : Int32)
  · rw [if_pos hc40] at hQ
    refine own_icmpY P (pc' := 330) at_313 hc40 (by decide) (by decide) ?_
    exact b0_330 hw i0 i1 i2 i3 i4 i5 i6 i7 i8 i9 o10 i11 i12 i13 o14 vs us n0 N Z0 g_o10 g_o14 A_o10 A_o14 ne_o10_o14 (by assumption) (by assumption) P hQ
  · rw [if_neg hc40] at hQ
    refine own_icmpN P (pc' := 316) at_313 hc40 rfl ?_
    refine own_aload P at_316 rfl rfl rfl ?_
    refine own_iload P at_318 rfl rfl ?_
    refine own_aload P at_320 rfl rfl rfl ?_
    refine own_iconst P at_322 rfl (v := (1 : Int32)) rfl ?_
    refine own_iaload P A_o14 at_323 rfl (by decide) (own_p hp hc40 (by decide) (by decide)) (x := (us.getD 1 0)) rfl ?_
    refine own_callP P (hw _ (List.mem_of_getElem? (i := 12) rfl)) (hw _ (List.mem_of_getElem? (i := 13) rfl)) (hw _ (List.mem_of_getElem? (i := 14) rfl)) (hw _ (List.mem_of_getElem? (i := 15) rfl)) (by decide) (argsL := [(.ref o10), (.int i6), (.int (us.getD 1 0))]) (rest := []) (rm4 l Z a0 hw o10 i6 (us.getD 1 0) vs h A_o10 hn) at_324 rfl own_pd1 rfl rfl rfl (by decide) 0 rfl (by decide) rfl rfl (by decide) (by decide) (fun T49 P48 => ?_)
    show own_Go p e below _ (T49.setTop (mkF m 327 #[.val (.int i0), .val (.int i1), .val (.int i2), .val (.int i3), .val (.int i4), .val (.int i5), .val (.int i6), .val (.int i7), .val (.int i8), .val (.int i9), .val (.ref o10), .val (.int i11), .val (.int i12), .val (.int i13), .val (.ref o14), .unset] [(.int (F4_0 i6 (us.getD 1 0) vs))]))
    by_cases hc54 : (F4_0 i6 (us.getD 1 0) vs) = (0 : Int32)
    · rw [if_pos hc54] at hQ
      refine own_if0Y P48 (pc' := 334) at_327 hc54 (by decide) (by decide) ?_
      exact b0_334 hw i0 i1 i2 i3 i4 i5 i6 i7 i8 i9 o10 i11 i12 i13 o14 vs us n0 N Z0 g_o10 g_o14 A_o10 A_o14 ne_o10_o14 (by assumption) (by assumption) P48 hQ
    · rw [if_neg hc54] at hQ
      refine own_if0N P48 (pc' := 330) at_327 hc54 rfl ?_
      exact b0_330 hw i0 i1 i2 i3 i4 i5 i6 i7 i8 i9 o10 i11 i12 i13 o14 vs us n0 N Z0 g_o10 g_o14 A_o10 A_o14 ne_o10_o14 (by assumption) (by assumption) P48 hQ
def F0_290 (i6 : Int32) (i13 : Int32) (vs : List Int32) (us : List Int32) : Int32 := (if i13 < (1 : Int32) then (F0_310 i6 i13 vs us) else (if (F4_0 i6 (us.getD 0 0) vs) = (0 : Int32) then (F0_334 vs us) else (F0_310 i6 i13 vs us)))
set_option maxRecDepth 65536 in
set_option maxHeartbeats 40000000 in
theorem b0_290 {p : Program} {l : Launch} {e : Env} {s : State} {m : MethodId} {args : Array Value} {below : List Frame} {meth : Method} {c : Code} {T : State} {h : Heap} {locs : List Loc} {Z : State} {a0 : Array Value} {Q : Option Value → Heap → List Loc → Prop} (hw : ∀ d ∈ tables_1, d.before a0 Z = true) (i0 : Int32) (i1 : Int32) (i2 : Int32) (i3 : Int32) (i4 : Int32) (i5 : Int32) (i6 : Int32) (i7 : Int32) (i8 : Int32) (i9 : Int32) (o10 : Addr) (i11 : Int32) (i12 : Int32) (i13 : Int32) (o14 : Addr) (vs : List Int32) (us : List Int32) (n0 : Nat) (N : Fr n0 locs) (Z0 : n0 ≤ h.size) (g_o10 : n0 ≤ o10) (g_o14 : n0 ≤ o14) (A_o10 : own_Ar Z h o10 .int vs) (A_o14 : own_Ar Z h o14 .int us) (ne_o10_o14 : o10 ≠ o14) (hn : i6.toInt = vs.length ∧ vs.length ≤ 3) (hp : i13.toInt = us.length ∧ us.length ≤ 2) (P : own_S Z "com/example/lucid_concepts/lucidconcepts/reasoning/SortedLiteralsContainsAllPinLaw" "law" code 16 (some .boolean) p l e room_1 s m args below meth c T h locs 2 5) (hQ : ∀ h' L', Fr n0 L' → Q (some (.int (F0_290 i6 i13 vs us))) h' L') :
    own_Go p e below (own_K s Q room_1.cells room_1.slots) (T.setTop (mkF m 290 #[.val (.int i0), .val (.int i1), .val (.int i2), .val (.int i3), .val (.int i4), .val (.int i5), .val (.int i6), .val (.int i7), .val (.int i8), .val (.int i9), .val (.ref o10), .val (.int i11), .val (.int i12), .val (.int i13), .val (.ref o14), .unset] [])) := by
  unfold F0_290 at hQ
  refine own_iload P at_290 rfl rfl ?_
  refine own_iconst P at_292 rfl (v := (1 : Int32)) rfl ?_
  by_cases hc39 : i13 < (1 : Int32)
  · rw [if_pos hc39] at hQ
    refine own_icmpY P (pc' := 310) at_293 hc39 (by decide) (by decide) ?_
    exact b0_310 hw i0 i1 i2 i3 i4 i5 i6 i7 i8 i9 o10 i11 i12 i13 o14 vs us n0 N Z0 g_o10 g_o14 A_o10 A_o14 ne_o10_o14 (by assumption) (by assumption) P hQ
  · rw [if_neg hc39] at hQ
    refine own_icmpN P (pc' := 296) at_293 hc39 rfl ?_
    refine own_aload P at_296 rfl rfl rfl ?_
    refine own_iload P at_298 rfl rfl ?_
    refine own_aload P at_300 rfl rfl rfl ?_
    refine own_iconst P at_302 rfl (v := (0 : Int32)) rfl ?_
    refine own_iaload P A_o14 at_303 rfl (by decide) (own_p hp hc39 (by decide) (by decide)) (x := (us.getD 0 0)) rfl ?_
    refine own_callP P (hw _ (List.mem_of_getElem? (i := 12) rfl)) (hw _ (List.mem_of_getElem? (i := 13) rfl)) (hw _ (List.mem_of_getElem? (i := 14) rfl)) (hw _ (List.mem_of_getElem? (i := 15) rfl)) (by decide) (argsL := [(.ref o10), (.int i6), (.int (us.getD 0 0))]) (rest := []) (rm4 l Z a0 hw o10 i6 (us.getD 0 0) vs h A_o10 hn) at_304 rfl own_pd1 rfl rfl rfl (by decide) 0 rfl (by decide) rfl rfl (by decide) (by decide) (fun T56 P55 => ?_)
    show own_Go p e below _ (T56.setTop (mkF m 307 #[.val (.int i0), .val (.int i1), .val (.int i2), .val (.int i3), .val (.int i4), .val (.int i5), .val (.int i6), .val (.int i7), .val (.int i8), .val (.int i9), .val (.ref o10), .val (.int i11), .val (.int i12), .val (.int i13), .val (.ref o14), .unset] [(.int (F4_0 i6 (us.getD 0 0) vs))]))
    by_cases hc61 : (F4_0 i6 (us.getD 0 0) vs) = (0 : Int32)
    · rw [if_pos hc61] at hQ
      refine own_if0Y P55 (pc' := 334) at_307 hc61 (by decide) (by decide) ?_
      exact b0_334 hw i0 i1 i2 i3 i4 i5 i6 i7 i8 i9 o10 i11 i12 i13 o14 vs us n0 N Z0 g_o10 g_o14 A_o10 A_o14 ne_o10_o14 (by assumption) (by assumption) P55 hQ
    · rw [if_neg hc61] at hQ
      refine own_if0N P55 (pc' := 310) at_307 hc61 rfl ?_
      exact b0_310 hw i0 i1 i2 i3 i4 i5 i6 i7 i8 i9 o10 i11 i12 i13 o14 vs us n0 N Z0 g_o10 g_o14 A_o10 A_o14 ne_o10_o14 (by assumption) (by assumption) P55 hQ
def F0_233 (i6 : Int32) (i11 : Int32) (i12 : Int32) (i13 : Int32) (vs : List Int32) : Int32 := (if i13 = (0 : Int32) then (F0_290 i6 i13 vs []) else (if i13 = (1 : Int32) then (F0_290 i6 i13 vs [i11]) else (F0_290 i6 i13 vs [(F1_0 i11 i12), (F2_0 i11 i12)])))
set_option maxRecDepth 65536 in
set_option maxHeartbeats 40000000 in
theorem b0_233 {p : Program} {l : Launch} {e : Env} {s : State} {m : MethodId} {args : Array Value} {below : List Frame} {meth : Method} {c : Code} {T : State} {h : Heap} {locs : List Loc} {Z : State} {a0 : Array Value} {Q : Option Value → Heap → List Loc → Prop} (hw : ∀ d ∈ tables_1, d.before a0 Z = true) (i0 : Int32) (i1 : Int32) (i2 : Int32) (i3 : Int32) (i4 : Int32) (i5 : Int32) (i6 : Int32) (i7 : Int32) (i8 : Int32) (i9 : Int32) (o10 : Addr) (i11 : Int32) (i12 : Int32) (i13 : Int32) (vs : List Int32) (n0 : Nat) (N : Fr n0 locs) (Z0 : n0 ≤ h.size) (g_o10 : n0 ≤ o10) (A_o10 : own_Ar Z h o10 .int vs) (hn : i6.toInt = vs.length ∧ vs.length ≤ 3) (h13 : 0 ≤ i13.toInt ∧ i13.toInt ≤ 2) (P : own_S Z "com/example/lucid_concepts/lucidconcepts/reasoning/SortedLiteralsContainsAllPinLaw" "law" code 16 (some .boolean) p l e room_1 s m args below meth c T h locs 1 3) (hQ : ∀ h' L', Fr n0 L' → Q (some (.int (F0_233 i6 i11 i12 i13 vs))) h' L') :
    own_Go p e below (own_K s Q room_1.cells room_1.slots) (T.setTop (mkF m 233 #[.val (.int i0), .val (.int i1), .val (.int i2), .val (.int i3), .val (.int i4), .val (.int i5), .val (.int i6), .val (.int i7), .val (.int i8), .val (.int i9), .val (.ref o10), .val (.int i11), .val (.int i12), .val (.int i13), .unset, .unset] [])) := by
  unfold F0_233 at hQ
  refine own_iload P at_233 rfl rfl ?_
  by_cases hc27 : i13 = (0 : Int32)
  · rw [if_pos hc27] at hQ
    refine own_if0N P (pc' := 238) at_235 (not_not_intro hc27) rfl ?_
    refine own_iconst P at_238 rfl (v := (0 : Int32)) rfl ?_
    refine own_arrNew P 0 (hw _ (List.mem_of_getElem? (i := 0) rfl)) rfl rfl at_239 rfl (by decide) (by decide) (by decide) (by decide) (by decide) (fun T33 h34 b28 ha29 E30 A31 P32 => ?_)
    have ne35 : o10 ≠ b28 := by rw [ha29]; exact Nat.ne_of_lt A_o10.lt
    have g36 : n0 ≤ b28 := by rw [ha29]; exact Z0
    have f37 := A_o10.ext E30
    have f38 : own_Ar Z h34 b28 .int [] := A31
    refine own_astore P32 at_241 rfl rfl (Ls' := #[.val (.int i0), .val (.int i1), .val (.int i2), .val (.int i3), .val (.int i4), .val (.int i5), .val (.int i6), .val (.int i7), .val (.int i8), .val (.int i9), .val (.ref o10), .val (.int i11), .val (.int i12), .val (.int i13), .val (.ref b28), .unset]) rfl ?_
    refine own_goto P32 (pc' := 290) at_243 (by decide) (by decide) ?_
    exact b0_290 hw i0 i1 i2 i3 i4 i5 i6 i7 i8 i9 o10 i11 i12 i13 b28 vs [] n0 N (Nat.le_trans Z0 E30.1) g_o10 g36 f37 f38 ne35 hn ⟨by rw [hc27]; rfl, Nat.le_of_ble_eq_true rfl⟩ (P32.mono (by decide) (by decide)) hQ
  · rw [if_neg hc27] at hQ
    refine own_if0Y P (pc' := 246) at_235 hc27 (by decide) (by decide) ?_
    refine own_iload P at_246 rfl rfl ?_
    refine own_iconst P at_248 rfl (v := (1 : Int32)) rfl ?_
    by_cases hc62 : i13 = (1 : Int32)
    · rw [if_pos hc62] at hQ
      refine own_icmpN P (pc' := 252) at_249 (not_not_intro hc62) rfl ?_
      refine own_iconst P at_252 rfl (v := (1 : Int32)) rfl ?_
      refine own_arrNew P 1 (hw _ (List.mem_of_getElem? (i := 0) rfl)) rfl rfl at_253 rfl (by decide) (by decide) (by decide) (by decide) (by decide) (fun T68 h69 b63 ha64 E65 A66 P67 => ?_)
      have ne70 : o10 ≠ b63 := by rw [ha64]; exact Nat.ne_of_lt A_o10.lt
      have g71 : n0 ≤ b63 := by rw [ha64]; exact Z0
      have f72 := A_o10.ext E65
      have f73 : own_Ar Z h69 b63 .int [(0 : Int32)] := A66
      refine own_dup P67 at_255 rfl rfl ?_
      refine own_iconst P67 at_256 rfl (v := (0 : Int32)) rfl ?_
      refine own_iload P67 at_257 rfl rfl ?_
      refine own_iastore P67 f73 at_259 rfl (by decide) (Nat.le_of_ble_eq_true rfl) (z := i11) rfl (fun T75 h76 W77 A78 P74 => ?_)
      have N79 := Fr.snoc P74.st N g71
      have f80 := f72.other W77 ne70
      have f81 : own_Ar Z h76 b63 .int [i11] := A78
      refine own_astore P74 at_260 rfl rfl (Ls' := #[.val (.int i0), .val (.int i1), .val (.int i2), .val (.int i3), .val (.int i4), .val (.int i5), .val (.int i6), .val (.int i7), .val (.int i8), .val (.int i9), .val (.ref o10), .val (.int i11), .val (.int i12), .val (.int i13), .val (.ref b63), .unset]) rfl ?_
      refine own_goto P74 (pc' := 290) at_262 (by decide) (by decide) ?_
      exact b0_290 hw i0 i1 i2 i3 i4 i5 i6 i7 i8 i9 o10 i11 i12 i13 b63 vs [i11] n0 N79 (Nat.le_trans (Nat.le_trans Z0 E65.1) (Keep.of_wr W77).1) g_o10 g71 f80 f81 ne70 hn ⟨by rw [hc62]; rfl, Nat.le_of_ble_eq_true rfl⟩ (P74.mono (by decide) (by decide)) hQ
    · rw [if_neg hc62] at hQ
      refine own_icmpY P (pc' := 265) at_249 hc62 (by decide) (by decide) ?_
      refine own_iconst P at_265 rfl (v := (2 : Int32)) rfl ?_
      refine own_arrNew P 2 (hw _ (List.mem_of_getElem? (i := 0) rfl)) rfl rfl at_266 rfl (by decide) (by decide) (by decide) (by decide) (by decide) (fun T87 h88 b82 ha83 E84 A85 P86 => ?_)
      have ne89 : o10 ≠ b82 := by rw [ha83]; exact Nat.ne_of_lt A_o10.lt
      have g90 : n0 ≤ b82 := by rw [ha83]; exact Z0
      have f91 := A_o10.ext E84
      have f92 : own_Ar Z h88 b82 .int [(0 : Int32), (0 : Int32)] := A85
      refine own_dup P86 at_268 rfl rfl ?_
      refine own_iconst P86 at_269 rfl (v := (0 : Int32)) rfl ?_
      refine own_iload P86 at_270 rfl rfl ?_
      refine own_iload P86 at_272 rfl rfl ?_
      refine own_callP P86 (hw _ (List.mem_of_getElem? (i := 1) rfl)) (hw _ (List.mem_of_getElem? (i := 2) rfl)) (hw _ (List.mem_of_getElem? (i := 3) rfl)) (hw _ (List.mem_of_getElem? (i := 4) rfl)) (by decide) (argsL := [(.int i11), (.int i12)]) (rest := [(.int (0 : Int32)), (.ref b82), (.ref b82)]) (rm1 l Z a0 hw i11 i12 h88) at_274 rfl own_pd2 rfl rfl rfl (by decide) 3 rfl (by decide) rfl rfl (by decide) (by decide) (fun T94 P93 => ?_)
      show own_Go p e below _ (T94.setTop (mkF m 277 #[.val (.int i0), .val (.int i1), .val (.int i2), .val (.int i3), .val (.int i4), .val (.int i5), .val (.int i6), .val (.int i7), .val (.int i8), .val (.int i9), .val (.ref o10), .val (.int i11), .val (.int i12), .val (.int i13), .unset, .unset] [(.int (F1_0 i11 i12)), (.int (0 : Int32)), (.ref b82), (.ref b82)]))
      refine own_iastore P93 f92 at_277 rfl (by decide) (Nat.le_of_ble_eq_true rfl) (z := (F1_0 i11 i12)) rfl (fun T96 h97 W98 A99 P95 => ?_)
      have N100 := Fr.snoc P95.st N g90
      have f101 := f91.other W98 ne89
      have f102 : own_Ar Z h97 b82 .int [(F1_0 i11 i12), (0 : Int32)] := A99
      refine own_dup P95 at_278 rfl rfl ?_
      refine own_iconst P95 at_279 rfl (v := (1 : Int32)) rfl ?_
      refine own_iload P95 at_280 rfl rfl ?_
      refine own_iload P95 at_282 rfl rfl ?_
      refine own_callP P95 (hw _ (List.mem_of_getElem? (i := 5) rfl)) (hw _ (List.mem_of_getElem? (i := 6) rfl)) (hw _ (List.mem_of_getElem? (i := 3) rfl)) (hw _ (List.mem_of_getElem? (i := 7) rfl)) (by decide) (argsL := [(.int i11), (.int i12)]) (rest := [(.int (1 : Int32)), (.ref b82), (.ref b82)]) (rm2 l Z a0 hw i11 i12 h97) at_284 rfl own_pd2 rfl rfl rfl (by decide) 3 rfl (by decide) rfl rfl (by decide) (by decide) (fun T104 P103 => ?_)
      show own_Go p e below _ (T104.setTop (mkF m 287 #[.val (.int i0), .val (.int i1), .val (.int i2), .val (.int i3), .val (.int i4), .val (.int i5), .val (.int i6), .val (.int i7), .val (.int i8), .val (.int i9), .val (.ref o10), .val (.int i11), .val (.int i12), .val (.int i13), .unset, .unset] [(.int (F2_0 i11 i12)), (.int (1 : Int32)), (.ref b82), (.ref b82)]))
      refine own_iastore P103 f102 at_287 rfl (by decide) (Nat.le_of_ble_eq_true rfl) (z := (F2_0 i11 i12)) rfl (fun T106 h107 W108 A109 P105 => ?_)
      have N110 := Fr.snoc P105.st N100 g90
      have f111 := f101.other W108 ne89
      have f112 : own_Ar Z h107 b82 .int [(F1_0 i11 i12), (F2_0 i11 i12)] := A109
      refine own_astore P105 at_288 rfl rfl (Ls' := #[.val (.int i0), .val (.int i1), .val (.int i2), .val (.int i3), .val (.int i4), .val (.int i5), .val (.int i6), .val (.int i7), .val (.int i8), .val (.int i9), .val (.ref o10), .val (.int i11), .val (.int i12), .val (.int i13), .val (.ref b82), .unset]) rfl ?_
      exact b0_290 hw i0 i1 i2 i3 i4 i5 i6 i7 i8 i9 o10 i11 i12 i13 b82 vs [(F1_0 i11 i12), (F2_0 i11 i12)] n0 N110 (Nat.le_trans (Nat.le_trans (Nat.le_trans Z0 E84.1) (Keep.of_wr W98).1) (Keep.of_wr W108).1) g_o10 g90 f111 f112 ne89 hn ⟨(own_is2 h13 hc27 hc62).trans rfl, Nat.le_of_ble_eq_true rfl⟩ P105 hQ
def F0_220 (i5 : Int32) (i6 : Int32) (i11 : Int32) (si0 : Int32) (vs : List Int32) : Int32 := (F0_233 i6 i11 si0 ((((i5.toUInt32 >>> ((10 : Int32) &&& 31).toUInt32).toInt32) &&& (3 : Int32)) - (((i5.toUInt32 >>> ((10 : Int32) &&& 31).toUInt32).toInt32) &&& (3 : Int32)) / (3 : Int32) * (3 : Int32)) vs)
set_option maxRecDepth 65536 in
set_option maxHeartbeats 40000000 in
theorem b0_220 {p : Program} {l : Launch} {e : Env} {s : State} {m : MethodId} {args : Array Value} {below : List Frame} {meth : Method} {c : Code} {T : State} {h : Heap} {locs : List Loc} {Z : State} {a0 : Array Value} {Q : Option Value → Heap → List Loc → Prop} (hw : ∀ d ∈ tables_1, d.before a0 Z = true) (i0 : Int32) (i1 : Int32) (i2 : Int32) (i3 : Int32) (i4 : Int32) (i5 : Int32) (i6 : Int32) (i7 : Int32) (i8 : Int32) (i9 : Int32) (o10 : Addr) (i11 : Int32) (si0 : Int32) (vs : List Int32) (n0 : Nat) (N : Fr n0 locs) (Z0 : n0 ≤ h.size) (g_o10 : n0 ≤ o10) (A_o10 : own_Ar Z h o10 .int vs) (hn : i6.toInt = vs.length ∧ vs.length ≤ 3) (P : own_S Z "com/example/lucid_concepts/lucidconcepts/reasoning/SortedLiteralsContainsAllPinLaw" "law" code 16 (some .boolean) p l e room_1 s m args below meth c T h locs 1 3) (hQ : ∀ h' L', Fr n0 L' → Q (some (.int (F0_220 i5 i6 i11 si0 vs))) h' L') :
    own_Go p e below (own_K s Q room_1.cells room_1.slots) (T.setTop (mkF m 220 #[.val (.int i0), .val (.int i1), .val (.int i2), .val (.int i3), .val (.int i4), .val (.int i5), .val (.int i6), .val (.int i7), .val (.int i8), .val (.int i9), .val (.ref o10), .val (.int i11), .unset, .unset, .unset, .unset] [(.int si0)])) := by
  unfold F0_220 at hQ
  refine own_istore P at_220 rfl (Ls' := #[.val (.int i0), .val (.int i1), .val (.int i2), .val (.int i3), .val (.int i4), .val (.int i5), .val (.int i6), .val (.int i7), .val (.int i8), .val (.int i9), .val (.ref o10), .val (.int i11), .val (.int si0), .unset, .unset, .unset]) rfl ?_
  refine own_iload P at_222 rfl rfl ?_
  refine own_bipush P at_224 rfl (v := (10 : Int32)) rfl ?_
  refine own_iushr P at_226 rfl ?_
  refine own_iconst P at_227 rfl (v := (3 : Int32)) rfl ?_
  refine own_iand P at_228 rfl ?_
  refine own_iconst P at_229 rfl (v := (3 : Int32)) rfl ?_
  refine own_irem P at_230 rfl (by decide) ?_
  refine own_istore P at_231 rfl (Ls' := #[.val (.int i0), .val (.int i1), .val (.int i2), .val (.int i3), .val (.int i4), .val (.int i5), .val (.int i6), .val (.int i7), .val (.int i8), .val (.int i9), .val (.ref o10), .val (.int i11), .val (.int si0), .val (.int ((((i5.toUInt32 >>> ((10 : Int32) &&& 31).toUInt32).toInt32) &&& (3 : Int32)) - (((i5.toUInt32 >>> ((10 : Int32) &&& 31).toUInt32).toInt32) &&& (3 : Int32)) / (3 : Int32) * (3 : Int32))), .unset, .unset]) rfl ?_
  exact b0_233 hw i0 i1 i2 i3 i4 i5 i6 i7 i8 i9 o10 i11 si0 ((((i5.toUInt32 >>> ((10 : Int32) &&& 31).toUInt32).toInt32) &&& (3 : Int32)) - (((i5.toUInt32 >>> ((10 : Int32) &&& 31).toUInt32).toInt32) &&& (3 : Int32)) / (3 : Int32) * (3 : Int32)) vs n0 N Z0 g_o10 A_o10  hn (own_r3 _) P hQ
def F0_218 (i4 : Int32) (i5 : Int32) (i6 : Int32) (i11 : Int32) (vs : List Int32) : Int32 := (F0_220 i5 i6 i11 i4 vs)
set_option maxRecDepth 65536 in
set_option maxHeartbeats 40000000 in
theorem b0_218 {p : Program} {l : Launch} {e : Env} {s : State} {m : MethodId} {args : Array Value} {below : List Frame} {meth : Method} {c : Code} {T : State} {h : Heap} {locs : List Loc} {Z : State} {a0 : Array Value} {Q : Option Value → Heap → List Loc → Prop} (hw : ∀ d ∈ tables_1, d.before a0 Z = true) (i0 : Int32) (i1 : Int32) (i2 : Int32) (i3 : Int32) (i4 : Int32) (i5 : Int32) (i6 : Int32) (i7 : Int32) (i8 : Int32) (i9 : Int32) (o10 : Addr) (i11 : Int32) (vs : List Int32) (n0 : Nat) (N : Fr n0 locs) (Z0 : n0 ≤ h.size) (g_o10 : n0 ≤ o10) (A_o10 : own_Ar Z h o10 .int vs) (hn : i6.toInt = vs.length ∧ vs.length ≤ 3) (P : own_S Z "com/example/lucid_concepts/lucidconcepts/reasoning/SortedLiteralsContainsAllPinLaw" "law" code 16 (some .boolean) p l e room_1 s m args below meth c T h locs 1 3) (hQ : ∀ h' L', Fr n0 L' → Q (some (.int (F0_218 i4 i5 i6 i11 vs))) h' L') :
    own_Go p e below (own_K s Q room_1.cells room_1.slots) (T.setTop (mkF m 218 #[.val (.int i0), .val (.int i1), .val (.int i2), .val (.int i3), .val (.int i4), .val (.int i5), .val (.int i6), .val (.int i7), .val (.int i8), .val (.int i9), .val (.ref o10), .val (.int i11), .unset, .unset, .unset, .unset] [])) := by
  unfold F0_218 at hQ
  refine own_iload P at_218 rfl rfl ?_
  exact b0_220 hw i0 i1 i2 i3 i4 i5 i6 i7 i8 i9 o10 i11 i4 vs n0 N Z0 g_o10 A_o10  (by assumption) P hQ
def F0_185 (i4 : Int32) (i5 : Int32) (i6 : Int32) (si0 : Int32) (vs : List Int32) : Int32 := (if (((i5.toUInt32 >>> ((7 : Int32) &&& 31).toUInt32).toInt32) &&& (1 : Int32)) = (0 : Int32) then (F0_218 i4 i5 i6 si0 vs) else (if (0 : Int32) < i6 then (F0_220 i5 i6 si0 (vs.getD ((((i5.toUInt32 >>> ((8 : Int32) &&& 31).toUInt32).toInt32) &&& (3 : Int32)) - (((i5.toUInt32 >>> ((8 : Int32) &&& 31).toUInt32).toInt32) &&& (3 : Int32)) / i6 * i6).toInt.toNat 0) vs) else (F0_218 i4 i5 i6 si0 vs)))
set_option maxRecDepth 65536 in
set_option maxHeartbeats 40000000 in
theorem b0_185 {p : Program} {l : Launch} {e : Env} {s : State} {m : MethodId} {args : Array Value} {below : List Frame} {meth : Method} {c : Code} {T : State} {h : Heap} {locs : List Loc} {Z : State} {a0 : Array Value} {Q : Option Value → Heap → List Loc → Prop} (hw : ∀ d ∈ tables_1, d.before a0 Z = true) (i0 : Int32) (i1 : Int32) (i2 : Int32) (i3 : Int32) (i4 : Int32) (i5 : Int32) (i6 : Int32) (i7 : Int32) (i8 : Int32) (i9 : Int32) (o10 : Addr) (si0 : Int32) (vs : List Int32) (n0 : Nat) (N : Fr n0 locs) (Z0 : n0 ≤ h.size) (g_o10 : n0 ≤ o10) (A_o10 : own_Ar Z h o10 .int vs) (hn : i6.toInt = vs.length ∧ vs.length ≤ 3) (P : own_S Z "com/example/lucid_concepts/lucidconcepts/reasoning/SortedLiteralsContainsAllPinLaw" "law" code 16 (some .boolean) p l e room_1 s m args below meth c T h locs 1 3) (hQ : ∀ h' L', Fr n0 L' → Q (some (.int (F0_185 i4 i5 i6 si0 vs))) h' L') :
    own_Go p e below (own_K s Q room_1.cells room_1.slots) (T.setTop (mkF m 185 #[.val (.int i0), .val (.int i1), .val (.int i2), .val (.int i3), .val (.int i4), .val (.int i5), .val (.int i6), .val (.int i7), .val (.int i8), .val (.int i9), .val (.ref o10), .unset, .unset, .unset, .unset, .unset] [(.int si0)])) := by
  unfold F0_185 at hQ
  refine own_istore P at_185 rfl (Ls' := #[.val (.int i0), .val (.int i1), .val (.int i2), .val (.int i3), .val (.int i4), .val (.int i5), .val (.int i6), .val (.int i7), .val (.int i8), .val (.int i9), .val (.ref o10), .val (.int si0), .unset, .unset, .unset, .unset]) rfl ?_
  refine own_iload P at_187 rfl rfl ?_
  refine own_bipush P at_189 rfl (v := (7 : Int32)) rfl ?_
  refine own_iushr P at_191 rfl ?_
  refine own_iconst P at_192 rfl (v := (1 : Int32)) rfl ?_
  refine own_iand P at_193 rfl ?_
  by_cases hc26 : (((i5.toUInt32 >>> ((7 : Int32) &&& 31).toUInt32).toInt32) &&& (1 : Int32)) = (0 : Int32)
  · rw [if_pos hc26] at hQ
    refine own_if0Y P (pc' := 218) at_194 hc26 (by decide) (by decide) ?_
    exact b0_218 hw i0 i1 i2 i3 i4 i5 i6 i7 i8 i9 o10 si0 vs n0 N Z0 g_o10 A_o10  (by assumption) P hQ
  · rw [if_neg hc26] at hQ
    refine own_if0N P (pc' := 197) at_194 hc26 rfl ?_
    refine own_iload P at_197 rfl rfl ?_
    by_cases hc113 : (0 : Int32) < i6
    · rw [if_pos hc113] at hQ
      refine own_if0N P (pc' := 202) at_199 (not_not_intro hc113) rfl ?_
      refine own_aload P at_202 rfl rfl rfl ?_
      refine own_iload P at_204 rfl rfl ?_
      refine own_bipush P at_206 rfl (v := (8 : Int32)) rfl ?_
      refine own_iushr P at_208 rfl ?_
      refine own_iconst P at_209 rfl (v := (3 : Int32)) rfl ?_
      refine own_iand P at_210 rfl ?_
      refine own_iload P at_211 rfl rfl ?_
      refine own_irem P at_213 rfl (own_ne0 hc113) ?_
      refine own_iaload P A_o10 at_214 rfl (own_rem _ _ _ hc113 hn).1 (own_rem _ _ _ hc113 hn).2 (x := (vs.getD ((((i5.toUInt32 >>> ((8 : Int32) &&& 31).toUInt32).toInt32) &&& (3 : Int32)) - (((i5.toUInt32 >>> ((8 : Int32) &&& 31).toUInt32).toInt32) &&& (3 : Int32)) / i6 * i6).toInt.toNat 0)) rfl ?_
      refine own_goto P (pc' := 220) at_215 (by decide) (by decide) ?_
      exact b0_220 hw i0 i1 i2 i3 i4 i5 i6 i7 i8 i9 o10 si0 (vs.getD ((((i5.toUInt32 >>> ((8 : Int32) &&& 31).toUInt32).toInt32) &&& (3 : Int32)) - (((i5.toUInt32 >>> ((8 : Int32) &&& 31).toUInt32).toInt32) &&& (3 : Int32)) / i6 * i6).toInt.toNat 0) vs n0 N Z0 g_o10 A_o10  (by assumption) P hQ
    · rw [if_neg hc113] at hQ
      refine own_if0Y P (pc' := 218) at_199 hc113 (by decide) (by decide) ?_
      exact b0_218 hw i0 i1 i2 i3 i4 i5 i6 i7 i8 i9 o10 si0 vs n0 N Z0 g_o10 A_o10  (by assumption) P hQ
def F0_184 (i3 : Int32) (i4 : Int32) (i5 : Int32) (i6 : Int32) (vs : List Int32) : Int32 := (F0_185 i4 i5 i6 i3 vs)
set_option maxRecDepth 65536 in
set_option maxHeartbeats 40000000 in
theorem b0_184 {p : Program} {l : Launch} {e : Env} {s : State} {m : MethodId} {args : Array Value} {below : List Frame} {meth : Method} {c : Code} {T : State} {h : Heap} {locs : List Loc} {Z : State} {a0 : Array Value} {Q : Option Value → Heap → List Loc → Prop} (hw : ∀ d ∈ tables_1, d.before a0 Z = true) (i0 : Int32) (i1 : Int32) (i2 : Int32) (i3 : Int32) (i4 : Int32) (i5 : Int32) (i6 : Int32) (i7 : Int32) (i8 : Int32) (i9 : Int32) (o10 : Addr) (vs : List Int32) (n0 : Nat) (N : Fr n0 locs) (Z0 : n0 ≤ h.size) (g_o10 : n0 ≤ o10) (A_o10 : own_Ar Z h o10 .int vs) (hn : i6.toInt = vs.length ∧ vs.length ≤ 3) (P : own_S Z "com/example/lucid_concepts/lucidconcepts/reasoning/SortedLiteralsContainsAllPinLaw" "law" code 16 (some .boolean) p l e room_1 s m args below meth c T h locs 1 3) (hQ : ∀ h' L', Fr n0 L' → Q (some (.int (F0_184 i3 i4 i5 i6 vs))) h' L') :
    own_Go p e below (own_K s Q room_1.cells room_1.slots) (T.setTop (mkF m 184 #[.val (.int i0), .val (.int i1), .val (.int i2), .val (.int i3), .val (.int i4), .val (.int i5), .val (.int i6), .val (.int i7), .val (.int i8), .val (.int i9), .val (.ref o10), .unset, .unset, .unset, .unset, .unset] [])) := by
  unfold F0_184 at hQ
  refine own_iloadN P at_184 rfl rfl ?_
  exact b0_185 hw i0 i1 i2 i3 i4 i5 i6 i7 i8 i9 o10 i3 vs n0 N Z0 g_o10 A_o10  (by assumption) P hQ
def F0_155 (i3 : Int32) (i4 : Int32) (i5 : Int32) (i6 : Int32) (vs : List Int32) : Int32 := (if (((i5.toUInt32 >>> ((4 : Int32) &&& 31).toUInt32).toInt32) &&& (1 : Int32)) = (0 : Int32) then (F0_184 i3 i4 i5 i6 vs) else (if (0 : Int32) < i6 then (F0_185 i4 i5 i6 (vs.getD ((((i5.toUInt32 >>> ((5 : Int32) &&& 31).toUInt32).toInt32) &&& (3 : Int32)) - (((i5.toUInt32 >>> ((5 : Int32) &&& 31).toUInt32).toInt32) &&& (3 : Int32)) / i6 * i6).toInt.toNat 0) vs) else (F0_184 i3 i4 i5 i6 vs)))
set_option maxRecDepth 65536 in
set_option maxHeartbeats 40000000 in
theorem b0_155 {p : Program} {l : Launch} {e : Env} {s : State} {m : MethodId} {args : Array Value} {below : List Frame} {meth : Method} {c : Code} {T : State} {h : Heap} {locs : List Loc} {Z : State} {a0 : Array Value} {Q : Option Value → Heap → List Loc → Prop} (hw : ∀ d ∈ tables_1, d.before a0 Z = true) (i0 : Int32) (i1 : Int32) (i2 : Int32) (i3 : Int32) (i4 : Int32) (i5 : Int32) (i6 : Int32) (i7 : Int32) (i8 : Int32) (i9 : Int32) (o10 : Addr) (vs : List Int32) (n0 : Nat) (N : Fr n0 locs) (Z0 : n0 ≤ h.size) (g_o10 : n0 ≤ o10) (A_o10 : own_Ar Z h o10 .int vs) (hn : i6.toInt = vs.length ∧ vs.length ≤ 3) (P : own_S Z "com/example/lucid_concepts/lucidconcepts/reasoning/SortedLiteralsContainsAllPinLaw" "law" code 16 (some .boolean) p l e room_1 s m args below meth c T h locs 1 3) (hQ : ∀ h' L', Fr n0 L' → Q (some (.int (F0_155 i3 i4 i5 i6 vs))) h' L') :
    own_Go p e below (own_K s Q room_1.cells room_1.slots) (T.setTop (mkF m 155 #[.val (.int i0), .val (.int i1), .val (.int i2), .val (.int i3), .val (.int i4), .val (.int i5), .val (.int i6), .val (.int i7), .val (.int i8), .val (.int i9), .val (.ref o10), .unset, .unset, .unset, .unset, .unset] [])) := by
  unfold F0_155 at hQ
  refine own_iload P at_155 rfl rfl ?_
  refine own_iconst P at_157 rfl (v := (4 : Int32)) rfl ?_
  refine own_iushr P at_158 rfl ?_
  refine own_iconst P at_159 rfl (v := (1 : Int32)) rfl ?_
  refine own_iand P at_160 rfl ?_
  by_cases hc25 : (((i5.toUInt32 >>> ((4 : Int32) &&& 31).toUInt32).toInt32) &&& (1 : Int32)) = (0 : Int32)
  · rw [if_pos hc25] at hQ
    refine own_if0Y P (pc' := 184) at_161 hc25 (by decide) (by decide) ?_
    exact b0_184 hw i0 i1 i2 i3 i4 i5 i6 i7 i8 i9 o10 vs n0 N Z0 g_o10 A_o10  (by assumption) P hQ
  · rw [if_neg hc25] at hQ
    refine own_if0N P (pc' := 164) at_161 hc25 rfl ?_
    refine own_iload P at_164 rfl rfl ?_
    by_cases hc114 : (0 : Int32) < i6
    · rw [if_pos hc114] at hQ
      refine own_if0N P (pc' := 169) at_166 (not_not_intro hc114) rfl ?_
      refine own_aload P at_169 rfl rfl rfl ?_
      refine own_iload P at_171 rfl rfl ?_
      refine own_iconst P at_173 rfl (v := (5 : Int32)) rfl ?_
      refine own_iushr P at_174 rfl ?_
      refine own_iconst P at_175 rfl (v := (3 : Int32)) rfl ?_
      refine own_iand P at_176 rfl ?_
      refine own_iload P at_177 rfl rfl ?_
      refine own_irem P at_179 rfl (own_ne0 hc114) ?_
      refine own_iaload P A_o10 at_180 rfl (own_rem _ _ _ hc114 hn).1 (own_rem _ _ _ hc114 hn).2 (x := (vs.getD ((((i5.toUInt32 >>> ((5 : Int32) &&& 31).toUInt32).toInt32) &&& (3 : Int32)) - (((i5.toUInt32 >>> ((5 : Int32) &&& 31).toUInt32).toInt32) &&& (3 : Int32)) / i6 * i6).toInt.toNat 0)) rfl ?_
      refine own_goto P (pc' := 185) at_181 (by decide) (by decide) ?_
      exact b0_185 hw i0 i1 i2 i3 i4 i5 i6 i7 i8 i9 o10 (vs.getD ((((i5.toUInt32 >>> ((5 : Int32) &&& 31).toUInt32).toInt32) &&& (3 : Int32)) - (((i5.toUInt32 >>> ((5 : Int32) &&& 31).toUInt32).toInt32) &&& (3 : Int32)) / i6 * i6).toInt.toNat 0) vs n0 N Z0 g_o10 A_o10  (by assumption) P hQ
    · rw [if_neg hc114] at hQ
      refine own_if0Y P (pc' := 184) at_166 hc114 (by decide) (by decide) ?_
      exact b0_184 hw i0 i1 i2 i3 i4 i5 i6 i7 i8 i9 o10 vs n0 N Z0 g_o10 A_o10  (by assumption) P hQ
def F0_24 (i2 : Int32) (i3 : Int32) (i4 : Int32) (i5 : Int32) (i6 : Int32) (i7 : Int32) (si0 : Int32) : Int32 := (if i6 = (0 : Int32) then (F0_155 i3 i4 i5 i6 []) else (if i6 = (1 : Int32) then (F0_155 i3 i4 i5 i6 [i7]) else (if i6 = (2 : Int32) then (F0_155 i3 i4 i5 i6 [(F1_0 i7 si0), (F2_0 i7 si0)]) else (F0_155 i3 i4 i5 i6 [(F1_0 (F1_0 i7 si0) i2), (F2_0 (F1_0 i7 si0) (F1_0 (F2_0 i7 si0) i2)), (F2_0 (F2_0 i7 si0) i2)]))))
set_option maxRecDepth 65536 in
set_option maxHeartbeats 40000000 in
theorem b0_24 {p : Program} {l : Launch} {e : Env} {s : State} {m : MethodId} {args : Array Value} {below : List Frame} {meth : Method} {c : Code} {T : State} {h : Heap} {locs : List Loc} {Z : State} {a0 : Array Value} {Q : Option Value → Heap → List Loc → Prop} (hw : ∀ d ∈ tables_1, d.before a0 Z = true) (i0 : Int32) (i1 : Int32) (i2 : Int32) (i3 : Int32) (i4 : Int32) (i5 : Int32) (i6 : Int32) (i7 : Int32) (si0 : Int32)  (n0 : Nat) (N : Fr n0 locs) (Z0 : n0 ≤ h.size) (h03 : 0 ≤ i6.toInt ∧ i6.toInt ≤ 3) (P : own_S Z "com/example/lucid_concepts/lucidconcepts/reasoning/SortedLiteralsContainsAllPinLaw" "law" code 16 (some .boolean) p l e room_1 s m args below meth c T h locs 0 0) (hQ : ∀ h' L', Fr n0 L' → Q (some (.int (F0_24 i2 i3 i4 i5 i6 i7 si0))) h' L') :
    own_Go p e below (own_K s Q room_1.cells room_1.slots) (T.setTop (mkF m 24 #[.val (.int i0), .val (.int i1), .val (.int i2), .val (.int i3), .val (.int i4), .val (.int i5), .val (.int i6), .val (.int i7), .unset, .unset, .unset, .unset, .unset, .unset, .unset, .unset] [(.int si0)])) := by
  unfold F0_24 at hQ
  refine own_istore P at_24 rfl (Ls' := #[.val (.int i0), .val (.int i1), .val (.int i2), .val (.int i3), .val (.int i4), .val (.int i5), .val (.int i6), .val (.int i7), .val (.int si0), .unset, .unset, .unset, .unset, .unset, .unset, .unset]) rfl ?_
  refine own_iloadN P at_26 rfl rfl ?_
  refine own_istore P at_27 rfl (Ls' := #[.val (.int i0), .val (.int i1), .val (.int i2), .val (.int i3), .val (.int i4), .val (.int i5), .val (.int i6), .val (.int i7), .val (.int si0), .val (.int i2), .unset, .unset, .unset, .unset, .unset, .unset]) rfl ?_
  refine own_iload P at_29 rfl rfl ?_
  by_cases hc15 : i6 = (0 : Int32)
  · rw [if_pos hc15] at hQ
    refine own_if0N P (pc' := 34) at_31 (not_not_intro hc15) rfl ?_
    refine own_iconst P at_34 rfl (v := (0 : Int32)) rfl ?_
    refine own_arrNew P 0 (hw _ (List.mem_of_getElem? (i := 0) rfl)) rfl rfl at_35 rfl (by decide) (by decide) (by decide) (by decide) (by decide) (fun T21 h22 b16 ha17 E18 A19 P20 => ?_)
    have g23 : n0 ≤ b16 := by rw [ha17]; exact Z0
    have f24 : own_Ar Z h22 b16 .int [] := A19
    refine own_astore P20 at_37 rfl rfl (Ls' := #[.val (.int i0), .val (.int i1), .val (.int i2), .val (.int i3), .val (.int i4), .val (.int i5), .val (.int i6), .val (.int i7), .val (.int si0), .val (.int i2), .val (.ref b16), .unset, .unset, .unset, .unset, .unset]) rfl ?_
    refine own_goto P20 (pc' := 155) at_39 (by decide) (by decide) ?_
    exact b0_155 hw i0 i1 i2 i3 i4 i5 i6 i7 si0 i2 b16 [] n0 N (Nat.le_trans Z0 E18.1) g23 f24  ⟨by rw [hc15]; rfl, Nat.le_of_ble_eq_true rfl⟩ (P20.mono (by decide) (by decide)) hQ
  · rw [if_neg hc15] at hQ
    refine own_if0Y P (pc' := 42) at_31 hc15 (by decide) (by decide) ?_
    refine own_iload P at_42 rfl rfl ?_
    refine own_iconst P at_44 rfl (v := (1 : Int32)) rfl ?_
    by_cases hc115 : i6 = (1 : Int32)
    · rw [if_pos hc115] at hQ
      refine own_icmpN P (pc' := 48) at_45 (not_not_intro hc115) rfl ?_
      refine own_iconst P at_48 rfl (v := (1 : Int32)) rfl ?_
      refine own_arrNew P 1 (hw _ (List.mem_of_getElem? (i := 0) rfl)) rfl rfl at_49 rfl (by decide) (by decide) (by decide) (by decide) (by decide) (fun T121 h122 b116 ha117 E118 A119 P120 => ?_)
      have g123 : n0 ≤ b116 := by rw [ha117]; exact Z0
      have f124 : own_Ar Z h122 b116 .int [(0 : Int32)] := A119
      refine own_dup P120 at_51 rfl rfl ?_
      refine own_iconst P120 at_52 rfl (v := (0 : Int32)) rfl ?_
      refine own_iload P120 at_53 rfl rfl ?_
      refine own_iastore P120 f124 at_55 rfl (by decide) (Nat.le_of_ble_eq_true rfl) (z := i7) rfl (fun T126 h127 W128 A129 P125 => ?_)
      have N130 := Fr.snoc P125.st N g123
      have f131 : own_Ar Z h127 b116 .int [i7] := A129
      refine own_astore P125 at_56 rfl rfl (Ls' := #[.val (.int i0), .val (.int i1), .val (.int i2), .val (.int i3), .val (.int i4), .val (.int i5), .val (.int i6), .val (.int i7), .val (.int si0), .val (.int i2), .val (.ref b116), .unset, .unset, .unset, .unset, .unset]) rfl ?_
      refine own_goto P125 (pc' := 155) at_58 (by decide) (by decide) ?_
      exact b0_155 hw i0 i1 i2 i3 i4 i5 i6 i7 si0 i2 b116 [i7] n0 N130 (Nat.le_trans (Nat.le_trans Z0 E118.1) (Keep.of_wr W128).1) g123 f131  ⟨by rw [hc115]; rfl, Nat.le_of_ble_eq_true rfl⟩ (P125.mono (by decide) (by decide)) hQ
    · rw [if_neg hc115] at hQ
      refine own_icmpY P (pc' := 61) at_45 hc115 (by decide) (by decide) ?_
      refine own_iload P at_61 rfl rfl ?_
      refine own_iconst P at_63 rfl (v := (2 : Int32)) rfl ?_
      by_cases hc132 : i6 = (2 : Int32)
      · rw [if_pos hc132] at hQ
        refine own_icmpN P (pc' := 67) at_64 (not_not_intro hc132) rfl ?_
        refine own_iconst P at_67 rfl (v := (2 : Int32)) rfl ?_
        refine own_arrNew P 2 (hw _ (List.mem_of_getElem? (i := 0) rfl)) rfl rfl at_68 rfl (by decide) (by decide) (by decide) (by decide) (by decide) (fun T138 h139 b133 ha134 E135 A136 P137 => ?_)
        have g140 : n0 ≤ b133 := by rw [ha134]; exact Z0
        have f141 : own_Ar Z h139 b133 .int [(0 : Int32), (0 : Int32)] := A136
        refine own_dup P137 at_70 rfl rfl ?_
        refine own_iconst P137 at_71 rfl (v := (0 : Int32)) rfl ?_
        refine own_iload P137 at_72 rfl rfl ?_
        refine own_iload P137 at_74 rfl rfl ?_
        refine own_callP P137 (hw _ (List.mem_of_getElem? (i := 1) rfl)) (hw _ (List.mem_of_getElem? (i := 2) rfl)) (hw _ (List.mem_of_getElem? (i := 3) rfl)) (hw _ (List.mem_of_getElem? (i := 4) rfl)) (by decide) (argsL := [(.int i7), (.int si0)]) (rest := [(.int (0 : Int32)), (.ref b133), (.ref b133)]) (rm1 l Z a0 hw i7 si0 h139) at_76 rfl own_pd2 rfl rfl rfl (by decide) 3 rfl (by decide) rfl rfl (by decide) (by decide) (fun T143 P142 => ?_)
        show own_Go p e below _ (T143.setTop (mkF m 79 #[.val (.int i0), .val (.int i1), .val (.int i2), .val (.int i3), .val (.int i4), .val (.int i5), .val (.int i6), .val (.int i7), .val (.int si0), .val (.int i2), .unset, .unset, .unset, .unset, .unset, .unset] [(.int (F1_0 i7 si0)), (.int (0 : Int32)), (.ref b133), (.ref b133)]))
        refine own_iastore P142 f141 at_79 rfl (by decide) (Nat.le_of_ble_eq_true rfl) (z := (F1_0 i7 si0)) rfl (fun T145 h146 W147 A148 P144 => ?_)
        have N149 := Fr.snoc P144.st N g140
        have f150 : own_Ar Z h146 b133 .int [(F1_0 i7 si0), (0 : Int32)] := A148
        refine own_dup P144 at_80 rfl rfl ?_
        refine own_iconst P144 at_81 rfl (v := (1 : Int32)) rfl ?_
        refine own_iload P144 at_82 rfl rfl ?_
        refine own_iload P144 at_84 rfl rfl ?_
        refine own_callP P144 (hw _ (List.mem_of_getElem? (i := 5) rfl)) (hw _ (List.mem_of_getElem? (i := 6) rfl)) (hw _ (List.mem_of_getElem? (i := 3) rfl)) (hw _ (List.mem_of_getElem? (i := 7) rfl)) (by decide) (argsL := [(.int i7), (.int si0)]) (rest := [(.int (1 : Int32)), (.ref b133), (.ref b133)]) (rm2 l Z a0 hw i7 si0 h146) at_86 rfl own_pd2 rfl rfl rfl (by decide) 3 rfl (by decide) rfl rfl (by decide) (by decide) (fun T152 P151 => ?_)
        show own_Go p e below _ (T152.setTop (mkF m 89 #[.val (.int i0), .val (.int i1), .val (.int i2), .val (.int i3), .val (.int i4), .val (.int i5), .val (.int i6), .val (.int i7), .val (.int si0), .val (.int i2), .unset, .unset, .unset, .unset, .unset, .unset] [(.int (F2_0 i7 si0)), (.int (1 : Int32)), (.ref b133), (.ref b133)]))
        refine own_iastore P151 f150 at_89 rfl (by decide) (Nat.le_of_ble_eq_true rfl) (z := (F2_0 i7 si0)) rfl (fun T154 h155 W156 A157 P153 => ?_)
        have N158 := Fr.snoc P153.st N149 g140
        have f159 : own_Ar Z h155 b133 .int [(F1_0 i7 si0), (F2_0 i7 si0)] := A157
        refine own_astore P153 at_90 rfl rfl (Ls' := #[.val (.int i0), .val (.int i1), .val (.int i2), .val (.int i3), .val (.int i4), .val (.int i5), .val (.int i6), .val (.int i7), .val (.int si0), .val (.int i2), .val (.ref b133), .unset, .unset, .unset, .unset, .unset]) rfl ?_
        refine own_goto P153 (pc' := 155) at_92 (by decide) (by decide) ?_
        exact b0_155 hw i0 i1 i2 i3 i4 i5 i6 i7 si0 i2 b133 [(F1_0 i7 si0), (F2_0 i7 si0)] n0 N158 (Nat.le_trans (Nat.le_trans (Nat.le_trans Z0 E135.1) (Keep.of_wr W147).1) (Keep.of_wr W156).1) g140 f159  ⟨by rw [hc132]; rfl, Nat.le_of_ble_eq_true rfl⟩ (P153.mono (by decide) (by decide)) hQ
      · rw [if_neg hc132] at hQ
        refine own_icmpY P (pc' := 95) at_64 hc132 (by decide) (by decide) ?_
        refine own_iconst P at_95 rfl (v := (3 : Int32)) rfl ?_
        refine own_arrNew P 3 (hw _ (List.mem_of_getElem? (i := 0) rfl)) rfl rfl at_96 rfl (by decide) (by decide) (by decide) (by decide) (by decide) (fun T165 h166 b160 ha161 E162 A163 P164 => ?_)
        have g167 : n0 ≤ b160 := by rw [ha161]; exact Z0
        have f168 : own_Ar Z h166 b160 .int [(0 : Int32), (0 : Int32), (0 : Int32)] := A163
        refine own_dup P164 at_98 rfl rfl ?_
        refine own_iconst P164 at_99 rfl (v := (0 : Int32)) rfl ?_
        refine own_iload P164 at_100 rfl rfl ?_
        refine own_iload P164 at_102 rfl rfl ?_
        refine own_callP P164 (hw _ (List.mem_of_getElem? (i := 1) rfl)) (hw _ (List.mem_of_getElem? (i := 2) rfl)) (hw _ (List.mem_of_getElem? (i := 3) rfl)) (hw _ (List.mem_of_getElem? (i := 4) rfl)) (by decide) (argsL := [(.int i7), (.int si0)]) (rest := [(.int (0 : Int32)), (.ref b160), (.ref b160)]) (rm1 l Z a0 hw i7 si0 h166) at_104 rfl own_pd2 rfl rfl rfl (by decide) 3 rfl (by decide) rfl rfl (by decide) (by decide) (fun T170 P169 => ?_)
        show own_Go p e below _ (T170.setTop (mkF m 107 #[.val (.int i0), .val (.int i1), .val (.int i2), .val (.int i3), .val (.int i4), .val (.int i5), .val (.int i6), .val (.int i7), .val (.int si0), .val (.int i2), .unset, .unset, .unset, .unset, .unset, .unset] [(.int (F1_0 i7 si0)), (.int (0 : Int32)), (.ref b160), (.ref b160)]))
        refine own_iload P169 at_107 rfl rfl ?_
        refine own_callP P169 (hw _ (List.mem_of_getElem? (i := 1) rfl)) (hw _ (List.mem_of_getElem? (i := 2) rfl)) (hw _ (List.mem_of_getElem? (i := 3) rfl)) (hw _ (List.mem_of_getElem? (i := 4) rfl)) (by decide) (argsL := [(.int (F1_0 i7 si0)), (.int i2)]) (rest := [(.int (0 : Int32)), (.ref b160), (.ref b160)]) (rm1 l Z a0 hw (F1_0 i7 si0) i2 h166) at_109 rfl own_pd2 rfl rfl rfl (by decide) 3 rfl (by decide) rfl rfl (by decide) (by decide) (fun T172 P171 => ?_)
        show own_Go p e below _ (T172.setTop (mkF m 112 #[.val (.int i0), .val (.int i1), .val (.int i2), .val (.int i3), .val (.int i4), .val (.int i5), .val (.int i6), .val (.int i7), .val (.int si0), .val (.int i2), .unset, .unset, .unset, .unset, .unset, .unset] [(.int (F1_0 (F1_0 i7 si0) i2)), (.int (0 : Int32)), (.ref b160), (.ref b160)]))
        refine own_iastore P171 f168 at_112 rfl (by decide) (Nat.le_of_ble_eq_true rfl) (z := (F1_0 (F1_0 i7 si0) i2)) rfl (fun T174 h175 W176 A177 P173 => ?_)
        have N178 := Fr.snoc P173.st N g167
        have f179 : own_Ar Z h175 b160 .int [(F1_0 (F1_0 i7 si0) i2), (0 : Int32), (0 : Int32)] := A177
        refine own_dup P173 at_113 rfl rfl ?_
        refine own_iconst P173 at_114 rfl (v := (1 : Int32)) rfl ?_
        refine own_iload P173 at_115 rfl rfl ?_
        refine own_iload P173 at_117 rfl rfl ?_
        refine own_callP P173 (hw _ (List.mem_of_getElem? (i := 1) rfl)) (hw _ (List.mem_of_getElem? (i := 2) rfl)) (hw _ (List.mem_of_getElem? (i := 3) rfl)) (hw _ (List.mem_of_getElem? (i := 4) rfl)) (by decide) (argsL := [(.int i7), (.int si0)]) (rest := [(.int (1 : Int32)), (.ref b160), (.ref b160)]) (rm1 l Z a0 hw i7 si0 h175) at_119 rfl own_pd2 rfl rfl rfl (by decide) 3 rfl (by decide) rfl rfl (by decide) (by decide) (fun T181 P180 => ?_)
        show own_Go p e below _ (T181.setTop (mkF m 122 #[.val (.int i0), .val (.int i1), .val (.int i2), .val (.int i3), .val (.int i4), .val (.int i5), .val (.int i6), .val (.int i7), .val (.int si0), .val (.int i2), .unset, .unset, .unset, .unset, .unset, .unset] [(.int (F1_0 i7 si0)), (.int (1 : Int32)), (.ref b160), (.ref b160)]))
        refine own_iload P180 at_122 rfl rfl ?_
        refine own_iload P180 at_124 rfl rfl ?_
        refine own_callP P180 (hw _ (List.mem_of_getElem? (i := 5) rfl)) (hw _ (List.mem_of_getElem? (i := 6) rfl)) (hw _ (List.mem_of_getElem? (i := 3) rfl)) (hw _ (List.mem_of_getElem? (i := 7) rfl)) (by decide) (argsL := [(.int i7), (.int si0)]) (rest := [(.int (F1_0 i7 si0)), (.int (1 : Int32)), (.ref b160), (.ref b160)]) (rm2 l Z a0 hw i7 si0 h175) at_126 rfl own_pd2 rfl rfl rfl (by decide) 4 rfl (by decide) rfl rfl (by decide) (by decide) (fun T183 P182 => ?_)
        show own_Go p e below _ (T183.setTop (mkF m 129 #[.val (.int i0), .val (.int i1), .val (.int i2), .val (.int i3), .val (.int i4), .val (.int i5), .val (.int i6), .val (.int i7), .val (.int si0), .val (.int i2), .unset, .unset, .unset, .unset, .unset, .unset] [(.int (F2_0 i7 si0)), (.int (F1_0 i7 si0)), (.int (1 : Int32)), (.ref b160), (.ref b160)]))
        refine own_iload P182 at_129 rfl rfl ?_
        refine own_callP P182 (hw _ (List.mem_of_getElem? (i := 1) rfl)) (hw _ (List.mem_of_getElem? (i := 2) rfl)) (hw _ (List.mem_of_getElem? (i := 3) rfl)) (hw _ (List.mem_of_getElem? (i := 4) rfl)) (by decide) (argsL := [(.int (F2_0 i7 si0)), (.int i2)]) (rest := [(.int (F1_0 i7 si0)), (.int (1 : Int32)), (.ref b160), (.ref b160)]) (rm1 l Z a0 hw (F2_0 i7 si0) i2 h175) at_131 rfl own_pd2 rfl rfl rfl (by decide) 4 rfl (by decide) rfl rfl (by decide) (by decide) (fun T185 P184 => ?_)
        show own_Go p e below _ (T185.setTop (mkF m 134 #[.val (.int i0), .val (.int i1), .val (.int i2), .val (.int i3), .val (.int i4), .val (.int i5), .val (.int i6), .val (.int i7), .val (.int si0), .val (.int i2), .unset, .unset, .unset, .unset, .unset, .unset] [(.int (F1_0 (F2_0 i7 si0) i2)), (.int (F1_0 i7 si0)), (.int (1 : Int32)), (.ref b160), (.ref b160)]))
        refine own_callP P184 (hw _ (List.mem_of_getElem? (i := 5) rfl)) (hw _ (List.mem_of_getElem? (i := 6) rfl)) (hw _ (List.mem_of_getElem? (i := 3) rfl)) (hw _ (List.mem_of_getElem? (i := 7) rfl)) (by decide) (argsL := [(.int (F1_0 i7 si0)), (.int (F1_0 (F2_0 i7 si0) i2))]) (rest := [(.int (1 : Int32)), (.ref b160), (.ref b160)]) (rm2 l Z a0 hw (F1_0 i7 si0) (F1_0 (F2_0 i7 si0) i2) h175) at_134 rfl own_pd2 rfl rfl rfl (by decide) 3 rfl (by decide) rfl rfl (by decide) (by decide) (fun T187 P186 => ?_)
        show own_Go p e below _ (T187.setTop (mkF m 137 #[.val (.int i0), .val (.int i1), .val (.int i2), .val (.int i3), .val (.int i4), .val (.int i5), .val (.int i6), .val (.int i7), .val (.int si0), .val (.int i2), .unset, .unset, .unset, .unset, .unset, .unset] [(.int (F2_0 (F1_0 i7 si0) (F1_0 (F2_0 i7 si0) i2))), (.int (1 : Int32)), (.ref b160), (.ref b160)]))
        refine own_iastore P186 f179 at_137 rfl (by decide) (Nat.le_of_ble_eq_true rfl) (z := (F2_0 (F1_0 i7 si0) (F1_0 (F2_0 i7 si0) i2))) rfl (fun T189 h190 W191 A192 P188 => ?_)
        have N193 := Fr.snoc P188.st N178 g167
        have f194 : own_Ar Z h190 b160 .int [(F1_0 (F1_0 i7 si0) i2), (F2_0 (F1_0 i7 si0) (F1_0 (F2_0 i7 si0) i2)), (0 : Int32)] := A192
        refine own_dup P188 at_138 rfl rfl ?_
        refine own_iconst P188 at_139 rfl (v := (2 : Int32)) rfl ?_
        refine own_iload P188 at_140 rfl rfl ?_
        refine own_iload P188 at_142 rfl rfl ?_
        refine own_callP P188 (hw _ (List.mem_of_getElem? (i := 5) rfl)) (hw _ (List.mem_of_getElem? (i := 6) rfl)) (hw _ (List.mem_of_getElem? (i := 3) rfl)) (hw _ (List.mem_of_getElem? (i := 7) rfl)) (by decide) (argsL := [(.int i7), (.int si0)]) (rest := [(.int (2 : Int32)), (.ref b160), (.ref b160)]) (rm2 l Z a0 hw i7 si0 h190) at_144 rfl own_pd2 rfl rfl rfl (by decide) 3 rfl (by decide) rfl rfl (by decide) (by decide) (fun T196 P195 => ?_)
        show own_Go p e below _ (T196.setTop (mkF m 147 #[.val (.int i0), .val (.int i1), .val (.int i2), .val (.int i3), .val (.int i4), .val (.int i5), .val (.int i6), .val (.int i7), .val (.int si0), .val (.int i2), .unset, .unset, .unset, .unset, .unset, .unset] [(.int (F2_0 i7 si0)), (.int (2 : Int32)), (.ref b160), (.ref b160)]))
        refine own_iload P195 at_147 rfl rfl ?_
        refine own_callP P195 (hw _ (List.mem_of_getElem? (i := 5) rfl)) (hw _ (List.mem_of_getElem? (i := 6) rfl)) (hw _ (List.mem_of_getElem? (i := 3) rfl)) (hw _ (List.mem_of_getElem? (i := 7) rfl)) (by decide) (argsL := [(.int (F2_0 i7 si0)), (.int i2)]) (rest := [(.int (2 : Int32)), (.ref b160), (.ref b160)]) (rm2 l Z a0 hw (F2_0 i7 si0) i2 h190) at_149 rfl own_pd2 rfl rfl rfl (by decide) 3 rfl (by decide) rfl rfl (by decide) (by decide) (fun T198 P197 => ?_)
        show own_Go p e below _ (T198.setTop (mkF m 152 #[.val (.int i0), .val (.int i1), .val (.int i2), .val (.int i3), .val (.int i4), .val (.int i5), .val (.int i6), .val (.int i7), .val (.int si0), .val (.int i2), .unset, .unset, .unset, .unset, .unset, .unset] [(.int (F2_0 (F2_0 i7 si0) i2)), (.int (2 : Int32)), (.ref b160), (.ref b160)]))
        refine own_iastore P197 f194 at_152 rfl (by decide) (Nat.le_of_ble_eq_true rfl) (z := (F2_0 (F2_0 i7 si0) i2)) rfl (fun T200 h201 W202 A203 P199 => ?_)
        have N204 := Fr.snoc P199.st N193 g167
        have f205 : own_Ar Z h201 b160 .int [(F1_0 (F1_0 i7 si0) i2), (F2_0 (F1_0 i7 si0) (F1_0 (F2_0 i7 si0) i2)), (F2_0 (F2_0 i7 si0) i2)] := A203
        refine own_astore P199 at_153 rfl rfl (Ls' := #[.val (.int i0), .val (.int i1), .val (.int i2), .val (.int i3), .val (.int i4), .val (.int i5), .val (.int i6), .val (.int i7), .val (.int si0), .val (.int i2), .val (.ref b160), .unset, .unset, .unset, .unset, .unset]) rfl ?_
        exact b0_155 hw i0 i1 i2 i3 i4 i5 i6 i7 si0 i2 b160 [(F1_0 (F1_0 i7 si0) i2), (F2_0 (F1_0 i7 si0) (F1_0 (F2_0 i7 si0) i2)), (F2_0 (F2_0 i7 si0) i2)] n0 N204 (Nat.le_trans (Nat.le_trans (Nat.le_trans (Nat.le_trans Z0 E162.1) (Keep.of_wr W176).1) (Keep.of_wr W191).1) (Keep.of_wr W202).1) g167 f205  ⟨(own_is3 h03 hc15 hc115 hc132).trans rfl, Nat.le_of_ble_eq_true rfl⟩ P199 hQ
def F0_0 (i0 : Int32) (i1 : Int32) (i2 : Int32) (i3 : Int32) (i4 : Int32) (i5 : Int32) : Int32 := (if (((i5.toUInt32 >>> ((12 : Int32) &&& 31).toUInt32).toInt32) &&& (1 : Int32)) = (0 : Int32) then (F0_24 i2 i3 i4 i5 (i5 &&& (3 : Int32)) i0 i1) else (F0_24 i2 i3 i4 i5 (i5 &&& (3 : Int32)) i0 i0))
set_option maxRecDepth 65536 in
set_option maxHeartbeats 40000000 in
theorem b0_0 {p : Program} {l : Launch} {e : Env} {s : State} {m : MethodId} {args : Array Value} {below : List Frame} {meth : Method} {c : Code} {T : State} {h : Heap} {locs : List Loc} {Z : State} {a0 : Array Value} {Q : Option Value → Heap → List Loc → Prop} (hw : ∀ d ∈ tables_1, d.before a0 Z = true) (i0 : Int32) (i1 : Int32) (i2 : Int32) (i3 : Int32) (i4 : Int32) (i5 : Int32)  (n0 : Nat) (N : Fr n0 locs) (Z0 : n0 ≤ h.size) (P : own_S Z "com/example/lucid_concepts/lucidconcepts/reasoning/SortedLiteralsContainsAllPinLaw" "law" code 16 (some .boolean) p l e room_1 s m args below meth c T h locs 0 0) (hQ : ∀ h' L', Fr n0 L' → Q (some (.int (F0_0 i0 i1 i2 i3 i4 i5))) h' L') :
    own_Go p e below (own_K s Q room_1.cells room_1.slots) (T.setTop (mkF m 0 #[.val (.int i0), .val (.int i1), .val (.int i2), .val (.int i3), .val (.int i4), .val (.int i5), .unset, .unset, .unset, .unset, .unset, .unset, .unset, .unset, .unset, .unset] [])) := by
  unfold F0_0 at hQ
  refine own_iload P at_0 rfl rfl ?_
  refine own_iconst P at_2 rfl (v := (3 : Int32)) rfl ?_
  refine own_iand P at_3 rfl ?_
  refine own_istore P at_4 rfl (Ls' := #[.val (.int i0), .val (.int i1), .val (.int i2), .val (.int i3), .val (.int i4), .val (.int i5), .val (.int (i5 &&& (3 : Int32))), .unset, .unset, .unset, .unset, .unset, .unset, .unset, .unset, .unset]) rfl ?_
  refine own_iloadN P at_6 rfl rfl ?_
  refine own_istore P at_7 rfl (Ls' := #[.val (.int i0), .val (.int i1), .val (.int i2), .val (.int i3), .val (.int i4), .val (.int i5), .val (.int (i5 &&& (3 : Int32))), .val (.int i0), .unset, .unset, .unset, .unset, .unset, .unset, .unset, .unset]) rfl ?_
  refine own_iload P at_9 rfl rfl ?_
  refine own_bipush P at_11 rfl (v := (12 : Int32)) rfl ?_
  refine own_iushr P at_13 rfl ?_
  refine own_iconst P at_14 rfl (v := (1 : Int32)) rfl ?_
  refine own_iand P at_15 rfl ?_
  by_cases hc14 : (((i5.toUInt32 >>> ((12 : Int32) &&& 31).toUInt32).toInt32) &&& (1 : Int32)) = (0 : Int32)
  · rw [if_pos hc14] at hQ
    refine own_if0Y P (pc' := 23) at_16 hc14 (by decide) (by decide) ?_
    refine own_iloadN P at_23 rfl rfl ?_
    exact b0_24 hw i0 i1 i2 i3 i4 i5 (i5 &&& (3 : Int32)) i0 i1  n0 N Z0    (own_a3 _) P hQ
  · rw [if_neg hc14] at hQ
    refine own_if0N P (pc' := 19) at_16 hc14 rfl ?_
    refine own_iloadN P at_19 rfl rfl ?_
    refine own_goto P (pc' := 24) at_20 (by decide) (by decide) ?_
    exact b0_24 hw i0 i1 i2 i3 i4 i5 (i5 &&& (3 : Int32)) i0 i0  n0 N Z0    (own_a3 _) P hQ
theorem rm0 (l : Launch) (Z : State) (a0 : Array Value) (hw : ∀ d ∈ tables_1, d.before a0 Z = true) (i0 : Int32) (i1 : Int32) (i2 : Int32) (i3 : Int32) (i4 : Int32) (i5 : Int32) (ws : List Jvm.Cond) (h : Heap) :
    own_Con l Z x code maxLocals ret ws room_1 #[(.int i0), (.int i1), (.int i2), (.int i3), (.int i4), (.int i5)] h (fun v _ L => v = some (.int (F0_0 i0 i1 i2 i3 i4 i5)) ∧ Fr h.size L) :=
  own_enter (plainFor_of_name own_pn0) #[.val (.int i0), .val (.int i1), .val (.int i2), .val (.int i3), .val (.int i4), .val (.int i5), .unset, .unset, .unset, .unset, .unset, .unset, .unset, .unset, .unset, .unset] (fun m => by first | (simp [entryFrame, mkF, argsToLocals, Value.category, maxLocals]; done) | rfl) (fun p e s m below meth c T P => b0_0 hw i0 i1 i2 i3 i4 i5 h.size (Fr.nil _) (Nat.le_refl _) P (fun _ _ q => ⟨rfl, q⟩))
/-- some place of vs holds v -/
def own_mem (vs : List Int32) (v : Int32) : Prop := ∃ m, m < vs.length ∧ vs.getD m 0 = v
def own_srt (vs : List Int32) : Prop := ∀ i j, i ≤ j → j < vs.length → ¬ (vs.getD j 0 < vs.getD i 0)
theorem own_in_spec (vs : List Int32) (v : Int32) : ∀ k n, n + k = vs.length → (n ≤ own_in vs v k n ∧ (∀ m, n ≤ m → m < own_in vs v k n → vs.getD m 0 < v) ∧ (own_in vs v k n < vs.length → ¬ (vs.getD (own_in vs v k n) 0 < v))) := by
  intro k
  induction k with
  | zero =>
    intro n hn
    refine ⟨Nat.le_refl _, fun m h1 h2 => ?_, fun h => ?_⟩
    · exact absurd h2 (by show ¬ m < n; omega)
    · exact absurd h (by show ¬ n < _; omega)
  | succ k ih =>
    intro n hn
    rw [own_in]
    by_cases h : vs.getD n 0 < v
    · rw [if_pos h]
      obtain ⟨h1, h2, h3⟩ := ih (n + 1) (by omega)
      refine ⟨by omega, fun m q1 q2 => ?_, h3⟩
      by_cases e : m = n
      · rw [e]; exact h
      · exact h2 m (by omega) q2
    · rw [if_neg h]
      exact ⟨Nat.le_refl _, fun m q1 q2 => absurd q2 (by omega), fun _ => h⟩
theorem own_find (vs : List Int32) (v : Int32) (n : Nat) (hs : own_srt vs) (hn : n ≤ vs.length) (hlo : ∀ m, m < n → vs.getD m 0 < v) :
    (own_in vs v (vs.length - n) n < vs.length ∧ vs.getD (own_in vs v (vs.length - n) n) 0 = v) ↔ own_mem vs v := by
  obtain ⟨h1, h2, h3⟩ := own_in_spec vs v (vs.length - n) n (by omega)
  have hle := own_in_le vs v (vs.length - n) n
  constructor
  · intro ⟨a, b⟩; exact ⟨_, a, b⟩
  · intro ⟨m, a, b⟩
    have hm : own_in vs v (vs.length - n) n ≤ m := by
      refine Nat.le_of_not_lt fun q => ?_
      have : vs.getD m 0 < v := by
        by_cases e : m < n
        · exact hlo m e
        · exact h2 m (by omega) q
      rw [b, Int32.lt_iff_toInt_lt] at this; omega
    have hlt : own_in vs v (vs.length - n) n < vs.length := by omega
    refine ⟨hlt, ?_⟩
    have q1 := h3 hlt
    have q2 := hs _ m hm a
    rw [Int32.lt_iff_toInt_lt] at q1 q2
    rw [b] at q2
    exact Int32.toInt_inj.mp (by omega)
theorem own_lowfrom (vs : List Int32) (v w : Int32) (n : Nat) (hn : n ≤ vs.length) (hlo : ∀ m, m < n → vs.getD m 0 < v) (hvw : ¬ (w < v)) : ∀ m, m < own_in vs v (vs.length - n) n → vs.getD m 0 < w := by
  obtain ⟨h1, h2, h3⟩ := own_in_spec vs v (vs.length - n) n (by omega)
  intro m hm
  have : vs.getD m 0 < v := by
    by_cases e : m < n
    · exact hlo m e
    · exact h2 m (by omega) hm
  rw [Int32.lt_iff_toInt_lt] at *; omega
open Classical in
theorem own_o2_eq (vs us : List Int32) (f : Nat → Int32) (mi n : Nat) (hl : vs.length ≤ 3) (hs : own_srt vs) (hn : n ≤ vs.length) (hlo : ∀ m, m < n → vs.getD m 0 < us.getD mi 0) :
    own_o2 vs us f mi (own_in vs (us.getD mi 0) (vs.length - n) n) = if own_mem vs (us.getD mi 0) then f (own_in vs (us.getD mi 0) (vs.length - n) n) else 0 := by
  have q := own_find vs (us.getD mi 0) n hs hn hlo
  have hle := own_in_le vs (us.getD mi 0) (vs.length - n) n
  generalize own_in vs (us.getD mi 0) (vs.length - n) n = r at *
  unfold own_o2
  by_cases e : r = vs.length
  · rw [if_pos (by rw [e]), if_neg (fun z => by have := (q.mpr z).1; omega)]
  · have e' : ¬ (Int32.ofNat r = Int32.ofNat vs.length) := fun z => e (by
      rw [← Int32.toInt_inj, own_on (by omega), own_on (by omega)] at z; omega)
    rw [if_neg e']
    by_cases e2 : vs.getD r 0 = us.getD mi 0
    · rw [if_pos e2, if_pos (q.mp ⟨by omega, e2⟩)]
    · rw [if_neg e2, if_neg (fun z => e2 (q.mpr z).2)]
open Classical in
theorem own_c0 (vs : List Int32) : F3_0 vs [] = 1 := rfl
open Classical in
theorem own_c1 (vs : List Int32) (x : Int32) (hl : vs.length ≤ 3) (hs : own_srt vs) : F3_0 vs [x] = if own_mem vs x then 1 else 0 := by
  have e := own_o2_eq vs [x] (fun n' => own_out vs [x] 0 (0 + 1) n') 0 0 hl hs (Nat.zero_le _) (fun m h => absurd h (Nat.not_lt_zero _))
  exact e
open Classical in
theorem own_c2 (vs : List Int32) (x y : Int32) (hl : vs.length ≤ 3) (hs : own_srt vs) (hxy : ¬ (y < x)) : F3_0 vs [x, y] = if own_mem vs x then (if own_mem vs y then 1 else 0) else 0 := by
  have e := own_o2_eq vs [x, y] (fun n' => own_out vs [x, y] 1 (0 + 1) n') 0 0 hl hs (Nat.zero_le _) (fun m h => absurd h (Nat.not_lt_zero _))
  have le := own_in_le vs x vs.length 0
  have e2 := own_o2_eq vs [x, y] (fun n' => own_out vs [x, y] 0 (0 + 1 + 1) n') 1 (own_in vs x (vs.length - 0) 0) hl hs (by show own_in vs x vs.length 0 ≤ _; omega) (own_lowfrom vs x y 0 (Nat.zero_le _) (fun m h => absurd h (Nat.not_lt_zero _)) hxy)
  refine e.trans ?_
  show (if own_mem vs x then own_out vs [x, y] 1 (0 + 1) (own_in vs x (vs.length - 0) 0) else 0) = _
  by_cases hx : own_mem vs x
  · rw [if_pos hx, if_pos hx]; exact e2
  · rw [if_neg hx, if_neg hx]
open Classical in
theorem own_has (i6 x : Int32) (vs : List Int32) (hn : i6.toInt = vs.length ∧ vs.length ≤ 3) : F4_0 i6 x vs = if own_mem vs x then 1 else 0 := by
  have z0 : (0 : Int32) < i6 ↔ 0 < vs.length := by rw [Int32.lt_iff_toInt_lt, show (0 : Int32).toInt = 0 by decide]; omega
  have z1 : (1 : Int32) < i6 ↔ 1 < vs.length := by rw [Int32.lt_iff_toInt_lt, show (1 : Int32).toInt = 1 by decide]; omega
  have z2 : (2 : Int32) < i6 ↔ 2 < vs.length := by rw [Int32.lt_iff_toInt_lt, show (2 : Int32).toInt = 2 by decide]; omega
  have key : own_mem vs x ↔ (0 < vs.length ∧ vs.getD 0 0 = x) ∨ (1 < vs.length ∧ vs.getD 1 0 = x) ∨ (2 < vs.length ∧ vs.getD 2 0 = x) := by
    constructor
    · intro ⟨m, a, b⟩
      have : m = 0 ∨ m = 1 ∨ m = 2 := by omega
      rcases this with rfl | rfl | rfl
      · exact Or.inl ⟨a, b⟩
      · exact Or.inr (Or.inl ⟨a, b⟩)
      · exact Or.inr (Or.inr ⟨a, b⟩)
    · rintro (⟨a, b⟩ | ⟨a, b⟩ | ⟨a, b⟩)
      · exact ⟨0, a, b⟩
      · exact ⟨1, a, b⟩
      · exact ⟨2, a, b⟩
  unfold F4_0 F4_11 F4_23 F4_35
  simp only [z0, z1, z2, key]
  by_cases a0 : 0 < vs.length <;> by_cases a1 : 1 < vs.length <;> by_cases a2 : 2 < vs.length <;> by_cases b0 : vs.getD 0 0 = x <;> by_cases b1 : vs.getD 1 0 = x <;> by_cases b2 : vs.getD 2 0 = x <;>
    simp only [a0, a1, a2, b0, b1, b2, if_true, if_false, true_and, false_and, or_true, true_or, or_false, false_or, and_true, and_false]
open Classical in
theorem own_290 (i6 i13 : Int32) (vs us : List Int32) (hn : i6.toInt = vs.length ∧ vs.length ≤ 3) (hp : i13.toInt = us.length ∧ us.length ≤ 2) (hs : own_srt vs) (hu : us.length = 2 → ¬ (us.getD 1 0 < us.getD 0 0)) : F0_290 i6 i13 vs us = 1 := by
  have z1 : i13 < (1 : Int32) ↔ us.length < 1 := by rw [Int32.lt_iff_toInt_lt, show (1 : Int32).toInt = 1 by decide]; omega
  have z2 : i13 < (2 : Int32) ↔ us.length < 2 := by rw [Int32.lt_iff_toInt_lt, show (2 : Int32).toInt = 2 by decide]; omega
  unfold F0_290 F0_310 F0_330 F0_334 F0_335
  simp only [z1, z2, own_has _ _ _ hn]
  match us, hp, hu with
  | [], _, _ => simp [own_c0]
  | [x], _, _ =>
    rw [own_c1 vs x hn.2 hs]
    by_cases hx : own_mem vs x <;> simp [hx]
  | [x, y], _, hu =>
    rw [own_c2 vs x y hn.2 hs (hu rfl)]
    by_cases hx : own_mem vs x <;> by_cases hy : own_mem vs y <;> simp [hx, hy]
  | x :: y :: z :: t, hp, _ => exact absurd hp.2 (by simp)
theorem own_t1 (x y : Int32) : (F1_0 x y).toInt = if y.toInt < x.toInt then y.toInt else x.toInt := by
  unfold F1_0
  by_cases h : y < x
  · rw [if_pos h, if_pos (Int32.lt_iff_toInt_lt.mp h)]
  · rw [if_neg h, if_neg (fun q => h (Int32.lt_iff_toInt_lt.mpr q))]
theorem own_t2 (x y : Int32) : (F2_0 x y).toInt = if x.toInt < y.toInt then y.toInt else x.toInt := by
  unfold F2_0
  by_cases h : x < y
  · rw [if_pos h, if_pos (Int32.lt_iff_toInt_lt.mp h)]
  · rw [if_neg h, if_neg (fun q => h (Int32.lt_iff_toInt_lt.mpr q))]
theorem own_mm (a b : Int32) : ¬ (F2_0 a b < F1_0 a b) := by
  rw [Int32.lt_iff_toInt_lt, own_t1, own_t2]
  split <;> split <;> omega
theorem own_155 (i3 i4 i5 i6 : Int32) (vs : List Int32) (hn : i6.toInt = vs.length ∧ vs.length ≤ 3) (hs : own_srt vs) : F0_155 i3 i4 i5 i6 vs = 1 := by
  have k233 : ∀ a b c : Int32, (0 ≤ c.toInt ∧ c.toInt ≤ 2) → F0_233 i6 a b c vs = 1 := fun a b c hc => by
    unfold F0_233
    by_cases h0 : c = (0 : Int32)
    · rw [if_pos h0]; exact own_290 _ _ _ _ hn ⟨by rw [h0]; rfl, by decide⟩ hs (fun q => absurd q (by decide))
    · rw [if_neg h0]
      by_cases h1 : c = (1 : Int32)
      · rw [if_pos h1]; exact own_290 _ _ _ _ hn ⟨by rw [h1]; rfl, Nat.le_of_ble_eq_true rfl⟩ hs (fun q => absurd q (by simp))
      · rw [if_neg h1]; exact own_290 _ _ _ _ hn ⟨(own_is2 hc h0 h1).trans rfl, Nat.le_of_ble_eq_true rfl⟩ hs (fun _ => own_mm a b)
  have k220 : ∀ a b, F0_220 i5 i6 a b vs = 1 := fun a b => by unfold F0_220; exact k233 _ _ _ (own_r3 _)
  have k185 : ∀ a, F0_185 i4 i5 i6 a vs = 1 := fun a => by
    unfold F0_185 F0_218
    split
    · exact k220 _ _
    · split <;> exact k220 _ _
  unfold F0_155 F0_184
  split
  · exact k185 _
  · split <;> exact k185 _
theorem own_s0 : own_srt [] := fun i j _ h => absurd h (Nat.not_lt_zero _)
theorem own_s1 (a : Int32) : own_srt [a] := fun i j h1 h2 => by
  have : j = 0 := by simp at h2; exact h2
  have : i = 0 := by omega
  subst_vars
  rw [Int32.lt_iff_toInt_lt]; omega
theorem own_s2 (a b : Int32) (h : ¬ (b < a)) : own_srt [a, b] := fun i j h1 h2 => by
  have : j < 2 := h2
  have : (i = 0 ∧ j = 0) ∨ (i = 0 ∧ j = 1) ∨ (i = 1 ∧ j = 1) := by omega
  rcases this with ⟨rfl, rfl⟩ | ⟨rfl, rfl⟩ | ⟨rfl, rfl⟩
  · show ¬ (a < a); rw [Int32.lt_iff_toInt_lt]; omega
  · exact h
  · show ¬ (b < b); rw [Int32.lt_iff_toInt_lt]; omega
theorem own_s3 (a b c : Int32) (h : ¬ (b < a)) (h' : ¬ (c < b)) : own_srt [a, b, c] := fun i j h1 h2 => by
  have : j < 3 := h2
  have : (i = 0 ∧ j = 0) ∨ (i = 0 ∧ j = 1) ∨ (i = 1 ∧ j = 1) ∨ (i = 0 ∧ j = 2) ∨ (i = 1 ∧ j = 2) ∨ (i = 2 ∧ j = 2) := by omega
  rcases this with ⟨rfl, rfl⟩ | ⟨rfl, rfl⟩ | ⟨rfl, rfl⟩ | ⟨rfl, rfl⟩ | ⟨rfl, rfl⟩ | ⟨rfl, rfl⟩
  · show ¬ (a < a); rw [Int32.lt_iff_toInt_lt]; omega
  · exact h
  · show ¬ (b < b); rw [Int32.lt_iff_toInt_lt]; omega
  · show ¬ (c < a); rw [Int32.lt_iff_toInt_lt] at *; omega
  · exact h'
  · show ¬ (c < c); rw [Int32.lt_iff_toInt_lt]; omega
theorem own_tri (a b c : Int32) : ¬ (F2_0 (F1_0 a b) (F1_0 (F2_0 a b) c) < F1_0 (F1_0 a b) c) ∧ ¬ (F2_0 (F2_0 a b) c < F2_0 (F1_0 a b) (F1_0 (F2_0 a b) c)) := by
  rw [Int32.lt_iff_toInt_lt, Int32.lt_iff_toInt_lt]
  simp only [own_t1, own_t2]
  generalize a.toInt = x
  generalize b.toInt = y
  generalize c.toInt = z
  constructor
  · repeat' split
    all_goals omega
  · repeat' split
    all_goals omega
theorem own_law (i0 i1 i2 i3 i4 i5 : Int32) : F0_0 i0 i1 i2 i3 i4 i5 = 1 := by
  have a := own_a3 i5
  have k : ∀ b : Int32, F0_24 i2 i3 i4 i5 (i5 &&& (3 : Int32)) i0 b = 1 := fun b => by
    generalize (i5 &&& (3 : Int32)) = n at *
    unfold F0_24
    by_cases h0 : n = (0 : Int32)
    · rw [if_pos h0]; exact own_155 _ _ _ _ _ ⟨by rw [h0]; rfl, by decide⟩ own_s0
    · rw [if_neg h0]
      by_cases h1 : n = (1 : Int32)
      · rw [if_pos h1]; exact own_155 _ _ _ _ _ ⟨by rw [h1]; rfl, Nat.le_of_ble_eq_true rfl⟩ (own_s1 _)
      · rw [if_neg h1]
        by_cases h2 : n = (2 : Int32)
        · rw [if_pos h2]; exact own_155 _ _ _ _ _ ⟨by rw [h2]; rfl, Nat.le_of_ble_eq_true rfl⟩ (own_s2 _ _ (own_mm _ _))
        · rw [if_neg h2]; exact own_155 _ _ _ _ _ ⟨(own_is3 a h0 h1 h2).trans rfl, Nat.le_of_ble_eq_true rfl⟩ (own_s3 _ _ _ (own_tri _ _ _).1 (own_tri _ _ _).2)
  unfold F0_0
  split <;> exact k _

theorem own_rm0 (l : Launch) (Z : State) (a0 : Array Value) (hw : ∀ d ∈ tables_1, d.before a0 Z = true) (i0 : Int32) (i1 : Int32) (i2 : Int32) (i3 : Int32) (i4 : Int32) (i5 : Int32) (ws : List Jvm.Cond) (h : Heap) :
    own_Con l Z x code maxLocals ret ws room_1 #[(.int i0), (.int i1), (.int i2), (.int i3), (.int i4), (.int i5)] h (fun v _ L => v = some (.int 1) ∧ Fr h.size L) := by
  have q := rm0 l Z a0 hw i0 i1 i2 i3 i4 i5 ws h
  rw [own_law i0 i1 i2 i3 i4 i5] at q
  exact q
set_option maxRecDepth 65536 in
set_option maxHeartbeats 40000000 in
theorem comes_1 {Post : Tables → Env → Array Value → State → Outcome → State → Prop} (hpost : ∀ tb e args s v u, (limb_1_1.after args s (.returned v) u = true ∧ limb_1_2.after args s (.returned v) u = true ∧ True) → FrameEnd s (.returned v) u (Jvm.fieldLocs frame_1_writes args s ++ Jvm.arrayLocs frame_1_arrays args s ++ Jvm.staticLocs frame_1_statics s) 16 128 → Post tb e args s (.returned v) u) :
    ArmFor flags0 classFile x code maxLocals ret World_1 tables_1 room_1 Calls_1 rest_1 Pre_1 Post := by
  intro l hfl _ _ p e ha hc hk s m args below hf hA hF happ hP
  obtain ⟨hcalls, hrest, hpre⟩ := hP
  obtain ⟨-, -, -, hnamed, -, -, -, hat⟩ := (Spec.applies_iff hf).mp happ
  obtain ⟨hg, hn⟩ := and_e (Cond.before_iff.mp (show (Jvm.Cond.and given_1 narrow_1).before args s = true from hpre))
  obtain ⟨g0, hg1⟩ := and_e hg
  obtain ⟨k0, hg2⟩ := and_e hg1
  obtain ⟨k1, hg3⟩ := and_e hg2
  obtain ⟨k2, hg4⟩ := and_e hg3
  obtain ⟨k3, hg5⟩ := and_e hg4
  obtain ⟨k4, hg6⟩ := and_e hg5
  obtain ⟨w0, w1, w2, w3, w4, w5, rfl⟩ : ∃ w0 w1 w2 w3 w4 w5 : Value, args = #[w0, w1, w2, w3, w4, w5] := by
    have hs : args.size = 6 := by simpa [Cond.value, given_1] using g0
    obtain ⟨L⟩ := args
    match L, hs with
    | [w0, w1, w2, w3, w4, w5], _ => exact ⟨w0, w1, w2, w3, w4, w5, rfl⟩
  have hw := fun d (hd : d ∈ tables_1) => atoms_spec (ws := Jvm.Cond.code x code maxLocals ret :: tables_1) hat d (List.mem_cons_of_mem _ hd)
  obtain ⟨i0, ei0⟩ := is_v k0
  obtain rfl : w0 = (.int i0) := Option.some.inj ei0
  obtain ⟨i1, ei1⟩ := is_v k1
  obtain rfl : w1 = (.int i1) := Option.some.inj ei1
  obtain ⟨i2, ei2⟩ := is_v k2
  obtain rfl : w2 = (.int i2) := Option.some.inj ei2
  obtain ⟨i3, ei3⟩ := is_v k3
  obtain rfl : w3 = (.int i3) := Option.some.inj ei3
  obtain ⟨i4, ei4⟩ := is_v k4
  obtain rfl : w4 = (.int i4) := Option.some.inj ei4
  obtain ⟨i5, ei5⟩ := is_v hg6
  obtain rfl : w5 = (.int i5) := Option.some.inj ei5
  obtain ⟨n, o, h1, h2, h3, _, L, rfl, ⟨rfl, N⟩, hq⟩ := own_rm0 l s _ hw i0 i1 i2 i3 i4 i5 tables_1 s.heap p e ha hc hk s m _ below hf ((Spec.applies_iff_loose hf).mp happ).1 ⟨rfl, State.Warmed39.refl s, rfl⟩ trivial
  refine ⟨n, _, h1, h2, h3, hpost _ _ _ _ _ _ ⟨Cond.after_iff.mpr rfl, Cond.after_iff.mpr (eq_i res_at (Term.int_eval (1)) rfl), trivial⟩ ⟨hq.1, hq.2.1, (hq.2.2.sift fun y hy => Or.inr (N y hy)).mono (by decide) (by decide)⟩⟩
theorem main_1_1 : Claimed_1_1 := comes_1 fun _ _ _ _ _ _ h hF => ⟨h.1, hF⟩
theorem main_1_2 : Claimed_1_2 := comes_1 fun _ _ _ _ _ _ h hF => ⟨h.2.1, hF⟩
end Jvm.Pilot.@@N@@
namespace Jvm.Pilot.@@N@@
open Jvm Jvm.ClassFile Sem Op Lib Jvm.Free Jvm.Stand Jvm.Pilot.@@N@@.Jvm.D
/-! MADE BY PROGRAM (witnessworld.py) out of the Statement's table words and the real class files: 10 classes; the members and pool entries that the words name. The judged class is class 1, her method 1. -/
namespace start1
open Jvm.ClassFile
def u (s : String) : CpInfo := .utf8 (stringToUtf16 s)
/-- a pool by its gaps: so many unusable entries, then the entry; so many at the end -/
def gap : Nat → List CpInfo → List CpInfo
  | 0, r => r
  | n + 1, r => .unusable :: gap n r
def poolList (es : List (Nat × CpInfo)) (last : Nat) : List CpInfo := es.foldr (fun e r => gap e.1 (e.2 :: r)) (gap last [])
def pool (es : List (Nat × CpInfo)) (last : Nat) : Array CpInfo := ⟨poolList es last⟩
def fileOf (pool : Array CpInfo) (this : Nat) (attrs : Array Attribute := #[]) (ms : Array MethodInfo := #[]) (fl : Nat := 33) (sup : Nat := 0) (ifs : Array Nat := #[]) (fds : Array FieldInfo := #[]) : ClassFile where
  minorVersion := 0
  majorVersion := 65
  constantPool := pool
  accessFlags := fl
  thisClass := this
  superClass := sup
  interfaces := ifs
  fields := fds
  methods := ms
  attributes := attrs
def plain (name : String) (sup : Option ClassId) : Class where
  name := name
  kind := .ordinary
  loader := none
  accessFlags := 33
  super := sup
  interfaces := #[]
  cf := none
  fields := #[]
  methods := #[]
  instanceTypes := #[]
  staticTypes := #[]
  resolved := #[]
  callSites := []
  init := .initialized
  statics := none
  mirror := none

def pool0 : Array CpInfo := pool [(5, u "<init>"), (0, u "()V"), (1, .class_ 10), (1, u "java/lang/Object")] 113

def k0m0 : Method := { name := "<init>", desc := "()V", sig := { parameters := [], returnType := none }, accessFlags := 1, code := none }
/-- java/lang/Object -/
def k0 : Class := { plain "java/lang/Object" none with
  accessFlags := 33
  interfaces := #[]
  cf := some (fileOf pool0 8 #[] #[{ accessFlags := 1, nameIndex := 5, descriptorIndex := 6, attributes := #[] }] 33 0 #[] #[])
  fields := #[]
  methods := #[k0m0]
  instanceTypes := #[]
  staticTypes := #[]
  resolved := Array.replicate 124 none
  statics := none }

def pool1 : Array CpInfo := pool [(2, .class_ 4), (1, u "java/lang/Object"), (0, u "<init>"), (0, u "()V"), (0, .methodref 8 9), (0, .class_ 10), (0, .nameAndType 11 12), (0, u "java/lang/Math"), (0, u "min"), (0, u "(II)I"), (0, .methodref 8 14), (0, .nameAndType 15 12), (0, u "max"), (0, .methodref 17 18), (0, .class_ 19), (0, .nameAndType 20 21), (0, u "com/example/lucid_concepts/lucidconcepts/reasoning/SortedLiteralsContainsAllPinLaw"), (0, u "has"), (0, u "([III)Z"), (0, .methodref 23 24), (0, .class_ 25), (0, .nameAndType 26 27), (0, u "com/example/lucid_concepts/lucidconcepts/reasoning/SortedLiterals"), (0, u "containsAll"), (0, u "([I[I)Z"), (2, u "law"), (0, u "(IIIIII)Z")] 5

def k1m0 : Method := { name := "<init>", desc := "()V", sig := { parameters := [], returnType := none }, accessFlags := 1, code := none }
def k1c1 : Code := { maxStack := 6, maxLocals := 16, code := code, exceptionTable := #[], attributes := #[] }
def k1m1 : Method := { name := "law", desc := "(IIIIII)Z", sig := { parameters := [.int, .int, .int, .int, .int, .int], returnType := some .boolean }, accessFlags := 9, code := some k1c1 }
def k1c2 : Code := { maxStack := 2, maxLocals := 3, code := method_3_code, exceptionTable := #[], attributes := #[] }
def k1m2 : Method := { name := "has", desc := "([III)Z", sig := { parameters := [(.array .int), .int, .int], returnType := some .boolean }, accessFlags := 10, code := some k1c2 }
/-- com/example/lucid_concepts/lucidconcepts/reasoning/SortedLiteralsContainsAllPinLaw -/
def k1 : Class := { plain "com/example/lucid_concepts/lucidconcepts/reasoning/SortedLiteralsContainsAllPinLaw" (some 0) with
  accessFlags := 49
  interfaces := #[]
  cf := some (fileOf pool1 17 #[] #[{ accessFlags := 1, nameIndex := 5, descriptorIndex := 6, attributes := #[] }, { accessFlags := 9, nameIndex := 30, descriptorIndex := 31, attributes := #[] }, { accessFlags := 10, nameIndex := 20, descriptorIndex := 21, attributes := #[] }] 49 2 #[] #[])
  fields := #[]
  methods := #[k1m0, k1m1, k1m2]
  instanceTypes := #[]
  staticTypes := #[]
  resolved := Array.replicate 37 none
  statics := none }

def pool2 : Array CpInfo := pool [(1, .class_ 2), (0, u "java/lang/Math"), (1, .class_ 6), (1, u "java/lang/Object"), (0, u "<init>"), (0, u "()V"), (89, .class_ 100), (1, u "java/lang/Math$RandomNumberGeneratorHolder"), (71, u "negativeZeroFloatBits"), (0, u "J"), (2, u "negativeZeroDoubleBits"), (21, u "max"), (2, u "min"), (43, u "$assertionsDisabled"), (0, u "Z"), (88, u "(II)I"), (2, u "twoToTheDoubleScaleDown"), (0, u "D"), (4, u "twoToTheDoubleScaleUp"), (9, u "E"), (3, u "PI"), (2, u "TAU"), (2, u "DEGREES_TO_RADIANS"), (0, u "RADIANS_TO_DEGREES")] 94

def k2m0 : Method := { name := "<init>", desc := "()V", sig := { parameters := [], returnType := none }, accessFlags := 2, code := none }
def k2c1 : Code := { maxStack := 2, maxLocals := 2, code := jdk_29_method_65_code, exceptionTable := #[], attributes := #[] }
def k2m1 : Method := { name := "max", desc := "(II)I", sig := { parameters := [.int, .int], returnType := some .int }, accessFlags := 9, code := some k2c1 }
def k2c2 : Code := { maxStack := 2, maxLocals := 2, code := jdk_29_method_69_code, exceptionTable := #[], attributes := #[] }
def k2m2 : Method := { name := "min", desc := "(II)I", sig := { parameters := [.int, .int], returnType := some .int }, accessFlags := 9, code := some k2c2 }
/-- java/lang/Math -/
def k2 : Class := { plain "java/lang/Math" (some 0) with
  accessFlags := 49
  interfaces := #[]
  cf := some (fileOf pool2 1 #[.nestMembers #[98]] #[{ accessFlags := 2, nameIndex := 7, descriptorIndex := 8, attributes := #[] }, { accessFlags := 9, nameIndex := 198, descriptorIndex := 335, attributes := #[] }, { accessFlags := 9, nameIndex := 201, descriptorIndex := 335, attributes := #[] }] 49 4 #[] #[{ accessFlags := 25, nameIndex := 354, descriptorIndex := 339, attributes := #[] }, { accessFlags := 25, nameIndex := 358, descriptorIndex := 339, attributes := #[] }, { accessFlags := 25, nameIndex := 361, descriptorIndex := 339, attributes := #[] }, { accessFlags := 26, nameIndex := 364, descriptorIndex := 339, attributes := #[] }, { accessFlags := 26, nameIndex := 365, descriptorIndex := 339, attributes := #[] }, { accessFlags := 26, nameIndex := 172, descriptorIndex := 173, attributes := #[] }, { accessFlags := 26, nameIndex := 176, descriptorIndex := 173, attributes := #[] }, { accessFlags := 8, nameIndex := 344, descriptorIndex := 339, attributes := #[] }, { accessFlags := 8, nameIndex := 338, descriptorIndex := 339, attributes := #[] }, { accessFlags := 4120, nameIndex := 245, descriptorIndex := 246, attributes := #[] }])
  fields := #[{ name := "E", type := .double, accessFlags := 25, slot := 0, constantValue := 0 }, { name := "PI", type := .double, accessFlags := 25, slot := 1, constantValue := 0 }, { name := "TAU", type := .double, accessFlags := 25, slot := 2, constantValue := 0 }, { name := "DEGREES_TO_RADIANS", type := .double, accessFlags := 26, slot := 3, constantValue := 0 }, { name := "RADIANS_TO_DEGREES", type := .double, accessFlags := 26, slot := 4, constantValue := 0 }, { name := "negativeZeroFloatBits", type := .long, accessFlags := 26, slot := 5, constantValue := 0 }, { name := "negativeZeroDoubleBits", type := .long, accessFlags := 26, slot := 6, constantValue := 0 }, { name := "twoToTheDoubleScaleUp", type := .double, accessFlags := 8, slot := 7, constantValue := 0 }, { name := "twoToTheDoubleScaleDown", type := .double, accessFlags := 8, slot := 8, constantValue := 0 }, { name := "$assertionsDisabled", type := .boolean, accessFlags := 4120, slot := 9, constantValue := 0 }]
  methods := #[k2m0, k2m1, k2m2]
  instanceTypes := #[]
  staticTypes := #[.double, .double, .double, .double, .double, .long, .long, .double, .double, .boolean]
  resolved := Array.replicate 460 none
  statics := none }

def pool3 : Array CpInfo := pool [(2, .class_ 4), (1, u "java/lang/Object"), (3, .class_ 10), (1, u "com/example/lucid_concepts/lucidconcepts/reasoning/SortedLiterals"), (0, u "literals"), (0, u "[I"), (3, u "hash"), (0, u "I"), (26, u "([I[I)Z"), (5, u "containsAll")] 8

def k3c0 : Code := { maxStack := 2, maxLocals := 7, code := prog_94_method_3_code, exceptionTable := #[], attributes := #[] }
def k3m0 : Method := { name := "containsAll", desc := "([I[I)Z", sig := { parameters := [(.array .int), (.array .int)], returnType := some .boolean }, accessFlags := 8, code := some k3c0 }
/-- com/example/lucid_concepts/lucidconcepts/reasoning/SortedLiterals -/
def k3 : Class := { plain "com/example/lucid_concepts/lucidconcepts/reasoning/SortedLiterals" (some 0) with
  accessFlags := 48
  interfaces := #[]
  cf := some (fileOf pool3 8 #[] #[{ accessFlags := 8, nameIndex := 50, descriptorIndex := 44, attributes := #[] }] 48 2 #[] #[{ accessFlags := 18, nameIndex := 11, descriptorIndex := 12, attributes := #[] }, { accessFlags := 18, nameIndex := 16, descriptorIndex := 17, attributes := #[] }])
  fields := #[{ name := "literals", type := (.array .int), accessFlags := 18, slot := 0, constantValue := 0 }, { name := "hash", type := .int, accessFlags := 18, slot := 1, constantValue := 0 }]
  methods := #[k3m0]
  instanceTypes := #[(.array .int), .int]
  staticTypes := #[]
  resolved := Array.replicate 59 none
  statics := none }

def pool4 : Array CpInfo := pool [(1, u "java/lang/Cloneable"), (0, .class_ 1), (0, u "java/lang/Object"), (0, .class_ 3)] 3

/-- java/lang/Cloneable -/
def k4 : Class := { plain "java/lang/Cloneable" (some 0) with
  accessFlags := 1537
  interfaces := #[]
  cf := some (fileOf pool4 2 #[] #[] 1537 4 #[] #[])
  fields := #[]
  methods := #[]
  instanceTypes := #[]
  staticTypes := #[]
  resolved := Array.replicate 8 none
  statics := none }

def pool5 : Array CpInfo := pool [(1, u "java/io/Serializable"), (0, .class_ 1), (0, u "java/lang/Object"), (0, .class_ 3)] 3

/-- java/io/Serializable -/
def k5 : Class := { plain "java/io/Serializable" (some 0) with
  accessFlags := 1537
  interfaces := #[]
  cf := some (fileOf pool5 2 #[] #[] 1537 4 #[] #[])
  fields := #[]
  methods := #[]
  instanceTypes := #[]
  staticTypes := #[]
  resolved := Array.replicate 8 none
  statics := none }

/-- the primitive byte -/
def k6 : Class := { plain "byte" none with kind := .primitive 'B', accessFlags := 0x411 }
/-- [B -/
def k7 : Class := { plain "[B" (some 0) with kind := .array 6 .byte, interfaces := #[4, 5], accessFlags := 1041 }

/-- the primitive int -/
def k8 : Class := { plain "int" none with kind := .primitive 'I', accessFlags := 0x411 }
/-- [I -/
def k9 : Class := { plain "[I" (some 0) with kind := .array 8 .int, interfaces := #[4, 5], accessFlags := 1041 }

def heap : Heap := #[]
def classes : Array Class := #[k0, k1, k2, k3, k4, k5, k6, k7, k8, k9]
def interned : List (Array UInt16 × Addr) := []
def slotsUsed : Nat := 0
def theMethod : MethodId := ⟨1, 1⟩
def args0 : Array Value := #[.int 49, .int 46, .int 50, .int 51, .int 52, .int 1043]
def aboutOver (below : List Frame) : State where
  vm := { classes := classes, interned := interned.toArray }
  heap := heap
  slotsUsed := slotsUsed
  threads := #[{ frames := .invoking theMethod args0 :: below }]
def below0 : List Frame := [.native { method := ⟨0, 0⟩, args := #[] }]
def about1 : State := aboutOver below0
def p0 : Program := .bare "" "" ""
def e0 : Env := launch0.env 0 0 0
theorem w_frames : about1.frames = Frame.invoking theMethod args0 :: below0 := rfl
set_option maxRecDepth 65536 in
theorem w_args : argsFit about1.vm theMethod args0 = true := by decide +kernel
set_option maxRecDepth 65536 in
theorem w_heap : heapFits about1 = true := by decide +kernel
set_option maxRecDepth 65536 in
theorem w_runnable : about1.curStatus? = some .runnable := by decide +kernel
set_option maxRecDepth 65536 in
theorem w_alone : about1.alone = true := by decide +kernel
set_option maxRecDepth 65536 in
theorem w_named : about1.methodNamed? x = some theMethod := by decide +kernel
set_option maxRecDepth 65536 in
theorem w_hears : about1.hears theMethod below0 = true := by decide +kernel
set_option maxRecDepth 65536 in
theorem w_ripe : about1.ripe theMethod args0 below0 = true := by decide +kernel
theorem w_running : about1.status = .running := rfl
set_option maxRecDepth 65536 in
theorem w_room : about1.hasRoom e0.platform room_1 = true :=
  launch0.hasRoom_least _ room_1 (by decide +kernel) (by decide +kernel) (by decide +kernel) (by decide +kernel) (by decide +kernel) (by decide +kernel)
theorem allAtoms_all (ts : List Jvm.Cond) (a : Array Jvm.Value) (st : Jvm.State) : (allAtoms ts).before a st = ts.all (fun c => c.before a st) := by
  induction ts with
  | nil => rfl
  | cons c t ih =>
    show (Jvm.Cond.and c (allAtoms t)).before a st = _
    rw [Jvm.Cond.before_and, ih, List.all_cons]
def words1 : List Jvm.Cond := Jvm.Cond.code x code maxLocals ret :: tables_1
/-- a 'code' word, met by the world's own term for the bytes: nothing is compared byte by byte -/
theorem code_word {y : MethodName} {bytes : ByteArray} {mx : Nat} {rt : Option FieldType} {a : Array Value} {s : State} {m : MethodId} {meth : Method} {c : Code} (h1 : s.methodNamed? y = some m) (h2 : s.vm.method? m = some meth) (h3 : meth.code = some c) (h4 : c.code = bytes)
    (h5 : (c.maxLocals == mx && c.exceptionTable.isEmpty && decide (c.maxStack ≤ mostOperands) && decide (meth.sig.returnType = rt) && !meth.locks && decide (parseMethodDescriptor y.desc = some meth.sig)) = true) : (Jvm.Cond.code y bytes mx rt).before a s = true := by
  simp only [Bool.and_eq_true, beq_iff_eq, Bool.not_eq_true', decide_eq_true_eq] at h5
  obtain ⟨⟨⟨⟨⟨g1, g2⟩, g3⟩, g4⟩, g5⟩, g6⟩ := h5
  simp [Cond.before, Cond.holds, Cond.value, h1, h2, h3, h4, g1, g2, g3, g4, g5, g6]
def isCode : Jvm.Cond → Bool
  | .code _ _ _ _ => true
  | _ => false
theorem all_split {L : List Jvm.Cond} {P : Jvm.Cond → Bool} (h1 : L.all (fun c => isCode c || P c) = true) (h2 : ∀ c ∈ L.filter isCode, P c = true) : L.all P = true := by
  refine List.all_eq_true.mpr fun c hc => ?_
  have h := List.all_eq_true.mp h1 c hc
  rcases Bool.eq_false_or_eq_true (isCode c) with hi | hi
  · exact h2 c (List.mem_filter.mpr ⟨hc, hi⟩)
  · simpa [hi] using h
set_option maxRecDepth 65536 in
theorem w_c0 : (Jvm.Cond.code x code maxLocals ret).before args0 about1 = true := code_word (m := ⟨1, 1⟩) (meth := k1m1) (c := k1c1) (by decide +kernel) rfl rfl rfl (by decide +kernel)
set_option maxRecDepth 65536 in
theorem w_c1 : (Jvm.Cond.code ({ cls := "java/lang/Math", name := "min", desc := "(II)I" } : Jvm.MethodName) jdk_29_method_69_code (2 : Nat) (Option.some Jvm.ClassFile.FieldType.int)).before args0 about1 = true := code_word (m := ⟨2, 2⟩) (meth := k2m2) (c := k2c2) (by decide +kernel) rfl rfl rfl (by decide +kernel)
set_option maxRecDepth 65536 in
theorem w_c2 : (Jvm.Cond.code ({ cls := "java/lang/Math", name := "max", desc := "(II)I" } : Jvm.MethodName) jdk_29_method_65_code (2 : Nat) (Option.some Jvm.ClassFile.FieldType.int)).before args0 about1 = true := code_word (m := ⟨2, 1⟩) (meth := k2m1) (c := k2c1) (by decide +kernel) rfl rfl rfl (by decide +kernel)
set_option maxRecDepth 65536 in
theorem w_c3 : (Jvm.Cond.code ({ cls := "com/example/lucid_concepts/lucidconcepts/reasoning/SortedLiterals", name := "containsAll", desc := "([I[I)Z" } : Jvm.MethodName) prog_94_method_3_code (7 : Nat) (Option.some Jvm.ClassFile.FieldType.boolean)).before args0 about1 = true := code_word (m := ⟨3, 0⟩) (meth := k3m0) (c := k3c0) (by decide +kernel) rfl rfl rfl (by decide +kernel)
set_option maxRecDepth 65536 in
theorem w_c4 : (Jvm.Cond.code ({ cls := "com/example/lucid_concepts/lucidconcepts/reasoning/SortedLiteralsContainsAllPinLaw", name := "has", desc := "([III)Z" } : Jvm.MethodName) method_3_code (3 : Nat) (Option.some Jvm.ClassFile.FieldType.boolean)).before args0 about1 = true := code_word (m := ⟨1, 2⟩) (meth := k1m2) (c := k1c2) (by decide +kernel) rfl rfl rfl (by decide +kernel)
def codes1 : List Jvm.Cond := [Jvm.Cond.code x code maxLocals ret, Jvm.Cond.code ({ cls := "java/lang/Math", name := "min", desc := "(II)I" } : Jvm.MethodName) jdk_29_method_69_code (2 : Nat) (Option.some Jvm.ClassFile.FieldType.int), Jvm.Cond.code ({ cls := "java/lang/Math", name := "max", desc := "(II)I" } : Jvm.MethodName) jdk_29_method_65_code (2 : Nat) (Option.some Jvm.ClassFile.FieldType.int), Jvm.Cond.code ({ cls := "com/example/lucid_concepts/lucidconcepts/reasoning/SortedLiterals", name := "containsAll", desc := "([I[I)Z" } : Jvm.MethodName) prog_94_method_3_code (7 : Nat) (Option.some Jvm.ClassFile.FieldType.boolean), Jvm.Cond.code ({ cls := "com/example/lucid_concepts/lucidconcepts/reasoning/SortedLiteralsContainsAllPinLaw", name := "has", desc := "([III)Z" } : Jvm.MethodName) method_3_code (3 : Nat) (Option.some Jvm.ClassFile.FieldType.boolean)]
set_option maxRecDepth 65536 in
theorem codes_eq : words1.filter isCode = codes1 := rfl
theorem w_codes : ∀ c ∈ words1.filter isCode, c.before args0 about1 = true := by
  rw [codes_eq]
  intro c hc
  simp only [codes1, List.mem_cons, List.not_mem_nil, or_false] at hc
  rcases hc with rfl | rfl | rfl | rfl | rfl
  · exact w_c0
  · exact w_c1
  · exact w_c2
  · exact w_c3
  · exact w_c4
set_option maxRecDepth 65536 in
theorem w_t1 : words1.all (fun c => isCode c || c.before args0 about1) = true := by decide +kernel
theorem w_tables : (allAtoms (Jvm.Cond.code x code maxLocals ret :: tables_1)).before args0 about1 = true := by
  rw [allAtoms_all]
  show words1.all (fun c => c.before args0 about1) = true
  refine all_split ?_ w_codes
  rw [w_t1]
set_option maxRecDepth 65536 in
theorem w_case : (Jvm.Cond.and given_1 narrow_1).before args0 about1 = true := by decide +kernel
theorem w_applies : (headSpec (Jvm.Cond.code x code maxLocals ret :: tables_1) room_1).applies x e0.platform about1 = true :=
  (Spec.applies_iff w_frames).mpr ⟨w_running, w_runnable, w_alone, w_named, w_hears, w_ripe, w_room, w_tables⟩
theorem atStart : AtStart classFile x code maxLocals ret World_1 tables_1 room_1 Calls_1 rest_1 Pre_1 launch0 p0 e0 about1 theMethod args0 below0 :=
  ⟨lists_1, trivial, launch0.admits_env _ _ _, launch0.least_env, fairChoices_fair.cas, fairChoices_fair.clock, w_frames, w_args, w_heap, w_applies, trivial, trivial, w_case⟩
end start1
theorem witness_1 : WitnessClaimed_1 := ⟨start1.p0, start1.e0, start1.about1, start1.theMethod, start1.args0, start1.below0, start1.atStart⟩
end Jvm.Pilot.@@N@@
