import JvmDerived
import JvmDerived.Pilot.@@N@@Statement
import JvmDerived.Pilot.@@N@@Code
set_option linter.unusedVariables false
set_option linter.unusedSimpArgs false
@@BLOCK:NumsL.lean.txt@@
namespace Jvm.RoadKit
open Sem ClassFile Op Lib Jvm.Stand Jvm.Free Jvm.LawKit
section New
variable {p : Program} {l : Launch} {e : Env} {R : Room} {s : State} {m : MethodId} {args : Array Value} {below : List Frame} {meth : Method} {c : Code} {T : State} {locs : List Loc} {cells slots : Nat}
theorem retI (X : Stand p l e R s m args below meth c T locs cells slots) (hx : p.tables.exec = Jvm.exec) {pc : Nat} {Ls : Array Slot} {z : Int32} {rest : List Value} (hret : meth.sig.returnType = some .int) (hd : decode c.code pc = .ok (.ireturn, 1)) {fs : List Frame}
    (hl : ∀ (f : JFrame) (acts : List Action), f.method = m → f.locked = none → f.entered = [] → (doReturn e (T.setTop f) acts (some (.int z))).1 = T.setFrames fs) : Steps p.tables e below (T.setTop (mkF m pc Ls (.int z :: rest))) (T.setFrames fs) := by
  have hm' : T.vm.method? m = some meth := X.method'
  have hn : narrow .int (.int z) = .int z := rfl
  show Steps p.tables e below (T.setTop { method := m, pc := pc, locals := Ls, stack := _ :: rest, locked := none }) _
  jvm_step X.here [X.here.top, hx, hd, hm', hret, hn]
  first | (intro acts; rw [hl _ acts rfl rfl rfl]) | rw [hl _ _ rfl rfl rfl]
  exact Steps.refl _
end New
end Jvm.RoadKit
namespace Jvm.Pilot.@@N@@
open Jvm Jvm.ClassFile Sem Op Lib Jvm.Free Jvm.Stand Jvm.LawKit Jvm.RoadKit Bundle Jvm.Pilot.@@N@@.Jvm.D
section OwnBase
variable {p : Program} {l : Launch} {e : Env} {R : Room} {s : State} {m : MethodId} {args : Array Value} {below : List Frame} {meth : Method} {c : Code} {T : State} {h : Heap} {locs : List Loc} {cells slots : Nat} {Z : State} {a0 : Array Value} {own nm : String} {bytes : ByteArray} {mx : Nat} {rt : Option FieldType} {K : State → Outcome → Prop} {pc pc' : Nat} {Ls : Array Slot} {rest : List Value}
/-- the run from S comes to an end that is as K says -/
def own_Go (p : Program) (e : Env) (below : List Frame) (K : State → Outcome → Prop) (S : State) : Prop :=
  ∃ t o, Steps p.tables e below S t ∧ t.status = .running ∧ Ended t below o ∧ K t o
def own_K (s : State) (Q : Option Value → Heap → List Loc → Prop) (kc ks : Nat) (t : State) (o : Outcome) : Prop :=
  ∃ v L, o = .returned v ∧ Q v t.heap L ∧ FrameEnd s o t L kc ks
/-- the walk stands: all that a step asks, in one word -/
def own_S (Z : State) (own nm : String) (bytes : ByteArray) (mx : Nat) (rt : Option FieldType) (p : Program) (l : Launch) (e : Env) (R : Room) (s : State) (m : MethodId) (args : Array Value) (below : List Frame) (meth : Method) (c : Code) (T : State) (h : Heap) (locs : List Loc) (cells slots : Nat) : Prop :=
  Stand p l e R s m args below meth c T locs cells slots ∧ p.tables.exec = Jvm.exec ∧ c.code = bytes ∧ c.maxLocals = mx ∧ s.vm.findClass own = some m.cls ∧ Z.Warmed39 s.vm ∧ meth.sig.returnType = rt ∧ meth.locks = false ∧ T.heap = h ∧ meth.name = nm
theorem own_S.st (P : own_S Z own nm bytes mx rt p l e R s m args below meth c T h locs cells slots) : Stand p l e R s m args below meth c T locs cells slots := P.1
theorem own_S.ex (P : own_S Z own nm bytes mx rt p l e R s m args below meth c T h locs cells slots) : p.tables.exec = Jvm.exec := P.2.1
theorem own_S.cd (P : own_S Z own nm bytes mx rt p l e R s m args below meth c T h locs cells slots) {pc : Nat} {r : Except ClassFile.DecodeError (ClassFile.Instr × Nat)} (hd : decode bytes pc = r) : decode c.code pc = r := hb P.2.2.1 hd
theorem own_S.ml (P : own_S Z own nm bytes mx rt p l e R s m args below meth c T h locs cells slots) : c.maxLocals = mx := P.2.2.2.1
theorem own_S.ow (P : own_S Z own nm bytes mx rt p l e R s m args below meth c T h locs cells slots) : s.vm.findClass own = some m.cls := P.2.2.2.2.1
theorem own_S.wz (P : own_S Z own nm bytes mx rt p l e R s m args below meth c T h locs cells slots) : Z.Warmed39 s.vm := P.2.2.2.2.2.1
theorem own_S.rty (P : own_S Z own nm bytes mx rt p l e R s m args below meth c T h locs cells slots) : meth.sig.returnType = rt := P.2.2.2.2.2.2.1
theorem own_S.lk (P : own_S Z own nm bytes mx rt p l e R s m args below meth c T h locs cells slots) : meth.locks = false := P.2.2.2.2.2.2.2.1
theorem own_S.hp (P : own_S Z own nm bytes mx rt p l e R s m args below meth c T h locs cells slots) : T.heap = h := P.2.2.2.2.2.2.2.2.1
theorem own_S.nmm (P : own_S Z own nm bytes mx rt p l e R s m args below meth c T h locs cells slots) : meth.name = nm := P.2.2.2.2.2.2.2.2.2
theorem own_S.move (P : own_S Z own nm bytes mx rt p l e R s m args below meth c T h locs cells slots) {T' : State} {h' : Heap} {locs' : List Loc} {cells' slots' : Nat} (X : Stand p l e R s m args below meth c T' locs' cells' slots') (eh : T'.heap = h') : own_S Z own nm bytes mx rt p l e R s m args below meth c T' h' locs' cells' slots' :=
  ⟨X, P.2.1, P.2.2.1, P.2.2.2.1, P.2.2.2.2.1, P.2.2.2.2.2.1, P.2.2.2.2.2.2.1, P.2.2.2.2.2.2.2.1, eh, P.2.2.2.2.2.2.2.2.2⟩
theorem own_st {S S' : State} (h : ∀ t, Steps p.tables e below S' t → Steps p.tables e below S t) (k : own_Go p e below K S') : own_Go p e below K S := by
  obtain ⟨t, o, h1, h2⟩ := k
  exact ⟨t, o, h t h1, h2⟩

theorem own_iadd (P : own_S Z own nm bytes mx rt p l e R s m args below meth c T h locs cells slots) {x y : Int32} (hd : decode bytes pc = .ok (.iadd, 1)) (hp : pc + 1 = pc')
    (k : own_Go p e below K (T.setTop (mkF m pc' Ls (.int (x + y) :: rest)))) : own_Go p e below K (T.setTop (mkF m pc Ls (.int y :: .int x :: rest))) := by
  subst hp
  exact own_st (fun t k => XS.iadd P.st.here P.ex rfl (P.cd hd) rfl k) k
theorem own_isub (P : own_S Z own nm bytes mx rt p l e R s m args below meth c T h locs cells slots) {x y : Int32} (hd : decode bytes pc = .ok (.isub, 1)) (hp : pc + 1 = pc')
    (k : own_Go p e below K (T.setTop (mkF m pc' Ls (.int (x - y) :: rest)))) : own_Go p e below K (T.setTop (mkF m pc Ls (.int y :: .int x :: rest))) := by
  subst hp
  exact own_st (fun t k => XS.isub P.st.here P.ex rfl (P.cd hd) rfl k) k
theorem own_imul (P : own_S Z own nm bytes mx rt p l e R s m args below meth c T h locs cells slots) {x y : Int32} (hd : decode bytes pc = .ok (.imul, 1)) (hp : pc + 1 = pc')
    (k : own_Go p e below K (T.setTop (mkF m pc' Ls (.int (x * y) :: rest)))) : own_Go p e below K (T.setTop (mkF m pc Ls (.int y :: .int x :: rest))) := by
  subst hp
  exact own_st (fun t k => XS.imul P.st.here P.ex rfl (P.cd hd) rfl k) k
theorem own_iand (P : own_S Z own nm bytes mx rt p l e R s m args below meth c T h locs cells slots) {x y : Int32} (hd : decode bytes pc = .ok (.iand, 1)) (hp : pc + 1 = pc')
    (k : own_Go p e below K (T.setTop (mkF m pc' Ls (.int (x &&& y) :: rest)))) : own_Go p e below K (T.setTop (mkF m pc Ls (.int y :: .int x :: rest))) := by
  subst hp
  exact own_st (fun t k => XS.iand P.st.here P.ex rfl (P.cd hd) rfl k) k
theorem own_ior (P : own_S Z own nm bytes mx rt p l e R s m args below meth c T h locs cells slots) {x y : Int32} (hd : decode bytes pc = .ok (.ior, 1)) (hp : pc + 1 = pc')
    (k : own_Go p e below K (T.setTop (mkF m pc' Ls (.int (x ||| y) :: rest)))) : own_Go p e below K (T.setTop (mkF m pc Ls (.int y :: .int x :: rest))) := by
  subst hp
  exact own_st (fun t k => XS.ior P.st.here P.ex rfl (P.cd hd) rfl k) k
theorem own_ixor (P : own_S Z own nm bytes mx rt p l e R s m args below meth c T h locs cells slots) {x y : Int32} (hd : decode bytes pc = .ok (.ixor, 1)) (hp : pc + 1 = pc')
    (k : own_Go p e below K (T.setTop (mkF m pc' Ls (.int (x ^^^ y) :: rest)))) : own_Go p e below K (T.setTop (mkF m pc Ls (.int y :: .int x :: rest))) := by
  subst hp
  exact own_st (fun t k => XS.ixor P.st.here P.ex rfl (P.cd hd) rfl k) k
theorem own_idiv (P : own_S Z own nm bytes mx rt p l e R s m args below meth c T h locs cells slots) {x y : Int32} (hd : decode bytes pc = .ok (.idiv, 1)) (hp : pc + 1 = pc') (hy : y ≠ 0)
    (k : own_Go p e below K (T.setTop (mkF m pc' Ls (.int (x / y) :: rest)))) : own_Go p e below K (T.setTop (mkF m pc Ls (.int y :: .int x :: rest))) := by
  subst hp
  exact own_st (fun t k => XS.idiv P.st.here P.ex rfl (P.cd hd) rfl hy k) k
theorem own_irem (P : own_S Z own nm bytes mx rt p l e R s m args below meth c T h locs cells slots) {x y : Int32} (hd : decode bytes pc = .ok (.irem, 1)) (hp : pc + 1 = pc') (hy : y ≠ 0)
    (k : own_Go p e below K (T.setTop (mkF m pc' Ls (.int (x - (x / y) * y) :: rest)))) : own_Go p e below K (T.setTop (mkF m pc Ls (.int y :: .int x :: rest))) := by
  subst hp
  exact own_st (fun t k => XS.irem P.st.here P.ex rfl (P.cd hd) rfl hy k) k
theorem own_ladd (P : own_S Z own nm bytes mx rt p l e R s m args below meth c T h locs cells slots) {x y : Int64} (hd : decode bytes pc = .ok (.ladd, 1)) (hp : pc + 1 = pc')
    (k : own_Go p e below K (T.setTop (mkF m pc' Ls (.long (x + y) :: rest)))) : own_Go p e below K (T.setTop (mkF m pc Ls (.long y :: .long x :: rest))) := by
  subst hp
  exact own_st (fun t k => XS.ladd P.st.here P.ex rfl (P.cd hd) rfl k) k
theorem own_lsub (P : own_S Z own nm bytes mx rt p l e R s m args below meth c T h locs cells slots) {x y : Int64} (hd : decode bytes pc = .ok (.lsub, 1)) (hp : pc + 1 = pc')
    (k : own_Go p e below K (T.setTop (mkF m pc' Ls (.long (x - y) :: rest)))) : own_Go p e below K (T.setTop (mkF m pc Ls (.long y :: .long x :: rest))) := by
  subst hp
  exact own_st (fun t k => XS.lsub P.st.here P.ex rfl (P.cd hd) rfl k) k
theorem own_lmul (P : own_S Z own nm bytes mx rt p l e R s m args below meth c T h locs cells slots) {x y : Int64} (hd : decode bytes pc = .ok (.lmul, 1)) (hp : pc + 1 = pc')
    (k : own_Go p e below K (T.setTop (mkF m pc' Ls (.long (x * y) :: rest)))) : own_Go p e below K (T.setTop (mkF m pc Ls (.long y :: .long x :: rest))) := by
  subst hp
  exact own_st (fun t k => XS.lmul P.st.here P.ex rfl (P.cd hd) rfl k) k
theorem own_land (P : own_S Z own nm bytes mx rt p l e R s m args below meth c T h locs cells slots) {x y : Int64} (hd : decode bytes pc = .ok (.land, 1)) (hp : pc + 1 = pc')
    (k : own_Go p e below K (T.setTop (mkF m pc' Ls (.long (x &&& y) :: rest)))) : own_Go p e below K (T.setTop (mkF m pc Ls (.long y :: .long x :: rest))) := by
  subst hp
  exact own_st (fun t k => XS.land P.st.here P.ex rfl (P.cd hd) rfl k) k
theorem own_lor (P : own_S Z own nm bytes mx rt p l e R s m args below meth c T h locs cells slots) {x y : Int64} (hd : decode bytes pc = .ok (.lor, 1)) (hp : pc + 1 = pc')
    (k : own_Go p e below K (T.setTop (mkF m pc' Ls (.long (x ||| y) :: rest)))) : own_Go p e below K (T.setTop (mkF m pc Ls (.long y :: .long x :: rest))) := by
  subst hp
  exact own_st (fun t k => XS.lor P.st.here P.ex rfl (P.cd hd) rfl k) k
theorem own_lxor (P : own_S Z own nm bytes mx rt p l e R s m args below meth c T h locs cells slots) {x y : Int64} (hd : decode bytes pc = .ok (.lxor, 1)) (hp : pc + 1 = pc')
    (k : own_Go p e below K (T.setTop (mkF m pc' Ls (.long (x ^^^ y) :: rest)))) : own_Go p e below K (T.setTop (mkF m pc Ls (.long y :: .long x :: rest))) := by
  subst hp
  exact own_st (fun t k => XS.lxor P.st.here P.ex rfl (P.cd hd) rfl k) k
theorem own_ldiv (P : own_S Z own nm bytes mx rt p l e R s m args below meth c T h locs cells slots) {x y : Int64} (hd : decode bytes pc = .ok (.ldiv, 1)) (hp : pc + 1 = pc') (hy : y ≠ 0)
    (k : own_Go p e below K (T.setTop (mkF m pc' Ls (.long (x / y) :: rest)))) : own_Go p e below K (T.setTop (mkF m pc Ls (.long y :: .long x :: rest))) := by
  subst hp
  exact own_st (fun t k => XS.ldiv P.st.here P.ex rfl (P.cd hd) rfl hy k) k
theorem own_lrem (P : own_S Z own nm bytes mx rt p l e R s m args below meth c T h locs cells slots) {x y : Int64} (hd : decode bytes pc = .ok (.lrem, 1)) (hp : pc + 1 = pc') (hy : y ≠ 0)
    (k : own_Go p e below K (T.setTop (mkF m pc' Ls (.long (x - (x / y) * y) :: rest)))) : own_Go p e below K (T.setTop (mkF m pc Ls (.long y :: .long x :: rest))) := by
  subst hp
  exact own_st (fun t k => XS.lrem P.st.here P.ex rfl (P.cd hd) rfl hy k) k
theorem own_ishl (P : own_S Z own nm bytes mx rt p l e R s m args below meth c T h locs cells slots) {x y : Int32} (hd : decode bytes pc = .ok (.ishl, 1)) (hp : pc + 1 = pc')
    (k : own_Go p e below K (T.setTop (mkF m pc' Ls (.int (x <<< (y &&& 31)) :: rest)))) : own_Go p e below K (T.setTop (mkF m pc Ls (.int y :: .int x :: rest))) := by
  subst hp
  exact own_st (fun t k => XS.ishl P.st.here P.ex rfl (P.cd hd) rfl k) k
theorem own_ishr (P : own_S Z own nm bytes mx rt p l e R s m args below meth c T h locs cells slots) {x y : Int32} (hd : decode bytes pc = .ok (.ishr, 1)) (hp : pc + 1 = pc')
    (k : own_Go p e below K (T.setTop (mkF m pc' Ls (.int (x >>> (y &&& 31)) :: rest)))) : own_Go p e below K (T.setTop (mkF m pc Ls (.int y :: .int x :: rest))) := by
  subst hp
  exact own_st (fun t k => XS.ishr P.st.here P.ex rfl (P.cd hd) rfl k) k
theorem own_iushr (P : own_S Z own nm bytes mx rt p l e R s m args below meth c T h locs cells slots) {x y : Int32} (hd : decode bytes pc = .ok (.iushr, 1)) (hp : pc + 1 = pc')
    (k : own_Go p e below K (T.setTop (mkF m pc' Ls (.int ((x.toUInt32 >>> (y &&& 31).toUInt32).toInt32) :: rest)))) : own_Go p e below K (T.setTop (mkF m pc Ls (.int y :: .int x :: rest))) := by
  subst hp
  exact own_st (fun t k => XS.iushr P.st.here P.ex rfl (P.cd hd) rfl k) k
theorem own_lshl (P : own_S Z own nm bytes mx rt p l e R s m args below meth c T h locs cells slots) {x : Int64} {y : Int32} (hd : decode bytes pc = .ok (.lshl, 1)) (hp : pc + 1 = pc')
    (k : own_Go p e below K (T.setTop (mkF m pc' Ls (.long (x <<< (y &&& 0x3f).toInt64) :: rest)))) : own_Go p e below K (T.setTop (mkF m pc Ls (.int y :: .long x :: rest))) := by
  subst hp
  exact own_st (fun t k => XS.lshl P.st.here P.ex rfl (P.cd hd) rfl k) k
theorem own_lshr (P : own_S Z own nm bytes mx rt p l e R s m args below meth c T h locs cells slots) {x : Int64} {y : Int32} (hd : decode bytes pc = .ok (.lshr, 1)) (hp : pc + 1 = pc')
    (k : own_Go p e below K (T.setTop (mkF m pc' Ls (.long (x >>> (y &&& 0x3f).toInt64) :: rest)))) : own_Go p e below K (T.setTop (mkF m pc Ls (.int y :: .long x :: rest))) := by
  subst hp
  exact own_st (fun t k => XS.lshr P.st.here P.ex rfl (P.cd hd) rfl k) k
theorem own_lushr (P : own_S Z own nm bytes mx rt p l e R s m args below meth c T h locs cells slots) {x : Int64} {y : Int32} (hd : decode bytes pc = .ok (.lushr, 1)) (hp : pc + 1 = pc')
    (k : own_Go p e below K (T.setTop (mkF m pc' Ls (.long ((x.toUInt64 >>> (y &&& 0x3f).toInt64.toUInt64).toInt64) :: rest)))) : own_Go p e below K (T.setTop (mkF m pc Ls (.int y :: .long x :: rest))) := by
  subst hp
  exact own_st (fun t k => XS.lushr P.st.here P.ex rfl (P.cd hd) rfl k) k
theorem own_i2l (P : own_S Z own nm bytes mx rt p l e R s m args below meth c T h locs cells slots) {x : Int32} (hd : decode bytes pc = .ok (.i2l, 1)) (hp : pc + 1 = pc')
    (k : own_Go p e below K (T.setTop (mkF m pc' Ls (.long (x.toInt64) :: rest)))) : own_Go p e below K (T.setTop (mkF m pc Ls (.int x :: rest))) := by
  subst hp
  exact own_st (fun t k => XS.i2l P.st.here P.ex rfl (P.cd hd) rfl k) k
theorem own_l2i (P : own_S Z own nm bytes mx rt p l e R s m args below meth c T h locs cells slots) {x : Int64} (hd : decode bytes pc = .ok (.l2i, 1)) (hp : pc + 1 = pc')
    (k : own_Go p e below K (T.setTop (mkF m pc' Ls (.int (x.toInt32) :: rest)))) : own_Go p e below K (T.setTop (mkF m pc Ls (.long x :: rest))) := by
  subst hp
  exact own_st (fun t k => XS.l2i P.st.here P.ex rfl (P.cd hd) rfl k) k
theorem own_i2b (P : own_S Z own nm bytes mx rt p l e R s m args below meth c T h locs cells slots) {x : Int32} (hd : decode bytes pc = .ok (.i2b, 1)) (hp : pc + 1 = pc')
    (k : own_Go p e below K (T.setTop (mkF m pc' Ls (.int (x.toInt8.toInt32) :: rest)))) : own_Go p e below K (T.setTop (mkF m pc Ls (.int x :: rest))) := by
  subst hp
  exact own_st (fun t k => XS.i2b P.st.here P.ex rfl (P.cd hd) rfl k) k
theorem own_i2c (P : own_S Z own nm bytes mx rt p l e R s m args below meth c T h locs cells slots) {x : Int32} (hd : decode bytes pc = .ok (.i2c, 1)) (hp : pc + 1 = pc')
    (k : own_Go p e below K (T.setTop (mkF m pc' Ls (.int (x.toUInt32.toUInt16.toUInt32.toInt32) :: rest)))) : own_Go p e below K (T.setTop (mkF m pc Ls (.int x :: rest))) := by
  subst hp
  exact own_st (fun t k => XS.i2c P.st.here P.ex rfl (P.cd hd) rfl k) k
theorem own_i2s (P : own_S Z own nm bytes mx rt p l e R s m args below meth c T h locs cells slots) {x : Int32} (hd : decode bytes pc = .ok (.i2s, 1)) (hp : pc + 1 = pc')
    (k : own_Go p e below K (T.setTop (mkF m pc' Ls (.int (x.toInt16.toInt32) :: rest)))) : own_Go p e below K (T.setTop (mkF m pc Ls (.int x :: rest))) := by
  subst hp
  exact own_st (fun t k => XS.i2s P.st.here P.ex rfl (P.cd hd) rfl k) k
theorem own_lneg (P : own_S Z own nm bytes mx rt p l e R s m args below meth c T h locs cells slots) {x : Int64} (hd : decode bytes pc = .ok (.lneg, 1)) (hp : pc + 1 = pc')
    (k : own_Go p e below K (T.setTop (mkF m pc' Ls (.long (-x) :: rest)))) : own_Go p e below K (T.setTop (mkF m pc Ls (.long x :: rest))) := by
  subst hp
  exact own_st (fun t k => XS.lneg P.st.here P.ex rfl (P.cd hd) rfl k) k
theorem own_ineg (P : own_S Z own nm bytes mx rt p l e R s m args below meth c T h locs cells slots) {x : Int32} (hd : decode bytes pc = .ok (.ineg, 1)) (hp : pc + 1 = pc')
    (k : own_Go p e below K (T.setTop (mkF m pc' Ls (.int (-x) :: rest)))) : own_Go p e below K (T.setTop (mkF m pc Ls (.int x :: rest))) := by
  subst hp
  exact own_st (fun t k => XS.ineg P.st.here P.ex rfl (P.cd hd) rfl k) k
theorem own_iloadN (P : own_S Z own nm bytes mx rt p l e R s m args below meth c T h locs cells slots) {j : Fin 4} {v : Int32} (hd : decode bytes pc = .ok (.iload_n j, 1)) (hp : pc + 1 = pc') (hl : Ls[j.val]? = some (.val (.int v)))
    (k : own_Go p e below K (T.setTop (mkF m pc' Ls (.int v :: rest)))) : own_Go p e below K (T.setTop (mkF m pc Ls rest)) := by
  subst hp
  exact own_st (fun t k => XS.iloadN P.st.here P.ex rfl (P.cd hd) hl k) k
theorem own_iload (P : own_S Z own nm bytes mx rt p l e R s m args below meth c T h locs cells slots) {j : Nat} {v : Int32} (hd : decode bytes pc = .ok (.iload j, 2)) (hp : pc + 2 = pc') (hl : Ls[j]? = some (.val (.int v)))
    (k : own_Go p e below K (T.setTop (mkF m pc' Ls (.int v :: rest)))) : own_Go p e below K (T.setTop (mkF m pc Ls rest)) := by
  subst hp
  exact own_st (fun t k => XS.iload P.st.here P.ex rfl (P.cd hd) hl k) k
theorem own_lloadN (P : own_S Z own nm bytes mx rt p l e R s m args below meth c T h locs cells slots) {j : Fin 4} {v : Int64} (hd : decode bytes pc = .ok (.lload_n j, 1)) (hp : pc + 1 = pc') (hl : Ls[j.val]? = some (.val (.long v)))
    (k : own_Go p e below K (T.setTop (mkF m pc' Ls (.long v :: rest)))) : own_Go p e below K (T.setTop (mkF m pc Ls rest)) := by
  subst hp
  exact own_st (fun t k => XS.lloadN P.st.here P.ex rfl (P.cd hd) hl k) k
theorem own_lload (P : own_S Z own nm bytes mx rt p l e R s m args below meth c T h locs cells slots) {j : Nat} {v : Int64} (hd : decode bytes pc = .ok (.lload j, 2)) (hp : pc + 2 = pc') (hl : Ls[j]? = some (.val (.long v)))
    (k : own_Go p e below K (T.setTop (mkF m pc' Ls (.long v :: rest)))) : own_Go p e below K (T.setTop (mkF m pc Ls rest)) := by
  subst hp
  exact own_st (fun t k => XS.lload P.st.here P.ex rfl (P.cd hd) hl k) k
theorem own_aloadN (P : own_S Z own nm bytes mx rt p l e R s m args below meth c T h locs cells slots) {j : Fin 4} {v : Value} (hd : decode bytes pc = .ok (.aload_n j, 1)) (hp : pc + 1 = pc') (hl : Ls[j.val]? = some (.val v)) (hv : v.isRef = true)
    (k : own_Go p e below K (T.setTop (mkF m pc' Ls (v :: rest)))) : own_Go p e below K (T.setTop (mkF m pc Ls rest)) := by
  subst hp
  exact own_st (fun t k => XS.aloadN P.st.here P.ex rfl (P.cd hd) hl hv k) k
theorem own_aload (P : own_S Z own nm bytes mx rt p l e R s m args below meth c T h locs cells slots) {j : Nat} {v : Value} (hd : decode bytes pc = .ok (.aload j, 2)) (hp : pc + 2 = pc') (hl : Ls[j]? = some (.val v)) (hv : v.isRef = true)
    (k : own_Go p e below K (T.setTop (mkF m pc' Ls (v :: rest)))) : own_Go p e below K (T.setTop (mkF m pc Ls rest)) := by
  subst hp
  exact own_st (fun t k => XS.aload P.st.here P.ex rfl (P.cd hd) hl hv k) k
theorem own_istoreN (P : own_S Z own nm bytes mx rt p l e R s m args below meth c T h locs cells slots) {j : Fin 4} {v : Int32} {Ls' : Array Slot} (hd : decode bytes pc = .ok (.istore_n j, 1)) (hp : pc + 1 = pc') (hl : storeLocals Ls j.val (.int v) = some Ls')
    (k : own_Go p e below K (T.setTop (mkF m pc' Ls' rest))) : own_Go p e below K (T.setTop (mkF m pc Ls (.int v :: rest))) := by
  subst hp
  exact own_st (fun t k => XS.istoreN P.st.here P.ex rfl (P.cd hd) rfl hl k) k
theorem own_istore (P : own_S Z own nm bytes mx rt p l e R s m args below meth c T h locs cells slots) {j : Nat} {v : Int32} {Ls' : Array Slot} (hd : decode bytes pc = .ok (.istore j, 2)) (hp : pc + 2 = pc') (hl : storeLocals Ls j (.int v) = some Ls')
    (k : own_Go p e below K (T.setTop (mkF m pc' Ls' rest))) : own_Go p e below K (T.setTop (mkF m pc Ls (.int v :: rest))) := by
  subst hp
  exact own_st (fun t k => XS.istore P.st.here P.ex rfl (P.cd hd) rfl hl k) k
theorem own_lstoreN (P : own_S Z own nm bytes mx rt p l e R s m args below meth c T h locs cells slots) {j : Fin 4} {v : Int64} {Ls' : Array Slot} (hd : decode bytes pc = .ok (.lstore_n j, 1)) (hp : pc + 1 = pc') (hl : storeLocals Ls j.val (.long v) = some Ls')
    (k : own_Go p e below K (T.setTop (mkF m pc' Ls' rest))) : own_Go p e below K (T.setTop (mkF m pc Ls (.long v :: rest))) := by
  subst hp
  exact own_st (fun t k => XS.lstoreN P.st.here P.ex rfl (P.cd hd) rfl hl k) k
theorem own_lstore (P : own_S Z own nm bytes mx rt p l e R s m args below meth c T h locs cells slots) {j : Nat} {v : Int64} {Ls' : Array Slot} (hd : decode bytes pc = .ok (.lstore j, 2)) (hp : pc + 2 = pc') (hl : storeLocals Ls j (.long v) = some Ls')
    (k : own_Go p e below K (T.setTop (mkF m pc' Ls' rest))) : own_Go p e below K (T.setTop (mkF m pc Ls (.long v :: rest))) := by
  subst hp
  exact own_st (fun t k => XS.lstore P.st.here P.ex rfl (P.cd hd) rfl hl k) k
theorem own_astoreN (P : own_S Z own nm bytes mx rt p l e R s m args below meth c T h locs cells slots) {j : Fin 4} {v : Value} {Ls' : Array Slot} (hd : decode bytes pc = .ok (.astore_n j, 1)) (hp : pc + 1 = pc') (hv : v.isRef = true) (hl : storeLocals Ls j.val v = some Ls')
    (k : own_Go p e below K (T.setTop (mkF m pc' Ls' rest))) : own_Go p e below K (T.setTop (mkF m pc Ls (v :: rest))) := by
  subst hp
  exact own_st (fun t k => XS.astoreN P.st.here P.ex rfl (P.cd hd) rfl hv hl k) k
theorem own_astore (P : own_S Z own nm bytes mx rt p l e R s m args below meth c T h locs cells slots) {j : Nat} {v : Value} {Ls' : Array Slot} (hd : decode bytes pc = .ok (.astore j, 2)) (hp : pc + 2 = pc') (hv : v.isRef = true) (hl : storeLocals Ls j v = some Ls')
    (k : own_Go p e below K (T.setTop (mkF m pc' Ls' rest))) : own_Go p e below K (T.setTop (mkF m pc Ls (v :: rest))) := by
  subst hp
  exact own_st (fun t k => XS.astore P.st.here P.ex rfl (P.cd hd) rfl hv hl k) k
theorem own_iconst (P : own_S Z own nm bytes mx rt p l e R s m args below meth c T h locs cells slots) {i : Int} {v : Int32} (hd : decode bytes pc = .ok (.iconst i, 1)) (hp : pc + 1 = pc') (hv : Int32.ofInt i = v)
    (k : own_Go p e below K (T.setTop (mkF m pc' Ls (.int v :: rest)))) : own_Go p e below K (T.setTop (mkF m pc Ls rest)) := by
  subst hp
  exact own_st (fun t k => XS.iconst P.st.here P.ex rfl (P.cd hd) (by rw [hv]; exact k)) k
theorem own_bipush (P : own_S Z own nm bytes mx rt p l e R s m args below meth c T h locs cells slots) {i : Int} {v : Int32} (hd : decode bytes pc = .ok (.bipush i, 2)) (hp : pc + 2 = pc') (hv : (Int8.ofInt i).toInt32 = v)
    (k : own_Go p e below K (T.setTop (mkF m pc' Ls (.int v :: rest)))) : own_Go p e below K (T.setTop (mkF m pc Ls rest)) := by
  subst hp
  exact own_st (fun t k => XS.bipush P.st.here P.ex rfl (P.cd hd) (by rw [hv]; exact k)) k
theorem own_sipush (P : own_S Z own nm bytes mx rt p l e R s m args below meth c T h locs cells slots) {i : Int} {v : Int32} (hd : decode bytes pc = .ok (.sipush i, 3)) (hp : pc + 3 = pc') (hv : (Int16.ofInt i).toInt32 = v)
    (k : own_Go p e below K (T.setTop (mkF m pc' Ls (.int v :: rest)))) : own_Go p e below K (T.setTop (mkF m pc Ls rest)) := by
  subst hp
  exact own_st (fun t k => XS.sipush P.st.here P.ex rfl (P.cd hd) (by rw [hv]; exact k)) k
theorem own_lconst (P : own_S Z own nm bytes mx rt p l e R s m args below meth c T h locs cells slots) {j : Fin 2} {v : Int64} (hd : decode bytes pc = .ok (.lconst j, 1)) (hp : pc + 1 = pc') (hv : Int64.ofNat j = v)
    (k : own_Go p e below K (T.setTop (mkF m pc' Ls (.long v :: rest)))) : own_Go p e below K (T.setTop (mkF m pc Ls rest)) := by
  subst hp
  exact own_st (fun t k => XS.lconst P.st.here P.ex rfl (P.cd hd) (by rw [hv]; exact k)) k
theorem own_aconstNull (P : own_S Z own nm bytes mx rt p l e R s m args below meth c T h locs cells slots)  (hd : decode bytes pc = .ok (.aconst_null, 1)) (hp : pc + 1 = pc')
    (k : own_Go p e below K (T.setTop (mkF m pc' Ls (.null :: rest)))) : own_Go p e below K (T.setTop (mkF m pc Ls rest)) := by
  subst hp
  exact own_st (fun t k => XS.aconstNull P.st.here P.ex rfl (P.cd hd) k) k
theorem own_iinc (P : own_S Z own nm bytes mx rt p l e R s m args below meth c T h locs cells slots) {j : Nat} {i : Int} {x v : Int32} {Ls' : Array Slot} (hd : decode bytes pc = .ok (.iinc j i, 3)) (hp : pc + 3 = pc') (hl : Ls[j]? = some (.val (.int x))) (hv : Int32.ofInt i = v) (hl' : storeLocals Ls j (.int (x + v)) = some Ls')
    (k : own_Go p e below K (T.setTop (mkF m pc' Ls' rest))) : own_Go p e below K (T.setTop (mkF m pc Ls rest)) := by
  subst hp
  exact own_st (fun t k => XS.iinc P.st.here P.ex rfl (P.cd hd) hl (by rw [hv]; exact hl') k) k
theorem own_dup (P : own_S Z own nm bytes mx rt p l e R s m args below meth c T h locs cells slots) {v : Value} (hd : decode bytes pc = .ok (.dup, 1)) (hp : pc + 1 = pc') (hc : v.category = 1)
    (k : own_Go p e below K (T.setTop (mkF m pc' Ls (v :: v :: rest)))) : own_Go p e below K (T.setTop (mkF m pc Ls (v :: rest))) := by
  subst hp
  exact own_st (fun t k => XS.dup P.st.here P.ex rfl (P.cd hd) rfl hc k) k
theorem own_dupX1 (P : own_S Z own nm bytes mx rt p l e R s m args below meth c T h locs cells slots) {v u : Value} (hd : decode bytes pc = .ok (.dup_x1, 1)) (hp : pc + 1 = pc') (hc : v.category = 1) (hc' : u.category = 1)
    (k : own_Go p e below K (T.setTop (mkF m pc' Ls (v :: u :: v :: rest)))) : own_Go p e below K (T.setTop (mkF m pc Ls (v :: u :: rest))) := by
  subst hp
  exact own_st (fun t k => XS.dupX1 P.st.here P.ex rfl (P.cd hd) rfl hc hc' k) k
theorem own_pop (P : own_S Z own nm bytes mx rt p l e R s m args below meth c T h locs cells slots) {v : Value} (hd : decode bytes pc = .ok (.pop, 1)) (hp : pc + 1 = pc') (hc : v.category = 1)
    (k : own_Go p e below K (T.setTop (mkF m pc' Ls rest))) : own_Go p e below K (T.setTop (mkF m pc Ls (v :: rest))) := by
  subst hp
  exact own_st (fun t k => XS.pop P.st.here P.ex rfl (P.cd hd) rfl hc k) k
theorem own_goto (P : own_S Z own nm bytes mx rt p l e R s m args below meth c T h locs cells slots) {o : Int} (hd : decode bytes pc = .ok (.goto o, 3)) (ho : 0 ≤ (pc : Int) + o) (hp : ((pc : Int) + o).toNat = pc')
    (k : own_Go p e below K (T.setTop (mkF m pc' Ls rest))) : own_Go p e below K (T.setTop (mkF m pc Ls rest)) := own_st (fun t k => XS.goto P.st.here P.ex rfl rfl (P.cd hd) ho hp k) k
/-- what a branch asks of two ints, of two longs -/
def own_ci (cd : ClassFile.Cond) (x y : Int32) : Prop := match cd with | .eq => x = y | .ne => ¬ x = y | .lt => x < y | .ge => ¬ x < y | .gt => y < x | .le => ¬ y < x
def own_cl (cd : ClassFile.Cond) (x y : Int64) : Prop := match cd with | .eq => x = y | .ne => ¬ x = y | .lt => x < y | .ge => ¬ x < y | .gt => y < x | .le => ¬ y < x
theorem own_ciY {cd : ClassFile.Cond} {x y : Int32} (q : own_ci cd x y) : if_icmp.holds cd x y = true := by
  cases cd
  · exact (teq q).1
  · exact (feq q).2
  · exact (tlt q).1
  · exact (flt q).2.1
  · exact (tlt q).2.2.1
  · exact (flt q).2.2.2
theorem own_ciN {cd : ClassFile.Cond} {x y : Int32} (q : ¬ own_ci cd x y) : if_icmp.holds cd x y = false := by
  cases cd
  · exact (feq q).1
  · exact (teq (Classical.not_not.mp q)).2
  · exact (flt q).1
  · exact (tlt (Classical.not_not.mp q)).2.1
  · exact (flt q).2.2.1
  · exact (tlt (Classical.not_not.mp q)).2.2.2
theorem own_clY {cd : ClassFile.Cond} {x y : Int64} (q : own_cl cd x y) : own_ci cd (lcmpW x y) 0 := by
  rw [lcW]
  cases cd
  · exact (lc_eq x y).mpr q
  · exact fun r => q ((lc_eq x y).mp r)
  · exact (lc_lt x y).mpr q
  · exact fun r => q ((lc_lt x y).mp r)
  · exact (lc_gt x y).mpr q
  · exact fun r => q ((lc_gt x y).mp r)
theorem own_clN {cd : ClassFile.Cond} {x y : Int64} (q : ¬ own_cl cd x y) : ¬ own_ci cd (lcmpW x y) 0 := by
  rw [lcW]
  cases cd
  · exact fun r => q ((lc_eq x y).mp r)
  · exact fun r => q fun z => r ((lc_eq x y).mpr z)
  · exact fun r => q ((lc_lt x y).mp r)
  · exact fun r => q fun z => r ((lc_lt x y).mpr z)
  · exact fun r => q ((lc_gt x y).mp r)
  · exact fun r => q fun z => r ((lc_gt x y).mpr z)
theorem own_icmpY (P : own_S Z own nm bytes mx rt p l e R s m args below meth c T h locs cells slots) {cd : ClassFile.Cond} {o : Int} {x y : Int32} (hd : decode bytes pc = .ok (.if_icmp cd o, 3)) (q : own_ci cd x y) (ho : 0 ≤ (pc : Int) + o) (hp : ((pc : Int) + o).toNat = pc')
    (k : own_Go p e below K (T.setTop (mkF m pc' Ls rest))) : own_Go p e below K (T.setTop (mkF m pc Ls (.int y :: .int x :: rest))) := own_st (fun t k => XS.icmpYes P.st.here P.ex rfl rfl (P.cd hd) rfl (own_ciY q) ho hp k) k
theorem own_icmpN (P : own_S Z own nm bytes mx rt p l e R s m args below meth c T h locs cells slots) {cd : ClassFile.Cond} {o : Int} {x y : Int32} (hd : decode bytes pc = .ok (.if_icmp cd o, 3)) (q : ¬ own_ci cd x y) (hp : pc + 3 = pc')
    (k : own_Go p e below K (T.setTop (mkF m pc' Ls rest))) : own_Go p e below K (T.setTop (mkF m pc Ls (.int y :: .int x :: rest))) := by
  subst hp
  exact own_st (fun t k => XS.icmpNo P.st.here P.ex rfl (P.cd hd) rfl (own_ciN q) k) k
theorem own_if0Y (P : own_S Z own nm bytes mx rt p l e R s m args below meth c T h locs cells slots) {cd : ClassFile.Cond} {o : Int} {x : Int32} (hd : decode bytes pc = .ok (.ifCond cd o, 3)) (q : own_ci cd x 0) (ho : 0 ≤ (pc : Int) + o) (hp : ((pc : Int) + o).toNat = pc')
    (k : own_Go p e below K (T.setTop (mkF m pc' Ls rest))) : own_Go p e below K (T.setTop (mkF m pc Ls (.int x :: rest))) := own_st (fun t k => XS.ifYes P.st.here P.ex rfl rfl (P.cd hd) rfl ((if0 _ _).trans (own_ciY q)) ho hp k) k
theorem own_if0N (P : own_S Z own nm bytes mx rt p l e R s m args below meth c T h locs cells slots) {cd : ClassFile.Cond} {o : Int} {x : Int32} (hd : decode bytes pc = .ok (.ifCond cd o, 3)) (q : ¬ own_ci cd x 0) (hp : pc + 3 = pc')
    (k : own_Go p e below K (T.setTop (mkF m pc' Ls rest))) : own_Go p e below K (T.setTop (mkF m pc Ls (.int x :: rest))) := by
  subst hp
  exact own_st (fun t k => XS.ifNo P.st.here P.ex rfl (P.cd hd) rfl ((if0 _ _).trans (own_ciN q)) k) k
theorem own_lcmp (P : own_S Z own nm bytes mx rt p l e R s m args below meth c T h locs cells slots) {x y : Int64} (hd : decode bytes pc = .ok (.lcmp, 1)) (hp : pc + 1 = pc')
    (k : own_Go p e below K (T.setTop (mkF m pc' Ls (.int (lcmpW x y) :: rest)))) : own_Go p e below K (T.setTop (mkF m pc Ls (.long y :: .long x :: rest))) := by
  subst hp
  exact own_st (fun t k => XS.lcmp P.st.here P.ex rfl (P.cd hd) rfl k) k
theorem own_lcY (P : own_S Z own nm bytes mx rt p l e R s m args below meth c T h locs cells slots) {cd : ClassFile.Cond} {o : Int} {x y : Int64} (hd : decode bytes pc = .ok (.lcmp, 1)) (hd2 : decode bytes (pc + 1) = .ok (.ifCond cd o, 3)) (q : own_cl cd x y) (ho : 0 ≤ ((pc + 1 : Nat) : Int) + o) (hp : (((pc + 1 : Nat) : Int) + o).toNat = pc')
    (k : own_Go p e below K (T.setTop (mkF m pc' Ls rest))) : own_Go p e below K (T.setTop (mkF m pc Ls (.long y :: .long x :: rest))) :=
  own_lcmp P hd rfl (own_if0Y P hd2 (own_clY q) ho hp k)
theorem own_lcN (P : own_S Z own nm bytes mx rt p l e R s m args below meth c T h locs cells slots) {cd : ClassFile.Cond} {o : Int} {x y : Int64} (hd : decode bytes pc = .ok (.lcmp, 1)) (hd2 : decode bytes (pc + 1) = .ok (.ifCond cd o, 3)) (q : ¬ own_cl cd x y) (hp : pc + 1 + 3 = pc')
    (k : own_Go p e below K (T.setTop (mkF m pc' Ls rest))) : own_Go p e below K (T.setTop (mkF m pc Ls (.long y :: .long x :: rest))) :=
  own_lcmp P hd rfl (own_if0N P hd2 (own_clN q) hp k)

theorem own_ldc (P : own_S Z own nm bytes mx rt p l e R s m args below meth c T h locs cells slots) {idx : Nat} {v : Int32} (wc : (Cond.constant own idx v).before a0 Z = true) (hd : decode bytes pc = .ok (.ldc idx, 2)) (hp : pc + 2 = pc')
    (k : own_Go p e below K (T.setTop (mkF m pc' Ls (.int v :: rest)))) : own_Go p e below K (T.setTop (mkF m pc Ls rest)) := by
  subst hp
  exact own_st (fun t k => P.st.ldcInt P.ex P.ow (mvT P.wz wc) (g := mkF m pc Ls rest) rfl (P.cd hd) t k) k
theorem own_ldcw (P : own_S Z own nm bytes mx rt p l e R s m args below meth c T h locs cells slots) {idx : Nat} {v : Int32} (wc : (Cond.constant own idx v).before a0 Z = true) (hd : decode bytes pc = .ok (.ldc_w idx, 3)) (hp : pc + 3 = pc')
    (k : own_Go p e below K (T.setTop (mkF m pc' Ls (.int v :: rest)))) : own_Go p e below K (T.setTop (mkF m pc Ls rest)) := by
  subst hp
  exact own_st (fun t k => P.st.ldcwInt P.ex P.ow (mvT P.wz wc) (g := mkF m pc Ls rest) rfl (P.cd hd) t k) k
theorem own_ldc2 (P : own_S Z own nm bytes mx rt p l e R s m args below meth c T h locs cells slots) {idx : Nat} {v : Int64} (wc : (Cond.constantLong own idx v).before a0 Z = true) (hd : decode bytes pc = .ok (.ldc2_w idx, 3)) (hp : pc + 3 = pc')
    (k : own_Go p e below K (T.setTop (mkF m pc' Ls (.long v :: rest)))) : own_Go p e below K (T.setTop (mkF m pc Ls rest)) := by
  subst hp
  exact own_st (fun t k => P.st.ldc2Long P.ex P.ow (mvT P.wz wc) (g := mkF m pc Ls rest) rfl (P.cd hd) t k) k

theorem own_retL {Q : Option Value → Heap → List Loc → Prop} {kc ks : Nat} (P : own_S Z own nm bytes mx (some .long) p l e R s m args below meth c T h locs cells slots) {v : Int64} (hd : decode bytes pc = .ok (.lreturn, 1)) (hc : cells ≤ kc) (hs : slots ≤ ks) (hq : Q (some (.long v)) h locs) :
    own_Go p e below (own_K s Q kc ks) (T.setTop (mkF m pc Ls [(.long v)])) := by
  obtain ⟨X, hx, hby, hml, hown, hZ, hr0, hlk, hh, -⟩ := P
  obtain ⟨fs, hr, hrun, hended, hW, hsame⟩ := X.leave (v := some (.long v)) (fun h => by rw [hr0] at h; cases h) hlk
  refine ⟨_, _, X.lreturnOut hx hr0 (hb hby hd) hr, hrun, hended, _, _, rfl, ?_, ⟨_, rfl⟩, hW, hsame.mono hc hs⟩
  rw [← hh] at hq
  exact hq
theorem own_retI {Q : Option Value → Heap → List Loc → Prop} {kc ks : Nat} (P : own_S Z own nm bytes mx (some .int) p l e R s m args below meth c T h locs cells slots) {v : Int32} (hd : decode bytes pc = .ok (.ireturn, 1)) (hc : cells ≤ kc) (hs : slots ≤ ks) (hq : Q (some (.int v)) h locs) :
    own_Go p e below (own_K s Q kc ks) (T.setTop (mkF m pc Ls [(.int v)])) := by
  obtain ⟨X, hx, hby, hml, hown, hZ, hr0, hlk, hh, -⟩ := P
  obtain ⟨fs, hr, hrun, hended, hW, hsame⟩ := X.leave (v := some (.int v)) (fun h => by rw [hr0] at h; cases h) hlk
  refine ⟨_, _, retI X hx hr0 (hb hby hd) hr, hrun, hended, _, _, rfl, ?_, ⟨_, rfl⟩, hW, hsame.mono hc hs⟩
  rw [← hh] at hq
  exact hq
theorem own_retZ {Q : Option Value → Heap → List Loc → Prop} {kc ks : Nat} (P : own_S Z own nm bytes mx (some .boolean) p l e R s m args below meth c T h locs cells slots) {v z : Int32} (hd : decode bytes pc = .ok (.ireturn, 1)) (hz : nar .boolean v = z) (hc : cells ≤ kc) (hs : slots ≤ ks) (hq : Q (some (.int z)) h locs) :
    own_Go p e below (own_K s Q kc ks) (T.setTop (mkF m pc Ls [(.int v)])) := by
  obtain ⟨X, hx, hby, hml, hown, hZ, hr0, hlk, hh, -⟩ := P
  obtain ⟨fs, hr, hrun, hended, hW, hsame⟩ := X.leave (v := some (.int z)) (fun h => by rw [hr0] at h; cases h) hlk
  refine ⟨_, _, retN X hx (t := .boolean) hr0 (by simp) (hb hby hd) (by rw [hz]; exact hr), hrun, hended, _, _, rfl, ?_, ⟨_, rfl⟩, hW, hsame.mono hc hs⟩
  rw [← hh] at hq
  exact hq
theorem own_retV {Q : Option Value → Heap → List Loc → Prop} {kc ks : Nat} (P : own_S Z own nm bytes mx none p l e R s m args below meth c T h locs cells slots) (hd : decode bytes pc = .ok (.return_, 1)) (hc : cells ≤ kc) (hs : slots ≤ ks) (hq : Q none h locs) :
    own_Go p e below (own_K s Q kc ks) (T.setTop (mkF m pc Ls [])) := by
  obtain ⟨X, hx, hby, hml, hown, hZ, hr0, hlk, hh, -⟩ := P
  obtain ⟨fs, hr, hrun, hended, hW, hsame⟩ := X.leave (v := none) (fun _ => rfl) hlk
  refine ⟨_, _, X.returnOut hx hr0 (hb hby hd) hr, hrun, hended, _, _, rfl, ?_, ⟨_, rfl⟩, hW, hsame.mono hc hs⟩
  rw [← hh] at hq
  exact hq
/-- a method's contract: from these arguments and this heap it returns as Q says -/
def own_Con (l : Launch) (Z : State) (y : MethodName) (bytes : ByteArray) (mx : Nat) (rt : Option FieldType) (ws : List Jvm.Cond) (rm : Room) (as' : Array Value) (h : Heap) (Q : Option Value → Heap → List Loc → Prop) : Prop :=
  MetFree l y (head1 (Jvm.Cond.code y bytes mx rt :: ws) rm) (fun a U => a = as' ∧ Z.Warmed39 U.vm ∧ U.heap = h) (fun _ _ _ _ _ => True) (fun _ U o U' => ∃ v L, o = .returned v ∧ Q v U'.heap L ∧ FrameEnd U o U' L rm.cells rm.slots)
/-- it returned v, wrote nothing and made nothing -/
def own_P (v : Option Value) (h : Heap) (v' : Option Value) (h' : Heap) (L : List Loc) : Prop := v' = v ∧ L = [] ∧ h' = h
theorem own_enter {y : MethodName} {ws : List Jvm.Cond} {rm : Room} {as' : Array Value} {Q : Option Value → Heap → List Loc → Prop} (hpl : plainFor y = true) (Ls : Array Slot) (hef : ∀ m, entryFrame m as' mx = mkF m 0 Ls [])
    (body : ∀ (p : Program) (e : Env) (s : State) (m : MethodId) (below : List Frame) (meth : Method) (c : Code) (T : State), own_S Z y.cls y.name bytes mx rt p l e rm s m as' below meth c T h [] 0 0 → own_Go p e below (own_K s Q rm.cells rm.slots) (T.setTop (mkF m 0 Ls []))) :
    own_Con l Z y bytes mx rt ws rm as' h Q := by
  refine MetFree.of_bodySF hpl hisR ?_
  intro p e s m args below meth c s₁ Bd hml0 hP hK
  obtain ⟨rfl, hZ, hh⟩ := hP
  have e0 : s₁.heap = h := by rw [← hh, Bd.state]; rfl
  obtain ⟨t, o, h1, h2, h3, v, L, ho, hq, hf⟩ := body p e s m below meth c s₁ ⟨Stand.of_body Bd, Bd.exec, Bd.bytes, hml0, findClass_of_methodNamed Bd.named, hZ, Bd.returns, BodyLoose.notSynchronized Bd, e0, (name_of_methodNamed Bd.named Bd.method).1⟩
  exact ⟨t, o, castTop (hef m) h1, h2, h3, v, L, ho, hq, hf⟩
theorem own_callQ (P : own_S Z own nm bytes mx rt p l e R s m args below meth c T h locs cells slots) {idx : Nat} {y : MethodName} {by' : ByteArray} {mx' : Nat} {rt' : Option FieldType} {rm : Room} {Q : Option Value → Heap → List Loc → Prop} {argsL st : List Value} {ps : List FieldType} {rr : Option FieldType}
    (wl : (Cond.methodLink own idx y).before a0 Z = true) (wt : (Cond.static y).before a0 Z = true) (wi : (Cond.initialized y.cls).before a0 Z = true) (wc : (Cond.code y by' mx' rt').before a0 Z = true) (hy : y.cls ≠ "java/lang/invoke/MethodHandle" ∧ y.cls ≠ "java/lang/invoke/VarHandle")
    (hM : own_Con l Z y by' mx' rt' [] rm argsL.toArray h Q) (hd : decode bytes pc = .ok (.invokestatic idx, 3)) (hp : pc + 3 = pc') (hdes : parseMethodDescriptor y.desc = some ⟨ps, rr⟩) (hlen : argsL.length = ps.length) (hsz : Ls.size = mx) (hst : st = argsL.reverse ++ rest)
    (hf : rm.frames + 1 ≤ R.frames) (W : Nat) (hW : (rest.map fun v => v.category).sum = W) (hl : W + (mx' + 11) + rm.locals ≤ R.locals) (hc : cells + rm.cells ≤ R.cells) (hs : slots + rm.slots ≤ R.slots)
    (k : ∀ T' h' v L, Q v h' L → own_S Z own nm bytes mx rt p l e R s m args below meth c T' h' (locs ++ L) (cells + rm.cells) (slots + rm.slots) → own_Go p e below K (T'.setTop (mkF m pc' Ls (v.toList ++ rest)))) :
    own_Go p e below K (T.setTop (mkF m pc Ls st)) := by
  subst hp
  obtain ⟨v, _, ⟨T3, L3, k3, n3⟩, -, X3, ⟨Lc3, hQ3, l3, y3, z3⟩, st3⟩ := Jvm.LawKit.callS P.st P.ex (y := y) P.ow (mvT P.wz wl) (mvT P.wz wt) (mvT P.wz wi) (mvT P.wz wc) hy (backOf (W := W) hM P.wz wc wi hf hl) (g := (mkF m pc Ls st)) rfl (by rw [P.ml]; exact hsz) (argsL := argsL) (rest := rest) (lenOf hdes hlen) hst (by show 2 * 0 + _ ≤ _; rw [hW]; exact Nat.le_of_eq (by simp)) (P.cd hd) (fun _ _ => ⟨rfl, P.hp, hc, hs⟩)
  dsimp only [Pt.U, Pt.locs, Pt.cells, Pt.slots] at X3 l3 y3 z3 st3 hQ3
  subst l3 y3 z3
  exact own_st st3 (k T3 T3.heap v Lc3 hQ3 (P.move X3 rfl))
theorem own_callP (P : own_S Z own nm bytes mx rt p l e R s m args below meth c T h locs cells slots) {idx : Nat} {y : MethodName} {by' : ByteArray} {mx' : Nat} {rt' : Option FieldType} {rm : Room} {v : Option Value} {argsL st : List Value} {ps : List FieldType} {rr : Option FieldType}
    (wl : (Cond.methodLink own idx y).before a0 Z = true) (wt : (Cond.static y).before a0 Z = true) (wi : (Cond.initialized y.cls).before a0 Z = true) (wc : (Cond.code y by' mx' rt').before a0 Z = true) (hy : y.cls ≠ "java/lang/invoke/MethodHandle" ∧ y.cls ≠ "java/lang/invoke/VarHandle")
    (hM : own_Con l Z y by' mx' rt' [] rm argsL.toArray h (own_P v h)) (hd : decode bytes pc = .ok (.invokestatic idx, 3)) (hp : pc + 3 = pc') (hdes : parseMethodDescriptor y.desc = some ⟨ps, rr⟩) (hlen : argsL.length = ps.length) (hsz : Ls.size = mx) (hst : st = argsL.reverse ++ rest)
    (hf : rm.frames + 1 ≤ R.frames) (W : Nat) (hW : (rest.map fun v => v.category).sum = W) (hl : W + (mx' + 11) + rm.locals ≤ R.locals) (hc : rm.cells = 0) (hs : rm.slots = 0) (hcc : cells ≤ R.cells) (hss : slots ≤ R.slots)
    (k : ∀ T', own_S Z own nm bytes mx rt p l e R s m args below meth c T' h locs cells slots → own_Go p e below K (T'.setTop (mkF m pc' Ls (v.toList ++ rest)))) :
    own_Go p e below K (T.setTop (mkF m pc Ls st)) := by
  refine own_callQ P wl wt wi wc hy hM hd hp hdes hlen hsz hst hf W hW hl (by rw [hc]; exact hcc) (by rw [hs]; exact hss) fun T' h' v' L hQ P' => ?_
  obtain ⟨rfl, rfl, rfl⟩ := hQ
  rw [hc, hs, List.append_nil] at P'
  exact k T' P'
def own_One (s : Slot) : Prop := s = .unset ∨ ∃ w : Value, s = .val w ∧ w.category = 1
theorem own_conMono {y : MethodName} {ws : List Jvm.Cond} {rm : Room} {as' : Array Value} {Q Q' : Option Value → Heap → List Loc → Prop} (q : own_Con l Z y bytes mx rt ws rm as' h Q) (f : ∀ v h' L, Q v h' L → Q' v h' L) : own_Con l Z y bytes mx rt ws rm as' h Q' := by
  intro p e ha hc hk s m args below hf happ hP hK
  obtain ⟨n, o, h1, h2, h3, v, L, h4, h5, h6⟩ := q p e ha hc hk s m args below hf happ hP hK
  exact ⟨n, o, h1, h2, h3, v, L, h4, f _ _ _ h5, h6⟩
theorem own_S.mono (P : own_S Z own nm bytes mx rt p l e R s m args below meth c T h locs cells slots) {cells' slots' : Nat} (hc : cells ≤ cells') (hs : slots ≤ slots') : own_S Z own nm bytes mx rt p l e R s m args below meth c T h locs cells' slots' :=
  P.move { P.st with same := P.st.same.mono hc hs } P.hp
end OwnBase

theorem d1_0 : decode method_2_code 0 = .ok (.lload_n 0, 1) := by decide +kernel
theorem d1_1 : decode method_2_code 1 = .ok (.bipush 8, 2) := by decide +kernel
theorem d1_3 : decode method_2_code 3 = .ok (.iload_n 2, 1) := by decide +kernel
theorem d1_4 : decode method_2_code 4 = .ok (.imul, 1) := by decide +kernel
theorem d1_5 : decode method_2_code 5 = .ok (.lushr, 1) := by decide +kernel
theorem d1_6 : decode method_2_code 6 = .ok (.ldc2_w 7, 3) := by decide +kernel
theorem d1_9 : decode method_2_code 9 = .ok (.land, 1) := by decide +kernel
theorem d1_10 : decode method_2_code 10 = .ok (.ldc2_w 9, 3) := by decide +kernel
theorem d1_13 : decode method_2_code 13 = .ok (.lrem, 1) := by decide +kernel
theorem d1_14 : decode method_2_code 14 = .ok (.lreturn, 1) := by decide +kernel
def F1_0 (j0 : Int64) (i2 : Int32) : Int64 := ((((j0.toUInt64 >>> (((8 : Int32) * i2) &&& 0x3f).toInt64.toUInt64).toInt64) &&& (255 : Int64)) - (((j0.toUInt64 >>> (((8 : Int32) * i2) &&& 0x3f).toInt64.toUInt64).toInt64) &&& (255 : Int64)) / (10 : Int64) * (10 : Int64))
set_option maxRecDepth 65536 in
set_option maxHeartbeats 40000000 in
theorem b1_0 {p : Program} {l : Launch} {e : Env} {s : State} {m : MethodId} {args : Array Value} {below : List Frame} {meth : Method} {c : Code} {T : State} {h : Heap} {Z : State} {a0 : Array Value} {Q : Option Value → Heap → List Loc → Prop} (hw : ∀ d ∈ tables_1, d.before a0 Z = true) (j0 : Int64) (i2 : Int32) (P : own_S Z "com/example/ilmarinen/ilmarinen/EightBytesNumberPinLaw" "digit" method_2_code 3 (some .long) p l e ({ frames := 0, cells := 0, slots := 0, locals := 0 } : Room) s m args below meth c T h [] 0 0) (hQ : Q (some (.long (F1_0 j0 i2))) h []) :
    own_Go p e below (own_K s Q 0 0) (T.setTop (mkF m 0 #[.val (.long j0), .second, .val (.int i2)] [])) := by
  unfold F1_0 at hQ
  refine own_lloadN P d1_0 rfl rfl ?_
  refine own_bipush P d1_1 rfl (v := (8 : Int32)) rfl ?_
  refine own_iloadN P d1_3 rfl rfl ?_
  refine own_imul P d1_4 rfl ?_
  refine own_lushr P d1_5 rfl ?_
  refine own_ldc2 P (v := (255 : Int64)) (hw _ (List.mem_of_getElem? (i := 4) rfl)) d1_6 rfl ?_
  refine own_land P d1_9 rfl ?_
  refine own_ldc2 P (v := (10 : Int64)) (hw _ (List.mem_of_getElem? (i := 5) rfl)) d1_10 rfl ?_
  refine own_lrem P d1_13 rfl (by decide) ?_
  exact own_retL P d1_14 (by decide) (by decide) hQ
theorem own_pn0 : plainName "com/example/ilmarinen/ilmarinen/EightBytesNumberPinLaw" = true := by first | (simp [plainName, overriddenIn]; done) | decide +kernel
theorem rm1 (l : Launch) (Z : State) (a0 : Array Value) (hw : ∀ d ∈ tables_1, d.before a0 Z = true) (j0 : Int64) (i2 : Int32) (h : Heap) :
    own_Con l Z (⟨"com/example/ilmarinen/ilmarinen/EightBytesNumberPinLaw", "digit", "(JI)J"⟩ : MethodName) method_2_code 3 (some .long) [] ({ frames := 0, cells := 0, slots := 0, locals := 0 } : Room) #[(.long j0), (.int i2)] h (own_P (some (.long (F1_0 j0 i2))) h) :=
  own_enter (plainFor_of_name own_pn0) #[.val (.long j0), .second, .val (.int i2)] (fun m => by first | (simp [entryFrame, mkF, argsToLocals, Value.category]; done) | rfl) (fun p e s m below meth c T P => b1_0 hw j0 i2 P ⟨rfl, rfl, rfl⟩)
theorem d2_0 : decode method_3_code 0 = .ok (.ldc2_w 11, 3) := by decide +kernel
theorem d2_3 : decode method_3_code 3 = .ok (.lload_n 0, 1) := by decide +kernel
theorem d2_4 : decode method_3_code 4 = .ok (.ladd, 1) := by decide +kernel
theorem d2_5 : decode method_3_code 5 = .ok (.bipush 8, 2) := by decide +kernel
theorem d2_7 : decode method_3_code 7 = .ok (.iload_n 2, 1) := by decide +kernel
theorem d2_8 : decode method_3_code 8 = .ok (.imul, 1) := by decide +kernel
theorem d2_9 : decode method_3_code 9 = .ok (.lshl, 1) := by decide +kernel
theorem d2_10 : decode method_3_code 10 = .ok (.lreturn, 1) := by decide +kernel
def F2_0 (j0 : Int64) (i2 : Int32) : Int64 := (((48 : Int64) + j0) <<< (((8 : Int32) * i2) &&& 0x3f).toInt64)
set_option maxRecDepth 65536 in
set_option maxHeartbeats 40000000 in
theorem b2_0 {p : Program} {l : Launch} {e : Env} {s : State} {m : MethodId} {args : Array Value} {below : List Frame} {meth : Method} {c : Code} {T : State} {h : Heap} {Z : State} {a0 : Array Value} {Q : Option Value → Heap → List Loc → Prop} (hw : ∀ d ∈ tables_1, d.before a0 Z = true) (j0 : Int64) (i2 : Int32) (P : own_S Z "com/example/ilmarinen/ilmarinen/EightBytesNumberPinLaw" "place" method_3_code 3 (some .long) p l e ({ frames := 0, cells := 0, slots := 0, locals := 0 } : Room) s m args below meth c T h [] 0 0) (hQ : Q (some (.long (F2_0 j0 i2))) h []) :
    own_Go p e below (own_K s Q 0 0) (T.setTop (mkF m 0 #[.val (.long j0), .second, .val (.int i2)] [])) := by
  unfold F2_0 at hQ
  refine own_ldc2 P (v := (48 : Int64)) (hw _ (List.mem_of_getElem? (i := 9) rfl)) d2_0 rfl ?_
  refine own_lloadN P d2_3 rfl rfl ?_
  refine own_ladd P d2_4 rfl ?_
  refine own_bipush P d2_5 rfl (v := (8 : Int32)) rfl ?_
  refine own_iloadN P d2_7 rfl rfl ?_
  refine own_imul P d2_8 rfl ?_
  refine own_lshl P d2_9 rfl ?_
  exact own_retL P d2_10 (by decide) (by decide) hQ
theorem rm2 (l : Launch) (Z : State) (a0 : Array Value) (hw : ∀ d ∈ tables_1, d.before a0 Z = true) (j0 : Int64) (i2 : Int32) (h : Heap) :
    own_Con l Z (⟨"com/example/ilmarinen/ilmarinen/EightBytesNumberPinLaw", "place", "(JI)J"⟩ : MethodName) method_3_code 3 (some .long) [] ({ frames := 0, cells := 0, slots := 0, locals := 0 } : Room) #[(.long j0), (.int i2)] h (own_P (some (.long (F2_0 j0 i2))) h) :=
  own_enter (plainFor_of_name own_pn0) #[.val (.long j0), .second, .val (.int i2)] (fun m => by first | (simp [entryFrame, mkF, argsToLocals, Value.category]; done) | rfl) (fun p e s m below meth c T P => b2_0 hw j0 i2 P ⟨rfl, rfl, rfl⟩)
theorem d3_0 : decode prog_16_method_9_code 0 = .ok (.lload_n 0, 1) := by decide +kernel
theorem d3_1 : decode prog_16_method_9_code 1 = .ok (.ldc2_w 39, 3) := by decide +kernel
theorem d3_4 : decode prog_16_method_9_code 4 = .ok (.lsub, 1) := by decide +kernel
theorem d3_5 : decode prog_16_method_9_code 5 = .ok (.lstore_n 2, 1) := by decide +kernel
theorem d3_6 : decode prog_16_method_9_code 6 = .ok (.lload_n 2, 1) := by decide +kernel
theorem d3_7 : decode prog_16_method_9_code 7 = .ok (.ldc2_w 53, 3) := by decide +kernel
theorem d3_10 : decode prog_16_method_9_code 10 = .ok (.lmul, 1) := by decide +kernel
theorem d3_11 : decode prog_16_method_9_code 11 = .ok (.lload_n 2, 1) := by decide +kernel
theorem d3_12 : decode prog_16_method_9_code 12 = .ok (.bipush 8, 2) := by decide +kernel
theorem d3_14 : decode prog_16_method_9_code 14 = .ok (.lushr, 1) := by decide +kernel
theorem d3_15 : decode prog_16_method_9_code 15 = .ok (.ladd, 1) := by decide +kernel
theorem d3_16 : decode prog_16_method_9_code 16 = .ok (.ldc2_w 58, 3) := by decide +kernel
theorem d3_19 : decode prog_16_method_9_code 19 = .ok (.land, 1) := by decide +kernel
theorem d3_20 : decode prog_16_method_9_code 20 = .ok (.lstore 4, 2) := by decide +kernel
theorem d3_22 : decode prog_16_method_9_code 22 = .ok (.lload 4, 2) := by decide +kernel
theorem d3_24 : decode prog_16_method_9_code 24 = .ok (.ldc2_w 47, 3) := by decide +kernel
theorem d3_27 : decode prog_16_method_9_code 27 = .ok (.lmul, 1) := by decide +kernel
theorem d3_28 : decode prog_16_method_9_code 28 = .ok (.lload 4, 2) := by decide +kernel
theorem d3_30 : decode prog_16_method_9_code 30 = .ok (.bipush 16, 2) := by decide +kernel
theorem d3_32 : decode prog_16_method_9_code 32 = .ok (.lushr, 1) := by decide +kernel
theorem d3_33 : decode prog_16_method_9_code 33 = .ok (.ladd, 1) := by decide +kernel
theorem d3_34 : decode prog_16_method_9_code 34 = .ok (.ldc2_w 60, 3) := by decide +kernel
theorem d3_37 : decode prog_16_method_9_code 37 = .ok (.land, 1) := by decide +kernel
theorem d3_38 : decode prog_16_method_9_code 38 = .ok (.lstore 6, 2) := by decide +kernel
theorem d3_40 : decode prog_16_method_9_code 40 = .ok (.lload 6, 2) := by decide +kernel
theorem d3_42 : decode prog_16_method_9_code 42 = .ok (.ldc2_w 62, 3) := by decide +kernel
theorem d3_45 : decode prog_16_method_9_code 45 = .ok (.lmul, 1) := by decide +kernel
theorem d3_46 : decode prog_16_method_9_code 46 = .ok (.lload 6, 2) := by decide +kernel
theorem d3_48 : decode prog_16_method_9_code 48 = .ok (.bipush 32, 2) := by decide +kernel
theorem d3_50 : decode prog_16_method_9_code 50 = .ok (.lushr, 1) := by decide +kernel
theorem d3_51 : decode prog_16_method_9_code 51 = .ok (.ladd, 1) := by decide +kernel
theorem d3_52 : decode prog_16_method_9_code 52 = .ok (.ldc2_w 64, 3) := by decide +kernel
theorem d3_55 : decode prog_16_method_9_code 55 = .ok (.land, 1) := by decide +kernel
theorem d3_56 : decode prog_16_method_9_code 56 = .ok (.lreturn, 1) := by decide +kernel
def F3_40 (j6 : Int64) : Int64 := (((j6 * (10000 : Int64)) + ((j6.toUInt64 >>> ((32 : Int32) &&& 0x3f).toInt64.toUInt64).toInt64)) &&& (4294967295 : Int64))
set_option maxRecDepth 65536 in
set_option maxHeartbeats 40000000 in
theorem b3_40 {p : Program} {l : Launch} {e : Env} {s : State} {m : MethodId} {args : Array Value} {below : List Frame} {meth : Method} {c : Code} {T : State} {h : Heap} {Z : State} {a0 : Array Value} {Q : Option Value → Heap → List Loc → Prop} (hw : ∀ d ∈ tables_1, d.before a0 Z = true) (j0 : Int64) (j2 : Int64) (j4 : Int64) (j6 : Int64) (P : own_S Z "com/example/ilmarinen/ilmarinen/EightBytes" "number" prog_16_method_9_code 8 (some .long) p l e ({ frames := 0, cells := 0, slots := 0, locals := 0 } : Room) s m args below meth c T h [] 0 0) (hQ : Q (some (.long (F3_40 j6))) h []) :
    own_Go p e below (own_K s Q 0 0) (T.setTop (mkF m 40 #[.val (.long j0), .second, .val (.long j2), .second, .val (.long j4), .second, .val (.long j6), .second] [])) := by
  unfold F3_40 at hQ
  refine own_lload P d3_40 rfl rfl ?_
  refine own_ldc2 P (v := (10000 : Int64)) (hw _ (List.mem_of_getElem? (i := 19) rfl)) d3_42 rfl ?_
  refine own_lmul P d3_45 rfl ?_
  refine own_lload P d3_46 rfl rfl ?_
  refine own_bipush P d3_48 rfl (v := (32 : Int32)) rfl ?_
  refine own_lushr P d3_50 rfl ?_
  refine own_ladd P d3_51 rfl ?_
  refine own_ldc2 P (v := (4294967295 : Int64)) (hw _ (List.mem_of_getElem? (i := 20) rfl)) d3_52 rfl ?_
  refine own_land P d3_55 rfl ?_
  exact own_retL P d3_56 (by decide) (by decide) hQ
def F3_22 (j4 : Int64) : Int64 := (F3_40 (((j4 * (100 : Int64)) + ((j4.toUInt64 >>> ((16 : Int32) &&& 0x3f).toInt64.toUInt64).toInt64)) &&& (281470681808895 : Int64)))
set_option maxRecDepth 65536 in
set_option maxHeartbeats 40000000 in
theorem b3_22 {p : Program} {l : Launch} {e : Env} {s : State} {m : MethodId} {args : Array Value} {below : List Frame} {meth : Method} {c : Code} {T : State} {h : Heap} {Z : State} {a0 : Array Value} {Q : Option Value → Heap → List Loc → Prop} (hw : ∀ d ∈ tables_1, d.before a0 Z = true) (j0 : Int64) (j2 : Int64) (j4 : Int64) (P : own_S Z "com/example/ilmarinen/ilmarinen/EightBytes" "number" prog_16_method_9_code 8 (some .long) p l e ({ frames := 0, cells := 0, slots := 0, locals := 0 } : Room) s m args below meth c T h [] 0 0) (hQ : Q (some (.long (F3_22 j4))) h []) :
    own_Go p e below (own_K s Q 0 0) (T.setTop (mkF m 22 #[.val (.long j0), .second, .val (.long j2), .second, .val (.long j4), .second, .unset, .unset] [])) := by
  unfold F3_22 at hQ
  refine own_lload P d3_22 rfl rfl ?_
  refine own_ldc2 P (v := (100 : Int64)) (hw _ (List.mem_of_getElem? (i := 17) rfl)) d3_24 rfl ?_
  refine own_lmul P d3_27 rfl ?_
  refine own_lload P d3_28 rfl rfl ?_
  refine own_bipush P d3_30 rfl (v := (16 : Int32)) rfl ?_
  refine own_lushr P d3_32 rfl ?_
  refine own_ladd P d3_33 rfl ?_
  refine own_ldc2 P (v := (281470681808895 : Int64)) (hw _ (List.mem_of_getElem? (i := 18) rfl)) d3_34 rfl ?_
  refine own_land P d3_37 rfl ?_
  refine own_lstore P d3_38 rfl (Ls' := #[.val (.long j0), .second, .val (.long j2), .second, .val (.long j4), .second, .val (.long (((j4 * (100 : Int64)) + ((j4.toUInt64 >>> ((16 : Int32) &&& 0x3f).toInt64.toUInt64).toInt64)) &&& (281470681808895 : Int64))), .second]) rfl ?_
  exact b3_40 hw j0 j2 j4 (((j4 * (100 : Int64)) + ((j4.toUInt64 >>> ((16 : Int32) &&& 0x3f).toInt64.toUInt64).toInt64)) &&& (281470681808895 : Int64)) P hQ
def F3_6 (j2 : Int64) : Int64 := (F3_22 (((j2 * (10 : Int64)) + ((j2.toUInt64 >>> ((8 : Int32) &&& 0x3f).toInt64.toUInt64).toInt64)) &&& (71777214294589695 : Int64)))
set_option maxRecDepth 65536 in
set_option maxHeartbeats 40000000 in
theorem b3_6 {p : Program} {l : Launch} {e : Env} {s : State} {m : MethodId} {args : Array Value} {below : List Frame} {meth : Method} {c : Code} {T : State} {h : Heap} {Z : State} {a0 : Array Value} {Q : Option Value → Heap → List Loc → Prop} (hw : ∀ d ∈ tables_1, d.before a0 Z = true) (j0 : Int64) (j2 : Int64) (P : own_S Z "com/example/ilmarinen/ilmarinen/EightBytes" "number" prog_16_method_9_code 8 (some .long) p l e ({ frames := 0, cells := 0, slots := 0, locals := 0 } : Room) s m args below meth c T h [] 0 0) (hQ : Q (some (.long (F3_6 j2))) h []) :
    own_Go p e below (own_K s Q 0 0) (T.setTop (mkF m 6 #[.val (.long j0), .second, .val (.long j2), .second, .unset, .unset, .unset, .unset] [])) := by
  unfold F3_6 at hQ
  refine own_lloadN P d3_6 rfl rfl ?_
  refine own_ldc2 P (v := (10 : Int64)) (hw _ (List.mem_of_getElem? (i := 15) rfl)) d3_7 rfl ?_
  refine own_lmul P d3_10 rfl ?_
  refine own_lloadN P d3_11 rfl rfl ?_
  refine own_bipush P d3_12 rfl (v := (8 : Int32)) rfl ?_
  refine own_lushr P d3_14 rfl ?_
  refine own_ladd P d3_15 rfl ?_
  refine own_ldc2 P (v := (71777214294589695 : Int64)) (hw _ (List.mem_of_getElem? (i := 16) rfl)) d3_16 rfl ?_
  refine own_land P d3_19 rfl ?_
  refine own_lstore P d3_20 rfl (Ls' := #[.val (.long j0), .second, .val (.long j2), .second, .val (.long (((j2 * (10 : Int64)) + ((j2.toUInt64 >>> ((8 : Int32) &&& 0x3f).toInt64.toUInt64).toInt64)) &&& (71777214294589695 : Int64))), .second, .unset, .unset]) rfl ?_
  exact b3_22 hw j0 j2 (((j2 * (10 : Int64)) + ((j2.toUInt64 >>> ((8 : Int32) &&& 0x3f).toInt64.toUInt64).toInt64)) &&& (71777214294589695 : Int64)) P hQ
def F3_0 (j0 : Int64) : Int64 := (F3_6 (j0 - (3472328296227680304 : Int64)))
set_option maxRecDepth 65536 in
set_option maxHeartbeats 40000000 in
theorem b3_0 {p : Program} {l : Launch} {e : Env} {s : State} {m : MethodId} {args : Array Value} {below : List Frame} {meth : Method} {c : Code} {T : State} {h : Heap} {Z : State} {a0 : Array Value} {Q : Option Value → Heap → List Loc → Prop} (hw : ∀ d ∈ tables_1, d.before a0 Z = true) (j0 : Int64) (P : own_S Z "com/example/ilmarinen/ilmarinen/EightBytes" "number" prog_16_method_9_code 8 (some .long) p l e ({ frames := 0, cells := 0, slots := 0, locals := 0 } : Room) s m args below meth c T h [] 0 0) (hQ : Q (some (.long (F3_0 j0))) h []) :
    own_Go p e below (own_K s Q 0 0) (T.setTop (mkF m 0 #[.val (.long j0), .second, .unset, .unset, .unset, .unset, .unset, .unset] [])) := by
  unfold F3_0 at hQ
  refine own_lloadN P d3_0 rfl rfl ?_
  refine own_ldc2 P (v := (3472328296227680304 : Int64)) (hw _ (List.mem_of_getElem? (i := 14) rfl)) d3_1 rfl ?_
  refine own_lsub P d3_4 rfl ?_
  refine own_lstoreN P d3_5 rfl (Ls' := #[.val (.long j0), .second, .val (.long (j0 - (3472328296227680304 : Int64))), .second, .unset, .unset, .unset, .unset]) rfl ?_
  exact b3_6 hw j0 (j0 - (3472328296227680304 : Int64)) P hQ
theorem own_pn1 : plainName "com/example/ilmarinen/ilmarinen/EightBytes" = true := by first | (simp [plainName, overriddenIn]; done) | decide +kernel
theorem rm3 (l : Launch) (Z : State) (a0 : Array Value) (hw : ∀ d ∈ tables_1, d.before a0 Z = true) (j0 : Int64) (h : Heap) :
    own_Con l Z (⟨"com/example/ilmarinen/ilmarinen/EightBytes", "number", "(J)J"⟩ : MethodName) prog_16_method_9_code 8 (some .long) [] ({ frames := 0, cells := 0, slots := 0, locals := 0 } : Room) #[(.long j0)] h (own_P (some (.long (F3_0 j0))) h) :=
  own_enter (plainFor_of_name own_pn1) #[.val (.long j0), .second, .unset, .unset, .unset, .unset, .unset, .unset] (fun m => by first | (simp [entryFrame, mkF, argsToLocals, Value.category]; done) | rfl) (fun p e s m below meth c T P => b3_0 hw j0 P ⟨rfl, rfl, rfl⟩)
theorem own_pd0 : parseMethodDescriptor "(JI)J" = some ⟨[.long, .int], some .long⟩ := by decide +kernel
theorem own_pd1 : parseMethodDescriptor "(J)J" = some ⟨[.long], some .long⟩ := by decide +kernel
def F0_167 (j18 : Int64) (j20 : Int64) : Int32 := (if (F3_0 j18) = j20 then (1 : Int32) else (0 : Int32))
set_option maxRecDepth 65536 in
set_option maxHeartbeats 40000000 in
theorem b0_167 {p : Program} {l : Launch} {e : Env} {s : State} {m : MethodId} {args : Array Value} {below : List Frame} {meth : Method} {c : Code} {T : State} {h : Heap} {Z : State} {a0 : Array Value} {Q : Option Value → Heap → List Loc → Prop} (hw : ∀ d ∈ tables_1, d.before a0 Z = true) (j0 : Int64) (j2 : Int64) (j4 : Int64) (j6 : Int64) (j8 : Int64) (j10 : Int64) (j12 : Int64) (j14 : Int64) (j16 : Int64) (j18 : Int64) (j20 : Int64) (P : own_S Z "com/example/ilmarinen/ilmarinen/EightBytesNumberPinLaw" "law" code 22 (some .boolean) p l e room_1 s m args below meth c T h [] 0 0) (hQ : Q (some (.int (F0_167 j18 j20))) h []) :
    own_Go p e below (own_K s Q room_1.cells room_1.slots) (T.setTop (mkF m 167 #[.val (.long j0), .second, .val (.long j2), .second, .val (.long j4), .second, .val (.long j6), .second, .val (.long j8), .second, .val (.long j10), .second, .val (.long j12), .second, .val (.long j14), .second, .val (.long j16), .second, .val (.long j18), .second, .val (.long j20), .second] [])) := by
  unfold F0_167 at hQ
  refine own_lload P at_167 rfl rfl ?_
  refine own_callP P (hw _ (List.mem_of_getElem? (i := 10) rfl)) (hw _ (List.mem_of_getElem? (i := 11) rfl)) (hw _ (List.mem_of_getElem? (i := 12) rfl)) (hw _ (List.mem_of_getElem? (i := 13) rfl)) (by decide) (argsL := [(.long j18)]) (rest := []) (rm3 l Z a0 hw j18 h) at_169 rfl own_pd1 rfl rfl rfl (by decide) 0 rfl (by decide) rfl rfl (by decide) (by decide) (fun T34 P33 => ?_)
  show own_Go p e below _ (T34.setTop (mkF m 172 #[.val (.long j0), .second, .val (.long j2), .second, .val (.long j4), .second, .val (.long j6), .second, .val (.long j8), .second, .val (.long j10), .second, .val (.long j12), .second, .val (.long j14), .second, .val (.long j16), .second, .val (.long j18), .second, .val (.long j20), .second] [(.long (F3_0 j18))]))
  refine own_lload P33 at_172 rfl rfl ?_
  by_cases hc35 : (F3_0 j18) = j20
  · rw [if_pos hc35] at hQ
    refine own_lcN P33 (pc' := 178) at_174 at_175 (not_not_intro hc35) rfl ?_
    refine own_iconst P33 at_178 rfl (v := (1 : Int32)) rfl ?_
    refine own_goto P33 (pc' := 183) at_179 (by decide) (by decide) ?_
    exact own_retZ P33 at_183 (z := (1 : Int32)) rfl (by decide) (by decide) hQ
  · rw [if_neg hc35] at hQ
    refine own_lcY P33 (pc' := 182) at_174 at_175 hc35 (by decide) (by decide) ?_
    refine own_iconst P33 at_182 rfl (v := (0 : Int32)) rfl ?_
    exact own_retZ P33 at_183 (z := (0 : Int32)) rfl (by decide) (by decide) hQ
def F0_115 (j2 : Int64) (j4 : Int64) (j6 : Int64) (j8 : Int64) (j10 : Int64) (j12 : Int64) (j14 : Int64) (j16 : Int64) (j18 : Int64) : Int32 := (F0_167 j18 ((((((((((((((j2 * (10 : Int64)) + j4) * (10 : Int64)) + j6) * (10 : Int64)) + j8) * (10 : Int64)) + j10) * (10 : Int64)) + j12) * (10 : Int64)) + j14) * (10 : Int64)) + j16))
set_option maxRecDepth 65536 in
set_option maxHeartbeats 40000000 in
theorem b0_115 {p : Program} {l : Launch} {e : Env} {s : State} {m : MethodId} {args : Array Value} {below : List Frame} {meth : Method} {c : Code} {T : State} {h : Heap} {Z : State} {a0 : Array Value} {Q : Option Value → Heap → List Loc → Prop} (hw : ∀ d ∈ tables_1, d.before a0 Z = true) (j0 : Int64) (j2 : Int64) (j4 : Int64) (j6 : Int64) (j8 : Int64) (j10 : Int64) (j12 : Int64) (j14 : Int64) (j16 : Int64) (j18 : Int64) (P : own_S Z "com/example/ilmarinen/ilmarinen/EightBytesNumberPinLaw" "law" code 22 (some .boolean) p l e room_1 s m args below meth c T h [] 0 0) (hQ : Q (some (.int (F0_115 j2 j4 j6 j8 j10 j12 j14 j16 j18))) h []) :
    own_Go p e below (own_K s Q room_1.cells room_1.slots) (T.setTop (mkF m 115 #[.val (.long j0), .second, .val (.long j2), .second, .val (.long j4), .second, .val (.long j6), .second, .val (.long j8), .second, .val (.long j10), .second, .val (.long j12), .second, .val (.long j14), .second, .val (.long j16), .second, .val (.long j18), .second, .unset, .unset] [])) := by
  unfold F0_115 at hQ
  refine own_lloadN P at_115 rfl rfl ?_
  refine own_ldc2 P (v := (10 : Int64)) (hw _ (List.mem_of_getElem? (i := 5) rfl)) at_116 rfl ?_
  refine own_lmul P at_119 rfl ?_
  refine own_lload P at_120 rfl rfl ?_
  refine own_ladd P at_122 rfl ?_
  refine own_ldc2 P (v := (10 : Int64)) (hw _ (List.mem_of_getElem? (i := 5) rfl)) at_123 rfl ?_
  refine own_lmul P at_126 rfl ?_
  refine own_lload P at_127 rfl rfl ?_
  refine own_ladd P at_129 rfl ?_
  refine own_ldc2 P (v := (10 : Int64)) (hw _ (List.mem_of_getElem? (i := 5) rfl)) at_130 rfl ?_
  refine own_lmul P at_133 rfl ?_
  refine own_lload P at_134 rfl rfl ?_
  refine own_ladd P at_136 rfl ?_
  refine own_ldc2 P (v := (10 : Int64)) (hw _ (List.mem_of_getElem? (i := 5) rfl)) at_137 rfl ?_
  refine own_lmul P at_140 rfl ?_
  refine own_lload P at_141 rfl rfl ?_
  refine own_ladd P at_143 rfl ?_
  refine own_ldc2 P (v := (10 : Int64)) (hw _ (List.mem_of_getElem? (i := 5) rfl)) at_144 rfl ?_
  refine own_lmul P at_147 rfl ?_
  refine own_lload P at_148 rfl rfl ?_
  refine own_ladd P at_150 rfl ?_
  refine own_ldc2 P (v := (10 : Int64)) (hw _ (List.mem_of_getElem? (i := 5) rfl)) at_151 rfl ?_
  refine own_lmul P at_154 rfl ?_
  refine own_lload P at_155 rfl rfl ?_
  refine own_ladd P at_157 rfl ?_
  refine own_ldc2 P (v := (10 : Int64)) (hw _ (List.mem_of_getElem? (i := 5) rfl)) at_158 rfl ?_
  refine own_lmul P at_161 rfl ?_
  refine own_lload P at_162 rfl rfl ?_
  refine own_ladd P at_164 rfl ?_
  refine own_lstore P at_165 rfl (Ls' := #[.val (.long j0), .second, .val (.long j2), .second, .val (.long j4), .second, .val (.long j6), .second, .val (.long j8), .second, .val (.long j10), .second, .val (.long j12), .second, .val (.long j14), .second, .val (.long j16), .second, .val (.long j18), .second, .val (.long ((((((((((((((j2 * (10 : Int64)) + j4) * (10 : Int64)) + j6) * (10 : Int64)) + j8) * (10 : Int64)) + j10) * (10 : Int64)) + j12) * (10 : Int64)) + j14) * (10 : Int64)) + j16)), .second]) rfl ?_
  exact b0_167 hw j0 j2 j4 j6 j8 j10 j12 j14 j16 j18 ((((((((((((((j2 * (10 : Int64)) + j4) * (10 : Int64)) + j6) * (10 : Int64)) + j8) * (10 : Int64)) + j10) * (10 : Int64)) + j12) * (10 : Int64)) + j14) * (10 : Int64)) + j16) P hQ
def F0_57 (j2 : Int64) (j4 : Int64) (j6 : Int64) (j8 : Int64) (j10 : Int64) (j12 : Int64) (j14 : Int64) (j16 : Int64) : Int32 := (F0_115 j2 j4 j6 j8 j10 j12 j14 j16 ((((((((F2_0 j2 (0 : Int32)) ||| (F2_0 j4 (1 : Int32))) ||| (F2_0 j6 (2 : Int32))) ||| (F2_0 j8 (3 : Int32))) ||| (F2_0 j10 (4 : Int32))) ||| (F2_0 j12 (5 : Int32))) ||| (F2_0 j14 (6 : Int32))) ||| (F2_0 j16 (7 : Int32))))
set_option maxRecDepth 65536 in
set_option maxHeartbeats 40000000 in
theorem b0_57 {p : Program} {l : Launch} {e : Env} {s : State} {m : MethodId} {args : Array Value} {below : List Frame} {meth : Method} {c : Code} {T : State} {h : Heap} {Z : State} {a0 : Array Value} {Q : Option Value → Heap → List Loc → Prop} (hw : ∀ d ∈ tables_1, d.before a0 Z = true) (j0 : Int64) (j2 : Int64) (j4 : Int64) (j6 : Int64) (j8 : Int64) (j10 : Int64) (j12 : Int64) (j14 : Int64) (j16 : Int64) (P : own_S Z "com/example/ilmarinen/ilmarinen/EightBytesNumberPinLaw" "law" code 22 (some .boolean) p l e room_1 s m args below meth c T h [] 0 0) (hQ : Q (some (.int (F0_57 j2 j4 j6 j8 j10 j12 j14 j16))) h []) :
    own_Go p e below (own_K s Q room_1.cells room_1.slots) (T.setTop (mkF m 57 #[.val (.long j0), .second, .val (.long j2), .second, .val (.long j4), .second, .val (.long j6), .second, .val (.long j8), .second, .val (.long j10), .second, .val (.long j12), .second, .val (.long j14), .second, .val (.long j16), .second, .unset, .unset, .unset, .unset] [])) := by
  unfold F0_57 at hQ
  refine own_lloadN P at_57 rfl rfl ?_
  refine own_iconst P at_58 rfl (v := (0 : Int32)) rfl ?_
  refine own_callP P (hw _ (List.mem_of_getElem? (i := 6) rfl)) (hw _ (List.mem_of_getElem? (i := 7) rfl)) (hw _ (List.mem_of_getElem? (i := 2) rfl)) (hw _ (List.mem_of_getElem? (i := 8) rfl)) (by decide) (argsL := [(.long j2), (.int (0 : Int32))]) (rest := []) (rm2 l Z a0 hw j2 (0 : Int32) h) at_59 rfl own_pd0 rfl rfl rfl (by decide) 0 rfl (by decide) rfl rfl (by decide) (by decide) (fun T18 P17 => ?_)
  show own_Go p e below _ (T18.setTop (mkF m 62 #[.val (.long j0), .second, .val (.long j2), .second, .val (.long j4), .second, .val (.long j6), .second, .val (.long j8), .second, .val (.long j10), .second, .val (.long j12), .second, .val (.long j14), .second, .val (.long j16), .second, .unset, .unset, .unset, .unset] [(.long (F2_0 j2 (0 : Int32)))]))
  refine own_lload P17 at_62 rfl rfl ?_
  refine own_iconst P17 at_64 rfl (v := (1 : Int32)) rfl ?_
  refine own_callP P17 (hw _ (List.mem_of_getElem? (i := 6) rfl)) (hw _ (List.mem_of_getElem? (i := 7) rfl)) (hw _ (List.mem_of_getElem? (i := 2) rfl)) (hw _ (List.mem_of_getElem? (i := 8) rfl)) (by decide) (argsL := [(.long j4), (.int (1 : Int32))]) (rest := [(.long (F2_0 j2 (0 : Int32)))]) (rm2 l Z a0 hw j4 (1 : Int32) h) at_65 rfl own_pd0 rfl rfl rfl (by decide) 2 rfl (by decide) rfl rfl (by decide) (by decide) (fun T20 P19 => ?_)
  show own_Go p e below _ (T20.setTop (mkF m 68 #[.val (.long j0), .second, .val (.long j2), .second, .val (.long j4), .second, .val (.long j6), .second, .val (.long j8), .second, .val (.long j10), .second, .val (.long j12), .second, .val (.long j14), .second, .val (.long j16), .second, .unset, .unset, .unset, .unset] [(.long (F2_0 j4 (1 : Int32))), (.long (F2_0 j2 (0 : Int32)))]))
  refine own_lor P19 at_68 rfl ?_
  refine own_lload P19 at_69 rfl rfl ?_
  refine own_iconst P19 at_71 rfl (v := (2 : Int32)) rfl ?_
  refine own_callP P19 (hw _ (List.mem_of_getElem? (i := 6) rfl)) (hw _ (List.mem_of_getElem? (i := 7) rfl)) (hw _ (List.mem_of_getElem? (i := 2) rfl)) (hw _ (List.mem_of_getElem? (i := 8) rfl)) (by decide) (argsL := [(.long j6), (.int (2 : Int32))]) (rest := [(.long ((F2_0 j2 (0 : Int32)) ||| (F2_0 j4 (1 : Int32))))]) (rm2 l Z a0 hw j6 (2 : Int32) h) at_72 rfl own_pd0 rfl rfl rfl (by decide) 2 rfl (by decide) rfl rfl (by decide) (by decide) (fun T22 P21 => ?_)
  show own_Go p e below _ (T22.setTop (mkF m 75 #[.val (.long j0), .second, .val (.long j2), .second, .val (.long j4), .second, .val (.long j6), .second, .val (.long j8), .second, .val (.long j10), .second, .val (.long j12), .second, .val (.long j14), .second, .val (.long j16), .second, .unset, .unset, .unset, .unset] [(.long (F2_0 j6 (2 : Int32))), (.long ((F2_0 j2 (0 : Int32)) ||| (F2_0 j4 (1 : Int32))))]))
  refine own_lor P21 at_75 rfl ?_
  refine own_lload P21 at_76 rfl rfl ?_
  refine own_iconst P21 at_78 rfl (v := (3 : Int32)) rfl ?_
  refine own_callP P21 (hw _ (List.mem_of_getElem? (i := 6) rfl)) (hw _ (List.mem_of_getElem? (i := 7) rfl)) (hw _ (List.mem_of_getElem? (i := 2) rfl)) (hw _ (List.mem_of_getElem? (i := 8) rfl)) (by decide) (argsL := [(.long j8), (.int (3 : Int32))]) (rest := [(.long (((F2_0 j2 (0 : Int32)) ||| (F2_0 j4 (1 : Int32))) ||| (F2_0 j6 (2 : Int32))))]) (rm2 l Z a0 hw j8 (3 : Int32) h) at_79 rfl own_pd0 rfl rfl rfl (by decide) 2 rfl (by decide) rfl rfl (by decide) (by decide) (fun T24 P23 => ?_)
  show own_Go p e below _ (T24.setTop (mkF m 82 #[.val (.long j0), .second, .val (.long j2), .second, .val (.long j4), .second, .val (.long j6), .second, .val (.long j8), .second, .val (.long j10), .second, .val (.long j12), .second, .val (.long j14), .second, .val (.long j16), .second, .unset, .unset, .unset, .unset] [(.long (F2_0 j8 (3 : Int32))), (.long (((F2_0 j2 (0 : Int32)) ||| (F2_0 j4 (1 : Int32))) ||| (F2_0 j6 (2 : Int32))))]))
  refine own_lor P23 at_82 rfl ?_
  refine own_lload P23 at_83 rfl rfl ?_
  refine own_iconst P23 at_85 rfl (v := (4 : Int32)) rfl ?_
  refine own_callP P23 (hw _ (List.mem_of_getElem? (i := 6) rfl)) (hw _ (List.mem_of_getElem? (i := 7) rfl)) (hw _ (List.mem_of_getElem? (i := 2) rfl)) (hw _ (List.mem_of_getElem? (i := 8) rfl)) (by decide) (argsL := [(.long j10), (.int (4 : Int32))]) (rest := [(.long ((((F2_0 j2 (0 : Int32)) ||| (F2_0 j4 (1 : Int32))) ||| (F2_0 j6 (2 : Int32))) ||| (F2_0 j8 (3 : Int32))))]) (rm2 l Z a0 hw j10 (4 : Int32) h) at_86 rfl own_pd0 rfl rfl rfl (by decide) 2 rfl (by decide) rfl rfl (by decide) (by decide) (fun T26 P25 => ?_)
  show own_Go p e below _ (T26.setTop (mkF m 89 #[.val (.long j0), .second, .val (.long j2), .second, .val (.long j4), .second, .val (.long j6), .second, .val (.long j8), .second, .val (.long j10), .second, .val (.long j12), .second, .val (.long j14), .second, .val (.long j16), .second, .unset, .unset, .unset, .unset] [(.long (F2_0 j10 (4 : Int32))), (.long ((((F2_0 j2 (0 : Int32)) ||| (F2_0 j4 (1 : Int32))) ||| (F2_0 j6 (2 : Int32))) ||| (F2_0 j8 (3 : Int32))))]))
  refine own_lor P25 at_89 rfl ?_
  refine own_lload P25 at_90 rfl rfl ?_
  refine own_iconst P25 at_92 rfl (v := (5 : Int32)) rfl ?_
  refine own_callP P25 (hw _ (List.mem_of_getElem? (i := 6) rfl)) (hw _ (List.mem_of_getElem? (i := 7) rfl)) (hw _ (List.mem_of_getElem? (i := 2) rfl)) (hw _ (List.mem_of_getElem? (i := 8) rfl)) (by decide) (argsL := [(.long j12), (.int (5 : Int32))]) (rest := [(.long (((((F2_0 j2 (0 : Int32)) ||| (F2_0 j4 (1 : Int32))) ||| (F2_0 j6 (2 : Int32))) ||| (F2_0 j8 (3 : Int32))) ||| (F2_0 j10 (4 : Int32))))]) (rm2 l Z a0 hw j12 (5 : Int32) h) at_93 rfl own_pd0 rfl rfl rfl (by decide) 2 rfl (by decide) rfl rfl (by decide) (by decide) (fun T28 P27 => ?_)
  show own_Go p e below _ (T28.setTop (mkF m 96 #[.val (.long j0), .second, .val (.long j2), .second, .val (.long j4), .second, .val (.long j6), .second, .val (.long j8), .second, .val (.long j10), .second, .val (.long j12), .second, .val (.long j14), .second, .val (.long j16), .second, .unset, .unset, .unset, .unset] [(.long (F2_0 j12 (5 : Int32))), (.long (((((F2_0 j2 (0 : Int32)) ||| (F2_0 j4 (1 : Int32))) ||| (F2_0 j6 (2 : Int32))) ||| (F2_0 j8 (3 : Int32))) ||| (F2_0 j10 (4 : Int32))))]))
  refine own_lor P27 at_96 rfl ?_
  refine own_lload P27 at_97 rfl rfl ?_
  refine own_bipush P27 at_99 rfl (v := (6 : Int32)) rfl ?_
  refine own_callP P27 (hw _ (List.mem_of_getElem? (i := 6) rfl)) (hw _ (List.mem_of_getElem? (i := 7) rfl)) (hw _ (List.mem_of_getElem? (i := 2) rfl)) (hw _ (List.mem_of_getElem? (i := 8) rfl)) (by decide) (argsL := [(.long j14), (.int (6 : Int32))]) (rest := [(.long ((((((F2_0 j2 (0 : Int32)) ||| (F2_0 j4 (1 : Int32))) ||| (F2_0 j6 (2 : Int32))) ||| (F2_0 j8 (3 : Int32))) ||| (F2_0 j10 (4 : Int32))) ||| (F2_0 j12 (5 : Int32))))]) (rm2 l Z a0 hw j14 (6 : Int32) h) at_101 rfl own_pd0 rfl rfl rfl (by decide) 2 rfl (by decide) rfl rfl (by decide) (by decide) (fun T30 P29 => ?_)
  show own_Go p e below _ (T30.setTop (mkF m 104 #[.val (.long j0), .second, .val (.long j2), .second, .val (.long j4), .second, .val (.long j6), .second, .val (.long j8), .second, .val (.long j10), .second, .val (.long j12), .second, .val (.long j14), .second, .val (.long j16), .second, .unset, .unset, .unset, .unset] [(.long (F2_0 j14 (6 : Int32))), (.long ((((((F2_0 j2 (0 : Int32)) ||| (F2_0 j4 (1 : Int32))) ||| (F2_0 j6 (2 : Int32))) ||| (F2_0 j8 (3 : Int32))) ||| (F2_0 j10 (4 : Int32))) ||| (F2_0 j12 (5 : Int32))))]))
  refine own_lor P29 at_104 rfl ?_
  refine own_lload P29 at_105 rfl rfl ?_
  refine own_bipush P29 at_107 rfl (v := (7 : Int32)) rfl ?_
  refine own_callP P29 (hw _ (List.mem_of_getElem? (i := 6) rfl)) (hw _ (List.mem_of_getElem? (i := 7) rfl)) (hw _ (List.mem_of_getElem? (i := 2) rfl)) (hw _ (List.mem_of_getElem? (i := 8) rfl)) (by decide) (argsL := [(.long j16), (.int (7 : Int32))]) (rest := [(.long (((((((F2_0 j2 (0 : Int32)) ||| (F2_0 j4 (1 : Int32))) ||| (F2_0 j6 (2 : Int32))) ||| (F2_0 j8 (3 : Int32))) ||| (F2_0 j10 (4 : Int32))) ||| (F2_0 j12 (5 : Int32))) ||| (F2_0 j14 (6 : Int32))))]) (rm2 l Z a0 hw j16 (7 : Int32) h) at_109 rfl own_pd0 rfl rfl rfl (by decide) 2 rfl (by decide) rfl rfl (by decide) (by decide) (fun T32 P31 => ?_)
  show own_Go p e below _ (T32.setTop (mkF m 112 #[.val (.long j0), .second, .val (.long j2), .second, .val (.long j4), .second, .val (.long j6), .second, .val (.long j8), .second, .val (.long j10), .second, .val (.long j12), .second, .val (.long j14), .second, .val (.long j16), .second, .unset, .unset, .unset, .unset] [(.long (F2_0 j16 (7 : Int32))), (.long (((((((F2_0 j2 (0 : Int32)) ||| (F2_0 j4 (1 : Int32))) ||| (F2_0 j6 (2 : Int32))) ||| (F2_0 j8 (3 : Int32))) ||| (F2_0 j10 (4 : Int32))) ||| (F2_0 j12 (5 : Int32))) ||| (F2_0 j14 (6 : Int32))))]))
  refine own_lor P31 at_112 rfl ?_
  refine own_lstore P31 at_113 rfl (Ls' := #[.val (.long j0), .second, .val (.long j2), .second, .val (.long j4), .second, .val (.long j6), .second, .val (.long j8), .second, .val (.long j10), .second, .val (.long j12), .second, .val (.long j14), .second, .val (.long j16), .second, .val (.long ((((((((F2_0 j2 (0 : Int32)) ||| (F2_0 j4 (1 : Int32))) ||| (F2_0 j6 (2 : Int32))) ||| (F2_0 j8 (3 : Int32))) ||| (F2_0 j10 (4 : Int32))) ||| (F2_0 j12 (5 : Int32))) ||| (F2_0 j14 (6 : Int32))) ||| (F2_0 j16 (7 : Int32)))), .second, .unset, .unset]) rfl ?_
  exact b0_115 hw j0 j2 j4 j6 j8 j10 j12 j14 j16 ((((((((F2_0 j2 (0 : Int32)) ||| (F2_0 j4 (1 : Int32))) ||| (F2_0 j6 (2 : Int32))) ||| (F2_0 j8 (3 : Int32))) ||| (F2_0 j10 (4 : Int32))) ||| (F2_0 j12 (5 : Int32))) ||| (F2_0 j14 (6 : Int32))) ||| (F2_0 j16 (7 : Int32))) P31 hQ
def F0_0 (j0 : Int64) : Int32 := (F0_57 (F1_0 j0 (0 : Int32)) (F1_0 j0 (1 : Int32)) (F1_0 j0 (2 : Int32)) (F1_0 j0 (3 : Int32)) (F1_0 j0 (4 : Int32)) (F1_0 j0 (5 : Int32)) (F1_0 j0 (6 : Int32)) (F1_0 j0 (7 : Int32)))
set_option maxRecDepth 65536 in
set_option maxHeartbeats 40000000 in
theorem b0_0 {p : Program} {l : Launch} {e : Env} {s : State} {m : MethodId} {args : Array Value} {below : List Frame} {meth : Method} {c : Code} {T : State} {h : Heap} {Z : State} {a0 : Array Value} {Q : Option Value → Heap → List Loc → Prop} (hw : ∀ d ∈ tables_1, d.before a0 Z = true) (j0 : Int64) (P : own_S Z "com/example/ilmarinen/ilmarinen/EightBytesNumberPinLaw" "law" code 22 (some .boolean) p l e room_1 s m args below meth c T h [] 0 0) (hQ : Q (some (.int (F0_0 j0))) h []) :
    own_Go p e below (own_K s Q room_1.cells room_1.slots) (T.setTop (mkF m 0 #[.val (.long j0), .second, .unset, .unset, .unset, .unset, .unset, .unset, .unset, .unset, .unset, .unset, .unset, .unset, .unset, .unset, .unset, .unset, .unset, .unset, .unset, .unset] [])) := by
  unfold F0_0 at hQ
  refine own_lloadN P at_0 rfl rfl ?_
  refine own_iconst P at_1 rfl (v := (0 : Int32)) rfl ?_
  refine own_callP P (hw _ (List.mem_of_getElem? (i := 0) rfl)) (hw _ (List.mem_of_getElem? (i := 1) rfl)) (hw _ (List.mem_of_getElem? (i := 2) rfl)) (hw _ (List.mem_of_getElem? (i := 3) rfl)) (by decide) (argsL := [(.long j0), (.int (0 : Int32))]) (rest := []) (rm1 l Z a0 hw j0 (0 : Int32) h) at_2 rfl own_pd0 rfl rfl rfl (by decide) 0 rfl (by decide) rfl rfl (by decide) (by decide) (fun T2 P1 => ?_)
  show own_Go p e below _ (T2.setTop (mkF m 5 #[.val (.long j0), .second, .unset, .unset, .unset, .unset, .unset, .unset, .unset, .unset, .unset, .unset, .unset, .unset, .unset, .unset, .unset, .unset, .unset, .unset, .unset, .unset] [(.long (F1_0 j0 (0 : Int32)))]))
  refine own_lstoreN P1 at_5 rfl (Ls' := #[.val (.long j0), .second, .val (.long (F1_0 j0 (0 : Int32))), .second, .unset, .unset, .unset, .unset, .unset, .unset, .unset, .unset, .unset, .unset, .unset, .unset, .unset, .unset, .unset, .unset, .unset, .unset]) rfl ?_
  refine own_lloadN P1 at_6 rfl rfl ?_
  refine own_iconst P1 at_7 rfl (v := (1 : Int32)) rfl ?_
  refine own_callP P1 (hw _ (List.mem_of_getElem? (i := 0) rfl)) (hw _ (List.mem_of_getElem? (i := 1) rfl)) (hw _ (List.mem_of_getElem? (i := 2) rfl)) (hw _ (List.mem_of_getElem? (i := 3) rfl)) (by decide) (argsL := [(.long j0), (.int (1 : Int32))]) (rest := []) (rm1 l Z a0 hw j0 (1 : Int32) h) at_8 rfl own_pd0 rfl rfl rfl (by decide) 0 rfl (by decide) rfl rfl (by decide) (by decide) (fun T4 P3 => ?_)
  show own_Go p e below _ (T4.setTop (mkF m 11 #[.val (.long j0), .second, .val (.long (F1_0 j0 (0 : Int32))), .second, .unset, .unset, .unset, .unset, .unset, .unset, .unset, .unset, .unset, .unset, .unset, .unset, .unset, .unset, .unset, .unset, .unset, .unset] [(.long (F1_0 j0 (1 : Int32)))]))
  refine own_lstore P3 at_11 rfl (Ls' := #[.val (.long j0), .second, .val (.long (F1_0 j0 (0 : Int32))), .second, .val (.long (F1_0 j0 (1 : Int32))), .second, .unset, .unset, .unset, .unset, .unset, .unset, .unset, .unset, .unset, .unset, .unset, .unset, .unset, .unset, .unset, .unset]) rfl ?_
  refine own_lloadN P3 at_13 rfl rfl ?_
  refine own_iconst P3 at_14 rfl (v := (2 : Int32)) rfl ?_
  refine own_callP P3 (hw _ (List.mem_of_getElem? (i := 0) rfl)) (hw _ (List.mem_of_getElem? (i := 1) rfl)) (hw _ (List.mem_of_getElem? (i := 2) rfl)) (hw _ (List.mem_of_getElem? (i := 3) rfl)) (by decide) (argsL := [(.long j0), (.int (2 : Int32))]) (rest := []) (rm1 l Z a0 hw j0 (2 : Int32) h) at_15 rfl own_pd0 rfl rfl rfl (by decide) 0 rfl (by decide) rfl rfl (by decide) (by decide) (fun T6 P5 => ?_)
  show own_Go p e below _ (T6.setTop (mkF m 18 #[.val (.long j0), .second, .val (.long (F1_0 j0 (0 : Int32))), .second, .val (.long (F1_0 j0 (1 : Int32))), .second, .unset, .unset, .unset, .unset, .unset, .unset, .unset, .unset, .unset, .unset, .unset, .unset, .unset, .unset, .unset, .unset] [(.long (F1_0 j0 (2 : Int32)))]))
  refine own_lstore P5 at_18 rfl (Ls' := #[.val (.long j0), .second, .val (.long (F1_0 j0 (0 : Int32))), .second, .val (.long (F1_0 j0 (1 : Int32))), .second, .val (.long (F1_0 j0 (2 : Int32))), .second, .unset, .unset, .unset, .unset, .unset, .unset, .unset, .unset, .unset, .unset, .unset, .unset, .unset, .unset]) rfl ?_
  refine own_lloadN P5 at_20 rfl rfl ?_
  refine own_iconst P5 at_21 rfl (v := (3 : Int32)) rfl ?_
  refine own_callP P5 (hw _ (List.mem_of_getElem? (i := 0) rfl)) (hw _ (List.mem_of_getElem? (i := 1) rfl)) (hw _ (List.mem_of_getElem? (i := 2) rfl)) (hw _ (List.mem_of_getElem? (i := 3) rfl)) (by decide) (argsL := [(.long j0), (.int (3 : Int32))]) (rest := []) (rm1 l Z a0 hw j0 (3 : Int32) h) at_22 rfl own_pd0 rfl rfl rfl (by decide) 0 rfl (by decide) rfl rfl (by decide) (by decide) (fun T8 P7 => ?_)
  show own_Go p e below _ (T8.setTop (mkF m 25 #[.val (.long j0), .second, .val (.long (F1_0 j0 (0 : Int32))), .second, .val (.long (F1_0 j0 (1 : Int32))), .second, .val (.long (F1_0 j0 (2 : Int32))), .second, .unset, .unset, .unset, .unset, .unset, .unset, .unset, .unset, .unset, .unset, .unset, .unset, .unset, .unset] [(.long (F1_0 j0 (3 : Int32)))]))
  refine own_lstore P7 at_25 rfl (Ls' := #[.val (.long j0), .second, .val (.long (F1_0 j0 (0 : Int32))), .second, .val (.long (F1_0 j0 (1 : Int32))), .second, .val (.long (F1_0 j0 (2 : Int32))), .second, .val (.long (F1_0 j0 (3 : Int32))), .second, .unset, .unset, .unset, .unset, .unset, .unset, .unset, .unset, .unset, .unset, .unset, .unset]) rfl ?_
  refine own_lloadN P7 at_27 rfl rfl ?_
  refine own_iconst P7 at_28 rfl (v := (4 : Int32)) rfl ?_
  refine own_callP P7 (hw _ (List.mem_of_getElem? (i := 0) rfl)) (hw _ (List.mem_of_getElem? (i := 1) rfl)) (hw _ (List.mem_of_getElem? (i := 2) rfl)) (hw _ (List.mem_of_getElem? (i := 3) rfl)) (by decide) (argsL := [(.long j0), (.int (4 : Int32))]) (rest := []) (rm1 l Z a0 hw j0 (4 : Int32) h) at_29 rfl own_pd0 rfl rfl rfl (by decide) 0 rfl (by decide) rfl rfl (by decide) (by decide) (fun T10 P9 => ?_)
  show own_Go p e below _ (T10.setTop (mkF m 32 #[.val (.long j0), .second, .val (.long (F1_0 j0 (0 : Int32))), .second, .val (.long (F1_0 j0 (1 : Int32))), .second, .val (.long (F1_0 j0 (2 : Int32))), .second, .val (.long (F1_0 j0 (3 : Int32))), .second, .unset, .unset, .unset, .unset, .unset, .unset, .unset, .unset, .unset, .unset, .unset, .unset] [(.long (F1_0 j0 (4 : Int32)))]))
  refine own_lstore P9 at_32 rfl (Ls' := #[.val (.long j0), .second, .val (.long (F1_0 j0 (0 : Int32))), .second, .val (.long (F1_0 j0 (1 : Int32))), .second, .val (.long (F1_0 j0 (2 : Int32))), .second, .val (.long (F1_0 j0 (3 : Int32))), .second, .val (.long (F1_0 j0 (4 : Int32))), .second, .unset, .unset, .unset, .unset, .unset, .unset, .unset, .unset, .unset, .unset]) rfl ?_
  refine own_lloadN P9 at_34 rfl rfl ?_
  refine own_iconst P9 at_35 rfl (v := (5 : Int32)) rfl ?_
  refine own_callP P9 (hw _ (List.mem_of_getElem? (i := 0) rfl)) (hw _ (List.mem_of_getElem? (i := 1) rfl)) (hw _ (List.mem_of_getElem? (i := 2) rfl)) (hw _ (List.mem_of_getElem? (i := 3) rfl)) (by decide) (argsL := [(.long j0), (.int (5 : Int32))]) (rest := []) (rm1 l Z a0 hw j0 (5 : Int32) h) at_36 rfl own_pd0 rfl rfl rfl (by decide) 0 rfl (by decide) rfl rfl (by decide) (by decide) (fun T12 P11 => ?_)
  show own_Go p e below _ (T12.setTop (mkF m 39 #[.val (.long j0), .second, .val (.long (F1_0 j0 (0 : Int32))), .second, .val (.long (F1_0 j0 (1 : Int32))), .second, .val (.long (F1_0 j0 (2 : Int32))), .second, .val (.long (F1_0 j0 (3 : Int32))), .second, .val (.long (F1_0 j0 (4 : Int32))), .second, .unset, .unset, .unset, .unset, .unset, .unset, .unset, .unset, .unset, .unset] [(.long (F1_0 j0 (5 : Int32)))]))
  refine own_lstore P11 at_39 rfl (Ls' := #[.val (.long j0), .second, .val (.long (F1_0 j0 (0 : Int32))), .second, .val (.long (F1_0 j0 (1 : Int32))), .second, .val (.long (F1_0 j0 (2 : Int32))), .second, .val (.long (F1_0 j0 (3 : Int32))), .second, .val (.long (F1_0 j0 (4 : Int32))), .second, .val (.long (F1_0 j0 (5 : Int32))), .second, .unset, .unset, .unset, .unset, .unset, .unset, .unset, .unset]) rfl ?_
  refine own_lloadN P11 at_41 rfl rfl ?_
  refine own_bipush P11 at_42 rfl (v := (6 : Int32)) rfl ?_
  refine own_callP P11 (hw _ (List.mem_of_getElem? (i := 0) rfl)) (hw _ (List.mem_of_getElem? (i := 1) rfl)) (hw _ (List.mem_of_getElem? (i := 2) rfl)) (hw _ (List.mem_of_getElem? (i := 3) rfl)) (by decide) (argsL := [(.long j0), (.int (6 : Int32))]) (rest := []) (rm1 l Z a0 hw j0 (6 : Int32) h) at_44 rfl own_pd0 rfl rfl rfl (by decide) 0 rfl (by decide) rfl rfl (by decide) (by decide) (fun T14 P13 => ?_)
  show own_Go p e below _ (T14.setTop (mkF m 47 #[.val (.long j0), .second, .val (.long (F1_0 j0 (0 : Int32))), .second, .val (.long (F1_0 j0 (1 : Int32))), .second, .val (.long (F1_0 j0 (2 : Int32))), .second, .val (.long (F1_0 j0 (3 : Int32))), .second, .val (.long (F1_0 j0 (4 : Int32))), .second, .val (.long (F1_0 j0 (5 : Int32))), .second, .unset, .unset, .unset, .unset, .unset, .unset, .unset, .unset] [(.long (F1_0 j0 (6 : Int32)))]))
  refine own_lstore P13 at_47 rfl (Ls' := #[.val (.long j0), .second, .val (.long (F1_0 j0 (0 : Int32))), .second, .val (.long (F1_0 j0 (1 : Int32))), .second, .val (.long (F1_0 j0 (2 : Int32))), .second, .val (.long (F1_0 j0 (3 : Int32))), .second, .val (.long (F1_0 j0 (4 : Int32))), .second, .val (.long (F1_0 j0 (5 : Int32))), .second, .val (.long (F1_0 j0 (6 : Int32))), .second, .unset, .unset, .unset, .unset, .unset, .unset]) rfl ?_
  refine own_lloadN P13 at_49 rfl rfl ?_
  refine own_bipush P13 at_50 rfl (v := (7 : Int32)) rfl ?_
  refine own_callP P13 (hw _ (List.mem_of_getElem? (i := 0) rfl)) (hw _ (List.mem_of_getElem? (i := 1) rfl)) (hw _ (List.mem_of_getElem? (i := 2) rfl)) (hw _ (List.mem_of_getElem? (i := 3) rfl)) (by decide) (argsL := [(.long j0), (.int (7 : Int32))]) (rest := []) (rm1 l Z a0 hw j0 (7 : Int32) h) at_52 rfl own_pd0 rfl rfl rfl (by decide) 0 rfl (by decide) rfl rfl (by decide) (by decide) (fun T16 P15 => ?_)
  show own_Go p e below _ (T16.setTop (mkF m 55 #[.val (.long j0), .second, .val (.long (F1_0 j0 (0 : Int32))), .second, .val (.long (F1_0 j0 (1 : Int32))), .second, .val (.long (F1_0 j0 (2 : Int32))), .second, .val (.long (F1_0 j0 (3 : Int32))), .second, .val (.long (F1_0 j0 (4 : Int32))), .second, .val (.long (F1_0 j0 (5 : Int32))), .second, .val (.long (F1_0 j0 (6 : Int32))), .second, .unset, .unset, .unset, .unset, .unset, .unset] [(.long (F1_0 j0 (7 : Int32)))]))
  refine own_lstore P15 at_55 rfl (Ls' := #[.val (.long j0), .second, .val (.long (F1_0 j0 (0 : Int32))), .second, .val (.long (F1_0 j0 (1 : Int32))), .second, .val (.long (F1_0 j0 (2 : Int32))), .second, .val (.long (F1_0 j0 (3 : Int32))), .second, .val (.long (F1_0 j0 (4 : Int32))), .second, .val (.long (F1_0 j0 (5 : Int32))), .second, .val (.long (F1_0 j0 (6 : Int32))), .second, .val (.long (F1_0 j0 (7 : Int32))), .second, .unset, .unset, .unset, .unset]) rfl ?_
  exact b0_57 hw j0 (F1_0 j0 (0 : Int32)) (F1_0 j0 (1 : Int32)) (F1_0 j0 (2 : Int32)) (F1_0 j0 (3 : Int32)) (F1_0 j0 (4 : Int32)) (F1_0 j0 (5 : Int32)) (F1_0 j0 (6 : Int32)) (F1_0 j0 (7 : Int32)) P15 hQ
theorem rm0 (l : Launch) (Z : State) (a0 : Array Value) (hw : ∀ d ∈ tables_1, d.before a0 Z = true) (j0 : Int64) (ws : List Jvm.Cond) (h : Heap) :
    own_Con l Z x code maxLocals ret ws room_1 #[(.long j0)] h (own_P (some (.int (F0_0 j0))) h) :=
  own_enter (plainFor_of_name own_pn0) #[.val (.long j0), .second, .unset, .unset, .unset, .unset, .unset, .unset, .unset, .unset, .unset, .unset, .unset, .unset, .unset, .unset, .unset, .unset, .unset, .unset, .unset, .unset] (fun m => by first | (simp [entryFrame, mkF, argsToLocals, Value.category, maxLocals]; done) | rfl) (fun p e s m below meth c T P => b0_0 hw j0 P ⟨rfl, rfl, rfl⟩)
def own_N (x : Int64) : Nat := x.toBitVec.toNat
theorem own_N_inj {a b : Int64} (h : own_N a = own_N b) : a = b := Int64.toBitVec_inj.mp (BitVec.eq_of_toNat_eq h)
theorem own_N_or (a b : Int64) : own_N (a ||| b) = own_N a ||| own_N b := by
  show (a.toBitVec ||| b.toBitVec).toNat = _
  rw [BitVec.toNat_or]; rfl
theorem own_N_and (a b : Int64) : own_N (a &&& b) = own_N a &&& own_N b := by
  show (a.toBitVec &&& b.toBitVec).toNat = _
  rw [BitVec.toNat_and]; rfl
theorem own_N_add (a b : Int64) : own_N (a + b) = (own_N a + own_N b) % 18446744073709551616 := by
  show (a.toBitVec + b.toBitVec).toNat = _
  rw [BitVec.toNat_add]; rfl
theorem own_N_mul (a b : Int64) : own_N (a * b) = (own_N a * own_N b) % 18446744073709551616 := by
  show (a.toBitVec * b.toBitVec).toNat = _
  rw [BitVec.toNat_mul]; rfl
theorem own_N_sub (a b : Int64) : own_N (a - b) = (18446744073709551616 - own_N b + own_N a) % 18446744073709551616 := by
  show (a.toBitVec - b.toBitVec).toNat = _
  rw [BitVec.toNat_sub]; rfl
theorem own_N_shl (x n : Int64) {k : Nat} (hn : (n.toBitVec.smod 64).toNat = k) : own_N (x <<< n) = (own_N x * 2 ^ k) % 18446744073709551616 := by
  have e : own_N (x <<< n) = (x.toBitVec <<< (n.toBitVec.smod 64)).toNat := rfl
  rw [e, BitVec.shiftLeft_eq', BitVec.toNat_shiftLeft, hn, Nat.shiftLeft_eq]; rfl
theorem own_N_shr (x : Int64) (n : UInt64) {k : Nat} (hn : n.toNat = k) (hk : k < 64) : own_N ((x.toUInt64 >>> n).toInt64) = own_N x / 2 ^ k := by
  show ((x.toUInt64 >>> n).toInt64).toBitVec.toNat = _
  simp only [UInt64.toBitVec_toInt64, UInt64.toBitVec_shiftRight, Int64.toBitVec_toUInt64]
  simp [own_N, BitVec.toNat_ushiftRight, Nat.shiftRight_eq_div_pow, hn, Nat.mod_eq_of_lt hk]
theorem own_N_pos (x : Int64) (h : 0 ≤ x.toInt) : own_N x = x.toInt.toNat := by
  have e : x.toInt = x.toBitVec.toInt := rfl
  have hb := x.toBitVec.isLt
  rw [e, BitVec.toInt_eq_toNat_cond] at h
  rw [e, BitVec.toInt_eq_toNat_cond]
  unfold own_N
  split at h
  · rename_i q
    rw [if_pos q]; rfl
  · omega
theorem own_N_i2l (i : Int32) (h : 0 ≤ i.toInt) : own_N i.toInt64 = i.toInt.toNat := by rw [own_N_pos _ (by rw [Int32.toInt_toInt64]; exact h), Int32.toInt_toInt64]
theorem own_or_add {a k : Nat} (h : a < 2 ^ k) (b : Nat) : a ||| (2 ^ k * b) = a + 2 ^ k * b := by rw [Nat.or_comm, ← Nat.two_pow_add_eq_or_of_lt h b, Nat.add_comm]
theorem own_and_split (k a b c d : Nat) (ha : a < 2 ^ k) (hc : c < 2 ^ k) : (2 ^ k * b + a) &&& (2 ^ k * d + c) = 2 ^ k * (b &&& d) + (a &&& c) := by
  apply Nat.eq_of_testBit_eq
  intro j
  rw [Nat.testBit_and, Nat.testBit_two_pow_mul_add _ ha, Nat.testBit_two_pow_mul_add _ hc, Nat.testBit_two_pow_mul_add _ (Nat.lt_of_le_of_lt Nat.and_le_left ha)]
  split <;> rw [Nat.testBit_and]
theorem own_or_split (k a b c d : Nat) (ha : a < 2 ^ k) (hc : c < 2 ^ k) : (2 ^ k * b + a) ||| (2 ^ k * d + c) = 2 ^ k * (b ||| d) + (a ||| c) := by
  apply Nat.eq_of_testBit_eq
  intro j
  rw [Nat.testBit_or, Nat.testBit_two_pow_mul_add _ ha, Nat.testBit_two_pow_mul_add _ hc, Nat.testBit_two_pow_mul_add _ (Nat.or_lt_two_pow ha hc)]
  split <;> rw [Nat.testBit_or]
theorem own_lanes (m a b c d : Nat) (hb : b < 2 ^ 16) (hc : c < 2 ^ 16) (hd : d < 2 ^ 16) (hm : m < 2 ^ 16) : (2 ^ 16 * (2 ^ 16 * (2 ^ 16 * a + b) + c) + d) &&& (2 ^ 16 * (2 ^ 16 * (2 ^ 16 * m + m) + m) + m) = 2 ^ 16 * (2 ^ 16 * (2 ^ 16 * (a &&& m) + (b &&& m)) + (c &&& m)) + (d &&& m) := by
  rw [own_and_split 16 _ _ _ _ hd hm, own_and_split 16 _ _ _ _ hc hm, own_and_split 16 _ _ _ _ hb hm]

theorem own_maskA (x : Nat) : x &&& 71777214294589695 = x % 256 + 65536 * (x / 65536 % 256) + 4294967296 * (x / 4294967296 % 256) + 281474976710656 * (x / 281474976710656 % 256) := by
  have q := own_lanes 255 (x / 281474976710656) (x / 4294967296 % 65536) (x / 65536 % 65536) (x % 65536) (by omega) (by omega) (by omega) (by decide)
  have hx : 2 ^ 16 * (2 ^ 16 * (2 ^ 16 * (x / 281474976710656) + (x / 4294967296 % 65536)) + (x / 65536 % 65536)) + (x % 65536) = x := by omega
  rw [hx] at q
  have e : ∀ y : Nat, y &&& 255 = y % 256 := fun y => Nat.and_two_pow_sub_one_eq_mod y 8
  rw [e, e, e, e] at q
  rw [show (71777214294589695 : Nat) = 2 ^ 16 * (2 ^ 16 * (2 ^ 16 * 255 + 255) + 255) + 255 from rfl, q]
  omega
theorem own_maskB (x : Nat) : x &&& 281470681808895 = x % 65536 + 4294967296 * (x / 4294967296 % 65536) := by
  have q := own_and_split 32 (x % 4294967296) (x / 4294967296) 65535 65535 (by omega) (by decide)
  have hx : 2 ^ 32 * (x / 4294967296) + x % 4294967296 = x := by omega
  rw [hx] at q
  have e : ∀ y : Nat, y &&& 65535 = y % 65536 := fun y => Nat.and_two_pow_sub_one_eq_mod y 16
  rw [e, e] at q
  rw [show (281470681808895 : Nat) = 2 ^ 32 * 65535 + 65535 from rfl, q]
  omega
theorem own_maskC (x : Nat) : x &&& 4294967295 = x % 4294967296 := Nat.and_two_pow_sub_one_eq_mod x 32
theorem own_40 (j : Int64) (a b : Nat) (ha : a < 10000) (hb : b < 10000) (h : own_N j = a + 4294967296 * b) : own_N (F3_40 j) = 10000 * a + b := by
  have z1 : own_N 10000 = 10000 := by decide
  have zm : own_N 4294967295 = 4294967295 := by decide
  unfold F3_40
  rw [own_N_and, own_N_add, own_N_mul, own_N_shr _ _ (k := 32) (by decide) (by decide), h, z1, zm, own_maskC]
  have e1 : (a + 4294967296 * b) * 10000 % 18446744073709551616 = (a + 4294967296 * b) * 10000 := Nat.mod_eq_of_lt (by omega)
  have e2 : (a + 4294967296 * b) / 2 ^ 32 = b := by omega
  rw [e1, e2, Nat.mod_eq_of_lt (by omega : (a + 4294967296 * b) * 10000 + b < 18446744073709551616), show (a + 4294967296 * b) * 10000 + b = (10000 * a + b) + 4294967296 * (10000 * b) by omega, Nat.add_mul_mod_self_left]
  exact Nat.mod_eq_of_lt (by omega)
theorem own_22 (j : Int64) (a b c d : Nat) (ha : a < 100) (hb : b < 100) (hc : c < 100) (hd : d < 100) (h : own_N j = a + 65536 * b + 4294967296 * c + 281474976710656 * d) : own_N (F3_22 j) = 10000 * (100 * a + b) + (100 * c + d) := by
  have z1 : own_N 100 = 100 := by decide
  have zm : own_N 281470681808895 = 281470681808895 := by decide
  unfold F3_22
  refine own_40 _ (100 * a + b) (100 * c + d) (by omega) (by omega) ?_
  rw [own_N_and, own_N_add, own_N_mul, own_N_shr _ _ (k := 16) (by decide) (by decide), h, z1, zm, own_maskB]
  have e1 : (a + 65536 * b + 4294967296 * c + 281474976710656 * d) * 100 % 18446744073709551616 = (a + 65536 * b + 4294967296 * c + 281474976710656 * d) * 100 := Nat.mod_eq_of_lt (by omega)
  have e2 : (a + 65536 * b + 4294967296 * c + 281474976710656 * d) / 2 ^ 16 = b + 65536 * c + 4294967296 * d := by omega
  rw [e1, e2]
  have e3 : (a + 65536 * b + 4294967296 * c + 281474976710656 * d) * 100 + (b + 65536 * c + 4294967296 * d) = (100 * a + b) + 65536 * (100 * b + c) + 4294967296 * ((100 * c + d) + 65536 * (100 * d)) := by omega
  rw [e3, Nat.mod_eq_of_lt (by omega : (100 * a + b) + 65536 * (100 * b + c) + 4294967296 * ((100 * c + d) + 65536 * (100 * d)) < 18446744073709551616)]
  generalize hu : 100 * a + b = u
  generalize hv : 100 * b + c = v
  generalize hw : 100 * c + d = w
  generalize hy : 100 * d = y
  have bu : u < 10000 := by omega
  have bv : v < 10000 := by omega
  have bw : w < 10000 := by omega
  have by' : y < 10000 := by omega
  clear e1 e2 e3 h ha hb hc hd hu hv hw hy
  have l1 : (u + 65536 * v + 4294967296 * (w + 65536 * y)) / 4294967296 = w + 65536 * y := by omega
  rw [l1]
  omega
theorem own_6 (j : Int64) (d0 d1 d2 d3 d4 d5 d6 d7 : Nat) (h0 : d0 < 10) (h1 : d1 < 10) (h2 : d2 < 10) (h3 : d3 < 10) (h4 : d4 < 10) (h5 : d5 < 10) (h6 : d6 < 10) (h7 : d7 < 10)
    (h : own_N j = d0 + 256 * d1 + 65536 * d2 + 16777216 * d3 + 4294967296 * d4 + 1099511627776 * d5 + 281474976710656 * d6 + 72057594037927936 * d7) :
    own_N (F3_6 j) = 10000000 * d0 + 1000000 * d1 + 100000 * d2 + 10000 * d3 + 1000 * d4 + 100 * d5 + 10 * d6 + d7 := by
  have z1 : own_N 10 = 10 := by decide
  have zm : own_N 71777214294589695 = 71777214294589695 := by decide
  unfold F3_6
  rw [own_22 _ (10 * d0 + d1) (10 * d2 + d3) (10 * d4 + d5) (10 * d6 + d7) (by omega) (by omega) (by omega) (by omega) ?_]
  · omega
  rw [own_N_and, own_N_add, own_N_mul, own_N_shr _ _ (k := 8) (by decide) (by decide), h, z1, zm, own_maskA]
  rw [show d0 + 256 * d1 + 65536 * d2 + 16777216 * d3 + 4294967296 * d4 + 1099511627776 * d5 + 281474976710656 * d6 + 72057594037927936 * d7 = d0 + 256 * (d1 + 256 * d2 + 65536 * d3 + 16777216 * d4 + 4294967296 * d5 + 1099511627776 * d6 + 281474976710656 * d7) by omega]
  generalize hR : d1 + 256 * d2 + 65536 * d3 + 16777216 * d4 + 4294967296 * d5 + 1099511627776 * d6 + 281474976710656 * d7 = R
  have bR : R < 3000000000000000 := by omega
  have e1 : (d0 + 256 * R) * 10 % 18446744073709551616 = (d0 + 256 * R) * 10 := Nat.mod_eq_of_lt (by omega)
  have e2 : (d0 + 256 * R) / 2 ^ 8 = R := by omega
  rw [e1, e2, Nat.mod_eq_of_lt (by omega : (d0 + 256 * R) * 10 + R < 18446744073709551616)]
  have e3 : (d0 + 256 * R) * 10 + R = ((10 * d0 + d1) + 256 * (10 * d1 + d2)) + 65536 * (((10 * d2 + d3) + 256 * (10 * d3 + d4)) + 65536 * (((10 * d4 + d5) + 256 * (10 * d5 + d6)) + 65536 * ((10 * d6 + d7) + 256 * (10 * d7)))) := by rw [← hR]; omega
  rw [e3]
  clear e1 e2 e3 bR hR h z1 zm
  generalize hu0 : 10 * d0 + d1 = u0
  generalize hu1 : 10 * d1 + d2 = u1
  generalize hu2 : 10 * d2 + d3 = u2
  generalize hu3 : 10 * d3 + d4 = u3
  generalize hu4 : 10 * d4 + d5 = u4
  generalize hu5 : 10 * d5 + d6 = u5
  generalize hu6 : 10 * d6 + d7 = u6
  generalize hu7 : 10 * d7 = u7
  have b0 : u0 < 100 := by omega
  have b1 : u1 < 100 := by omega
  have b2 : u2 < 100 := by omega
  have b3 : u3 < 100 := by omega
  have b4 : u4 < 100 := by omega
  have b5 : u5 < 100 := by omega
  have b6 : u6 < 100 := by omega
  have b7 : u7 < 100 := by omega
  clear hu0 hu1 hu2 hu3 hu4 hu5 hu6 hu7 h0 h1 h2 h3 h4 h5 h6 h7
  have sh : ∀ x K : Nat, x < 65536 → (x + 65536 * K) / 65536 = K := fun x K q => by omega
  have md : ∀ x y K : Nat, x < 256 → (x + 256 * y + 65536 * K) % 256 = x := fun x y K q => by omega
  generalize hX : (u0 + 256 * u1) + 65536 * ((u2 + 256 * u3) + 65536 * ((u4 + 256 * u5) + 65536 * (u6 + 256 * u7))) = X
  have x1 : X / 65536 = (u2 + 256 * u3) + 65536 * ((u4 + 256 * u5) + 65536 * (u6 + 256 * u7)) := by rw [← hX, sh _ _ (by omega)]
  have x2 : X / 4294967296 = (u4 + 256 * u5) + 65536 * (u6 + 256 * u7) := by
    rw [show (4294967296 : Nat) = 65536 * 65536 from rfl, ← Nat.div_div_eq_div_mul, x1, sh _ _ (by omega)]
  have x3 : X / 281474976710656 = u6 + 256 * u7 := by
    rw [show (281474976710656 : Nat) = 4294967296 * 65536 from rfl, ← Nat.div_div_eq_div_mul, x2, sh _ _ (by omega)]
  have l0 : X % 256 = u0 := by rw [← hX]; exact md _ _ _ (by omega)
  have l1 : X / 65536 % 256 = u2 := by rw [x1]; exact md _ _ _ (by omega)
  have l2 : X / 4294967296 % 256 = u4 := by rw [x2]; exact md _ _ _ (by omega)
  have l3 : X / 281474976710656 % 256 = u6 := by rw [x3]; omega
  rw [l0, l1, l2, l3]
theorem own_pl (j : Int64) (i : Int32) (hj : own_N j < 10) {k : Nat} (hk : ((((8 : Int32) * i) &&& 0x3f).toInt64.toBitVec.smod 64).toNat = k) (hk2 : k ≤ 56) : own_N (F2_0 j i) = 2 ^ k * (48 + own_N j) := by
  have z : own_N 48 = 48 := by decide
  unfold F2_0
  rw [own_N_shl _ _ hk, own_N_add, z, Nat.mod_eq_of_lt (by omega : 48 + own_N j < 18446744073709551616), Nat.mul_comm]
  have hp2 : 2 ^ k ≤ 2 ^ 56 := Nat.pow_le_pow_right (by decide) hk2
  have : 2 ^ k * (48 + own_N j) ≤ 2 ^ 56 * 57 := Nat.mul_le_mul hp2 (by omega)
  exact Nat.mod_eq_of_lt (by omega)
theorem own_dig (x : Int64) (i : Int32) : own_N (F1_0 x i) < 10 := by
  have z10 : (10 : Int64).toInt = 10 := by decide
  unfold F1_0
  generalize ((x.toUInt64 >>> (((8 : Int32) * i) &&& 0x3f).toInt64.toUInt64).toInt64) = y
  have m : (y &&& (255 : Int64)).toInt = y.toInt % 2 ^ 8 := Jvm.Kit.i64_mask y _ (k := 8) (by decide) (by decide)
  generalize (y &&& (255 : Int64)) = w at *
  have r : (w - w / (10 : Int64) * (10 : Int64)).toInt = w.toInt % 10 := by rw [Jvm.Kit.i64_rem_nonneg (by omega), z10]
  rw [own_N_pos _ (by rw [r]; omega), r]
  omega
theorem own_57 (a0 a1 a2 a3 a4 a5 a6 a7 : Int64) (h0 : own_N a0 < 10) (h1 : own_N a1 < 10) (h2 : own_N a2 < 10) (h3 : own_N a3 < 10) (h4 : own_N a4 < 10) (h5 : own_N a5 < 10) (h6 : own_N a6 < 10) (h7 : own_N a7 < 10) : F0_57 a0 a1 a2 a3 a4 a5 a6 a7 = 1 := by
  have z10 : own_N 10 = 10 := by decide
  have zC : own_N 3472328296227680304 = 3472328296227680304 := by decide
  have hw : own_N ((((((((F2_0 a0 (0 : Int32)) ||| (F2_0 a1 (1 : Int32))) ||| (F2_0 a2 (2 : Int32))) ||| (F2_0 a3 (3 : Int32))) ||| (F2_0 a4 (4 : Int32))) ||| (F2_0 a5 (5 : Int32))) ||| (F2_0 a6 (6 : Int32))) ||| (F2_0 a7 (7 : Int32))) = (48 + own_N a0) + 256 * (48 + own_N a1) + 65536 * (48 + own_N a2) + 16777216 * (48 + own_N a3) + 4294967296 * (48 + own_N a4) + 1099511627776 * (48 + own_N a5) + 281474976710656 * (48 + own_N a6) + 72057594037927936 * (48 + own_N a7) := by
    rw [own_N_or, own_N_or, own_N_or, own_N_or, own_N_or, own_N_or, own_N_or]
    rw [own_pl a0 0 h0 (k := 0) (by decide) (by decide), own_pl a1 1 h1 (k := 8) (by decide) (by decide), own_pl a2 2 h2 (k := 16) (by decide) (by decide), own_pl a3 3 h3 (k := 24) (by decide) (by decide), own_pl a4 4 h4 (k := 32) (by decide) (by decide), own_pl a5 5 h5 (k := 40) (by decide) (by decide), own_pl a6 6 h6 (k := 48) (by decide) (by decide), own_pl a7 7 h7 (k := 56) (by decide) (by decide)]
    rw [own_or_add (k := 8) (by omega), own_or_add (k := 16) (by omega), own_or_add (k := 24) (by omega), own_or_add (k := 32) (by omega), own_or_add (k := 40) (by omega), own_or_add (k := 48) (by omega), own_or_add (k := 56) (by omega)]
    omega
  unfold F0_57 F0_115 F0_167 F3_0
  generalize ((((((((F2_0 a0 (0 : Int32)) ||| (F2_0 a1 (1 : Int32))) ||| (F2_0 a2 (2 : Int32))) ||| (F2_0 a3 (3 : Int32))) ||| (F2_0 a4 (4 : Int32))) ||| (F2_0 a5 (5 : Int32))) ||| (F2_0 a6 (6 : Int32))) ||| (F2_0 a7 (7 : Int32))) = w at *
  rw [if_pos]
  apply own_N_inj
  rw [own_6 _ (own_N a0) (own_N a1) (own_N a2) (own_N a3) (own_N a4) (own_N a5) (own_N a6) (own_N a7) h0 h1 h2 h3 h4 h5 h6 h7 (by rw [own_N_sub, hw, zC]; clear hw; omega)]
  have st : ∀ (u v : Int64) (B : Nat), own_N u ≤ B → own_N v < 10 → B < 100000000 → own_N (u * 10 + v) = 10 * own_N u + own_N v := fun u v B q1 q2 q3 => by
    rw [own_N_add, own_N_mul, z10]; omega
  have s1 := st a0 a1 9 (by omega) h1 (by omega)
  have s2 := st _ a2 99 (by rw [s1]; omega) h2 (by omega)
  have s3 := st _ a3 999 (by rw [s2, s1]; omega) h3 (by omega)
  have s4 := st _ a4 9999 (by rw [s3, s2, s1]; omega) h4 (by omega)
  have s5 := st _ a5 99999 (by rw [s4, s3, s2, s1]; omega) h5 (by omega)
  have s6 := st _ a6 999999 (by rw [s5, s4, s3, s2, s1]; omega) h6 (by omega)
  have s7 := st _ a7 9999999 (by rw [s6, s5, s4, s3, s2, s1]; omega) h7 (by omega)
  rw [s7, s6, s5, s4, s3, s2, s1]
  omega
theorem own_law (j0 : Int64) : F0_0 j0 = 1 := by
  unfold F0_0
  exact own_57 _ _ _ _ _ _ _ _ (own_dig _ _) (own_dig _ _) (own_dig _ _) (own_dig _ _) (own_dig _ _) (own_dig _ _) (own_dig _ _) (own_dig _ _)

theorem own_rm0 (l : Launch) (Z : State) (a0 : Array Value) (hw : ∀ d ∈ tables_1, d.before a0 Z = true) (j0 : Int64) (ws : List Jvm.Cond) (h : Heap) :
    own_Con l Z x code maxLocals ret ws room_1 #[(.long j0)] h (fun v _ L => v = some (.int 1) ∧ Fr h.size L) := by
  have q := rm0 l Z a0 hw j0 ws h
  rw [own_law j0] at q
  refine own_conMono q fun v h' L w => ?_
  obtain ⟨rfl, rfl, rfl⟩ := w
  exact ⟨rfl, Fr.nil _⟩
set_option maxRecDepth 65536 in
set_option maxHeartbeats 40000000 in
theorem comes_1 {Post : Tables → Env → Array Value → State → Outcome → State → Prop} (hpost : ∀ tb e args s v u, (limb_1_1.after args s (.returned v) u = true ∧ limb_1_2.after args s (.returned v) u = true ∧ True) → FrameEnd s (.returned v) u (Jvm.fieldLocs frame_1_writes args s ++ Jvm.arrayLocs frame_1_arrays args s ++ Jvm.staticLocs frame_1_statics s) 0 0 → Post tb e args s (.returned v) u) :
    ArmFor flags0 classFile x code maxLocals ret World_1 tables_1 room_1 Calls_1 rest_1 Pre_1 Post := by
  intro l hfl _ _ p e ha hc hk s m args below hf hA hF happ hP
  obtain ⟨hcalls, hrest, hpre⟩ := hP
  obtain ⟨-, -, -, hnamed, -, -, -, hat⟩ := (Spec.applies_iff hf).mp happ
  obtain ⟨hg, hn⟩ := and_e (Cond.before_iff.mp (show (Jvm.Cond.and given_1 narrow_1).before args s = true from hpre))
  obtain ⟨g0, hg1⟩ := and_e hg
  obtain ⟨w0, rfl⟩ : ∃ w0 : Value, args = #[w0] := by
    have hs : args.size = 1 := by simpa [Cond.value, given_1] using g0
    obtain ⟨L⟩ := args
    match L, hs with
    | [w0], _ => exact ⟨w0, rfl⟩
  have hw := fun d (hd : d ∈ tables_1) => atoms_spec (ws := Jvm.Cond.code x code maxLocals ret :: tables_1) hat d (List.mem_cons_of_mem _ hd)
  obtain ⟨i0, ei0⟩ := isL_v hg1
  obtain rfl : w0 = (.long i0) := Option.some.inj ei0
  obtain ⟨n, o, h1, h2, h3, _, L, rfl, ⟨rfl, N⟩, hq⟩ := own_rm0 l s _ hw i0 tables_1 s.heap p e ha hc hk s m _ below hf ((Spec.applies_iff_loose hf).mp happ).1 ⟨rfl, State.Warmed39.refl s, rfl⟩ trivial
  refine ⟨n, _, h1, h2, h3, hpost _ _ _ _ _ _ ⟨Cond.after_iff.mpr rfl, Cond.after_iff.mpr (eq_i res_at (Term.int_eval (1)) rfl), trivial⟩ ⟨hq.1, hq.2.1, (hq.2.2.sift fun y hy => Or.inr (N y hy)).mono (by decide) (by decide)⟩⟩
theorem main_1_1 : Claimed_1_1 := comes_1 fun _ _ _ _ _ _ h hF => ⟨h.1, hF⟩
theorem main_1_2 : Claimed_1_2 := comes_1 fun _ _ _ _ _ _ h hF => ⟨h.2.1, hF⟩
end Jvm.Pilot.@@N@@
namespace Jvm.Pilot.@@N@@
open Jvm Jvm.ClassFile Sem Op Lib Jvm.Free Jvm.Stand Jvm.Pilot.@@N@@.Jvm.D
/-! MADE BY PROGRAM (witnessworld.py) out of the Statement's table words and the real class files: 9 classes; the members and pool entries that the words name. The judged class is class 1, her method 3. -/
namespace start1
open Jvm.ClassFile
def u (s : String) : CpInfo := .utf8 (stringToUtf16 s)
/-- a pool by its gaps: so many unusable entries, then the entry; so many at the end -/
def gap : Nat → List CpInfo → List CpInfo
  | 0, r => r
  | n + 1, r => .unusable :: gap n r
def poolList (es : List (Nat × CpInfo)) (last : Nat) : List CpInfo := es.foldr (fun e r => gap e.1 (e.2 :: r)) (gap last [])
def pool (es : List (Nat × CpInfo)) (last : Nat) : Array CpInfo := ⟨poolList es last⟩
def fileOf (pool : Array CpInfo) (this : Nat) (attrs : Array Attribute := #[]) (ms : Array MethodInfo := #[]) (fl : Nat := 33) (sup : Nat := 0) (ifs : Array Nat := #[]) (fds : Array FieldInfo := #[]) : ClassFile where
  minorVersion := 0
  majorVersion := 65
  constantPool := pool
  accessFlags := fl
  thisClass := this
  superClass := sup
  interfaces := ifs
  fields := fds
  methods := ms
  attributes := attrs
def plain (name : String) (sup : Option ClassId) : Class where
  name := name
  kind := .ordinary
  loader := none
  accessFlags := 33
  super := sup
  interfaces := #[]
  cf := none
  fields := #[]
  methods := #[]
  instanceTypes := #[]
  staticTypes := #[]
  resolved := #[]
  callSites := []
  init := .initialized
  statics := none
  mirror := none

def pool0 : Array CpInfo := pool [(5, u "<init>"), (0, u "()V"), (1, .class_ 10), (1, u "java/lang/Object")] 113

def k0m0 : Method := { name := "<init>", desc := "()V", sig := { parameters := [], returnType := none }, accessFlags := 1, code := none }
/-- java/lang/Object -/
def k0 : Class := { plain "java/lang/Object" none with
  accessFlags := 33
  interfaces := #[]
  cf := some (fileOf pool0 8 #[] #[{ accessFlags := 1, nameIndex := 5, descriptorIndex := 6, attributes := #[] }] 33 0 #[] #[])
  fields := #[]
  methods := #[k0m0]
  instanceTypes := #[]
  staticTypes := #[]
  resolved := Array.replicate 124 none
  statics := none }

def pool1 : Array CpInfo := pool [(2, .class_ 4), (1, u "java/lang/Object"), (0, u "<init>"), (0, u "()V"), (0, .long 255), (1, .long 10), (1, .long 48), (1, .methodref 14 15), (0, .class_ 16), (0, .nameAndType 17 18), (0, u "com/example/ilmarinen/ilmarinen/EightBytesNumberPinLaw"), (0, u "digit"), (0, u "(JI)J"), (0, .methodref 14 20), (0, .nameAndType 21 18), (0, u "place"), (0, .methodref 23 24), (0, .class_ 25), (0, .nameAndType 26 27), (0, u "com/example/ilmarinen/ilmarinen/EightBytes"), (0, u "number"), (0, u "(J)J"), (2, u "law"), (0, u "(J)Z")] 3

def k1m0 : Method := { name := "<init>", desc := "()V", sig := { parameters := [], returnType := none }, accessFlags := 2, code := none }
def k1c1 : Code := { maxStack := 4, maxLocals := 3, code := method_2_code, exceptionTable := #[], attributes := #[] }
def k1m1 : Method := { name := "digit", desc := "(JI)J", sig := { parameters := [.long, .int], returnType := some .long }, accessFlags := 10, code := some k1c1 }
def k1c2 : Code := { maxStack := 4, maxLocals := 3, code := method_3_code, exceptionTable := #[], attributes := #[] }
def k1m2 : Method := { name := "place", desc := "(JI)J", sig := { parameters := [.long, .int], returnType := some .long }, accessFlags := 10, code := some k1c2 }
def k1c3 : Code := { maxStack := 5, maxLocals := 22, code := code, exceptionTable := #[], attributes := #[] }
def k1m3 : Method := { name := "law", desc := "(J)Z", sig := { parameters := [.long], returnType := some .boolean }, accessFlags := 9, code := some k1c3 }
/-- com/example/ilmarinen/ilmarinen/EightBytesNumberPinLaw -/
def k1 : Class := { plain "com/example/ilmarinen/ilmarinen/EightBytesNumberPinLaw" (some 0) with
  accessFlags := 49
  interfaces := #[]
  cf := some (fileOf pool1 14 #[] #[{ accessFlags := 2, nameIndex := 5, descriptorIndex := 6, attributes := #[] }, { accessFlags := 10, nameIndex := 17, descriptorIndex := 18, attributes := #[] }, { accessFlags := 10, nameIndex := 21, descriptorIndex := 18, attributes := #[] }, { accessFlags := 9, nameIndex := 30, descriptorIndex := 31, attributes := #[] }] 49 2 #[] #[])
  fields := #[]
  methods := #[k1m0, k1m1, k1m2, k1m3]
  instanceTypes := #[]
  staticTypes := #[]
  resolved := Array.replicate 35 none
  statics := none }

def pool2 : Array CpInfo := pool [(2, .class_ 4), (1, u "java/lang/Object"), (0, u "<init>"), (0, u "()V"), (1, .class_ 10), (1, u "com/example/ilmarinen/ilmarinen/EightBytes"), (0, u "LONGS"), (0, u "Ljava/lang/invoke/VarHandle;"), (26, .long 3472328296227680304), (7, .long 100), (5, .long 10), (4, .long 71777214294589695), (1, .long 281470681808895), (1, .long 10000), (1, .long 4294967295), (15, u "ONES"), (0, u "J"), (1, u "TOP_BITS"), (0, u "TOP_HALVES"), (5, u "(J)J"), (6, u "number")] 3

def k2m0 : Method := { name := "<init>", desc := "()V", sig := { parameters := [], returnType := none }, accessFlags := 2, code := none }
def k2c1 : Code := { maxStack := 5, maxLocals := 8, code := prog_16_method_9_code, exceptionTable := #[], attributes := #[] }
def k2m1 : Method := { name := "number", desc := "(J)J", sig := { parameters := [.long], returnType := some .long }, accessFlags := 8, code := some k2c1 }
/-- com/example/ilmarinen/ilmarinen/EightBytes -/
def k2 : Class := { plain "com/example/ilmarinen/ilmarinen/EightBytes" (some 0) with
  accessFlags := 48
  interfaces := #[]
  cf := some (fileOf pool2 8 #[] #[{ accessFlags := 2, nameIndex := 5, descriptorIndex := 6, attributes := #[] }, { accessFlags := 8, nameIndex := 97, descriptorIndex := 90, attributes := #[] }] 48 2 #[] #[{ accessFlags := 26, nameIndex := 11, descriptorIndex := 12, attributes := #[] }, { accessFlags := 26, nameIndex := 80, descriptorIndex := 81, attributes := #[] }, { accessFlags := 26, nameIndex := 83, descriptorIndex := 81, attributes := #[] }, { accessFlags := 26, nameIndex := 84, descriptorIndex := 81, attributes := #[] }])
  fields := #[{ name := "LONGS", type := (.object "java/lang/invoke/VarHandle"), accessFlags := 26, slot := 0, constantValue := 0 }, { name := "ONES", type := .long, accessFlags := 26, slot := 1, constantValue := 0 }, { name := "TOP_BITS", type := .long, accessFlags := 26, slot := 2, constantValue := 0 }, { name := "TOP_HALVES", type := .long, accessFlags := 26, slot := 3, constantValue := 0 }]
  methods := #[k2m0, k2m1]
  instanceTypes := #[]
  staticTypes := #[(.object "java/lang/invoke/VarHandle"), .long, .long, .long]
  resolved := Array.replicate 101 none
  statics := none }

def pool3 : Array CpInfo := pool [(1, u "java/lang/Cloneable"), (0, .class_ 1), (0, u "java/lang/Object"), (0, .class_ 3)] 3

/-- java/lang/Cloneable -/
def k3 : Class := { plain "java/lang/Cloneable" (some 0) with
  accessFlags := 1537
  interfaces := #[]
  cf := some (fileOf pool3 2 #[] #[] 1537 4 #[] #[])
  fields := #[]
  methods := #[]
  instanceTypes := #[]
  staticTypes := #[]
  resolved := Array.replicate 8 none
  statics := none }

def pool4 : Array CpInfo := pool [(1, u "java/io/Serializable"), (0, .class_ 1), (0, u "java/lang/Object"), (0, .class_ 3)] 3

/-- java/io/Serializable -/
def k4 : Class := { plain "java/io/Serializable" (some 0) with
  accessFlags := 1537
  interfaces := #[]
  cf := some (fileOf pool4 2 #[] #[] 1537 4 #[] #[])
  fields := #[]
  methods := #[]
  instanceTypes := #[]
  staticTypes := #[]
  resolved := Array.replicate 8 none
  statics := none }

/-- the primitive byte -/
def k5 : Class := { plain "byte" none with kind := .primitive 'B', accessFlags := 0x411 }
/-- [B -/
def k6 : Class := { plain "[B" (some 0) with kind := .array 5 .byte, interfaces := #[3, 4], accessFlags := 1041 }

/-- the primitive int -/
def k7 : Class := { plain "int" none with kind := .primitive 'I', accessFlags := 0x411 }
/-- [I -/
def k8 : Class := { plain "[I" (some 0) with kind := .array 7 .int, interfaces := #[3, 4], accessFlags := 1041 }

def heap : Heap := #[]
def classes : Array Class := #[k0, k1, k2, k3, k4, k5, k6, k7, k8]
def interned : List (Array UInt16 × Addr) := []
def slotsUsed : Nat := 0
def theMethod : MethodId := ⟨1, 3⟩
def args0 : Array Value := #[.long 12345678]
def aboutOver (below : List Frame) : State where
  vm := { classes := classes, interned := interned.toArray }
  heap := heap
  slotsUsed := slotsUsed
  threads := #[{ frames := .invoking theMethod args0 :: below }]
def below0 : List Frame := [.native { method := ⟨0, 0⟩, args := #[] }]
def about1 : State := aboutOver below0
def p0 : Program := .bare "" "" ""
def e0 : Env := launch0.env 0 0 0
theorem w_frames : about1.frames = Frame.invoking theMethod args0 :: below0 := rfl
set_option maxRecDepth 65536 in
theorem w_args : argsFit about1.vm theMethod args0 = true := by decide +kernel
set_option maxRecDepth 65536 in
theorem w_heap : heapFits about1 = true := by decide +kernel
set_option maxRecDepth 65536 in
theorem w_runnable : about1.curStatus? = some .runnable := by decide +kernel
set_option maxRecDepth 65536 in
theorem w_alone : about1.alone = true := by decide +kernel
set_option maxRecDepth 65536 in
theorem w_named : about1.methodNamed? x = some theMethod := by decide +kernel
set_option maxRecDepth 65536 in
theorem w_hears : about1.hears theMethod below0 = true := by decide +kernel
set_option maxRecDepth 65536 in
theorem w_ripe : about1.ripe theMethod args0 below0 = true := by decide +kernel
theorem w_running : about1.status = .running := rfl
set_option maxRecDepth 65536 in
theorem w_room : about1.hasRoom e0.platform room_1 = true :=
  launch0.hasRoom_least _ room_1 (by decide +kernel) (by decide +kernel) (by decide +kernel) (by decide +kernel) (by decide +kernel) (by decide +kernel)
theorem allAtoms_all (ts : List Jvm.Cond) (a : Array Jvm.Value) (st : Jvm.State) : (allAtoms ts).before a st = ts.all (fun c => c.before a st) := by
  induction ts with
  | nil => rfl
  | cons c t ih =>
    show (Jvm.Cond.and c (allAtoms t)).before a st = _
    rw [Jvm.Cond.before_and, ih, List.all_cons]
def words1 : List Jvm.Cond := Jvm.Cond.code x code maxLocals ret :: tables_1
/-- a 'code' word, met by the world's own term for the bytes: nothing is compared byte by byte -/
theorem code_word {y : MethodName} {bytes : ByteArray} {mx : Nat} {rt : Option FieldType} {a : Array Value} {s : State} {m : MethodId} {meth : Method} {c : Code} (h1 : s.methodNamed? y = some m) (h2 : s.vm.method? m = some meth) (h3 : meth.code = some c) (h4 : c.code = bytes)
    (h5 : (c.maxLocals == mx && c.exceptionTable.isEmpty && decide (c.maxStack ≤ mostOperands) && decide (meth.sig.returnType = rt) && !meth.locks && decide (parseMethodDescriptor y.desc = some meth.sig)) = true) : (Jvm.Cond.code y bytes mx rt).before a s = true := by
  simp only [Bool.and_eq_true, beq_iff_eq, Bool.not_eq_true', decide_eq_true_eq] at h5
  obtain ⟨⟨⟨⟨⟨g1, g2⟩, g3⟩, g4⟩, g5⟩, g6⟩ := h5
  simp [Cond.before, Cond.holds, Cond.value, h1, h2, h3, h4, g1, g2, g3, g4, g5, g6]
def isCode : Jvm.Cond → Bool
  | .code _ _ _ _ => true
  | _ => false
theorem all_split {L : List Jvm.Cond} {P : Jvm.Cond → Bool} (h1 : L.all (fun c => isCode c || P c) = true) (h2 : ∀ c ∈ L.filter isCode, P c = true) : L.all P = true := by
  refine List.all_eq_true.mpr fun c hc => ?_
  have h := List.all_eq_true.mp h1 c hc
  rcases Bool.eq_false_or_eq_true (isCode c) with hi | hi
  · exact h2 c (List.mem_filter.mpr ⟨hc, hi⟩)
  · simpa [hi] using h
set_option maxRecDepth 65536 in
theorem w_c0 : (Jvm.Cond.code x code maxLocals ret).before args0 about1 = true := code_word (m := ⟨1, 3⟩) (meth := k1m3) (c := k1c3) (by decide +kernel) rfl rfl rfl (by decide +kernel)
set_option maxRecDepth 65536 in
theorem w_c1 : (Jvm.Cond.code ({ cls := "com/example/ilmarinen/ilmarinen/EightBytesNumberPinLaw", name := "digit", desc := "(JI)J" } : Jvm.MethodName) method_2_code (3 : Nat) (Option.some Jvm.ClassFile.FieldType.long)).before args0 about1 = true := code_word (m := ⟨1, 1⟩) (meth := k1m1) (c := k1c1) (by decide +kernel) rfl rfl rfl (by decide +kernel)
set_option maxRecDepth 65536 in
theorem w_c2 : (Jvm.Cond.code ({ cls := "com/example/ilmarinen/ilmarinen/EightBytesNumberPinLaw", name := "place", desc := "(JI)J" } : Jvm.MethodName) method_3_code (3 : Nat) (Option.some Jvm.ClassFile.FieldType.long)).before args0 about1 = true := code_word (m := ⟨1, 2⟩) (meth := k1m2) (c := k1c2) (by decide +kernel) rfl rfl rfl (by decide +kernel)
set_option maxRecDepth 65536 in
theorem w_c3 : (Jvm.Cond.code ({ cls := "com/example/ilmarinen/ilmarinen/EightBytes", name := "number", desc := "(J)J" } : Jvm.MethodName) prog_16_method_9_code (8 : Nat) (Option.some Jvm.ClassFile.FieldType.long)).before args0 about1 = true := code_word (m := ⟨2, 1⟩) (meth := k2m1) (c := k2c1) (by decide +kernel) rfl rfl rfl (by decide +kernel)
def codes1 : List Jvm.Cond := [Jvm.Cond.code x code maxLocals ret, Jvm.Cond.code ({ cls := "com/example/ilmarinen/ilmarinen/EightBytesNumberPinLaw", name := "digit", desc := "(JI)J" } : Jvm.MethodName) method_2_code (3 : Nat) (Option.some Jvm.ClassFile.FieldType.long), Jvm.Cond.code ({ cls := "com/example/ilmarinen/ilmarinen/EightBytesNumberPinLaw", name := "place", desc := "(JI)J" } : Jvm.MethodName) method_3_code (3 : Nat) (Option.some Jvm.ClassFile.FieldType.long), Jvm.Cond.code ({ cls := "com/example/ilmarinen/ilmarinen/EightBytes", name := "number", desc := "(J)J" } : Jvm.MethodName) prog_16_method_9_code (8 : Nat) (Option.some Jvm.ClassFile.FieldType.long)]
set_option maxRecDepth 65536 in
theorem codes_eq : words1.filter isCode = codes1 := rfl
theorem w_codes : ∀ c ∈ words1.filter isCode, c.before args0 about1 = true := by
  rw [codes_eq]
  intro c hc
  simp only [codes1, List.mem_cons, List.not_mem_nil, or_false] at hc
  rcases hc with rfl | rfl | rfl | rfl
  · exact w_c0
  · exact w_c1
  · exact w_c2
  · exact w_c3
set_option maxRecDepth 65536 in
theorem w_t1 : words1.all (fun c => isCode c || c.before args0 about1) = true := by decide +kernel
theorem w_tables : (allAtoms (Jvm.Cond.code x code maxLocals ret :: tables_1)).before args0 about1 = true := by
  rw [allAtoms_all]
  show words1.all (fun c => c.before args0 about1) = true
  refine all_split ?_ w_codes
  rw [w_t1]
set_option maxRecDepth 65536 in
theorem w_case : (Jvm.Cond.and given_1 narrow_1).before args0 about1 = true := by decide +kernel
theorem w_applies : (headSpec (Jvm.Cond.code x code maxLocals ret :: tables_1) room_1).applies x e0.platform about1 = true :=
  (Spec.applies_iff w_frames).mpr ⟨w_running, w_runnable, w_alone, w_named, w_hears, w_ripe, w_room, w_tables⟩
theorem atStart : AtStart classFile x code maxLocals ret World_1 tables_1 room_1 Calls_1 rest_1 Pre_1 launch0 p0 e0 about1 theMethod args0 below0 :=
  ⟨lists_1, trivial, launch0.admits_env _ _ _, launch0.least_env, fairChoices_fair.cas, fairChoices_fair.clock, w_frames, w_args, w_heap, w_applies, trivial, trivial, w_case⟩
end start1
theorem witness_1 : WitnessClaimed_1 := ⟨start1.p0, start1.e0, start1.about1, start1.theMethod, start1.args0, start1.below0, start1.atStart⟩
end Jvm.Pilot.@@N@@
