import JvmDerived
import JvmDerived.Pilot.@@N@@Statement
import JvmDerived.Pilot.@@N@@Code
set_option linter.unusedVariables false
set_option linter.unusedSimpArgs false
set_option maxRecDepth 65536
set_option maxHeartbeats 40000000
@@BLOCK:NumsL.lean.txt@@
namespace Jvm.Pilot.@@N@@
open Jvm Jvm.ClassFile Sem Op Lib Jvm.Free Jvm.Stand Jvm.LawKit Jvm.RoadKit Bundle Jvm.Pilot.@@N@@.Jvm.D
section OwnHead
variable {p : Program} {l : Launch} {e : Env} {R : Room} {s : State} {m : MethodId} {args : Array Value} {below : List Frame} {meth : Method} {c : Code} {T : State} {locs : List Loc} {cells slots : Nat} {Z : State} {a0 : Array Value} {h : Heap}
def o_Go (tb : Tables) (e : Env) (below : List Frame) (F : State → Prop) (U : State) : Prop := ∃ t, Steps tb e below U t ∧ F t
theorem o_by {tb : Tables} {F : State → Prop} {U U' : State} (q : ∀ t, Steps tb e below U' t → Steps tb e below U t) (k : o_Go tb e below F U') : o_Go tb e below F U := by
  obtain ⟨t, a, b⟩ := k
  exact ⟨t, q t a, b⟩
theorem pN {y : MethodName} (q : plainName y.cls = true) : plainFor y = true := plainFor_of_name q
theorem o_ent {tb : Tables} {F : State → Prop} {T : State} {f g : JFrame} (q : f = g) (k : o_Go tb e below F (T.setTop g)) : o_Go tb e below F (T.setTop f) := by
  rw [q]
  exact k
abbrev o_rm (f c s l : Nat) : Room := { frames := f, cells := c, slots := s, locals := l }
theorem o_nR {tb : Tables} {F : State → Prop} {T : State} {m : MethodId} {pc : Nat} {Ls : Array Slot} {v : Value} {rest : List Value} (k : o_Go tb e below F (T.setTop (mkF m pc Ls (v :: rest)))) : o_Go tb e below F (T.setTop (mkF m pc Ls ((some v).toList ++ rest))) := k
theorem o_nV {tb : Tables} {F : State → Prop} {T : State} {m : MethodId} {pc : Nat} {Ls : Array Slot} {rest : List Value} (k : o_Go tb e below F (T.setTop (mkF m pc Ls rest))) : o_Go tb e below F (T.setTop (mkF m pc Ls ((none : Option Value).toList ++ rest))) := k
def o_Fin (s : State) (below : List Frame) (Q : Option Value → Heap → List Loc → Prop) (C N : Nat) (t : State) : Prop := ∃ o, t.status = .running ∧ Ended t below o ∧ ∃ v L, o = .returned v ∧ Q v t.heap L ∧ FrameEnd s o t L C N
theorem o_fin (X : Stand p l e R s m args below meth c T locs cells slots) {Q : Option Value → Heap → List Loc → Prop} {C N : Nat} {v : Option Value} (hk : meth.locks = false) (hv : meth.sig.returnType = none → v = none) {U : State}
    (hst : ∀ fs, (∀ (f : JFrame) (acts : List Action), f.method = m → f.locked = none → f.entered = [] → (doReturn e (T.setTop f) acts v).1 = T.setFrames fs) → Steps p.tables e below U (T.setFrames fs)) (hQ : Q v T.heap locs) (hC : cells ≤ C) (hN : slots ≤ N) :
    o_Go p.tables e below (o_Fin s below Q C N) U := by
  obtain ⟨fs, hr, hrun, hended, hW, hsame⟩ := X.leave (v := v) hv hk
  exact ⟨_, hst fs hr, _, hrun, hended, v, locs, rfl, hQ, ⟨_, rfl⟩, hW, hsame.mono hC hN⟩
theorem o_ret (X : Stand p l e R s m args below meth c T locs cells slots) (hx : p.tables.exec = Jvm.exec) {Q : Option Value → Heap → List Loc → Prop} {C N : Nat} (hk : meth.locks = false) {pc : Nat} {Ls : Array Slot} {w : Value} {t : FieldType} {i : Instr} {rest : List Value} (hret : meth.sig.returnType = some t) (hn : narrow t w = w)
    (hi : (i = .ireturn ∧ (t = .int ∨ t = .boolean ∨ t = .byte ∨ t = .char ∨ t = .short) ∧ ∃ z, w = .int z) ∨ (i = .lreturn ∧ t = .long ∧ ∃ z, w = .long z) ∨ (i = .dreturn ∧ t = .double ∧ ∃ z, w = .double z) ∨ (i = .freturn ∧ t = .float ∧ ∃ z, w = .float z) ∨ (i = .areturn ∧ t.isReference = true ∧ w.isRef = true))
    (hd : decode c.code pc = .ok (i, 1)) (hQ : Q (some w) T.heap locs) (hC : cells ≤ C) (hN : slots ≤ N) : o_Go p.tables e below (o_Fin s below Q C N) (T.setTop (mkF m pc Ls (w :: rest))) :=
  o_fin X hk (fun q => by rw [hret] at q; cases q) (fun fs hr => retOut X hx hret hn hi hd hr) hQ hC hN
theorem o_retI (X : Stand p l e R s m args below meth c T locs cells slots) (hx : p.tables.exec = Jvm.exec) {Q : Option Value → Heap → List Loc → Prop} {C N : Nat} (hk : meth.locks = false) {pc : Nat} {Ls : Array Slot} {z : Int32} {rest : List Value} (hret : meth.sig.returnType = some .int)
    (hd : decode c.code pc = .ok (.ireturn, 1)) (hQ : Q (some (.int z)) T.heap locs) (hC : cells ≤ C) (hN : slots ≤ N) : o_Go p.tables e below (o_Fin s below Q C N) (T.setTop (mkF m pc Ls (.int z :: rest))) :=
  o_ret X hx hk hret rfl (Or.inl ⟨rfl, Or.inl rfl, z, rfl⟩) hd hQ hC hN
theorem o_retZ (X : Stand p l e R s m args below meth c T locs cells slots) (hx : p.tables.exec = Jvm.exec) {Q : Option Value → Heap → List Loc → Prop} {C N : Nat} (hk : meth.locks = false) {pc : Nat} {Ls : Array Slot} {z z' : Int32} {rest : List Value} (hret : meth.sig.returnType = some .boolean)
    (hd : decode c.code pc = .ok (.ireturn, 1)) (hz : nar .boolean z = z') (hQ : Q (some (.int z')) T.heap locs) (hC : cells ≤ C) (hN : slots ≤ N) : o_Go p.tables e below (o_Fin s below Q C N) (T.setTop (mkF m pc Ls (.int z :: rest))) := by
  subst hz
  exact o_fin X hk (fun q => by rw [hret] at q; cases q) (fun fs hr => retN X hx hret (Or.inl rfl) hd hr) hQ hC hN
theorem qR (X : Stand p l e R s m args below meth c T locs cells slots) (hx : p.tables.exec = Jvm.exec) {Q : Option Value → Heap → List Loc → Prop} {C N : Nat} (hk : meth.locks = false) {pc : Nat} {Ls : Array Slot} {w : Value} {t : FieldType} {rest : List Value} (hret : meth.sig.returnType = some t) (ht : t.isReference = true) (hw : w.isRef = true)
    (hd : decode c.code pc = .ok (.areturn, 1)) (hn : narrow t w = w) (hQ : Q (some w) T.heap locs) (hC : cells ≤ C) (hN : slots ≤ N) : o_Go p.tables e below (o_Fin s below Q C N) (T.setTop (mkF m pc Ls (w :: rest))) :=
  o_ret X hx hk hret hn (Or.inr (Or.inr (Or.inr (Or.inr ⟨rfl, ht, hw⟩)))) hd hQ hC hN
theorem qv (X : Stand p l e R s m args below meth c T locs cells slots) (hx : p.tables.exec = Jvm.exec) {Q : Option Value → Heap → List Loc → Prop} {C N : Nat} (hk : meth.locks = false) {pc : Nat} {Ls : Array Slot} (hret : meth.sig.returnType = none)
    (hd : decode c.code pc = .ok (.return_, 1)) (hQ : Q none T.heap locs) (hC : cells ≤ C) (hN : slots ≤ N) : o_Go p.tables e below (o_Fin s below Q C N) (T.setTop (mkF m pc Ls [])) :=
  o_fin X hk (fun _ => rfl) (fun fs hr => X.returnOut hx hret hd hr) hQ hC hN
theorem o_lsw0 {tb : Tables} [Ours tb] {target : State} {g : JFrame} (q : At T m c below) (hx : tb.exec = Jvm.exec) (hg : g.method = m) {dflt : Int} {pairs : Array (Int × Int)} {len : Nat} {o : Int} {pc0 pc' : Nat} (hpc : g.pc = pc0) (hd : decode c.code g.pc = .ok (.lookupswitch dflt pairs, len)) {i : Int32} {rest : List Value} (hs : g.stack = .int i :: rest)
    (hoff : lookupswitch.offset pairs.toList dflt i.toInt = o) (hso : (pairs.toList.zip pairs.toList.tail).all (fun q => decide (q.1.1 < q.2.1)) = true) (ho : 0 ≤ (pc0 : Int) + o) (hp : ((pc0 : Int) + o).toNat = pc') (hr : Steps tb e below (T.setTop { g with pc := pc', stack := rest }) target) : Steps tb e below (T.setTop g) target := by
  subst hg hpc hp
  jvm_step q [q.top, hx, hd, hs, hoff, ho, lookupswitch.wp_chain]
  refine ⟨fun a b a1 b1 hm => ?_, hr⟩
  simpa using List.all_eq_true.mp hso _ hm
theorem qI (X : Stand p l e R s m args below meth c T locs cells slots) (hx : p.tables.exec = Jvm.exec) {F : State → Prop} {pc : Nat} {Ls : Array Slot} {St : List Value} {i : Fin 4} {z : Int32} (hd : decode c.code pc = .ok (.iload_n i, 1)) (hl : Ls[i.val]? = some (.val (.int z))) (pc' : Nat) (hp : pc + 1 = pc') (k : o_Go p.tables e below F (T.setTop (mkF m pc' Ls (.int z :: St)))) : o_Go p.tables e below F (T.setTop (mkF m pc Ls (St))) := by
  subst hp
  exact o_by (fun _ q => XS.iloadN X.here hx rfl hd hl q) k
theorem qi (X : Stand p l e R s m args below meth c T locs cells slots) (hx : p.tables.exec = Jvm.exec) {F : State → Prop} {pc : Nat} {Ls : Array Slot} {St : List Value} {i : Nat} {z : Int32} (hd : decode c.code pc = .ok (.iload i, 2)) (hl : Ls[i]? = some (.val (.int z))) (pc' : Nat) (hp : pc + 2 = pc') (k : o_Go p.tables e below F (T.setTop (mkF m pc' Ls (.int z :: St)))) : o_Go p.tables e below F (T.setTop (mkF m pc Ls (St))) := by
  subst hp
  exact o_by (fun _ q => XS.iload X.here hx rfl hd hl q) k
theorem qk (X : Stand p l e R s m args below meth c T locs cells slots) (hx : p.tables.exec = Jvm.exec) {F : State → Prop} {pc : Nat} {Ls : Array Slot} {St : List Value} {i : Fin 4} {z : Int32} (hd : decode c.code pc = .ok (.istore_n i, 1)) (l' : Array Slot) (hl : storeLocals Ls i.val (.int z) = some l') (pc' : Nat) (hp : pc + 1 = pc') (k : o_Go p.tables e below F (T.setTop (mkF m pc' l' (St)))) : o_Go p.tables e below F (T.setTop (mkF m pc Ls (.int z :: St))) := by
  subst hp
  exact o_by (fun _ q => XS.istoreN X.here hx rfl hd rfl hl q) k
theorem qs (X : Stand p l e R s m args below meth c T locs cells slots) (hx : p.tables.exec = Jvm.exec) {F : State → Prop} {pc : Nat} {Ls : Array Slot} {St : List Value} {i : Nat} {z : Int32} (hd : decode c.code pc = .ok (.istore i, 2)) (l' : Array Slot) (hl : storeLocals Ls i (.int z) = some l') (pc' : Nat) (hp : pc + 2 = pc') (k : o_Go p.tables e below F (T.setTop (mkF m pc' l' (St)))) : o_Go p.tables e below F (T.setTop (mkF m pc Ls (.int z :: St))) := by
  subst hp
  exact o_by (fun _ q => XS.istore X.here hx rfl hd rfl hl q) k
theorem qA (X : Stand p l e R s m args below meth c T locs cells slots) (hx : p.tables.exec = Jvm.exec) {F : State → Prop} {pc : Nat} {Ls : Array Slot} {St : List Value} {i : Fin 4} {v : Value} (hd : decode c.code pc = .ok (.aload_n i, 1)) (hl : Ls[i.val]? = some (.val v)) (hv : v.isRef = true) (pc' : Nat) (hp : pc + 1 = pc') (k : o_Go p.tables e below F (T.setTop (mkF m pc' Ls (v :: St)))) : o_Go p.tables e below F (T.setTop (mkF m pc Ls (St))) := by
  subst hp
  exact o_by (fun _ q => XS.aloadN X.here hx rfl hd hl hv q) k
theorem qa (X : Stand p l e R s m args below meth c T locs cells slots) (hx : p.tables.exec = Jvm.exec) {F : State → Prop} {pc : Nat} {Ls : Array Slot} {St : List Value} {i : Nat} {v : Value} (hd : decode c.code pc = .ok (.aload i, 2)) (hl : Ls[i]? = some (.val v)) (hv : v.isRef = true) (pc' : Nat) (hp : pc + 2 = pc') (k : o_Go p.tables e below F (T.setTop (mkF m pc' Ls (v :: St)))) : o_Go p.tables e below F (T.setTop (mkF m pc Ls (St))) := by
  subst hp
  exact o_by (fun _ q => XS.aload X.here hx rfl hd hl hv q) k
theorem qh (X : Stand p l e R s m args below meth c T locs cells slots) (hx : p.tables.exec = Jvm.exec) {F : State → Prop} {pc : Nat} {Ls : Array Slot} {St : List Value} {i : Fin 4} {v : Value} (hd : decode c.code pc = .ok (.astore_n i, 1)) (l' : Array Slot) (hv : v.isRef = true) (hl : storeLocals Ls i.val v = some l') (pc' : Nat) (hp : pc + 1 = pc') (k : o_Go p.tables e below F (T.setTop (mkF m pc' l' (St)))) : o_Go p.tables e below F (T.setTop (mkF m pc Ls (v :: St))) := by
  subst hp
  exact o_by (fun _ q => XS.astoreN X.here hx rfl hd rfl hv hl q) k
theorem qt (X : Stand p l e R s m args below meth c T locs cells slots) (hx : p.tables.exec = Jvm.exec) {F : State → Prop} {pc : Nat} {Ls : Array Slot} {St : List Value} {i : Nat} {v : Value} (hd : decode c.code pc = .ok (.astore i, 2)) (l' : Array Slot) (hv : v.isRef = true) (hl : storeLocals Ls i v = some l') (pc' : Nat) (hp : pc + 2 = pc') (k : o_Go p.tables e below F (T.setTop (mkF m pc' l' (St)))) : o_Go p.tables e below F (T.setTop (mkF m pc Ls (v :: St))) := by
  subst hp
  exact o_by (fun _ q => XS.astore X.here hx rfl hd rfl hv hl q) k
theorem qC (X : Stand p l e R s m args below meth c T locs cells slots) (hx : p.tables.exec = Jvm.exec) {F : State → Prop} {pc : Nat} {Ls : Array Slot} {St : List Value} {i : Int} (hd : decode c.code pc = .ok (.iconst i, 1)) (z : Int32) (hz : Int32.ofInt i = z) (pc' : Nat) (hp : pc + 1 = pc') (k : o_Go p.tables e below F (T.setTop (mkF m pc' Ls (.int z :: St)))) : o_Go p.tables e below F (T.setTop (mkF m pc Ls (St))) := by
  subst hp hz
  exact o_by (fun _ q => XS.iconst X.here hx rfl hd  q) k
theorem o_bipush (X : Stand p l e R s m args below meth c T locs cells slots) (hx : p.tables.exec = Jvm.exec) {F : State → Prop} {pc : Nat} {Ls : Array Slot} {St : List Value} {i : Int} (hd : decode c.code pc = .ok (.bipush i, 2)) (z : Int32) (hz : (Int8.ofInt i).toInt32 = z) (pc' : Nat) (hp : pc + 2 = pc') (k : o_Go p.tables e below F (T.setTop (mkF m pc' Ls (.int z :: St)))) : o_Go p.tables e below F (T.setTop (mkF m pc Ls (St))) := by
  subst hp hz
  exact o_by (fun _ q => XS.bipush X.here hx rfl hd  q) k
theorem o_sipush (X : Stand p l e R s m args below meth c T locs cells slots) (hx : p.tables.exec = Jvm.exec) {F : State → Prop} {pc : Nat} {Ls : Array Slot} {St : List Value} {i : Int} (hd : decode c.code pc = .ok (.sipush i, 3)) (z : Int32) (hz : (Int16.ofInt i).toInt32 = z) (pc' : Nat) (hp : pc + 3 = pc') (k : o_Go p.tables e below F (T.setTop (mkF m pc' Ls (.int z :: St)))) : o_Go p.tables e below F (T.setTop (mkF m pc Ls (St))) := by
  subst hp hz
  exact o_by (fun _ q => XS.sipush X.here hx rfl hd  q) k
theorem o_aconst_null (X : Stand p l e R s m args below meth c T locs cells slots) (hx : p.tables.exec = Jvm.exec) {F : State → Prop} {pc : Nat} {Ls : Array Slot} {St : List Value}  (hd : decode c.code pc = .ok (.aconst_null, 1)) (pc' : Nat) (hp : pc + 1 = pc') (k : o_Go p.tables e below F (T.setTop (mkF m pc' Ls (.null :: St)))) : o_Go p.tables e below F (T.setTop (mkF m pc Ls (St))) := by
  subst hp
  exact o_by (fun _ q => XS.aconstNull X.here hx rfl hd  q) k
theorem o_iadd (X : Stand p l e R s m args below meth c T locs cells slots) (hx : p.tables.exec = Jvm.exec) {F : State → Prop} {pc : Nat} {Ls : Array Slot} {St : List Value} {x y : Int32} (hd : decode c.code pc = .ok (.iadd, 1)) (pc' : Nat) (hp : pc + 1 = pc') (k : o_Go p.tables e below F (T.setTop (mkF m pc' Ls (.int (x + y) :: St)))) : o_Go p.tables e below F (T.setTop (mkF m pc Ls (.int y :: .int x :: St))) := by
  subst hp
  exact o_by (fun _ q => XS.iadd X.here hx rfl hd rfl q) k
theorem o_isub (X : Stand p l e R s m args below meth c T locs cells slots) (hx : p.tables.exec = Jvm.exec) {F : State → Prop} {pc : Nat} {Ls : Array Slot} {St : List Value} {x y : Int32} (hd : decode c.code pc = .ok (.isub, 1)) (pc' : Nat) (hp : pc + 1 = pc') (k : o_Go p.tables e below F (T.setTop (mkF m pc' Ls (.int (x - y) :: St)))) : o_Go p.tables e below F (T.setTop (mkF m pc Ls (.int y :: .int x :: St))) := by
  subst hp
  exact o_by (fun _ q => XS.isub X.here hx rfl hd rfl q) k
theorem o_iand (X : Stand p l e R s m args below meth c T locs cells slots) (hx : p.tables.exec = Jvm.exec) {F : State → Prop} {pc : Nat} {Ls : Array Slot} {St : List Value} {x y : Int32} (hd : decode c.code pc = .ok (.iand, 1)) (pc' : Nat) (hp : pc + 1 = pc') (k : o_Go p.tables e below F (T.setTop (mkF m pc' Ls (.int (x &&& y) :: St)))) : o_Go p.tables e below F (T.setTop (mkF m pc Ls (.int y :: .int x :: St))) := by
  subst hp
  exact o_by (fun _ q => XS.iand X.here hx rfl hd rfl q) k
theorem o_ixor (X : Stand p l e R s m args below meth c T locs cells slots) (hx : p.tables.exec = Jvm.exec) {F : State → Prop} {pc : Nat} {Ls : Array Slot} {St : List Value} {x y : Int32} (hd : decode c.code pc = .ok (.ixor, 1)) (pc' : Nat) (hp : pc + 1 = pc') (k : o_Go p.tables e below F (T.setTop (mkF m pc' Ls (.int (x ^^^ y) :: St)))) : o_Go p.tables e below F (T.setTop (mkF m pc Ls (.int y :: .int x :: St))) := by
  subst hp
  exact o_by (fun _ q => XS.ixor X.here hx rfl hd rfl q) k
theorem o_iushr (X : Stand p l e R s m args below meth c T locs cells slots) (hx : p.tables.exec = Jvm.exec) {F : State → Prop} {pc : Nat} {Ls : Array Slot} {St : List Value} {x y : Int32} (hd : decode c.code pc = .ok (.iushr, 1)) (pc' : Nat) (hp : pc + 1 = pc') (k : o_Go p.tables e below F (T.setTop (mkF m pc' Ls (.int ((x.toUInt32 >>> (y &&& 31).toUInt32).toInt32) :: St)))) : o_Go p.tables e below F (T.setTop (mkF m pc Ls (.int y :: .int x :: St))) := by
  subst hp
  exact o_by (fun _ q => XS.iushr X.here hx rfl hd rfl q) k
theorem o_i2b (X : Stand p l e R s m args below meth c T locs cells slots) (hx : p.tables.exec = Jvm.exec) {F : State → Prop} {pc : Nat} {Ls : Array Slot} {St : List Value} {x : Int32} (hd : decode c.code pc = .ok (.i2b, 1)) (pc' : Nat) (hp : pc + 1 = pc') (k : o_Go p.tables e below F (T.setTop (mkF m pc' Ls (.int (x.toInt8.toInt32) :: St)))) : o_Go p.tables e below F (T.setTop (mkF m pc Ls (.int x :: St))) := by
  subst hp
  exact o_by (fun _ q => XS.i2b X.here hx rfl hd rfl q) k
theorem o_iinc (X : Stand p l e R s m args below meth c T locs cells slots) (hx : p.tables.exec = Jvm.exec) {F : State → Prop} {pc : Nat} {Ls : Array Slot} {St : List Value} {i : Nat} {cst : Int} {x : Int32} (hd : decode c.code pc = .ok (.iinc i cst, 3)) (l' : Array Slot) (hl : Ls[i]? = some (.val (.int x))) (hl' : storeLocals Ls i (.int (x + Int32.ofInt cst)) = some l') (pc' : Nat) (hp : pc + 3 = pc') (k : o_Go p.tables e below F (T.setTop (mkF m pc' l' (St)))) : o_Go p.tables e below F (T.setTop (mkF m pc Ls (St))) := by
  subst hp
  exact o_by (fun _ q => XS.iinc X.here hx rfl hd hl hl' q) k
theorem qD (X : Stand p l e R s m args below meth c T locs cells slots) (hx : p.tables.exec = Jvm.exec) {F : State → Prop} {pc : Nat} {Ls : Array Slot} {St : List Value} {v : Value} (hd : decode c.code pc = .ok (.dup, 1)) (hc : v.category = 1) (pc' : Nat) (hp : pc + 1 = pc') (k : o_Go p.tables e below F (T.setTop (mkF m pc' Ls (v :: v :: St)))) : o_Go p.tables e below F (T.setTop (mkF m pc Ls (v :: St))) := by
  subst hp
  exact o_by (fun _ q => XS.dup X.here hx rfl hd rfl hc q) k
theorem o_pop (X : Stand p l e R s m args below meth c T locs cells slots) (hx : p.tables.exec = Jvm.exec) {F : State → Prop} {pc : Nat} {Ls : Array Slot} {St : List Value} {v : Value} (hd : decode c.code pc = .ok (.pop, 1)) (hc : v.category = 1) (pc' : Nat) (hp : pc + 1 = pc') (k : o_Go p.tables e below F (T.setTop (mkF m pc' Ls (St)))) : o_Go p.tables e below F (T.setTop (mkF m pc Ls (v :: St))) := by
  subst hp
  exact o_by (fun _ q => XS.pop X.here hx rfl hd rfl hc q) k
theorem o_dup_x1 (X : Stand p l e R s m args below meth c T locs cells slots) (hx : p.tables.exec = Jvm.exec) {F : State → Prop} {pc : Nat} {Ls : Array Slot} {St : List Value} {v w : Value} (hd : decode c.code pc = .ok (.dup_x1, 1)) (hc : v.category = 1) (hc' : w.category = 1) (pc' : Nat) (hp : pc + 1 = pc') (k : o_Go p.tables e below F (T.setTop (mkF m pc' Ls (v :: w :: v :: St)))) : o_Go p.tables e below F (T.setTop (mkF m pc Ls (v :: w :: St))) := by
  subst hp
  exact o_by (fun _ q => XS.dupX1 X.here hx rfl hd rfl hc hc' q) k
theorem qG (X : Stand p l e R s m args below meth c T locs cells slots) (hx : p.tables.exec = Jvm.exec) {F : State → Prop} {pc : Nat} {Ls : Array Slot} {St : List Value}  {o : Int} (hd : decode c.code pc = .ok (.goto o, 3)) (pc' : Nat) (ho : 0 ≤ (pc : Int) + o) (hp : ((pc : Int) + o).toNat = pc') (k : o_Go p.tables e below F (T.setTop (mkF m pc' Ls (St)))) : o_Go p.tables e below F (T.setTop (mkF m pc Ls (St))) :=
  o_by (fun _ q => XS.goto X.here hx rfl (pc0 := pc) rfl hd  ho hp q) k
theorem o_ifY (X : Stand p l e R s m args below meth c T locs cells slots) (hx : p.tables.exec = Jvm.exec) {F : State → Prop} {pc : Nat} {Ls : Array Slot} {St : List Value} {cd : ClassFile.Cond} {x : Int32} {o : Int} (hd : decode c.code pc = .ok (.ifCond cd o, 3)) (hc : ifCond.holds cd x = true) (pc' : Nat) (ho : 0 ≤ (pc : Int) + o) (hp : ((pc : Int) + o).toNat = pc') (k : o_Go p.tables e below F (T.setTop (mkF m pc' Ls (St)))) : o_Go p.tables e below F (T.setTop (mkF m pc Ls (.int x :: St))) :=
  o_by (fun _ q => XS.ifYes X.here hx rfl (pc0 := pc) rfl hd rfl hc ho hp q) k
theorem o_icmpY (X : Stand p l e R s m args below meth c T locs cells slots) (hx : p.tables.exec = Jvm.exec) {F : State → Prop} {pc : Nat} {Ls : Array Slot} {St : List Value} {cd : ClassFile.Cond} {x y : Int32} {o : Int} (hd : decode c.code pc = .ok (.if_icmp cd o, 3)) (hc : if_icmp.holds cd x y = true) (pc' : Nat) (ho : 0 ≤ (pc : Int) + o) (hp : ((pc : Int) + o).toNat = pc') (k : o_Go p.tables e below F (T.setTop (mkF m pc' Ls (St)))) : o_Go p.tables e below F (T.setTop (mkF m pc Ls (.int y :: .int x :: St))) :=
  o_by (fun _ q => XS.icmpYes X.here hx rfl (pc0 := pc) rfl hd rfl hc ho hp q) k
theorem o_ifnullY (X : Stand p l e R s m args below meth c T locs cells slots) (hx : p.tables.exec = Jvm.exec) {F : State → Prop} {pc : Nat} {Ls : Array Slot} {St : List Value}  {o : Int} (hd : decode c.code pc = .ok (.ifnull o, 3)) (pc' : Nat) (ho : 0 ≤ (pc : Int) + o) (hp : ((pc : Int) + o).toNat = pc') (k : o_Go p.tables e below F (T.setTop (mkF m pc' Ls (St)))) : o_Go p.tables e below F (T.setTop (mkF m pc Ls (.null :: St))) :=
  o_by (fun _ q => XS.ifnullYes X.here hx rfl (pc0 := pc) rfl hd rfl ho hp q) k
theorem o_ifnonnullY (X : Stand p l e R s m args below meth c T locs cells slots) (hx : p.tables.exec = Jvm.exec) {F : State → Prop} {pc : Nat} {Ls : Array Slot} {St : List Value} {b : Addr} {o : Int} (hd : decode c.code pc = .ok (.ifnonnull o, 3)) (pc' : Nat) (ho : 0 ≤ (pc : Int) + o) (hp : ((pc : Int) + o).toNat = pc') (k : o_Go p.tables e below F (T.setTop (mkF m pc' Ls (St)))) : o_Go p.tables e below F (T.setTop (mkF m pc Ls (.ref b :: St))) :=
  o_by (fun _ q => XS.ifnonnullYes X.here hx rfl (pc0 := pc) rfl hd rfl ho hp q) k
theorem qN (X : Stand p l e R s m args below meth c T locs cells slots) (hx : p.tables.exec = Jvm.exec) {F : State → Prop} {pc : Nat} {Ls : Array Slot} {St : List Value} {o : Int} {cd : ClassFile.Cond} {x : Int32} (hd : decode c.code pc = .ok (.ifCond cd o, 3)) (hc : ifCond.holds cd x = false) (pc' : Nat) (hp : pc + 3 = pc') (k : o_Go p.tables e below F (T.setTop (mkF m pc' Ls (St)))) : o_Go p.tables e below F (T.setTop (mkF m pc Ls (.int x :: St))) := by
  subst hp
  exact o_by (fun _ q => XS.ifNo X.here hx rfl hd rfl hc q) k
theorem qn (X : Stand p l e R s m args below meth c T locs cells slots) (hx : p.tables.exec = Jvm.exec) {F : State → Prop} {pc : Nat} {Ls : Array Slot} {St : List Value} {o : Int} {cd : ClassFile.Cond} {x y : Int32} (hd : decode c.code pc = .ok (.if_icmp cd o, 3)) (hc : if_icmp.holds cd x y = false) (pc' : Nat) (hp : pc + 3 = pc') (k : o_Go p.tables e below F (T.setTop (mkF m pc' Ls (St)))) : o_Go p.tables e below F (T.setTop (mkF m pc Ls (.int y :: .int x :: St))) := by
  subst hp
  exact o_by (fun _ q => XS.icmpNo X.here hx rfl hd rfl hc q) k
theorem o_ifnullN (X : Stand p l e R s m args below meth c T locs cells slots) (hx : p.tables.exec = Jvm.exec) {F : State → Prop} {pc : Nat} {Ls : Array Slot} {St : List Value} {o : Int} {b : Addr} (hd : decode c.code pc = .ok (.ifnull o, 3)) (pc' : Nat) (hp : pc + 3 = pc') (k : o_Go p.tables e below F (T.setTop (mkF m pc' Ls (St)))) : o_Go p.tables e below F (T.setTop (mkF m pc Ls (.ref b :: St))) := by
  subst hp
  exact o_by (fun _ q => XS.ifnullNo X.here hx rfl hd rfl q) k
theorem o_ifnonnullN (X : Stand p l e R s m args below meth c T locs cells slots) (hx : p.tables.exec = Jvm.exec) {F : State → Prop} {pc : Nat} {Ls : Array Slot} {St : List Value} {o : Int} (hd : decode c.code pc = .ok (.ifnonnull o, 3)) (pc' : Nat) (hp : pc + 3 = pc') (k : o_Go p.tables e below F (T.setTop (mkF m pc' Ls (St)))) : o_Go p.tables e below F (T.setTop (mkF m pc Ls (.null :: St))) := by
  subst hp
  exact o_by (fun _ q => XS.ifnonnullNo X.here hx rfl hd rfl q) k
theorem qm (X : Stand p l e R s m args below meth c T locs cells slots) (hx : p.tables.exec = Jvm.exec) {F : State → Prop} {pc : Nat} {Ls : Array Slot} {St : List Value} {cd : ACond} {x y : Value} {o : Int} (same : Bool) (hd : decode c.code pc = .ok (.if_acmp cd o, 3)) (h1 : x.isRef = true) (h2 : y.isRef = true) (hq : decide (x = y) = same) (pc' : Nat) (ho : 0 ≤ (pc : Int) + o) (hp : pc' = if acV cd same = true then ((pc : Int) + o).toNat else pc + 3) (k : o_Go p.tables e below F (T.setTop (mkF m pc' Ls St))) : o_Go p.tables e below F (T.setTop (mkF m pc Ls (y :: x :: St))) :=
  o_by (fun _ q => Jvm.RoadKit.acmp (g := mkF m pc Ls (y :: x :: St)) X hx rfl h1 h2 (pc0 := pc) rfl hd rfl hq ho hp q) k
theorem o_ldc (X : Stand p l e R s m args below meth c T locs cells slots) (hx : p.tables.exec = Jvm.exec) {F : State → Prop} {pc : Nat} {Ls : Array Slot} {St : List Value} (hZ : Z.Warmed39 s.vm) {own : String} {i : Nat} {z : Int32} (hown : s.vm.findClass own = some m.cls) (w : (Cond.constant own i z).before a0 Z = true) (hd : decode c.code pc = .ok (.ldc i, 2)) (pc' : Nat) (hp : pc + 2 = pc') (k : o_Go p.tables e below F (T.setTop (mkF m pc' Ls (.int z :: St)))) : o_Go p.tables e below F (T.setTop (mkF m pc Ls St)) := by
  subst hp
  exact o_by (fun _ q => X.ldcInt hx hown (mvT hZ w) (g := mkF m pc Ls St) rfl hd _ q) k
theorem o_getS (X : Stand p l e R s m args below meth c T locs cells slots) (hx : p.tables.exec = Jvm.exec) {F : State → Prop} {pc : Nat} {Ls : Array Slot} {St : List Value} (hZ : Z.Warmed39 s.vm) {own R0 O n d host : String} {i : Nat} (hown : s.vm.findClass own = some m.cls) (w : (Cond.fieldLink own i R0 n d).before a0 Z = true ∨ (Cond.fieldLinkNest own i R0 n d host).before a0 Z = true) (via : Via Z R0 O n d) (eT : T.heap = h) {v : Value} (S : Sta Z h O n d v) (hd : decode c.code pc = .ok (.getstatic i, 3)) (pc' : Nat) (hp : pc + 3 = pc')
    (k : ∀ T', Stand p l e R s m args below meth c T' locs cells slots → T'.heap = h → o_Go p.tables e below F (T'.setTop (mkF m pc' Ls (v :: St)))) : o_Go p.tables e below F (T.setTop (mkF m pc Ls St)) := by
  subst hp
  obtain ⟨T', X', e', st⟩ := getS2 X hx hZ hown w via eT S (g := mkF m pc Ls St) rfl hd
  exact o_by st (k T' X' e')
theorem qF (X : Stand p l e R s m args below meth c T locs cells slots) (hx : p.tables.exec = Jvm.exec) {F : State → Prop} {pc : Nat} {Ls : Array Slot} {St : List Value} (hZ : Z.Warmed39 s.vm) {own R0 O n d host : String} {i : Nat} (hown : s.vm.findClass own = some m.cls) (w : (Cond.fieldLink own i R0 n d).before a0 Z = true ∨ (Cond.fieldLinkNest own i R0 n d host).before a0 Z = true) (via : Via Z R0 O n d) (eT : T.heap = h) {a : Addr} {v : Value} (S : Fld Z h a O n d v) (hd : decode c.code pc = .ok (.getfield i, 3)) (pc' : Nat) (hp : pc + 3 = pc')
    (k : ∀ T', Stand p l e R s m args below meth c T' locs cells slots → T'.heap = h → o_Go p.tables e below F (T'.setTop (mkF m pc' Ls (v :: St)))) : o_Go p.tables e below F (T.setTop (mkF m pc Ls (.ref a :: St))) := by
  subst hp
  obtain ⟨T', X', e', st⟩ := getF X hx hZ hown w via eT S (g := mkF m pc Ls (.ref a :: St)) rfl rfl hd
  exact o_by st (k T' X' e')
theorem o_lsw (X : Stand p l e R s m args below meth c T locs cells slots) (hx : p.tables.exec = Jvm.exec) {F : State → Prop} {pc : Nat} {Ls : Array Slot} {St : List Value} {dflt : Int} {pairs : Array (Int × Int)} {len : Nat} {i : Int32} (o : Int) (hd : decode c.code pc = .ok (.lookupswitch dflt pairs, len)) (hoff : lookupswitch.offset pairs.toList dflt i.toInt = o) (hso : (pairs.toList.zip pairs.toList.tail).all (fun q => decide (q.1.1 < q.2.1)) = true) (pc' : Nat) (ho : 0 ≤ (pc : Int) + o) (hp : ((pc : Int) + o).toNat = pc') (k : o_Go p.tables e below F (T.setTop (mkF m pc' Ls St))) : o_Go p.tables e below F (T.setTop (mkF m pc Ls (.int i :: St))) :=
  o_by (fun _ q => o_lsw0 X.here hx rfl (pc0 := pc) rfl hd rfl hoff hso ho hp q) k
theorem o_tsw (X : Stand p l e R s m args below meth c T locs cells slots) (hx : p.tables.exec = Jvm.exec) {F : State → Prop} {pc : Nat} {Ls : Array Slot} {St : List Value} {dflt lo hi : Int} {offs : Array Int} {len : Nat} {i : Int32} (o : Int) (hd : decode c.code pc = .ok (.tableswitch dflt lo hi offs, len)) (hin : ¬ (i.toInt < lo ∨ i.toInt > hi)) (hoff : offs[(i.toInt - lo).toNat]? = some o) (pc' : Nat) (ho : 0 ≤ (pc : Int) + o) (hp : ((pc : Int) + o).toNat = pc') (k : o_Go p.tables e below F (T.setTop (mkF m pc' Ls St))) : o_Go p.tables e below F (T.setTop (mkF m pc Ls (.int i :: St))) :=
  o_by (fun _ q => XS.tswIn X.here hx rfl (pc0 := pc) rfl hd rfl hin hoff ho hp q) k
theorem o_tswD (X : Stand p l e R s m args below meth c T locs cells slots) (hx : p.tables.exec = Jvm.exec) {F : State → Prop} {pc : Nat} {Ls : Array Slot} {St : List Value} {dflt lo hi : Int} {offs : Array Int} {len : Nat} {i : Int32} (hd : decode c.code pc = .ok (.tableswitch dflt lo hi offs, len)) (hout : i.toInt < lo ∨ i.toInt > hi) (pc' : Nat) (ho : 0 ≤ (pc : Int) + dflt) (hp : ((pc : Int) + dflt).toNat = pc') (k : o_Go p.tables e below F (T.setTop (mkF m pc' Ls St))) : o_Go p.tables e below F (T.setTop (mkF m pc Ls (.int i :: St))) :=
  o_by (fun _ q => XS.tswOut X.here hx rfl (pc0 := pc) rfl hd rfl hout ho hp q) k

theorem o_topI {F : State → Prop} {pc : Nat} {Ls : Array Slot} {St : List Value} {x : Int32} (z : Int32) (hz : x = z) (k : o_Go p.tables e below F (T.setTop (mkF m pc Ls (.int z :: St)))) : o_Go p.tables e below F (T.setTop (mkF m pc Ls (.int x :: St))) := by
  subst hz
  exact k
theorem o_iincC (X : Stand p l e R s m args below meth c T locs cells slots) (hx : p.tables.exec = Jvm.exec) {F : State → Prop} {pc : Nat} {Ls : Array Slot} {St : List Value} {i : Nat} {cst : Int} {x : Int32} (hd : decode c.code pc = .ok (.iinc i cst, 3)) (l' : Array Slot) (hl : Ls[i]? = some (.val (.int x))) (z : Int32) (hz : x + Int32.ofInt cst = z) (hl' : storeLocals Ls i (.int z) = some l') (pc' : Nat) (hp : pc + 3 = pc') (k : o_Go p.tables e below F (T.setTop (mkF m pc' l' St))) : o_Go p.tables e below F (T.setTop (mkF m pc Ls St)) := by
  subst hz
  exact o_iinc X hx hd l' hl hl' pc' hp k
abbrev o_Met (l : Launch) (y : MethodName) (bytes : ByteArray) (ml : Nat) (ret : Option FieldType) (ws : List Cond) (rm : Room) (Z : State) (as : Array Value) (h : Heap) (Q : Option Value → Heap → List Loc → Prop) : Prop :=
  MetFree l y (head1 (Jvm.Cond.code y bytes ml ret :: ws) rm) (fun a U => a = as ∧ Z.Warmed39 U.vm ∧ U.heap = h) (fun _ _ _ _ _ => True) (fun _ U o U' => ∃ v L, o = .returned v ∧ Q v U'.heap L ∧ FrameEnd U o U' L rm.cells rm.slots)
theorem o_met {y : MethodName} {bytes : ByteArray} {ml : Nat} {ret : Option FieldType} {ws : List Cond} {rm : Room} {as : Array Value} {Q : Option Value → Heap → List Loc → Prop} (hp : plainFor y = true)
    (body : ∀ (p : Program) (e : Env) (s : State) (m : MethodId) (below : List Frame) (meth : Method) (c : Code) (T0 : State), p.tables.exec = Jvm.exec → c.code = bytes → c.maxLocals = ml → s.vm.findClass y.cls = some m.cls → meth.sig.returnType = ret → meth.locks = false → meth.name = y.name → Z.Warmed39 s.vm →
      Stand p l e rm s m as below meth c T0 [] 0 0 → T0.heap = h → o_Go p.tables e below (o_Fin s below Q rm.cells rm.slots) (T0.setTop (entryFrame m as ml))) : o_Met l y bytes ml ret ws rm Z as h Q := by
  refine MetFree.of_bodySF hp hisR ?_
  intro p e s m args below meth c s₁ Bd hml0 hP hK
  obtain ⟨rfl, hZ, hh⟩ := hP
  have e0 : s₁.heap = h := by rw [← hh, Bd.state]; rfl
  obtain ⟨t, h1, o, h2, h3, h4⟩ := body p e s m below meth c s₁ Bd.exec Bd.bytes hml0 (findClass_of_methodNamed Bd.named) Bd.returns (BodyLoose.notSynchronized Bd) (name_of_methodNamed Bd.named Bd.method).1 hZ (Stand.of_body Bd) e0
  exact ⟨t, o, h1, h2, h3, h4⟩
theorem o_callS (X : Stand p l e R s m args below meth c T locs cells slots) (hx : p.tables.exec = Jvm.exec) (hZ : Z.Warmed39 s.vm) {own : String} {index : Nat} {y : MethodName} {bytes : ByteArray} {maxL : Nat} {ret : Option FieldType} {rm : Room} (hown : s.vm.findClass own = some m.cls)
    (w1 : (Cond.methodLink own index y).before a0 Z = true) (w2 : (Cond.static y).before a0 Z = true) (w3 : (Cond.initialized y.cls).before a0 Z = true) (w4 : (Cond.code y bytes maxL ret).before a0 Z = true) (hy : y.cls ≠ "java/lang/invoke/MethodHandle" ∧ y.cls ≠ "java/lang/invoke/VarHandle")
    {Q : Option Value → Heap → List Loc → Prop} (argsL rest : List Value) (W : Nat) (hM : o_Met l y bytes maxL ret [] rm Z argsL.toArray h Q) (hf : rm.frames + 1 ≤ R.frames) (hl : W + (maxL + 11) + rm.locals ≤ R.locals) (eT : T.heap = h) {pc : Nat} {Ls : Array Slot} (hsize : Ls.size = c.maxLocals)
    (hlen : ∀ sig, parseMethodDescriptor y.desc = some sig → argsL.length = sig.parameters.length) (hW : 2 * 0 + (rest.map fun v => v.category).sum ≤ W) (hd : decode c.code pc = .ok (.invokestatic index, 3)) (hC : cells + rm.cells ≤ R.cells) (hN : slots + rm.slots ≤ R.slots) :
    ∃ (v : Option Value) (T' : State) (L : List Loc), Stand p l e R s m args below meth c T' (locs ++ L) (cells + rm.cells) (slots + rm.slots) ∧ Q v T'.heap L ∧ ∀ target, Steps p.tables e below (T'.setTop (mkF m (pc + 3) Ls (v.toList ++ rest))) target → Steps p.tables e below (T.setTop (mkF m pc Ls (argsL.reverse ++ rest))) target := by
  obtain ⟨v, _, ⟨T', L', k', n'⟩, -, X', ⟨L, hQ, h1, h2, h3⟩, st⟩ := Jvm.LawKit.callS X hx (y := y) hown (mvT hZ w1) (mvT hZ w2) (mvT hZ w3) (mvT hZ w4) hy (backOf (W := W) hM hZ w4 w3 hf hl) (g := mkF m pc Ls (argsL.reverse ++ rest)) rfl hsize (argsL := argsL) (rest := rest) hlen rfl hW hd (fun _ _ => ⟨rfl, eT, hC, hN⟩)
  dsimp only [Pt.U, Pt.locs, Pt.cells, Pt.slots] at X' h1 h2 h3 st hQ
  subst h1 h2 h3
  exact ⟨v, T', L, X', hQ, st⟩
theorem kS (X : Stand p l e R s m args below meth c T locs cells slots) (hx : p.tables.exec = Jvm.exec) (hZ : Z.Warmed39 s.vm) {own : String} {index : Nat} {y : MethodName} {bytes : ByteArray} {maxL : Nat} {ret : Option FieldType} {rm : Room} (hown : s.vm.findClass own = some m.cls)
    (w1 : (Cond.methodLink own index y).before a0 Z = true) (w2 : (Cond.static y).before a0 Z = true) (w3 : (Cond.initialized y.cls).before a0 Z = true) (w4 : (Cond.code y bytes maxL ret).before a0 Z = true) (hy : y.cls ≠ "java/lang/invoke/MethodHandle" ∧ y.cls ≠ "java/lang/invoke/VarHandle")
    {Q : Option Value → Heap → List Loc → Prop} (argsL rest : List Value) (W : Nat) (hM : o_Met l y bytes maxL ret [] rm Z argsL.toArray h Q) (hf : rm.frames + 1 ≤ R.frames) (hl : W + (maxL + 11) + rm.locals ≤ R.locals) (eT : T.heap = h) {pc : Nat} {Ls : Array Slot} (hsize : Ls.size = c.maxLocals)
    (hlen : ∀ sig, parseMethodDescriptor y.desc = some sig → argsL.length = sig.parameters.length) (hW : 2 * 0 + (rest.map fun v => v.category).sum ≤ W) (hd : decode c.code pc = .ok (.invokestatic index, 3)) (hC : cells + rm.cells ≤ R.cells) (hN : slots + rm.slots ≤ R.slots) (pc' : Nat) (hp : pc + 3 = pc') {F : State → Prop}
    (k : ∀ (v : Option Value) (T' : State) (L : List Loc), Stand p l e R s m args below meth c T' (locs ++ L) (cells + rm.cells) (slots + rm.slots) → Q v T'.heap L → o_Go p.tables e below F (T'.setTop (mkF m pc' Ls (v.toList ++ rest)))) : o_Go p.tables e below F (T.setTop (mkF m pc Ls (argsL.reverse ++ rest))) := by
  subst hp
  obtain ⟨v, T', L, X', hQ, st⟩ := o_callS X hx hZ hown w1 w2 w3 w4 hy argsL rest W hM hf hl eT hsize hlen hW hd hC hN
  exact o_by st (k v T' L X' hQ)
theorem o_callV (X : Stand p l e R s m args below meth c T locs cells slots) (hx : p.tables.exec = Jvm.exec) (hZ : Z.Warmed39 s.vm) {own C : String} {index : Nat} {y z : MethodName} {bytes : ByteArray} {maxL : Nat} {ret : Option FieldType} {rm : Room} (hown : s.vm.findClass own = some m.cls)
    (w1 : (Cond.methodLink own index y).before a0 Z = true) (w2 : (Cond.declares y).before a0 Z = true) (hnf : NotFace s y) (w3 : (Cond.selects C y z).before a0 Z = true) (w4 : (Cond.instanceMethod z).before a0 Z = true) (w5 : (Cond.initialized z.cls).before a0 Z = true) (w6 : (Cond.code z bytes maxL ret).before a0 Z = true) (hy : y.cls ≠ "java/lang/invoke/MethodHandle" ∧ y.cls ≠ "java/lang/invoke/VarHandle")
    {Q : Option Value → Heap → List Loc → Prop} (b : Addr) (argsL rest : List Value) (W : Nat) (hM : o_Met l z bytes maxL ret [] rm Z (.ref b :: argsL).toArray h Q) (hf : rm.frames + 1 ≤ R.frames) (hl : W + (maxL + 11) + rm.locals ≤ R.locals) (eT : T.heap = h) (E : Exa Z h b C) {pc : Nat} {Ls : Array Slot} (hsize : Ls.size = c.maxLocals)
    (hlen : ∀ sig, parseMethodDescriptor y.desc = some sig → argsL.length = sig.parameters.length) (hW : 2 * 0 + (rest.map fun v => v.category).sum ≤ W) (hd : decode c.code pc = .ok (.invokevirtual index, 3)) (hC : cells + rm.cells ≤ R.cells) (hN : slots + rm.slots ≤ R.slots) :
    ∃ (v : Option Value) (T' : State) (L : List Loc), Stand p l e R s m args below meth c T' (locs ++ L) (cells + rm.cells) (slots + rm.slots) ∧ Q v T'.heap L ∧ ∀ target, Steps p.tables e below (T'.setTop (mkF m (pc + 3) Ls (v.toList ++ rest))) target → Steps p.tables e below (T.setTop (mkF m pc Ls (argsL.reverse ++ .ref b :: rest))) target := by
  obtain ⟨cq, kq, qa, qb, qc⟩ := isOf hZ eT E
  obtain ⟨v, _, ⟨T', L', k', n'⟩, -, X', ⟨L, hQ, h1, h2, h3⟩, st⟩ := X.virtualBack hx (y := y) (z := z) hown (mvT hZ w1) (mvT hZ w2) hnf (mvT hZ w3) (mvT hZ w4) hy (backOf (W := W) hM hZ w6 w5 hf hl) qa qc (g := mkF m pc Ls (argsL.reverse ++ .ref b :: rest)) rfl hsize (Steps.refl _) (argsL := argsL) (rest := rest) hlen rfl hW hd (fun _ _ => ⟨rfl, eT, hC, hN⟩)
  dsimp only [Pt.U, Pt.locs, Pt.cells, Pt.slots] at X' h1 h2 h3 st hQ
  subst h1 h2 h3
  exact ⟨v, T', L, X', hQ, fun t k => st.trans k⟩
theorem o_kV (X : Stand p l e R s m args below meth c T locs cells slots) (hx : p.tables.exec = Jvm.exec) (hZ : Z.Warmed39 s.vm) {own C : String} {index : Nat} {y z : MethodName} {bytes : ByteArray} {maxL : Nat} {ret : Option FieldType} {rm : Room} (hown : s.vm.findClass own = some m.cls)
    (w1 : (Cond.methodLink own index y).before a0 Z = true) (w2 : (Cond.declares y).before a0 Z = true) (hnf : NotFace s y) (w3 : (Cond.selects C y z).before a0 Z = true) (w4 : (Cond.instanceMethod z).before a0 Z = true) (w5 : (Cond.initialized z.cls).before a0 Z = true) (w6 : (Cond.code z bytes maxL ret).before a0 Z = true) (hy : y.cls ≠ "java/lang/invoke/MethodHandle" ∧ y.cls ≠ "java/lang/invoke/VarHandle")
    {Q : Option Value → Heap → List Loc → Prop} (b : Addr) (argsL rest : List Value) (W : Nat) (hM : o_Met l z bytes maxL ret [] rm Z (.ref b :: argsL).toArray h Q) (hf : rm.frames + 1 ≤ R.frames) (hl : W + (maxL + 11) + rm.locals ≤ R.locals) (eT : T.heap = h) (E : Exa Z h b C) {pc : Nat} {Ls : Array Slot} (hsize : Ls.size = c.maxLocals)
    (hlen : ∀ sig, parseMethodDescriptor y.desc = some sig → argsL.length = sig.parameters.length) (hW : 2 * 0 + (rest.map fun v => v.category).sum ≤ W) (hd : decode c.code pc = .ok (.invokevirtual index, 3)) (hC : cells + rm.cells ≤ R.cells) (hN : slots + rm.slots ≤ R.slots) (pc' : Nat) (hp : pc + 3 = pc') {F : State → Prop}
    (k : ∀ (v : Option Value) (T' : State) (L : List Loc), Stand p l e R s m args below meth c T' (locs ++ L) (cells + rm.cells) (slots + rm.slots) → Q v T'.heap L → o_Go p.tables e below F (T'.setTop (mkF m pc' Ls (v.toList ++ rest)))) : o_Go p.tables e below F (T.setTop (mkF m pc Ls (argsL.reverse ++ .ref b :: rest))) := by
  subst hp
  obtain ⟨v, T', L, X', hQ, st⟩ := o_callV X hx hZ hown w1 w2 hnf w3 w4 w5 w6 hy b argsL rest W hM hf hl eT E hsize hlen hW hd hC hN
  exact o_by st (k v T' L X' hQ)
theorem o_callU (X : Stand p l e R s m args below meth c T locs cells slots) (hx : p.tables.exec = Jvm.exec) (hZ : Z.Warmed39 s.vm) {own C owner : String} {index : Nat} {x z : MethodName} {bytes : ByteArray} {maxL : Nat} {ret : Option FieldType} {rm : Room} (hown : s.vm.findClass own = some m.cls)
    (w1 : (Cond.methodLink own index x).before a0 Z = true) (w2 : (Cond.sameMethod x.cls owner x.name x.desc).before a0 Z = true) (w2' : (Cond.declares ⟨owner, x.name, x.desc⟩).before a0 Z = true) (hy : owner ≠ "java/lang/invoke/MethodHandle" ∧ owner ≠ "java/lang/invoke/VarHandle") (w3 : (Cond.selects C x z).before a0 Z = true) (w4 : (Cond.instanceMethod z).before a0 Z = true) (w5 : (Cond.initialized z.cls).before a0 Z = true) (w6 : (Cond.code z bytes maxL ret).before a0 Z = true)
    {Q : Option Value → Heap → List Loc → Prop} (b : Addr) (argsL rest : List Value) (W : Nat) (hM : o_Met l z bytes maxL ret [] rm Z (.ref b :: argsL).toArray h Q) (hf : rm.frames + 1 ≤ R.frames) (hl : W + (maxL + 11) + rm.locals ≤ R.locals) (eT : T.heap = h) (E : Exa Z h b C) {pc : Nat} {Ls : Array Slot} (hsize : Ls.size = c.maxLocals)
    (hlen : ∀ sig, parseMethodDescriptor x.desc = some sig → argsL.length = sig.parameters.length) (hW : 2 * 0 + (rest.map fun v => v.category).sum ≤ W) (hd : decode c.code pc = .ok (.invokevirtual index, 3)) (hC : cells + rm.cells ≤ R.cells) (hN : slots + rm.slots ≤ R.slots) :
    ∃ (v : Option Value) (T' : State) (L : List Loc), Stand p l e R s m args below meth c T' (locs ++ L) (cells + rm.cells) (slots + rm.slots) ∧ Q v T'.heap L ∧ ∀ target, Steps p.tables e below (T'.setTop (mkF m (pc + 3) Ls (v.toList ++ rest))) target → Steps p.tables e below (T.setTop (mkF m pc Ls (argsL.reverse ++ .ref b :: rest))) target := by
  obtain ⟨cq, kq, qa, qb, qc⟩ := isOf hZ eT E
  obtain ⟨v, _, ⟨T', L', k', n'⟩, -, X', ⟨L, hQ, h1, h2, h3⟩, st⟩ := X.virtualBackUp hx (x := x) (y := z) (owner := owner) hown (mvT hZ w1) (mvT hZ w2) (mvT hZ w2') hy (mvT hZ w3) (mvT hZ w4) (backOf (W := W) hM hZ w6 w5 hf hl) qa qc (g := mkF m pc Ls (argsL.reverse ++ .ref b :: rest)) rfl hsize (Steps.refl _) (argsL := argsL) (rest := rest) hlen rfl hW hd (fun _ _ => ⟨rfl, eT, hC, hN⟩)
  dsimp only [Pt.U, Pt.locs, Pt.cells, Pt.slots] at X' h1 h2 h3 st hQ
  subst h1 h2 h3
  exact ⟨v, T', L, X', hQ, fun t k => st.trans k⟩
theorem o_callN (X : Stand p l e R s m args below meth c T locs cells slots) (hx : p.tables.exec = Jvm.exec) (hZ : Z.Warmed39 s.vm) {own : String} {index : Nat} {y : MethodName} {bytes : ByteArray} {maxL : Nat} {rm : Room} (hy1 : y.name = "<init>") (hown : s.vm.findClass own = some m.cls)
    (w1 : (Cond.methodLink own index y).before a0 Z = true) (w4 : (Cond.instanceMethod y).before a0 Z = true) (w5 : (Cond.initialized y.cls).before a0 Z = true) (w6 : (Cond.code y bytes maxL none).before a0 Z = true) (hy : y.cls ≠ "java/lang/invoke/MethodHandle" ∧ y.cls ≠ "java/lang/invoke/VarHandle")
    {Q : Option Value → Heap → List Loc → Prop} (b : Addr) (argsL rest : List Value) (W : Nat) (hM : o_Met l y bytes maxL none [] rm Z (.ref b :: argsL).toArray h Q) (hf : rm.frames + 1 ≤ R.frames) (hl : W + (maxL + 11) + rm.locals ≤ R.locals) (eT : T.heap = h) {pc : Nat} {Ls : Array Slot} (hsize : Ls.size = c.maxLocals)
    (hlen : ∀ sig, parseMethodDescriptor y.desc = some sig → argsL.length = sig.parameters.length) (hW : 2 * 0 + (rest.map fun v => v.category).sum ≤ W) (hd : decode c.code pc = .ok (.invokespecial index, 3)) (hC : cells + rm.cells ≤ R.cells) (hN : slots + rm.slots ≤ R.slots) :
    ∃ (v : Option Value) (T' : State) (L : List Loc), Stand p l e R s m args below meth c T' (locs ++ L) (cells + rm.cells) (slots + rm.slots) ∧ Q v T'.heap L ∧ ∀ target, Steps p.tables e below (T'.setTop (mkF m (pc + 3) Ls (v.toList ++ rest))) target → Steps p.tables e below (T.setTop (mkF m pc Ls (argsL.reverse ++ .ref b :: rest))) target := by
  obtain ⟨v, _, ⟨T', L', k', n'⟩, -, X', ⟨L, hQ, h1, h2, h3⟩, st⟩ := X.specialBack hx (y := y) hy1 hown (mvT hZ w1) (mvT hZ w4) (mvT hZ w6) hy (backOf (W := W) hM hZ w6 w5 hf hl) (g := mkF m pc Ls (argsL.reverse ++ .ref b :: rest)) rfl hsize (Steps.refl _) (a := b) (argsL := argsL) (rest := rest) hlen rfl hW hd (fun _ _ => ⟨rfl, eT, hC, hN⟩)
  dsimp only [Pt.U, Pt.locs, Pt.cells, Pt.slots] at X' h1 h2 h3 st hQ
  subst h1 h2 h3
  exact ⟨v, T', L, X', hQ, fun t k => st.trans k⟩
theorem kN (X : Stand p l e R s m args below meth c T locs cells slots) (hx : p.tables.exec = Jvm.exec) (hZ : Z.Warmed39 s.vm) {own : String} {index : Nat} {y : MethodName} {bytes : ByteArray} {maxL : Nat} {rm : Room} (hy1 : y.name = "<init>") (hown : s.vm.findClass own = some m.cls)
    (w1 : (Cond.methodLink own index y).before a0 Z = true) (w4 : (Cond.instanceMethod y).before a0 Z = true) (w5 : (Cond.initialized y.cls).before a0 Z = true) (w6 : (Cond.code y bytes maxL none).before a0 Z = true) (hy : y.cls ≠ "java/lang/invoke/MethodHandle" ∧ y.cls ≠ "java/lang/invoke/VarHandle")
    {Q : Option Value → Heap → List Loc → Prop} (b : Addr) (argsL rest : List Value) (W : Nat) (hM : o_Met l y bytes maxL none [] rm Z (.ref b :: argsL).toArray h Q) (hf : rm.frames + 1 ≤ R.frames) (hl : W + (maxL + 11) + rm.locals ≤ R.locals) (eT : T.heap = h) {pc : Nat} {Ls : Array Slot} (hsize : Ls.size = c.maxLocals)
    (hlen : ∀ sig, parseMethodDescriptor y.desc = some sig → argsL.length = sig.parameters.length) (hW : 2 * 0 + (rest.map fun v => v.category).sum ≤ W) (hd : decode c.code pc = .ok (.invokespecial index, 3)) (hC : cells + rm.cells ≤ R.cells) (hN : slots + rm.slots ≤ R.slots) (pc' : Nat) (hp : pc + 3 = pc') {F : State → Prop}
    (k : ∀ (v : Option Value) (T' : State) (L : List Loc), Stand p l e R s m args below meth c T' (locs ++ L) (cells + rm.cells) (slots + rm.slots) → Q v T'.heap L → o_Go p.tables e below F (T'.setTop (mkF m pc' Ls (v.toList ++ rest)))) : o_Go p.tables e below F (T.setTop (mkF m pc Ls (argsL.reverse ++ .ref b :: rest))) := by
  subst hp
  obtain ⟨v, T', L, X', hQ, st⟩ := o_callN X hx hZ hy1 hown w1 w4 w5 w6 hy b argsL rest W hM hf hl eT hsize hlen hW hd hC hN
  exact o_by st (k v T' L X' hQ)
abbrev o_HW (Z : State) (a0 : Array Value) : Prop := ∀ d ∈ tables_1, d.before a0 Z = true
theorem w {a0 : Array Value} {Z : State} (hw : ∀ d ∈ tables_1, d.before a0 Z = true) (i : Nat) {d : Jvm.Cond} (q : tables_1[i]? = some d) : d.before a0 Z = true := hw _ (List.mem_of_getElem? q)
def o_R (r : Option Value) (h0 : Heap) (v : Option Value) (h : Heap) (L : List Loc) : Prop := v = r ∧ h = h0 ∧ L = []
theorem o_same {rm : Room} {T' : State} {L : List Loc} (hc : rm.cells = 0) (hs : rm.slots = 0) (X : Stand p l e R s m args below meth c T' (locs ++ L) (cells + rm.cells) (slots + rm.slots)) (q : L = []) : Stand p l e R s m args below meth c T' locs cells slots := by
  subst q
  rw [hc, hs, List.append_nil] at X
  exact X
theorem qS (X : Stand p l e R s m args below meth c T locs cells slots) (hx : p.tables.exec = Jvm.exec) {F : State → Prop} (hZ : Z.Warmed39 s.vm) {own : String} {index : Nat} {y : MethodName} {bytes : ByteArray} {maxL : Nat} {ret : Option FieldType} {rm : Room} (hown : s.vm.findClass own = some m.cls)
    (w1 : (Cond.methodLink own index y).before a0 Z = true) (w2 : (Cond.static y).before a0 Z = true) (w3 : (Cond.initialized y.cls).before a0 Z = true) (w4 : (Cond.code y bytes maxL ret).before a0 Z = true) (hy : y.cls ≠ "java/lang/invoke/MethodHandle" ∧ y.cls ≠ "java/lang/invoke/VarHandle")
    (argsL rest : List Value) (W : Nat) {r : Value} (hM : o_Met l y bytes maxL ret [] rm Z argsL.toArray h (o_R (some r) h)) (hf : rm.frames + 1 ≤ R.frames) (hl : W + (maxL + 11) + rm.locals ≤ R.locals) (hc0 : rm.cells = 0) (hs0 : rm.slots = 0) (eT : T.heap = h) {pc : Nat} {Ls : Array Slot} (hsize : Ls.size = c.maxLocals)
    (hlen : ∀ sig, parseMethodDescriptor y.desc = some sig → argsL.length = sig.parameters.length) (hW : 2 * 0 + (rest.map fun v => v.category).sum ≤ W) (hd : decode c.code pc = .ok (.invokestatic index, 3)) (pc' : Nat) (hp : pc + 3 = pc') {St : List Value} (hs : St = argsL.reverse ++ rest) (hC : cells ≤ R.cells) (hN : slots ≤ R.slots)
    (k : ∀ T', Stand p l e R s m args below meth c T' locs cells slots → T'.heap = h → o_Go p.tables e below F (T'.setTop (mkF m pc' Ls (r :: rest)))) : o_Go p.tables e below F (T.setTop (mkF m pc Ls St)) := by
  subst hp hs
  obtain ⟨v, T', L, X', ⟨q1, q2, q3⟩, st⟩ := o_callS X hx hZ hown w1 w2 w3 w4 hy argsL rest W hM hf hl eT hsize hlen hW hd (by rw [hc0]; exact hC) (by rw [hs0]; exact hN)
  subst q1
  exact o_by st (k T' (o_same hc0 hs0 X' q3) q2)
theorem qV (X : Stand p l e R s m args below meth c T locs cells slots) (hx : p.tables.exec = Jvm.exec) {F : State → Prop} (hZ : Z.Warmed39 s.vm) {own C : String} {index : Nat} {y z : MethodName} {bytes : ByteArray} {maxL : Nat} {ret : Option FieldType} {rm : Room} (hown : s.vm.findClass own = some m.cls)
    (w1 : (Cond.methodLink own index y).before a0 Z = true) (w2 : (Cond.declares y).before a0 Z = true) (hnf : NotFace s y) (w3 : (Cond.selects C y z).before a0 Z = true) (w4 : (Cond.instanceMethod z).before a0 Z = true) (w5 : (Cond.initialized z.cls).before a0 Z = true) (w6 : (Cond.code z bytes maxL ret).before a0 Z = true) (hy : y.cls ≠ "java/lang/invoke/MethodHandle" ∧ y.cls ≠ "java/lang/invoke/VarHandle")
    (b : Addr) (argsL rest : List Value) (W : Nat) {r : Value} (hM : o_Met l z bytes maxL ret [] rm Z (.ref b :: argsL).toArray h (o_R (some r) h)) (hf : rm.frames + 1 ≤ R.frames) (hl : W + (maxL + 11) + rm.locals ≤ R.locals) (hc0 : rm.cells = 0) (hs0 : rm.slots = 0) (eT : T.heap = h) (E : Exa Z h b C) {pc : Nat} {Ls : Array Slot} (hsize : Ls.size = c.maxLocals)
    (hlen : ∀ sig, parseMethodDescriptor y.desc = some sig → argsL.length = sig.parameters.length) (hW : 2 * 0 + (rest.map fun v => v.category).sum ≤ W) (hd : decode c.code pc = .ok (.invokevirtual index, 3)) (pc' : Nat) (hp : pc + 3 = pc') {St : List Value} (hs : St = argsL.reverse ++ .ref b :: rest) (hC : cells ≤ R.cells) (hN : slots ≤ R.slots)
    (k : ∀ T', Stand p l e R s m args below meth c T' locs cells slots → T'.heap = h → o_Go p.tables e below F (T'.setTop (mkF m pc' Ls (r :: rest)))) : o_Go p.tables e below F (T.setTop (mkF m pc Ls St)) := by
  subst hp hs
  obtain ⟨v, T', L, X', ⟨q1, q2, q3⟩, st⟩ := o_callV X hx hZ hown w1 w2 hnf w3 w4 w5 w6 hy b argsL rest W hM hf hl eT E hsize hlen hW hd (by rw [hc0]; exact hC) (by rw [hs0]; exact hN)
  subst q1
  exact o_by st (k T' (o_same hc0 hs0 X' q3) q2)
theorem o_pureU (X : Stand p l e R s m args below meth c T locs cells slots) (hx : p.tables.exec = Jvm.exec) {F : State → Prop} (hZ : Z.Warmed39 s.vm) {own C owner : String} {index : Nat} {x z : MethodName} {bytes : ByteArray} {maxL : Nat} {ret : Option FieldType} {rm : Room} (hown : s.vm.findClass own = some m.cls)
    (w1 : (Cond.methodLink own index x).before a0 Z = true) (w2 : (Cond.sameMethod x.cls owner x.name x.desc).before a0 Z = true) (w2' : (Cond.declares ⟨owner, x.name, x.desc⟩).before a0 Z = true) (hy : owner ≠ "java/lang/invoke/MethodHandle" ∧ owner ≠ "java/lang/invoke/VarHandle") (w3 : (Cond.selects C x z).before a0 Z = true) (w4 : (Cond.instanceMethod z).before a0 Z = true) (w5 : (Cond.initialized z.cls).before a0 Z = true) (w6 : (Cond.code z bytes maxL ret).before a0 Z = true)
    (b : Addr) (argsL rest : List Value) (W : Nat) {r : Value} (hM : o_Met l z bytes maxL ret [] rm Z (.ref b :: argsL).toArray h (o_R (some r) h)) (hf : rm.frames + 1 ≤ R.frames) (hl : W + (maxL + 11) + rm.locals ≤ R.locals) (hc0 : rm.cells = 0) (hs0 : rm.slots = 0) (eT : T.heap = h) (E : Exa Z h b C) {pc : Nat} {Ls : Array Slot} (hsize : Ls.size = c.maxLocals)
    (hlen : ∀ sig, parseMethodDescriptor x.desc = some sig → argsL.length = sig.parameters.length) (hW : 2 * 0 + (rest.map fun v => v.category).sum ≤ W) (hd : decode c.code pc = .ok (.invokevirtual index, 3)) (pc' : Nat) (hp : pc + 3 = pc') {St : List Value} (hs : St = argsL.reverse ++ .ref b :: rest) (hC : cells ≤ R.cells) (hN : slots ≤ R.slots)
    (k : ∀ T', Stand p l e R s m args below meth c T' locs cells slots → T'.heap = h → o_Go p.tables e below F (T'.setTop (mkF m pc' Ls (r :: rest)))) : o_Go p.tables e below F (T.setTop (mkF m pc Ls St)) := by
  subst hp hs
  obtain ⟨v, T', L, X', ⟨q1, q2, q3⟩, st⟩ := o_callU X hx hZ hown w1 w2 w2' hy w3 w4 w5 w6 b argsL rest W hM hf hl eT E hsize hlen hW hd (by rw [hc0]; exact hC) (by rw [hs0]; exact hN)
  subst q1
  exact o_by st (k T' (o_same hc0 hs0 X' q3) q2)
theorem o_voidV (X : Stand p l e R s m args below meth c T locs cells slots) (hx : p.tables.exec = Jvm.exec) {F : State → Prop} (hZ : Z.Warmed39 s.vm) {own C : String} {index : Nat} {y z : MethodName} {bytes : ByteArray} {maxL : Nat} {ret : Option FieldType} {rm : Room} (hown : s.vm.findClass own = some m.cls)
    (w1 : (Cond.methodLink own index y).before a0 Z = true) (w2 : (Cond.declares y).before a0 Z = true) (hnf : NotFace s y) (w3 : (Cond.selects C y z).before a0 Z = true) (w4 : (Cond.instanceMethod z).before a0 Z = true) (w5 : (Cond.initialized z.cls).before a0 Z = true) (w6 : (Cond.code z bytes maxL ret).before a0 Z = true) (hy : y.cls ≠ "java/lang/invoke/MethodHandle" ∧ y.cls ≠ "java/lang/invoke/VarHandle")
    (b : Addr) (argsL rest : List Value) (W : Nat) (hM : o_Met l z bytes maxL ret [] rm Z (.ref b :: argsL).toArray h (o_R none h)) (hf : rm.frames + 1 ≤ R.frames) (hl : W + (maxL + 11) + rm.locals ≤ R.locals) (hc0 : rm.cells = 0) (hs0 : rm.slots = 0) (eT : T.heap = h) (E : Exa Z h b C) {pc : Nat} {Ls : Array Slot} (hsize : Ls.size = c.maxLocals)
    (hlen : ∀ sig, parseMethodDescriptor y.desc = some sig → argsL.length = sig.parameters.length) (hW : 2 * 0 + (rest.map fun v => v.category).sum ≤ W) (hd : decode c.code pc = .ok (.invokevirtual index, 3)) (pc' : Nat) (hp : pc + 3 = pc') {St : List Value} (hs : St = argsL.reverse ++ .ref b :: rest) (hC : cells ≤ R.cells) (hN : slots ≤ R.slots)
    (k : ∀ T', Stand p l e R s m args below meth c T' locs cells slots → T'.heap = h → o_Go p.tables e below F (T'.setTop (mkF m pc' Ls rest))) : o_Go p.tables e below F (T.setTop (mkF m pc Ls St)) := by
  subst hp hs
  obtain ⟨v, T', L, X', ⟨q1, q2, q3⟩, st⟩ := o_callV X hx hZ hown w1 w2 hnf w3 w4 w5 w6 hy b argsL rest W hM hf hl eT E hsize hlen hW hd (by rw [hc0]; exact hC) (by rw [hs0]; exact hN)
  subst q1
  exact o_by st (k T' (o_same hc0 hs0 X' q3) q2)
theorem vN (X : Stand p l e R s m args below meth c T locs cells slots) (hx : p.tables.exec = Jvm.exec) {F : State → Prop} (hZ : Z.Warmed39 s.vm) {own : String} {index : Nat} {y : MethodName} {bytes : ByteArray} {maxL : Nat} {rm : Room} (hy1 : y.name = "<init>") (hown : s.vm.findClass own = some m.cls)
    (w1 : (Cond.methodLink own index y).before a0 Z = true) (w4 : (Cond.instanceMethod y).before a0 Z = true) (w5 : (Cond.initialized y.cls).before a0 Z = true) (w6 : (Cond.code y bytes maxL none).before a0 Z = true) (hy : y.cls ≠ "java/lang/invoke/MethodHandle" ∧ y.cls ≠ "java/lang/invoke/VarHandle")
    (b : Addr) (argsL rest : List Value) (W : Nat) (hM : o_Met l y bytes maxL none [] rm Z (.ref b :: argsL).toArray h (o_R none h)) (hf : rm.frames + 1 ≤ R.frames) (hl : W + (maxL + 11) + rm.locals ≤ R.locals) (hc0 : rm.cells = 0) (hs0 : rm.slots = 0) (eT : T.heap = h) {pc : Nat} {Ls : Array Slot} (hsize : Ls.size = c.maxLocals)
    (hlen : ∀ sig, parseMethodDescriptor y.desc = some sig → argsL.length = sig.parameters.length) (hW : 2 * 0 + (rest.map fun v => v.category).sum ≤ W) (hd : decode c.code pc = .ok (.invokespecial index, 3)) (pc' : Nat) (hp : pc + 3 = pc') {St : List Value} (hs : St = argsL.reverse ++ .ref b :: rest) (hC : cells ≤ R.cells) (hN : slots ≤ R.slots)
    (k : ∀ T', Stand p l e R s m args below meth c T' locs cells slots → T'.heap = h → o_Go p.tables e below F (T'.setTop (mkF m pc' Ls rest))) : o_Go p.tables e below F (T.setTop (mkF m pc Ls St)) := by
  subst hp hs
  obtain ⟨v, T', L, X', ⟨q1, q2, q3⟩, st⟩ := o_callN X hx hZ hy1 hown w1 w4 w5 w6 hy b argsL rest W hM hf hl eT hsize hlen hW hd (by rw [hc0]; exact hC) (by rw [hs0]; exact hN)
  subst q1
  exact o_by st (k T' (o_same hc0 hs0 X' q3) q2)
def o_Q0 (n0 : Nat) (v : Option Value) (h : Heap) (L : List Loc) : Prop := v = some (.int 1) ∧ Fr n0 L
end OwnHead
section OwnHeap
variable {p : Program} {l : Launch} {e : Env} {R : Room} {s : State} {m : MethodId} {args : Array Value} {below : List Frame} {meth : Method} {c : Code} {T : State} {locs : List Loc} {cells slots : Nat} {Z : State} {a0 : Array Value} {h : Heap}
theorem o_osz {n0 : Nat} (O : Old Z n0 h) : n0 ≤ h.size := O.1 ▸ O.2.1
theorem nO (X : Stand p l e R s m args below meth c T locs cells slots) (hx : p.tables.exec = Jvm.exec) {F : State → Prop} {pc : Nat} {Ls : Array Slot} {St : List Value} (hZ : Z.Warmed39 s.vm) {own C : String} {i n : Nat} (hown : s.vm.findClass own = some m.cls) (w : (Cond.classLink own i C).before a0 Z = true) (wi : (Cond.instantiable C n).before a0 Z = true) (wz : (Cond.initialized C).before a0 Z = true) (eT : T.heap = h)
    (hd : decode c.code pc = .ok (.new i, 3)) (pc' : Nat) (hp : pc + 3 = pc') (hC : cells + 1 ≤ R.cells) (hN : slots + n ≤ R.slots)
    (k : ∀ (T' : State) (a : Addr), h.size = a → Stand p l e R s m args below meth c T' locs (cells + 1) (slots + n) → Ext h T'.heap → Exa Z T'.heap a C → (∀ {O nm d : String} {ty : FieldType}, Laid Z a0 C O nm d → parseFieldDescriptor d = some ty → Fld Z T'.heap a O nm d (defaultValue ty)) → o_Go p.tables e below F (T'.setTop (mkF m pc' Ls (.ref a :: St)))) :
    o_Go p.tables e below F (T.setTop (mkF m pc Ls St)) := by
  subst hp
  obtain ⟨T', h', X', e', E, A, D, -, st⟩ := newO X hx hZ hown w wi wz eT (g := mkF m pc Ls St) rfl hd hC hN
  subst e'
  exact o_by st (k T' h.size rfl X' E A fun q r => D q r)
theorem o_fo {h h' : Heap} {a b : Addr} {sl : Nat} {v w : Value} {C n d : String} (F : Fld Z h b C n d w) (W : Wr h h' a sl v) (q : a ≠ b) : Fld Z h' b C n d w := F.other W (Or.inl q.symm)
theorem o_vo {h h' : Heap} {a b : Addr} {k : ClassId} {ty : FieldType} {z : Int32} {vs : List Value} {dv : Value} {sl : Nat} {v : Value} (F : Arv Z h b k ty z vs dv) (W : Wr h h' a sl v) (q : a ≠ b) : Arv Z h' b k ty z vs dv := F.other W q.symm
theorem o_nl {a b n k : Nat} (h1 : a < n) (h2 : n ≤ k) (h3 : k ≤ b) : a ≠ b := Nat.ne_of_lt (Nat.lt_of_lt_of_le h1 (Nat.le_trans h2 h3))
theorem qP (X : Stand p l e R s m args below meth c T locs cells slots) (hx : p.tables.exec = Jvm.exec) {F : State → Prop} {pc : Nat} {Ls : Array Slot} {St : List Value} (hZ : Z.Warmed39 s.vm) {own R0 O n d host C : String} {i kk : Nat} {ty : FieldType} (hown : s.vm.findClass own = some m.cls)
    (w : (Cond.fieldLink own i R0 n d).before a0 Z = true ∨ (Cond.fieldLinkNest own i R0 n d host).before a0 Z = true) (via : Via Z R0 O n d) (eT : T.heap = h) {a : Addr} {v old : Value} (G : Fld Z h a O n d old) (E : Exa Z h a C) (L : (Cond.lays C O n d).before a0 Z = true ∨ ((Cond.laysFinal C O n d).before a0 Z = true ∧ own = O ∧ meth.name = "<init>")) (wi : (Cond.instantiable C kk).before a0 Z = true)
    (hty : parseFieldDescriptor d = some ty) (hn : narrow ty v = v) (hf : fits ty v = true) (hd : decode c.code pc = .ok (.putfield i, 3)) (pc' : Nat) (hp : pc + 3 = pc')
    (k : ∀ (T' : State), Stand p l e R s m args below meth c T' (locs ++ [⟨a, Jvm.RoadKit.slotOf Z O n d⟩]) cells slots → Wr h T'.heap a (Jvm.RoadKit.slotOf Z O n d) v → o_Go p.tables e below F (T'.setTop (mkF m pc' Ls St))) :
    o_Go p.tables e below F (T.setTop (mkF m pc Ls (v :: .ref a :: St))) := by
  subst hp
  obtain ⟨T', h', X', e', W, st⟩ := putF X hx hZ hown w via eT G E L wi hty hn hf (g := mkF m pc Ls (v :: .ref a :: St)) rfl rfl hd
  subst e'
  exact o_by st (k T' X' W)
theorem o_putFN (X : Stand p l e R s m args below meth c T locs cells slots) (hx : p.tables.exec = Jvm.exec) {F : State → Prop} {pc : Nat} {Ls : Array Slot} {St : List Value} (hZ : Z.Warmed39 s.vm) {own R0 O n d C : String} {i kk : Nat} {ty : FieldType} (hown : s.vm.findClass own = some m.cls)
    (w : (Cond.fieldLink own i R0 n d).before a0 Z = true) (via : Via Z R0 O n d) (eT : T.heap = h) {a : Addr} {v old : Value} (v' : Value) (G : Fld Z h a O n d old) (E : Exa Z h a C) (L : (Cond.lays C O n d).before a0 Z = true ∨ ((Cond.laysFinal C O n d).before a0 Z = true ∧ own = O ∧ meth.name = "<init>")) (wi : (Cond.instantiable C kk).before a0 Z = true)
    (hty : parseFieldDescriptor d = some ty) (hn : narrow ty v = v') (hf : fits ty v' = true) (hd : decode c.code pc = .ok (.putfield i, 3)) (pc' : Nat) (hp : pc + 3 = pc')
    (k : ∀ (T' : State), Stand p l e R s m args below meth c T' (locs ++ [⟨a, Jvm.RoadKit.slotOf Z O n d⟩]) cells slots → Wr h T'.heap a (Jvm.RoadKit.slotOf Z O n d) v' → o_Go p.tables e below F (T'.setTop (mkF m pc' Ls St))) :
    o_Go p.tables e below F (T.setTop (mkF m pc Ls (v :: .ref a :: St))) := by
  subst hp
  obtain ⟨T', h', X', e', W, st⟩ := putFN X hx hZ hown w via eT G E L wi hty hn hf (g := mkF m pc Ls (v :: .ref a :: St)) rfl rfl hd
  subst e'
  exact o_by st (k T' X' W)
theorem o_initO (X : Stand p l e R s m args below meth c T locs cells slots) (hx : p.tables.exec = Jvm.exec) {F : State → Prop} {pc : Nat} {Ls : Array Slot} {St : List Value} (hZ : Z.Warmed39 s.vm) {own : String} {i : Nat} (hown : s.vm.findClass own = some m.cls) (w1 : (Cond.methodLink own i Lib.objectInit).before a0 Z = true) (w2 : (Cond.instanceMethod Lib.objectInit).before a0 Z = true)
    (w3 : (Cond.code Lib.objectInit ⟨#[0xb1]⟩ 1 none).before a0 Z = true) (eT : T.heap = h) (hsize : Ls.size = c.maxLocals) {a : Addr} (hd : decode c.code pc = .ok (.invokespecial i, 3)) (hf : 1 ≤ R.frames) (W : Nat) (hW : 2 * 0 + (St.map fun v => v.category).sum ≤ W) (hl : W + 12 ≤ R.locals) (pc' : Nat) (hp : pc + 3 = pc')
    (k : ∀ T', Stand p l e R s m args below meth c T' locs cells slots → T'.heap = h → o_Go p.tables e below F (T'.setTop (mkF m pc' Ls St))) : o_Go p.tables e below F (T.setTop (mkF m pc Ls (.ref a :: St))) := by
  subst hp
  obtain ⟨T', X', e', st⟩ := initO X hx hZ hown w1 w2 w3 eT (g := mkF m pc Ls (.ref a :: St)) rfl hsize rfl hd hf hW hl
  exact o_by st (k T' X' e')
theorem o_newP (X : Stand p l e R s m args below meth c T locs cells slots) (hx : p.tables.exec = Jvm.exec) {F : State → Prop} {pc : Nat} {Ls : Array Slot} {St : List Value} (hZ : Z.Warmed39 s.vm) {aty : ArrayType} (w : (Cond.arrayClass (newarray.typeOf aty)).before a0 Z = true) (eT : T.heap = h) (hd : decode c.code pc = .ok (.newarray aty, 2)) {n : Int32}
    (hn : ¬ n < 0) (cap : Nat) (hcap : n.toNatClampNeg ≤ cap) (hb : cap * 8 ≤ 536870912) (hC : cells + 1 ≤ R.cells) (hN : slots + cap ≤ R.slots) (ad : String) (had : "[" ++ (newarray.typeOf aty).toString = ad) (pc' : Nat) (hp : pc + 2 = pc')
    (k : ∀ (T' : State) (a : Addr) (cA : ClassId), h.size = a → Stand p l e R s m args below meth c T' locs (cells + 1) (slots + cap) → Ext h T'.heap → Arv Z T'.heap a cA (newarray.typeOf aty) n [] (defaultValue (newarray.typeOf aty)) → Exa Z T'.heap a ad → o_Go p.tables e below F (T'.setTop (mkF m pc' Ls (.ref a :: St)))) :
    o_Go p.tables e below F (T.setTop (mkF m pc Ls (.int n :: St))) := by
  subst hp
  obtain ⟨T', h', cA, X', e', E, A, D, st⟩ := newPE X hx hZ w eT (g := mkF m pc Ls (.int n :: St)) rfl hd rfl hn hcap hb hC hN had
  subst e'
  exact o_by st (k T' h.size cA rfl X' E (Arv.new A hn) D)
theorem o_newR (X : Stand p l e R s m args below meth c T locs cells slots) (hx : p.tables.exec = Jvm.exec) {F : State → Prop} {pc : Nat} {Ls : Array Slot} {St : List Value} (hZ : Z.Warmed39 s.vm) {own C : String} {i : Nat} (hown : s.vm.findClass own = some m.cls) (w1 : (Cond.classLink own i C).before a0 Z = true) (w2 : (Cond.arrayOver (.object C)).before a0 Z = true) (eT : T.heap = h) (hd : decode c.code pc = .ok (.anewarray i, 3)) {n : Int32}
    (hn : ¬ n < 0) (cap : Nat) (hcap : n.toNatClampNeg ≤ cap) (hb : cap * 8 ≤ 536870912) (hC : cells + 1 ≤ R.cells) (hN : slots + cap ≤ R.slots) (ad : String) (had : "[" ++ (FieldType.object C).toString = ad) (pc' : Nat) (hp : pc + 3 = pc')
    (k : ∀ (T' : State) (a : Addr) (cA : ClassId), h.size = a → Stand p l e R s m args below meth c T' locs (cells + 1) (slots + cap) → Ext h T'.heap → Arv Z T'.heap a cA (.object C) n [] .null → Exa Z T'.heap a ad → Ovr Z cA C → o_Go p.tables e below F (T'.setTop (mkF m pc' Ls (.ref a :: St)))) :
    o_Go p.tables e below F (T.setTop (mkF m pc Ls (.int n :: St))) := by
  subst hp
  obtain ⟨T', h', cA, X', e', E, A, D, O, st⟩ := newRE X hx hZ hown w1 w2 eT (g := mkF m pc Ls (.int n :: St)) rfl hd rfl hn hcap hb hC hN had
  subst e'
  exact o_by st (k T' h.size cA rfl X' E (Arv.new A hn) D O)
theorem o_newRA (X : Stand p l e R s m args below meth c T locs cells slots) (hx : p.tables.exec = Jvm.exec) {F : State → Prop} {pc : Nat} {Ls : Array Slot} {St : List Value} (hZ : Z.Warmed39 s.vm) {own C : String} {ty : FieldType} {i : Nat} (hown : s.vm.findClass own = some m.cls) (hCn : (FieldType.array ty).toString = C) (w1 : (Cond.classLink own i C).before a0 Z = true) (w2 : (Cond.arrayOver (.array ty)).before a0 Z = true) (eT : T.heap = h) (hd : decode c.code pc = .ok (.anewarray i, 3)) {n : Int32}
    (hn : ¬ n < 0) (cap : Nat) (hcap : n.toNatClampNeg ≤ cap) (hb : cap * 8 ≤ 536870912) (hC : cells + 1 ≤ R.cells) (hN : slots + cap ≤ R.slots) (ad : String) (had : "[" ++ C = ad) (pc' : Nat) (hp : pc + 3 = pc')
    (k : ∀ (T' : State) (a : Addr) (cA : ClassId), h.size = a → Stand p l e R s m args below meth c T' locs (cells + 1) (slots + cap) → Ext h T'.heap → Arv Z T'.heap a cA (.array ty) n [] .null → Exa Z T'.heap a ad → OvrA Z cA ty C → o_Go p.tables e below F (T'.setTop (mkF m pc' Ls (.ref a :: St)))) :
    o_Go p.tables e below F (T.setTop (mkF m pc Ls (.int n :: St))) := by
  subst hp
  obtain ⟨T', h', cA, X', e', E, A, D, O, st⟩ := newRA X hx hZ hown hCn w1 w2 eT (g := mkF m pc Ls (.int n :: St)) rfl hd rfl hn hcap hb hC hN had
  subst e'
  exact o_by st (k T' h.size cA rfl X' E (Arv.new A hn) D O)
theorem o_aastore (X : Stand p l e R s m args below meth c T locs cells slots) (hx : p.tables.exec = Jvm.exec) {F : State → Prop} {pc : Nat} {Ls : Array Slot} {St : List Value} (hZ : Z.Warmed39 s.vm) (eT : T.heap = h) {a : Addr} {ka : ClassId} {ty : FieldType} {n j : Int32} {v : Value} {vs : List Value} {dv : Value} (V : Arv Z h a ka ty n vs dv) (hty : ty.isReference = true) (hv : fits ty v = true) (so : ∀ cl : Cell, Arr Z h a cl ty → cl.cls = ka → Sto Z h a v) (i : Nat) (hj : j.toNatClampNeg = i) (hb : ¬ j < 0 ∧ j < n) (hi : i < vs.length) (vs' : List Value) (hvs : vs.set i v = vs')
    (hd : decode c.code pc = .ok (.aastore, 1)) (pc' : Nat) (hp : pc + 1 = pc') (k : ∀ (T' : State), Stand p l e R s m args below meth c T' (locs ++ [⟨a, j.toNatClampNeg⟩]) cells slots → Wr h T'.heap a j.toNatClampNeg v → Arv Z T'.heap a ka ty n vs' dv → o_Go p.tables e below F (T'.setTop (mkF m pc' Ls St))) :
    o_Go p.tables e below F (T.setTop (mkF m pc Ls (v :: .int j :: .ref a :: St))) := by
  subst hp hvs
  obtain ⟨cl, A, q1, S, N, H, G⟩ := V
  obtain ⟨T', h', X', e', W, st⟩ := stR X hx hZ eT A (j := j) (inb_of S hb) hty (so cl A q1) (g := mkF m pc Ls (v :: .int j :: .ref a :: St)) rfl rfl hd
  subst e'
  exact o_by st (k T' X' W (Arv.set A q1 S N H G hv W i hj hi))
theorem o_aaload (X : Stand p l e R s m args below meth c T locs cells slots) (hx : p.tables.exec = Jvm.exec) {F : State → Prop} {pc : Nat} {Ls : Array Slot} {St : List Value} (hZ : Z.Warmed39 s.vm) (eT : T.heap = h) {a : Addr} {ka : ClassId} {ty : FieldType} {n j : Int32} {vs : List Value} {dv : Value} (V : Arv Z h a ka ty n vs dv) (hty : ty.isReference = true) (v : Value) (hb : ¬ j < 0 ∧ j < n) (u : vs.getD j.toNatClampNeg dv = v) (hd : decode c.code pc = .ok (.aaload, 1)) (pc' : Nat) (hp : pc + 1 = pc')
    (k : o_Go p.tables e below F (T.setTop (mkF m pc' Ls (v :: St)))) : o_Go p.tables e below F (T.setTop (mkF m pc Ls (.int j :: .ref a :: St))) := by
  subst hp
  obtain ⟨cl, A, q1, S, N, H, G⟩ := V
  exact o_by (fun _ q => X.aaload hx (j := j) (v := v) (by rw [eT]; exact A.1) (State.isArrayOf_alike hZ.alike A.2.1) hty A.2.2 (inb_of S hb) (H.at (inb_of S hb) u) (g := mkF m pc Ls (.int j :: .ref a :: St)) rfl rfl hd _ q) k
theorem o_alen (X : Stand p l e R s m args below meth c T locs cells slots) (hx : p.tables.exec = Jvm.exec) {F : State → Prop} {pc : Nat} {Ls : Array Slot} {St : List Value} (hZ : Z.Warmed39 s.vm) (eT : T.heap = h) {a : Addr} {ka : ClassId} {ty : FieldType} {n : Int32} {vs : List Value} {dv : Value} (V : Arv Z h a ka ty n vs dv) (hd : decode c.code pc = .ok (.arraylength, 1)) (pc' : Nat) (hp : pc + 1 = pc')
    (k : o_Go p.tables e below F (T.setTop (mkF m pc' Ls (.int n :: St)))) : o_Go p.tables e below F (T.setTop (mkF m pc Ls (.ref a :: St))) := by
  subst hp
  obtain ⟨cl, A, q1, S, N, H, G⟩ := V
  refine o_by (fun _ q => X.arraylength hx (by rw [eT]; exact A.1) (State.isArrayOf_alike hZ.alike A.2.1) (g := mkF m pc Ls (.ref a :: St)) rfl rfl hd _ q) ?_
  rw [len_of S N]
  exact k
theorem o_cast (X : Stand p l e R s m args below meth c T locs cells slots) (hx : p.tables.exec = Jvm.exec) {F : State → Prop} {pc : Nat} {Ls : Array Slot} {St : List Value} (hZ : Z.Warmed39 s.vm) {own K : String} {i : Nat} (hown : s.vm.findClass own = some m.cls) (w : (Cond.classLink own i K).before a0 Z = true) (eT : T.heap = h) {a : Addr} (I : Ins Z h a K true) (hd : decode c.code pc = .ok (.checkcast i, 3)) (pc' : Nat) (hp : pc + 3 = pc')
    (k : ∀ T', Stand p l e R s m args below meth c T' locs cells slots → T'.heap = h → o_Go p.tables e below F (T'.setTop (mkF m pc' Ls (.ref a :: St)))) : o_Go p.tables e below F (T.setTop (mkF m pc Ls (.ref a :: St))) := by
  subst hp
  obtain ⟨T', X', e', st⟩ := castY X hx hZ hown w eT I (g := mkF m pc Ls (.ref a :: St)) rfl rfl hd
  exact o_by st (k T' X' e')
end OwnHeap

theorem o_fldI {Z : State} {args : Array Value} {t : Term} {a : Addr} {C n d : String} {k : Int32} (ev : t.eval args Z none [] Z = some (.ref a)) (q : (Cond.eq (.field t C n d) (.int k)).value args Z none Z [] = some true) : Fld Z Z.heap a C n d (.int k) := by
  exact Fld.start ((fld_at ev).symm.trans (eqv_i (F := .int k) rfl q))
section OwnCache
variable {p : Program} {l : Launch} {e : Env} {R : Room} {s : State} {m : MethodId} {args : Array Value} {below : List Frame} {meth : Method} {c : Code} {T : State} {locs : List Loc} {cells slots : Nat} {Z : State} {a0 : Array Value} {h : Heap}
theorem o_lenOf {t : Term} {a : Addr} {cl : Cell} {ty : FieldType} {z : Int32} (ev : t.eval args Z none [] Z = some (.ref a)) (A : Arr Z Z.heap a cl ty) (q : (Cond.eq (.length t) (.int z)).value args Z none Z [] = some true) : cl.slots.size < 2 ^ 31 ∧ cl.slots.size.toInt32 = z := by
  have e1 : (Term.length t).eval args Z none [] Z = some (.int z) := eqv_i (F := .int z) rfl q
  have f := A.fin (Vm.Alike.refl _)
  by_cases hs : cl.slots.size < 2 ^ 31
  · rw [len_f ev f hs] at e1
    exact ⟨hs, Value.int.inj (Option.some.inj e1)⟩
  · simp [Term.eval, ev, f, hs] at e1
theorem o_boxI {cls nm dsc : String} {a : Addr} (ev : (Term.static cls nm dsc).eval args Z none [] Z = some (.ref a)) (q1 : (Cond.arrayOf (.static cls nm dsc) (.object "java/lang/Integer")).value args Z none Z [] = some true) (q2 : (Cond.eq (.length (.static cls nm dsc)) (.int 256)).value args Z none Z [] = some true)
    (q3 : (Cond.all (.static cls nm dsc) (.and (.exactly (.elem (.static cls nm dsc) (.index 0)) "java/lang/Integer") (.eq (.field (.elem (.static cls nm dsc) (.index 0)) "java/lang/Integer" "value" "I") (.sub (.index 0) (.int 128))))).value args Z none Z [] = some true) :
    ∃ cl, Bxs Z a cl "java/lang/Integer" "I" 256 (fun j => .int (j - 128)) := by
  obtain ⟨cl, A⟩ := Arr.start ev q1
  obtain ⟨n1, n2⟩ := o_lenOf ev A q2
  refine ⟨cl, Bxs.start (fun _ => ev) A n1 n2 (by decide) q3 fun X j nn q => ?_⟩
  refine eqv_i ?_ q
  have hi : (Term.index 0).eval args Z none [j.toNatClampNeg] Z = some (.int j) := idx_at nn
  simp [Term.eval] at hi ⊢
  rw [hi]
theorem o_box (X : Stand p l e R s m args below meth c T locs cells slots) (hx : p.tables.exec = Jvm.exec) {F : State → Prop} {pc : Nat} {Ls : Array Slot} {St : List Value} (hZ : Z.Warmed39 s.vm) (eT : T.heap = h) {n0 : Nat} (O : Old Z n0 h) {a : Addr} {cl : Cell} {K d : String} {val : Int32 → Value} (B : Bxs Z a cl K d 256 val) {j : Int32} (hb : ¬ j < 0 ∧ j < 256) (hd : decode c.code pc = .ok (.aaload, 1)) (pc' : Nat) (hp : pc + 1 = pc')
    (k : ∀ r : Addr, Exa Z h r K → Fld Z h r K "value" d (val j) → o_Go p.tables e below F (T.setTop (mkF m pc' Ls (.ref r :: St)))) : o_Go p.tables e below F (T.setTop (mkF m pc Ls (.int j :: .ref a :: St))) := by
  subst hp
  obtain ⟨A, S, N, H⟩ := B
  obtain ⟨r, u1, u2, u3⟩ := H j (inb_of S hb)
  exact o_by (fun _ q => X.aaload hx (j := j) (v := .ref r) (by rw [eT]; exact (A.ext O.2).1) (State.isArrayOf_alike hZ.alike A.2.1) rfl A.2.2 (inb_of S hb) u1 (g := mkF m pc Ls (.int j :: .ref a :: St)) rfl rfl hd _ q) (k r (u2.ext O.2) (u3.ext O.2))
theorem o_root {O K : String} {t : ClassId} (w : (Cond.noSuperclass O).before a0 Z = true) (g1 : Z.vm.findClass K = some t) (hn : O ≠ K) : NS Z O K := by
  obtain ⟨c, k, h1, h2, h3, -, -⟩ := Cond.noSuperclass_spec w
  have ne := ids_ne h1 g1 hn
  refine ⟨c, t, h1, g1, fun fuel => ?_⟩
  cases fuel with
  | zero => rfl
  | succ f => simp [Vm.isSubclassAux, ne, h2, h3]
theorem o_no {C S K : String} {n : Nat} (w : (Cond.superclass C S).before a0 Z = true) (wk : (Cond.instantiable K n).before a0 Z = true) (q : NS Z C K) (hn : C ≠ K) : ∃ c t, Z.vm.findClass C = some c ∧ Z.vm.findClass K = some t ∧ Z.vm.assignable c t = false := by
  obtain ⟨c, t, h0, g0, n3⟩ := q
  obtain ⟨p, k, kp, h1, h2, h3, h4, h5, -, h7⟩ := Cond.superclass_spec h0 w
  obtain ⟨c2, k2, i1, i2, i3, i4, -, -⟩ := Cond.instantiable_spec wk
  cases g0.symm.trans i1
  have ne := ids_ne h0 g0 hn
  have i5 : k2.isInterface = false := by simp only [Bool.or_eq_false_iff] at i4; exact i4.1
  refine ⟨c, t, h0, g0, ?_⟩
  show Z.vm.assignableAux (255 + 1) c t = false
  simp [Vm.assignableAux, ne, h2, i2, h5, i3, i5, Vm.isSubclass, n3]
theorem o_instNo (X : Stand p l e R s m args below meth c T locs cells slots) (hx : p.tables.exec = Jvm.exec) {F : State → Prop} {pc : Nat} {Ls : Array Slot} {St : List Value} (hZ : Z.Warmed39 s.vm) {own K C : String} {i : Nat} (hown : s.vm.findClass own = some m.cls) (w : (Cond.classLink own i K).before a0 Z = true) (eT : T.heap = h) {a : Addr} (E : Exa Z h a C) (I : ∃ c t, Z.vm.findClass C = some c ∧ Z.vm.findClass K = some t ∧ Z.vm.assignable c t = false) (hd : decode c.code pc = .ok (.instanceof i, 3)) (pc' : Nat) (hp : pc + 3 = pc')
    (k : ∀ T', Stand p l e R s m args below meth c T' locs cells slots → T'.heap = h → o_Go p.tables e below F (T'.setTop (mkF m pc' Ls (.int 0 :: St)))) : o_Go p.tables e below F (T.setTop (mkF m pc Ls (.ref a :: St))) := by
  subst hp
  obtain ⟨T', X', e', st⟩ := instNo X hx hZ hown w eT E I (g := mkF m pc Ls (.ref a :: St)) rfl rfl hd
  exact o_by st (k T' X' e')
end OwnCache

section OwnHeap2
variable {p : Program} {l : Launch} {e : Env} {R : Room} {s : State} {m : MethodId} {args : Array Value} {below : List Frame} {meth : Method} {c : Code} {T : State} {locs : List Loc} {cells slots : Nat} {Z : State} {a0 : Array Value} {h : Heap}
theorem oC {rm : Room} {F : State → Prop} {U : State} {r : Value} {rest : List Value} {pc : Nat} {Ls : Array Slot} (C : ∃ (v : Option Value) (T' : State) (L : List Loc), Stand p l e R s m args below meth c T' (locs ++ L) (cells + rm.cells) (slots + rm.slots) ∧ o_R (some r) h v T'.heap L ∧ ∀ target, Steps p.tables e below (T'.setTop (mkF m pc Ls (v.toList ++ rest))) target → Steps p.tables e below U target) (hc0 : rm.cells = 0) (hs0 : rm.slots = 0)
    (k : ∀ T', Stand p l e R s m args below meth c T' locs cells slots → T'.heap = h → o_Go p.tables e below F (T'.setTop (mkF m pc Ls (r :: rest)))) : o_Go p.tables e below F U := by
  obtain ⟨v, T', L, X', ⟨q1, q2, q3⟩, st⟩ := C
  subst q1
  exact o_by st (k T' (o_same hc0 hs0 X' q3) q2)
theorem cI (X : Stand p l e R s m args below meth c T locs cells slots) (hx : p.tables.exec = Jvm.exec) (hZ : Z.Warmed39 s.vm) {own C : String} {index count : Nat} {y z : MethodName} {bytes : ByteArray} {maxL : Nat} {ret : Option FieldType} {rm : Room} (hown : s.vm.findClass own = some m.cls)
    (w1 : (Cond.methodLink own index y).before a0 Z = true) (w2 : (Cond.declares y).before a0 Z = true) (w3 : (Cond.interfaceMethod y.cls y.cls y.name y.desc).before a0 Z = true) (w4 : (Cond.selects C y z).before a0 Z = true) (w5 : (Cond.instanceMethod z).before a0 Z = true) (w6 : (Cond.publicMethod z).before a0 Z = true) (w7 : (Cond.unhidden C y.name y.desc).before a0 Z = true) (w8 : (Cond.castable C y.cls).before a0 Z = true)
    (w9 : (Cond.initialized z.cls).before a0 Z = true) (w10 : (Cond.code z bytes maxL ret).before a0 Z = true) (hy : y.cls ≠ "java/lang/invoke/MethodHandle" ∧ y.cls ≠ "java/lang/invoke/VarHandle") (h3 : ((Cond.interfaceMethod y.cls y.cls y.name y.desc).onTables && (Cond.interfaceMethod y.cls y.cls y.name y.desc).keepsFace) = true)
    {Q : Option Value → Heap → List Loc → Prop} (b : Addr) (argsL rest : List Value) (W : Nat) (hM : o_Met l z bytes maxL ret [] rm Z (.ref b :: argsL).toArray h Q) (hf : rm.frames + 1 ≤ R.frames) (hl : W + (maxL + 11) + rm.locals ≤ R.locals) (eT : T.heap = h) (E : Exa Z h b C) {pc : Nat} {Ls : Array Slot} (hsize : Ls.size = c.maxLocals)
    (hlen : ∀ sig, parseMethodDescriptor y.desc = some sig → argsL.length = sig.parameters.length) (hW : 2 * 0 + (rest.map fun v => v.category).sum ≤ W) (hd : decode c.code pc = .ok (.invokeinterface index count, 5)) (pc' : Nat) (hp : pc + 5 = pc') (hC : cells + rm.cells ≤ R.cells) (hN : slots + rm.slots ≤ R.slots) :
    ∃ (v : Option Value) (T' : State) (L : List Loc), Stand p l e R s m args below meth c T' (locs ++ L) (cells + rm.cells) (slots + rm.slots) ∧ Q v T'.heap L ∧ ∀ target, Steps p.tables e below (T'.setTop (mkF m pc' Ls (v.toList ++ rest))) target → Steps p.tables e below (T.setTop (mkF m pc Ls (argsL.reverse ++ .ref b :: rest))) target := by
  subst hp
  obtain ⟨cq, kq, qa, qb, qc⟩ := isOf hZ eT E
  obtain ⟨v, _, ⟨T', L', k', n'⟩, -, X', ⟨L, hQ, h1, h2, h3⟩, st⟩ := X.interfaceBack hx (xi := y) (y := z) hown (mvT hZ w1) (mvT hZ w2) (mvT hZ w3 h3) (mvT hZ w4) (mvT hZ w5) (mvT hZ w6) (mvT hZ w7) (mvT hZ w8) hy (backOf (W := W) hM hZ w10 w9 hf hl) qa qb qc (g := mkF m pc Ls (argsL.reverse ++ .ref b :: rest)) rfl hsize (Steps.refl _) (argsL := argsL) (rest := rest) hlen rfl hW hd (fun _ _ => ⟨rfl, eT, hC, hN⟩)
  dsimp only [Pt.U, Pt.locs, Pt.cells, Pt.slots] at X' h1 h2 h3 st hQ
  subst h1 h2 h3
  exact ⟨v, T', L, X', hQ, fun t k => st.trans k⟩
theorem kI (X : Stand p l e R s m args below meth c T locs cells slots) (hx : p.tables.exec = Jvm.exec) (hZ : Z.Warmed39 s.vm) {own C : String} {index count : Nat} {y z : MethodName} {bytes : ByteArray} {maxL : Nat} {ret : Option FieldType} {rm : Room} (hown : s.vm.findClass own = some m.cls)
    (w1 : (Cond.methodLink own index y).before a0 Z = true) (w2 : (Cond.declares y).before a0 Z = true) (w3 : (Cond.interfaceMethod y.cls y.cls y.name y.desc).before a0 Z = true) (w4 : (Cond.selects C y z).before a0 Z = true) (w5 : (Cond.instanceMethod z).before a0 Z = true) (w6 : (Cond.publicMethod z).before a0 Z = true) (w7 : (Cond.unhidden C y.name y.desc).before a0 Z = true) (w8 : (Cond.castable C y.cls).before a0 Z = true)
    (w9 : (Cond.initialized z.cls).before a0 Z = true) (w10 : (Cond.code z bytes maxL ret).before a0 Z = true) (hy : y.cls ≠ "java/lang/invoke/MethodHandle" ∧ y.cls ≠ "java/lang/invoke/VarHandle") (h3 : ((Cond.interfaceMethod y.cls y.cls y.name y.desc).onTables && (Cond.interfaceMethod y.cls y.cls y.name y.desc).keepsFace) = true)
    {Q : Option Value → Heap → List Loc → Prop} (b : Addr) (argsL rest : List Value) (W : Nat) (hM : o_Met l z bytes maxL ret [] rm Z (.ref b :: argsL).toArray h Q) (hf : rm.frames + 1 ≤ R.frames) (hl : W + (maxL + 11) + rm.locals ≤ R.locals) (eT : T.heap = h) (E : Exa Z h b C) {pc : Nat} {Ls : Array Slot} (hsize : Ls.size = c.maxLocals)
    (hlen : ∀ sig, parseMethodDescriptor y.desc = some sig → argsL.length = sig.parameters.length) (hW : 2 * 0 + (rest.map fun v => v.category).sum ≤ W) (hd : decode c.code pc = .ok (.invokeinterface index count, 5)) (pc' : Nat) (hp : pc + 5 = pc') (hC : cells + rm.cells ≤ R.cells) (hN : slots + rm.slots ≤ R.slots) {F : State → Prop}
    (k : ∀ (v : Option Value) (T' : State) (L : List Loc), Stand p l e R s m args below meth c T' (locs ++ L) (cells + rm.cells) (slots + rm.slots) → Q v T'.heap L → o_Go p.tables e below F (T'.setTop (mkF m pc' Ls (v.toList ++ rest)))) : o_Go p.tables e below F (T.setTop (mkF m pc Ls (argsL.reverse ++ .ref b :: rest))) := by
  obtain ⟨v, T', L, X', hQ, st⟩ := cI X hx hZ hown w1 w2 w3 w4 w5 w6 w7 w8 w9 w10 hy h3 b argsL rest W hM hf hl eT E hsize hlen hW hd pc' hp hC hN
  exact o_by st (k v T' L X' hQ)
theorem o_callP (X : Stand p l e R s m args below meth c T locs cells slots) (hx : p.tables.exec = Jvm.exec) (hZ : Z.Warmed39 s.vm) {own C : String} {index n : Nat} {y : MethodName} {bytes : ByteArray} {maxL : Nat} {ret : Option FieldType} {rm : Room} (hown : s.vm.findClass own = some m.cls)
    (w1 : (Cond.methodLink own index y).before a0 Z = true) (w2 : (Cond.instanceMethod y).before a0 Z = true) (w3 : (Cond.privateMethod y).before a0 Z = true) (w4 : (Cond.instantiable y.cls n).before a0 Z = true) (w5 : (Cond.initialized y.cls).before a0 Z = true) (w6 : (Cond.code y bytes maxL ret).before a0 Z = true) (hy : y.cls ≠ "java/lang/invoke/MethodHandle" ∧ y.cls ≠ "java/lang/invoke/VarHandle")
    {Q : Option Value → Heap → List Loc → Prop} (b : Addr) (argsL rest : List Value) (W : Nat) (hM : o_Met l y bytes maxL ret [] rm Z (.ref b :: argsL).toArray h Q) (hf : rm.frames + 1 ≤ R.frames) (hl : W + (maxL + 11) + rm.locals ≤ R.locals) (eT : T.heap = h) (E : Exa Z h b C) {pc : Nat} {Ls : Array Slot} (hsize : Ls.size = c.maxLocals)
    (hlen : ∀ sig, parseMethodDescriptor y.desc = some sig → argsL.length = sig.parameters.length) (hW : 2 * 0 + (rest.map fun v => v.category).sum ≤ W) (hd : decode c.code pc = .ok (.invokevirtual index, 3)) (pc' : Nat) (hp : pc + 3 = pc') (hC : cells + rm.cells ≤ R.cells) (hN : slots + rm.slots ≤ R.slots) :
    ∃ (v : Option Value) (T' : State) (L : List Loc), Stand p l e R s m args below meth c T' (locs ++ L) (cells + rm.cells) (slots + rm.slots) ∧ Q v T'.heap L ∧ ∀ target, Steps p.tables e below (T'.setTop (mkF m pc' Ls (v.toList ++ rest))) target → Steps p.tables e below (T.setTop (mkF m pc Ls (argsL.reverse ++ .ref b :: rest))) target := by
  subst hp
  have hpriv : s.PrivateAt y := Cond.privateMethod_at (mvP hZ w3 (args := #[]))
  have hsel : (Cond.selects y.cls y y).before args s = true := by
    obtain ⟨c1, k1, h1, h2, h3, h4, -⟩ := Cond.instantiable_spec (mvT (s := s) (args := args) hZ w4)
    have h5 : k1.isInterface = false := by simp only [Bool.or_eq_false_iff] at h4; exact h4.1
    exact selects_self_of_private h1 h2 h5 hpriv (mvT hZ w2) hy
  obtain ⟨cq, q1, q2⟩ := E.cell
  obtain ⟨v, _, ⟨T', L', k', n'⟩, -, X', ⟨L, hQ, h1, h2, h3⟩, st⟩ := X.privateBack hx (y := y) hown (mvT hZ w1) (mvT hZ w2) hsel hpriv (mvT hZ w6) hy (backOf (W := W) hM hZ w6 w5 hf hl) (g := mkF m pc Ls (argsL.reverse ++ .ref b :: rest)) rfl hsize (Steps.refl _) (a := b) (by rw [eT]; exact q1) q2 (argsL := argsL) (rest := rest) hlen rfl hW hd (fun _ _ => ⟨rfl, eT, hC, hN⟩)
  dsimp only [Pt.U, Pt.locs, Pt.cells, Pt.slots] at X' h1 h2 h3 st hQ
  subst h1 h2 h3
  exact ⟨v, T', L, X', hQ, fun t k => st.trans k⟩
theorem o_kP (X : Stand p l e R s m args below meth c T locs cells slots) (hx : p.tables.exec = Jvm.exec) (hZ : Z.Warmed39 s.vm) {own C : String} {index n : Nat} {y : MethodName} {bytes : ByteArray} {maxL : Nat} {ret : Option FieldType} {rm : Room} (hown : s.vm.findClass own = some m.cls)
    (w1 : (Cond.methodLink own index y).before a0 Z = true) (w2 : (Cond.instanceMethod y).before a0 Z = true) (w3 : (Cond.privateMethod y).before a0 Z = true) (w4 : (Cond.instantiable y.cls n).before a0 Z = true) (w5 : (Cond.initialized y.cls).before a0 Z = true) (w6 : (Cond.code y bytes maxL ret).before a0 Z = true) (hy : y.cls ≠ "java/lang/invoke/MethodHandle" ∧ y.cls ≠ "java/lang/invoke/VarHandle")
    {Q : Option Value → Heap → List Loc → Prop} (b : Addr) (argsL rest : List Value) (W : Nat) (hM : o_Met l y bytes maxL ret [] rm Z (.ref b :: argsL).toArray h Q) (hf : rm.frames + 1 ≤ R.frames) (hl : W + (maxL + 11) + rm.locals ≤ R.locals) (eT : T.heap = h) (E : Exa Z h b C) {pc : Nat} {Ls : Array Slot} (hsize : Ls.size = c.maxLocals)
    (hlen : ∀ sig, parseMethodDescriptor y.desc = some sig → argsL.length = sig.parameters.length) (hW : 2 * 0 + (rest.map fun v => v.category).sum ≤ W) (hd : decode c.code pc = .ok (.invokevirtual index, 3)) (pc' : Nat) (hp : pc + 3 = pc') (hC : cells + rm.cells ≤ R.cells) (hN : slots + rm.slots ≤ R.slots) {F : State → Prop}
    (k : ∀ (v : Option Value) (T' : State) (L : List Loc), Stand p l e R s m args below meth c T' (locs ++ L) (cells + rm.cells) (slots + rm.slots) → Q v T'.heap L → o_Go p.tables e below F (T'.setTop (mkF m pc' Ls (v.toList ++ rest)))) : o_Go p.tables e below F (T.setTop (mkF m pc Ls (argsL.reverse ++ .ref b :: rest))) := by
  obtain ⟨v, T', L, X', hQ, st⟩ := o_callP X hx hZ hown w1 w2 w3 w4 w5 w6 hy b argsL rest W hM hf hl eT E hsize hlen hW hd pc' hp hC hN
  exact o_by st (k v T' L X' hQ)
end OwnHeap2

section OwnHeap3
variable {p : Program} {l : Launch} {e : Env} {R : Room} {s : State} {m : MethodId} {args : Array Value} {below : List Frame} {meth : Method} {c : Code} {T : State} {locs : List Loc} {cells slots : Nat} {Z : State} {a0 : Array Value} {h : Heap}
theorem o_ldcF (X : Stand p l e R s m args below meth c T locs cells slots) (hx : p.tables.exec = Jvm.exec) {F : State → Prop} {pc : Nat} {Ls : Array Slot} {St : List Value} (hZ : Z.Warmed39 s.vm) {own : String} {i : Nat} {z : UInt32} (hown : s.vm.findClass own = some m.cls) (w : (Cond.constantFloat own i z).before a0 Z = true) (hd : decode c.code pc = .ok (.ldc i, 2)) (pc' : Nat) (hp : pc + 2 = pc')
    (k : o_Go p.tables e below F (T.setTop (mkF m pc' Ls (.float z :: St)))) : o_Go p.tables e below F (T.setTop (mkF m pc Ls St)) := by
  subst hp
  exact o_by (fun _ q => X.ldcFloatC hx hown (mvT hZ w) (g := mkF m pc Ls St) rfl hd _ q) k
theorem o_bastore (X : Stand p l e R s m args below meth c T locs cells slots) (hx : p.tables.exec = Jvm.exec) {F : State → Prop} {pc : Nat} {Ls : Array Slot} {St : List Value} (hZ : Z.Warmed39 s.vm) (eT : T.heap = h) {a : Addr} {ka : ClassId} {n j x : Int32} {vs : List Value} {dv : Value} (V : Arv Z h a ka .byte n vs dv) (i : Nat) (hj : j.toNatClampNeg = i) (hb : ¬ j < 0 ∧ j < n) (hi : i < vs.length) (z : Int32) (hz : nar .byte x = z) (vs' : List Value) (hvs : vs.set i (.int z) = vs')
    (hd : decode c.code pc = .ok (.bastore, 1)) (pc' : Nat) (hp : pc + 1 = pc') (k : ∀ (T' : State), Stand p l e R s m args below meth c T' (locs ++ [⟨a, j.toNatClampNeg⟩]) cells slots → Wr h T'.heap a j.toNatClampNeg (.int z) → Arv Z T'.heap a ka .byte n vs' dv → o_Go p.tables e below F (T'.setTop (mkF m pc' Ls St))) :
    o_Go p.tables e below F (T.setTop (mkF m pc Ls (.int x :: .int j :: .ref a :: St))) := by
  subst hp hvs hz
  obtain ⟨cl, A, q1, S, N, H, G⟩ := V
  obtain ⟨T', h', X', e', W, st⟩ := stB X hx hZ eT A (j := j) (inb_of S hb) (g := mkF m pc Ls (.int x :: .int j :: .ref a :: St)) rfl rfl hd
  subst e'
  exact o_by st (k T' X' W (Arv.set A q1 S N H G (fits_nar_byte x) W i hj hi))
theorem o_baload (X : Stand p l e R s m args below meth c T locs cells slots) (hx : p.tables.exec = Jvm.exec) {F : State → Prop} {pc : Nat} {Ls : Array Slot} {St : List Value} (hZ : Z.Warmed39 s.vm) (eT : T.heap = h) {a : Addr} {ka : ClassId} {n j : Int32} {vs : List Value} {dv : Value} (V : Arv Z h a ka .byte n vs dv) (v : Value) (hb : ¬ j < 0 ∧ j < n) (u : vs.getD j.toNatClampNeg dv = v) (hd : decode c.code pc = .ok (.baload, 1)) (pc' : Nat) (hp : pc + 1 = pc')
    (k : o_Go p.tables e below F (T.setTop (mkF m pc' Ls (v :: St)))) : o_Go p.tables e below F (T.setTop (mkF m pc Ls (.int j :: .ref a :: St))) := by
  subst hp
  obtain ⟨cl, A, q1, S, N, H, G⟩ := V
  exact o_by (fun _ q => X.baloadBytes hx (j := j) (v := v) (by rw [eT]; exact A.1) (State.isArrayOf_alike hZ.alike A.2.1) A.2.2 (inb_of S hb) (H.at (inb_of S hb) u) (g := mkF m pc Ls (.int j :: .ref a :: St)) rfl rfl hd _ q) k
def o_Mi (Z : State) (C : String) (m : Addr) : Prop := ∃ (c : ClassId) (k : Class), Z.vm.findClass C = some c ∧ Z.vm.classes[c]? = some k ∧ k.mirror = some m
theorem o_gcls (X : Stand p l e R s m args below meth c T locs cells slots) (hx : p.tables.exec = Jvm.exec) {F : State → Prop} {pc : Nat} {Ls : Array Slot} {St : List Value} (hZ : Z.Warmed39 s.vm) {own C : String} {i : Nat} (hown : s.vm.findClass own = some m.cls)
    (w1 : (Cond.methodLink own i ⟨"java/lang/Object", "getClass", "()Ljava/lang/Class;"⟩).before a0 Z = true) (w2 : (Cond.declares ⟨"java/lang/Object", "getClass", "()Ljava/lang/Class;"⟩).before a0 Z = true) (w3 : (Cond.noSuperclass "java/lang/Object").before a0 Z = true) (w4 : (Cond.selects C ⟨"java/lang/Object", "getClass", "()Ljava/lang/Class;"⟩ ⟨"java/lang/Object", "getClass", "()Ljava/lang/Class;"⟩).before a0 Z = true)
    (w5 : (Cond.instanceMethod ⟨"java/lang/Object", "getClass", "()Ljava/lang/Class;"⟩).before a0 Z = true) (w6 : (Cond.native ⟨"java/lang/Object", "getClass", "()Ljava/lang/Class;"⟩).before a0 Z = true) (eT : T.heap = h) {a : Addr} (E : Exa Z h a C) {mr : Addr} (M : o_Mi Z C mr)
    (hsize : Ls.size = c.maxLocals) (hd : decode c.code pc = .ok (.invokevirtual i, 3)) (hf : 1 ≤ R.frames) (W : Nat) (hW : 2 * 0 + (St.map fun v => v.category).sum ≤ W) (hl : W + (nativeFrameWords "java/lang/Object" "getClass" 1 + 11) ≤ R.locals) (pc' : Nat) (hp : pc + 3 = pc')
    (k : ∀ T', Stand p l e R s m args below meth c T' locs cells slots → T'.heap = h → o_Go p.tables e below F (T'.setTop (mkF m pc' Ls (.ref mr :: St)))) : o_Go p.tables e below F (T.setTop (mkF m pc Ls (.ref a :: St))) := by
  subst hp
  obtain ⟨cB, kB, i1, i2, i3⟩ := isOf hZ eT E
  obtain ⟨cc, kc, m1, m2, m3⟩ := M
  rw [hZ.alike.findClass] at i1
  cases i1.symm.trans m1
  obtain ⟨k', q, ek⟩ := hZ.alike.2.2 _ _ m2
  obtain ⟨vm', X', st⟩ := X.getClassOf hx hown (mvT hZ w1) (mvT hZ w2) (nf_top (args := #[]) (mvT hZ w3)) (mvT hZ w4) (mvT hZ w5) (mvT hZ w6) (by rw [hZ.alike.findClass]; exact m1) i3 q (by rw [ek]; exact m3) (g := mkF m pc Ls (.ref a :: St)) rfl hsize rfl hd hf (Nat.le_trans (Nat.add_le_add_right hW _) hl)
  exact o_by st (k _ X' eT)
theorem o_ldcM (X : Stand p l e R s m args below meth c T locs cells slots) (hx : p.tables.exec = Jvm.exec) {F : State → Prop} {pc : Nat} {Ls : Array Slot} {St : List Value} (hZ : Z.Warmed39 s.vm) {own C : String} {i : Nat} (hown : s.vm.findClass own = some m.cls) (w : (Cond.classLink own i C).before a0 Z = true) (eT : T.heap = h) {mr : Addr} (M : o_Mi Z C mr) (hd : decode c.code pc = .ok (.ldc i, 2)) (pc' : Nat) (hp : pc + 2 = pc')
    (k : ∀ T', Stand p l e R s m args below meth c T' locs cells slots → T'.heap = h → o_Go p.tables e below F (T'.setTop (mkF m pc' Ls (.ref mr :: St)))) : o_Go p.tables e below F (T.setTop (mkF m pc Ls St)) := by
  subst hp
  obtain ⟨cc, kc, m1, m2, m3⟩ := M
  obtain ⟨k', q, ek⟩ := hZ.alike.2.2 _ _ m2
  have hev : (Term.mirror C).eval args s none [] s = some (.ref mr) := by
    have q1 : s.vm.findClass C = some cc := by rw [hZ.alike.findClass]; exact m1
    have q2 : k'.mirror = some mr := by rw [ek]; exact m3
    simp [Term.eval, q1, q, q2]
  obtain ⟨vm', X', st⟩ := X.ldcMirror hx hown (mvT hZ w) hev (g := mkF m pc Ls St) rfl hd
  exact o_by st (k _ X' eT)
theorem o_callNN (X : Stand p l e R s m args below meth c T locs cells slots) (hx : p.tables.exec = Jvm.exec) (hZ : Z.Warmed39 s.vm) {own host : String} {index : Nat} {y : MethodName} {bytes : ByteArray} {maxL : Nat} {rm : Room} (hy1 : y.name = "<init>") (hown : s.vm.findClass own = some m.cls)
    (w1 : (Cond.methodLinkNest own index y host).before a0 Z = true) (w4 : (Cond.instanceMethod y).before a0 Z = true) (w5 : (Cond.initialized y.cls).before a0 Z = true) (w6 : (Cond.code y bytes maxL none).before a0 Z = true) (hy : y.cls ≠ "java/lang/invoke/MethodHandle" ∧ y.cls ≠ "java/lang/invoke/VarHandle")
    {Q : Option Value → Heap → List Loc → Prop} (b : Addr) (argsL rest : List Value) (W : Nat) (hM : o_Met l y bytes maxL none [] rm Z (.ref b :: argsL).toArray h Q) (hf : rm.frames + 1 ≤ R.frames) (hl : W + (maxL + 11) + rm.locals ≤ R.locals) (eT : T.heap = h) {pc : Nat} {Ls : Array Slot} (hsize : Ls.size = c.maxLocals)
    (hlen : ∀ sig, parseMethodDescriptor y.desc = some sig → argsL.length = sig.parameters.length) (hW : 2 * 0 + (rest.map fun v => v.category).sum ≤ W) (hd : decode c.code pc = .ok (.invokespecial index, 3)) (hC : cells + rm.cells ≤ R.cells) (hN : slots + rm.slots ≤ R.slots) :
    ∃ (v : Option Value) (T' : State) (L : List Loc), Stand p l e R s m args below meth c T' (locs ++ L) (cells + rm.cells) (slots + rm.slots) ∧ Q v T'.heap L ∧ ∀ target, Steps p.tables e below (T'.setTop (mkF m (pc + 3) Ls (v.toList ++ rest))) target → Steps p.tables e below (T.setTop (mkF m pc Ls (argsL.reverse ++ .ref b :: rest))) target := by
  have w1' : (Cond.methodLinkNest own index y host).before args s = true := (Cond.methodLinkNest_wide hZ w1 :)
  obtain ⟨v, _, ⟨T', L', k', n'⟩, -, X', ⟨L, hQ, h1, h2, h3⟩, st⟩ := X.specialBackNest hx (y := y) hy1 hown w1' (mvT hZ w4) (mvT hZ w6) hy (backOf (W := W) hM hZ w6 w5 hf hl) (g := mkF m pc Ls (argsL.reverse ++ .ref b :: rest)) rfl hsize (Steps.refl _) (a := b) (argsL := argsL) (rest := rest) hlen rfl hW hd (fun _ _ => ⟨rfl, eT, hC, hN⟩)
  dsimp only [Pt.U, Pt.locs, Pt.cells, Pt.slots] at X' h1 h2 h3 st hQ
  subst h1 h2 h3
  exact ⟨v, T', L, X', hQ, fun t k => st.trans k⟩
theorem o_kNN (X : Stand p l e R s m args below meth c T locs cells slots) (hx : p.tables.exec = Jvm.exec) (hZ : Z.Warmed39 s.vm) {own host : String} {index : Nat} {y : MethodName} {bytes : ByteArray} {maxL : Nat} {rm : Room} (hy1 : y.name = "<init>") (hown : s.vm.findClass own = some m.cls)
    (w1 : (Cond.methodLinkNest own index y host).before a0 Z = true) (w4 : (Cond.instanceMethod y).before a0 Z = true) (w5 : (Cond.initialized y.cls).before a0 Z = true) (w6 : (Cond.code y bytes maxL none).before a0 Z = true) (hy : y.cls ≠ "java/lang/invoke/MethodHandle" ∧ y.cls ≠ "java/lang/invoke/VarHandle")
    {Q : Option Value → Heap → List Loc → Prop} (b : Addr) (argsL rest : List Value) (W : Nat) (hM : o_Met l y bytes maxL none [] rm Z (.ref b :: argsL).toArray h Q) (hf : rm.frames + 1 ≤ R.frames) (hl : W + (maxL + 11) + rm.locals ≤ R.locals) (eT : T.heap = h) {pc : Nat} {Ls : Array Slot} (hsize : Ls.size = c.maxLocals)
    (hlen : ∀ sig, parseMethodDescriptor y.desc = some sig → argsL.length = sig.parameters.length) (hW : 2 * 0 + (rest.map fun v => v.category).sum ≤ W) (hd : decode c.code pc = .ok (.invokespecial index, 3)) (hC : cells + rm.cells ≤ R.cells) (hN : slots + rm.slots ≤ R.slots) (pc' : Nat) (hp : pc + 3 = pc') {F : State → Prop}
    (k : ∀ (v : Option Value) (T' : State) (L : List Loc), Stand p l e R s m args below meth c T' (locs ++ L) (cells + rm.cells) (slots + rm.slots) → Q v T'.heap L → o_Go p.tables e below F (T'.setTop (mkF m pc' Ls (v.toList ++ rest)))) : o_Go p.tables e below F (T.setTop (mkF m pc Ls (argsL.reverse ++ .ref b :: rest))) := by
  subst hp
  obtain ⟨v, T', L, X', hQ, st⟩ := o_callNN X hx hZ hy1 hown w1 w4 w5 w6 hy b argsL rest W hM hf hl eT hsize hlen hW hd hC hN
  exact o_by st (k v T' L X' hQ)
abbrev o_MetW (l : Launch) (y : MethodName) (bytes : ByteArray) (ml : Nat) (ret : Option FieldType) (hs : List (Nat × Nat × Nat × Nat)) (ws : List Cond) (rm : Room) (Z : State) (as : Array Value) (h : Heap) (Q : Option Value → Heap → List Loc → Prop) : Prop :=
  MetFree l y (head1 (Jvm.Cond.codeWith y bytes ml ret hs :: ws) rm) (fun a U => a = as ∧ Z.Warmed39 U.vm ∧ U.heap = h) (fun _ _ _ _ _ => True) (fun _ U o U' => ∃ v L, o = .returned v ∧ Q v U'.heap L ∧ FrameEnd U o U' L rm.cells rm.slots)
theorem o_metW {y : MethodName} {bytes : ByteArray} {ml : Nat} {ret : Option FieldType} {hs : List (Nat × Nat × Nat × Nat)} {ws : List Cond} {rm : Room} {as : Array Value} {Q : Option Value → Heap → List Loc → Prop} (hp : plainFor y = true)
    (body : ∀ (p : Program) (e : Env) (s : State) (m : MethodId) (below : List Frame) (meth : Method) (c : Code) (T0 : State), p.tables.exec = Jvm.exec → c.code = bytes → c.maxLocals = ml → s.vm.findClass y.cls = some m.cls → meth.sig.returnType = ret → meth.locks = false → meth.name = y.name → Z.Warmed39 s.vm →
      Stand p l e rm s m as below meth c T0 [] 0 0 → T0.heap = h → o_Go p.tables e below (o_Fin s below Q rm.cells rm.slots) (T0.setTop (entryFrame m as ml))) : o_MetW l y bytes ml ret hs ws rm Z as h Q := by
  refine MetFree.of_bodySF hp hisWith ?_
  intro p e s m args below meth c s₁ Bd hml0 hP hK
  obtain ⟨rfl, hZ, hh⟩ := hP
  have e0 : s₁.heap = h := by rw [← hh, Bd.state]; rfl
  obtain ⟨t, h1, o, h2, h3, h4⟩ := body p e s m below meth c s₁ Bd.exec Bd.bytes hml0 (findClass_of_methodNamed Bd.named) Bd.returns (BodyLoose.notSynchronized Bd) (name_of_methodNamed Bd.named Bd.method).1 hZ (Stand.of_body Bd) e0
  exact ⟨t, o, h1, h2, h3, h4⟩
theorem o_callIW (X : Stand p l e R s m args below meth c T locs cells slots) (hx : p.tables.exec = Jvm.exec) (hZ : Z.Warmed39 s.vm) {own C : String} {index count : Nat} {y z : MethodName} {bytes : ByteArray} {maxL : Nat} {ret : Option FieldType} {hs : List (Nat × Nat × Nat × Nat)} {rm : Room} (hown : s.vm.findClass own = some m.cls)
    (w1 : (Cond.methodLink own index y).before a0 Z = true) (w2 : (Cond.declares y).before a0 Z = true) (w3 : (Cond.interfaceMethod y.cls y.cls y.name y.desc).before a0 Z = true) (w4 : (Cond.selects C y z).before a0 Z = true) (w5 : (Cond.instanceMethod z).before a0 Z = true) (w6 : (Cond.publicMethod z).before a0 Z = true) (w7 : (Cond.unhidden C y.name y.desc).before a0 Z = true) (w8 : (Cond.castable C y.cls).before a0 Z = true)
    (w9 : (Cond.initialized z.cls).before a0 Z = true) (w10 : (Cond.codeWith z bytes maxL ret hs).before a0 Z = true) (hy : y.cls ≠ "java/lang/invoke/MethodHandle" ∧ y.cls ≠ "java/lang/invoke/VarHandle") (h3 : ((Cond.interfaceMethod y.cls y.cls y.name y.desc).onTables && (Cond.interfaceMethod y.cls y.cls y.name y.desc).keepsFace) = true)
    {Q : Option Value → Heap → List Loc → Prop} (b : Addr) (argsL rest : List Value) (W : Nat) (hM : o_MetW l z bytes maxL ret hs [] rm Z (.ref b :: argsL).toArray h Q) (hf : rm.frames + 1 ≤ R.frames) (hl : W + (maxL + 11) + rm.locals ≤ R.locals) (eT : T.heap = h) (E : Exa Z h b C) {pc : Nat} {Ls : Array Slot} (hsize : Ls.size = c.maxLocals)
    (hlen : ∀ sig, parseMethodDescriptor y.desc = some sig → argsL.length = sig.parameters.length) (hW : 2 * 0 + (rest.map fun v => v.category).sum ≤ W) (hd : decode c.code pc = .ok (.invokeinterface index count, 5)) (pc' : Nat) (hp : pc + 5 = pc') (hC : cells + rm.cells ≤ R.cells) (hN : slots + rm.slots ≤ R.slots) :
    ∃ (v : Option Value) (T' : State) (L : List Loc), Stand p l e R s m args below meth c T' (locs ++ L) (cells + rm.cells) (slots + rm.slots) ∧ Q v T'.heap L ∧ ∀ target, Steps p.tables e below (T'.setTop (mkF m pc' Ls (v.toList ++ rest))) target → Steps p.tables e below (T.setTop (mkF m pc Ls (argsL.reverse ++ .ref b :: rest))) target := by
  subst hp
  obtain ⟨cq, kq, qa, qb, qc⟩ := isOf hZ eT E
  obtain ⟨v, _, ⟨T', L', k', n'⟩, -, X', ⟨L, hQ, h1, h2, h3⟩, st⟩ := X.interfaceBack hx (xi := y) (y := z) hown (mvT hZ w1) (mvT hZ w2) (mvT hZ w3 h3) (mvT hZ w4) (mvT hZ w5) (mvT hZ w6) (mvT hZ w7) (mvT hZ w8) hy (backOfWith (W := W) hM hZ w10 w9 hf hl) qa qb qc (g := mkF m pc Ls (argsL.reverse ++ .ref b :: rest)) rfl hsize (Steps.refl _) (argsL := argsL) (rest := rest) hlen rfl hW hd (fun _ _ => ⟨rfl, eT, hC, hN⟩)
  dsimp only [Pt.U, Pt.locs, Pt.cells, Pt.slots] at X' h1 h2 h3 st hQ
  subst h1 h2 h3
  exact ⟨v, T', L, X', hQ, fun t k => st.trans k⟩
theorem o_kIW (X : Stand p l e R s m args below meth c T locs cells slots) (hx : p.tables.exec = Jvm.exec) (hZ : Z.Warmed39 s.vm) {own C : String} {index count : Nat} {y z : MethodName} {bytes : ByteArray} {maxL : Nat} {ret : Option FieldType} {hs : List (Nat × Nat × Nat × Nat)} {rm : Room} (hown : s.vm.findClass own = some m.cls)
    (w1 : (Cond.methodLink own index y).before a0 Z = true) (w2 : (Cond.declares y).before a0 Z = true) (w3 : (Cond.interfaceMethod y.cls y.cls y.name y.desc).before a0 Z = true) (w4 : (Cond.selects C y z).before a0 Z = true) (w5 : (Cond.instanceMethod z).before a0 Z = true) (w6 : (Cond.publicMethod z).before a0 Z = true) (w7 : (Cond.unhidden C y.name y.desc).before a0 Z = true) (w8 : (Cond.castable C y.cls).before a0 Z = true)
    (w9 : (Cond.initialized z.cls).before a0 Z = true) (w10 : (Cond.codeWith z bytes maxL ret hs).before a0 Z = true) (hy : y.cls ≠ "java/lang/invoke/MethodHandle" ∧ y.cls ≠ "java/lang/invoke/VarHandle") (h3 : ((Cond.interfaceMethod y.cls y.cls y.name y.desc).onTables && (Cond.interfaceMethod y.cls y.cls y.name y.desc).keepsFace) = true)
    {Q : Option Value → Heap → List Loc → Prop} (b : Addr) (argsL rest : List Value) (W : Nat) (hM : o_MetW l z bytes maxL ret hs [] rm Z (.ref b :: argsL).toArray h Q) (hf : rm.frames + 1 ≤ R.frames) (hl : W + (maxL + 11) + rm.locals ≤ R.locals) (eT : T.heap = h) (E : Exa Z h b C) {pc : Nat} {Ls : Array Slot} (hsize : Ls.size = c.maxLocals)
    (hlen : ∀ sig, parseMethodDescriptor y.desc = some sig → argsL.length = sig.parameters.length) (hW : 2 * 0 + (rest.map fun v => v.category).sum ≤ W) (hd : decode c.code pc = .ok (.invokeinterface index count, 5)) (pc' : Nat) (hp : pc + 5 = pc') (hC : cells + rm.cells ≤ R.cells) (hN : slots + rm.slots ≤ R.slots) {F : State → Prop}
    (k : ∀ (v : Option Value) (T' : State) (L : List Loc), Stand p l e R s m args below meth c T' (locs ++ L) (cells + rm.cells) (slots + rm.slots) → Q v T'.heap L → o_Go p.tables e below F (T'.setTop (mkF m pc' Ls (v.toList ++ rest)))) : o_Go p.tables e below F (T.setTop (mkF m pc Ls (argsL.reverse ++ .ref b :: rest))) := by
  obtain ⟨v, T', L, X', hQ, st⟩ := o_callIW X hx hZ hown w1 w2 w3 w4 w5 w6 w7 w8 w9 w10 hy h3 b argsL rest W hM hf hl eT E hsize hlen hW hd pc' hp hC hN
  exact o_by st (k v T' L X' hQ)
theorem o_cpR (X : Stand p l e R s m args below meth c T locs cells slots) (hx : p.tables.exec = Jvm.exec) {F : State → Prop} {pc : Nat} {Ls : Array Slot} {St : List Value} (hZ : Z.Warmed39 s.vm) {own : String} {i : Nat} (hown : s.vm.findClass own = some m.cls)
    (w1 : (Cond.methodLink own i Jvm.Stand.acN).before a0 Z = true) (w2 : (Cond.native Jvm.Stand.acN).before a0 Z = true) (w3 : (Cond.static Jvm.Stand.acN).before a0 Z = true) (w4 : (Cond.initialized "java/lang/System").before a0 Z = true) (eT : T.heap = h)
    {a b : Addr} {k k' : ClassId} {ty ty' : FieldType} {z z' sp dp nn : Int32} {vs vd : List Value} {dv dd : Value} (A : Arv Z h a k ty z vs dv) (B : Arv Z h b k' ty' z' vd dd) (hty : refKind ty = true) (hty' : refKind ty' = true) (us : List Value) (so : ∀ cl : Cell, Arr Z h b cl ty' → cl.cls = k' → StoL Z h b us)
    (h1 : ¬ sp < 0) (h2 : ¬ dp < 0) (h3 : ¬ nn < 0) (h4 : sp.toNatClampNeg + nn.toNatClampNeg ≤ z.toNatClampNeg) (h5 : dp.toNatClampNeg + nn.toNatClampNeg ≤ z'.toNatClampNeg)
    (hus : us = (List.range nn.toNatClampNeg).map fun i => vs.getD (sp.toNatClampNeg + i) dv) (hl : dp.toNatClampNeg + nn.toNatClampNeg ≤ vd.length) (vd' : List Value) (hvd : vd.take dp.toNatClampNeg ++ us ++ vd.drop (dp.toNatClampNeg + nn.toNatClampNeg) = vd') {n0 : Nat} (N : Fr n0 locs) (ge : n0 ≤ b) (hsize : Ls.size = c.maxLocals)
    (hd : decode c.code pc = .ok (.invokestatic i, 3)) (hf : 1 ≤ R.frames) (W : Nat) (hW : 2 * 0 + (St.map fun v => v.category).sum ≤ W) (hlo : W + (nativeFrameWords "java/lang/System" "arraycopy" 5 + 11) ≤ R.locals) (pc' : Nat) (hp : pc + 3 = pc')
    (kk : ∀ (T' : State) (L : List Loc), Stand p l e R s m args below meth c T' L cells slots → Fr n0 L → Keep h T'.heap [b] → Arv Z T'.heap b k' ty' z' vd' dd → o_Go p.tables e below F (T'.setTop (mkF m pc' Ls St))) :
    o_Go p.tables e below F (T.setTop (mkF m pc Ls (.int nn :: .int dp :: .ref b :: .int sp :: .ref a :: St))) := by
  subst hp hvd
  have B2 := B
  obtain ⟨cl, Ab, qb, -⟩ := B2
  obtain ⟨T', h', L, X', e', N', K', V', st⟩ := cpA X hx hZ hown w1 w2 w3 w4 eT A B (Or.inr ⟨hty, hty', so cl Ab qb⟩) h1 h2 h3 h4 h5 hus hl N ge (g := mkF m pc Ls (.int nn :: .int dp :: .ref b :: .int sp :: .ref a :: St)) rfl hsize rfl hd hf (W := W) hW hlo
  subst e'
  exact o_by st (kk T' L X' N' K' V')
theorem o_arv0 {t : Term} {a : Addr} {ty : FieldType} (hf : Fit Z) (ev : t.eval args Z none [] Z = some (.ref a)) (q1 : (Cond.arrayOf t ty).value args Z none Z [] = some true) (q2 : (Cond.eq (.length t) (.int 0)).value args Z none Z [] = some true) (dv : Value) : ∃ k, Arv Z Z.heap a k ty 0 [] dv := by
  obtain ⟨cl, A⟩ := Arr.start ev q1
  obtain ⟨n1, n2⟩ := o_lenOf ev A q2
  exact ⟨cl.cls, Arv.start hf A n1 n2 (by decide) (by decide) trivial⟩
theorem o_far {vs : List Value} {dv : Value} {j K : Int32} (q : K < j) (n : Nat) (q0 : vs.length = n) (q1 : n ≤ K.toNatClampNeg + 1) (q2 : ¬ K < 0) : vs.getD j.toNatClampNeg dv = dv := by
  rw [Int32.lt_iff_toInt_lt] at q q2
  have a0 : ((0 : Int32)).toInt = 0 := by decide
  rw [a0] at q2
  have e1 : K.toNatClampNeg = K.toInt.toNat := rfl
  have e2 : j.toNatClampNeg = j.toInt.toNat := rfl
  rw [List.getD_eq_getElem?_getD, List.getElem?_eq_none (by omega)]
  rfl
theorem o_cat {v : Value} (q : v.isRef = true) : 2 * 0 + ([v].map fun v => v.category).sum ≤ 1 := by
  cases v <;> simp_all [Value.isRef, Value.category]
end OwnHeap3

theorem o_ne0 {Z : State} {args : Array Value} {t : Term} {z : Int32} (ev : t.eval args Z none [] Z = some (.int z)) (q : (Cond.not (Cond.eq t (.int 0))).value args Z none Z [] = some true) : ¬ (z = (0 : Int32)) := by
  intro e
  subst e
  simp [Cond.value, ev, Term.eval] at q

abbrev sO (Z : State) (C n d : String) : Nat := Jvm.RoadKit.slotOf Z C n d
theorem sN {Z : State} {C O n d : String} {a0 : Array Value} {O' n' d' : String} {t t' : FieldType} (L : Laid Z a0 C O n d) (L' : Laid Z a0 C O' n' d') (hn : n ≠ n') (ht : parseFieldDescriptor d = some t) (ht' : parseFieldDescriptor d' = some t') : sO Z O n d ≠ sO Z O' n' d' := Jvm.RoadKit.slot_ne L L' hn ht ht'
abbrev s0 : String := "com/example/lawful_crossing/lawfulcrossing/service/ProcessState"
abbrev s1 : String := "com/example/lawful_crossing/lawfulcrossing/model/Segment"
abbrev s2 : String := "java/util/ImmutableCollections$ListItr"
abbrev s3 : String := "com/example/lawful_crossing/lawfulcrossing/model/Image"
abbrev s4 : String := "java/lang/String"
abbrev s5 : String := "java/util/HashMap$Node"
abbrev s6 : String := "java/util/ArrayList"
abbrev s7 : String := "java/util/HashMap"
abbrev s8 : String := "java/lang/Object"
abbrev s9 : String := "java/util/ImmutableCollections$List12"
abbrev s10 : String := "[Ljava/lang/Object;"
abbrev s11 : String := "java/util/ImmutableCollections$ListN"
abbrev s12 : String := "[Lcom/example/lawful_crossing/lawfulcrossing/model/Segment;"
abbrev s13 : String := "Ljava/lang/Object;"
abbrev s14 : String := "[[Lcom/example/lawful_crossing/lawfulcrossing/service/RingAccess;"
abbrev s15 : String := "([Lcom/example/lawful_crossing/lawfulcrossing/model/Segment;II)Lcom/example/lawful_crossing/lawfulcrossing/model/Segment;"
abbrev s16 : String := "com/example/lawful_crossing/lawfulcrossing/service/RingAccess"
abbrev s17 : String := "Ljava/util/List;"
abbrev s18 : String := "Lcom/example/lawful_crossing/lawfulcrossing/model/ProcessDeclaration;"
abbrev s19 : String := "com/example/lawful_crossing/lawfulcrossing/model/ProcessDeclaration"
abbrev s20 : String := "com/example/lawful_crossing/lawfulcrossing/service/ProcessStateSegmentPinLaw"
abbrev s21 : String := "java/util/List"
abbrev s22 : String := "Lcom/example/lawful_crossing/lawfulcrossing/model/Image;"
abbrev s23 : String := "[Ljava/util/HashMap$Node;"
abbrev s24 : String := "java/util/AbstractList"
abbrev s25 : String := "(I)Lcom/example/lawful_crossing/lawfulcrossing/model/Segment;"
abbrev s26 : String := "size"
abbrev s27 : String := "elementData"
abbrev s28 : String := "Ljava/util/HashMap$Node;"
abbrev s29 : String := "modCount"
abbrev s30 : String := "java/util/ImmutableCollections$AbstractImmutableList"
abbrev s31 : String := "(Lcom/example/lawful_crossing/lawfulcrossing/model/ProcessDeclaration;Lcom/example/lawful_crossing/lawfulcrossing/model/Image;)V"
abbrev s32 : String := "isListIterator"
abbrev s33 : String := "hashIsZero"
abbrev s34 : String := "value"
abbrev s35 : String := "segments"
abbrev s36 : String := "java/lang/StringLatin1"
abbrev s37 : String := "hash"
abbrev s38 : String := "java/util/ImmutableCollections"
abbrev s39 : String := "java/lang/Integer"
abbrev s40 : String := "(Ljava/util/Collection;)Ljava/util/List;"
abbrev s41 : String := "cursor"
abbrev s42 : String := "Ljava/lang/String;"
abbrev s43 : String := "coder"
abbrev s44 : String := "loadFactor"
abbrev s45 : String := "(ILjava/lang/Object;Ljava/lang/Object;Ljava/util/HashMap$Node;)Ljava/util/HashMap$Node;"
abbrev s46 : String := "threshold"
abbrev s47 : String := "registerWords"
abbrev s48 : String := "imageSegments"
abbrev s49 : String := "declaration"
abbrev s50 : String := "<init>"
abbrev s51 : String := "java/util/Arrays"
abbrev s52 : String := "(ILjava/lang/Object;Ljava/lang/Object;Ljava/util/HashMap$Node;)V"
abbrev s53 : String := "lastSegment"
abbrev s54 : String := "elements"
abbrev s55 : String := "list"
abbrev s56 : String := "(ILjava/lang/Object;Ljava/lang/Object;ZZ)Ljava/lang/Object;"
abbrev s57 : String := "([Ljava/lang/Object;ILjava/lang/Class;)[Ljava/lang/Object;"
abbrev s58 : String := "(Ljava/lang/Object;Ljava/lang/Object;)Ljava/lang/Object;"
abbrev s59 : String := "Ljava/util/Map;"
abbrev s60 : String := "pointers"
abbrev s61 : String := "table"
abbrev s62 : String := "next"
abbrev s63 : String := "([Ljava/lang/Object;)Ljava/util/List;"
abbrev s64 : String := "java/util/Map"
abbrev s65 : String := "(Ljava/util/List;Ljava/util/List;)V"
abbrev s66 : String := "stacks"
abbrev s67 : String := "access"
abbrev s68 : String := "()Ljava/lang/Object;"
abbrev s69 : String := "java/lang/Math"
abbrev s70 : String := "allowNulls"
abbrev s71 : String := "(I)Ljava/lang/Object;"
abbrev s72 : String := "processes"
abbrev s73 : String := "expected"
abbrev s74 : String := "segment"
abbrev B0 : ByteArray := jdk_43_method_3_code
abbrev B1 : ByteArray := jdk_43_method_46_code
abbrev B2 : ByteArray := jdk_42_method_151_code
abbrev B3 : ByteArray := jdk_42_method_139_code
abbrev B4 : ByteArray := jdk_22_method_1_code
abbrev B5 : ByteArray := jdk_39_method_1_code
abbrev B6 : ByteArray := jdk_38_method_2_code
abbrev B7 : ByteArray := jdk_38_method_9_code
abbrev B8 : ByteArray := jdk_40_method_36_code
abbrev B9 : ByteArray := jdk_56_method_3_code
abbrev B10 : ByteArray := jdk_40_method_48_code
abbrev B11 : ByteArray := prog_38_method_1_code
abbrev B12 : ByteArray := jdk_71_method_1_code
abbrev B13 : ByteArray := jdk_69_method_7_code
abbrev B14 : ByteArray := jdk_45_method_3_code
abbrev B15 : ByteArray := prog_29_method_1_code
abbrev B16 : ByteArray := prog_29_method_3_code
abbrev B17 : ByteArray := jdk_53_method_1_code
abbrev B18 : ByteArray := jdk_46_method_10_code
abbrev B19 : ByteArray := jdk_53_method_3_code
abbrev B20 : ByteArray := prog_50_method_1_code
abbrev B21 : ByteArray := prog_50_method_9_code
abbrev B22 : ByteArray := method_3_code
abbrev B23 : ByteArray := jdk_29_method_65_code
abbrev B24 : ByteArray := jdk_38_method_6_code
abbrev B25 : ByteArray := jdk_38_method_7_code
abbrev B26 : ByteArray := jdk_38_method_24_code
abbrev B27 : ByteArray := jdk_38_method_25_code
abbrev B28 : ByteArray := jdk_29_method_69_code
abbrev B29 : ByteArray := jdk_65_method_120_code
abbrev B30 : ByteArray := jdk_65_method_119_code
abbrev B31 : ByteArray := jdk_38_method_16_code
abbrev B32 : ByteArray := jdk_47_method_1_code
abbrev B33 : ByteArray := jdk_46_method_1_code
abbrev B34 : ByteArray := jdk_31_method_10_code
abbrev B35 : ByteArray := jdk_44_method_1_code
abbrev B36 : ByteArray := jdk_40_method_47_code
abbrev B37 : ByteArray := jdk_44_method_3_code
abbrev B38 : ByteArray := jdk_44_method_5_code
abbrev B39 : ByteArray := prog_38_method_6_code
abbrev B40 : ByteArray := jdk_33_method_22_code
abbrev B41 : ByteArray := jdk_42_method_154_code
abbrev B42 : ByteArray := jdk_43_method_21_code
abbrev B43 : ByteArray := jdk_42_method_78_code
abbrev B44 : ByteArray := jdk_69_method_1_code
abbrev B45 : ByteArray := jdk_69_method_17_code
abbrev B46 : ByteArray := jdk_70_method_1_code
abbrev B47 : ByteArray := jdk_69_method_46_code
abbrev B48 : ByteArray := jdk_69_method_52_code
abbrev B49 : ByteArray := jdk_69_method_16_code
abbrev B50 : ByteArray := jdk_69_method_15_code
abbrev B51 : ByteArray := jdk_53_method_4_code
abbrev B52 : ByteArray := jdk_44_method_2_code
abbrev B53 : ByteArray := jdk_45_method_1_code
abbrev B54 : ByteArray := jdk_56_method_4_code
abbrev B55 : ByteArray := jdk_45_method_4_code
def o_C (Z : State) (h0 : Heap) (w_NW w_DC w_EL w_EA w_EM w_MO w_cacheI : Addr) (c_cacheI : Cell) (k_DC k_EA : ClassId) (z_CS : Int32) : Prop := Sta Z h0 s1 "NO_WORDS" "[J" (.ref w_NW) ∧ Sta Z h0 s0 "POINTER_WORDS" "I" (.int 8) ∧ Sta Z h0 s4 "COMPACT_STRINGS" "Z" (.int z_CS) ∧ ¬ (z_CS = (0 : Int32)) ∧ Sta Z h0 s6 "DEFAULTCAPACITY_EMPTY_ELEMENTDATA" s10 (.ref w_DC) ∧ Exa Z h0 w_DC s10 ∧ Arv Z h0 w_DC k_DC (.object s8) (0 : Int32) [] .null ∧ Sta Z h0 s38 "EMPTY_LIST" "Ljava/util/ImmutableCollections$ListN;" (.ref w_EL) ∧ Exa Z h0 w_EL s11 ∧ Fld Z h0 w_EL s11 s54 s10 (.ref w_EA) ∧ Exa Z h0 w_EA s10 ∧ Arv Z h0 w_EA k_EA (.object s8) (0 : Int32) [] .null ∧ Fld Z h0 w_EL s11 s70 "Z" (.int 0) ∧ Sta Z h0 s38 "EMPTY" s13 (.ref w_EM) ∧ Exa Z h0 w_EM s8 ∧ o_Mi Z s10 w_MO ∧ Sta Z h0 "java/lang/Integer$IntegerCache" "cache" "[Ljava/lang/Integer;" (.ref w_cacheI) ∧ Bxs Z w_cacheI c_cacheI s39 "I" 256 (fun j => .int (j - 128)) ∧ Sta Z h0 "java/lang/Integer$IntegerCache" "high" "I" (.int 127)
section OwnWalks
variable (l : Launch) (Z : State) (a0 : Array Value) (h0 : Heap) (n0 : Nat) {w_NW w_DC w_EL w_EA w_EM w_MO w_cacheI : Addr} {c_cacheI : Cell} {k_DC k_EA : ClassId} {z_CS : Int32}
theorem o_bit3 (x : Int32) : (x &&& (3 : Int32)) = (0 : Int32) ∨ (x &&& (3 : Int32)) = (1 : Int32) ∨ (x &&& (3 : Int32)) = (2 : Int32) ∨ (x &&& (3 : Int32)) = (3 : Int32) := by
  have r := Jvm.Kit.i32_mask x (3 : Int32) (k := 2) (by decide) (by decide)
  have l0 : ((0 : Int32)).toInt = 0 := by decide
  have l1 : ((1 : Int32)).toInt = 1 := by decide
  have l2 : ((2 : Int32)).toInt = 2 := by decide
  have l3 : ((3 : Int32)).toInt = 3 := by decide
  simp only [← Int32.toInt_inj, l0, l1, l2, l3]
  generalize (x &&& (3 : Int32)).toInt = z at r ⊢
  omega
theorem o_ln (x : Int32) : ¬ ((x &&& (262143 : Int32)) < (0 : Int32)) ∧ ¬ ((262144 : Int32) < (x &&& (262143 : Int32))) := by
  have r := Jvm.Kit.i32_mask x (262143 : Int32) (k := 18) (by decide) (by decide)
  have l0 : ((0 : Int32)).toInt = 0 := by decide
  have l1 : ((262144 : Int32)).toInt = 262144 := by decide
  rw [Int32.lt_iff_toInt_lt, Int32.lt_iff_toInt_lt, l0, l1]
  generalize (x &&& (262143 : Int32)).toInt = z at r ⊢
  omega
theorem o_cases0 (x : Int32) : (x < (0 : Int32) ∧ x < (1 : Int32)) ∨ x = (0 : Int32) ∨ (¬ (x < (0 : Int32)) ∧ x < (66 : Int32) ∧ ¬ (x < (1 : Int32)) ∧ (0 : Int32) < x) ∨ (¬ (x < (0 : Int32)) ∧ ¬ (x < (66 : Int32)) ∧ ¬ (x < (1 : Int32)) ∧ (0 : Int32) < x) := by
  have l0 : ((0 : Int32)).toInt = 0 := by decide
  have l1 : ((1 : Int32)).toInt = 1 := by decide
  have l66 : ((66 : Int32)).toInt = 66 := by decide
  simp only [← Int32.toInt_inj, Int32.lt_iff_toInt_lt, l0, l1, l66]
  generalize x.toInt = z
  omega
theorem o_cases1 (x : Int32) : (x < (0 : Int32) ∧ x < (1 : Int32)) ∨ x = (0 : Int32) ∨ x = (1 : Int32) ∨ (¬ (x < (0 : Int32)) ∧ x < (67 : Int32) ∧ ¬ (x < (1 : Int32)) ∧ (1 : Int32) < x) ∨ (¬ (x < (0 : Int32)) ∧ ¬ (x < (67 : Int32)) ∧ ¬ (x < (1 : Int32)) ∧ (1 : Int32) < x) := by
  have l0 : ((0 : Int32)).toInt = 0 := by decide
  have l1 : ((1 : Int32)).toInt = 1 := by decide
  have l2 : ((2 : Int32)).toInt = 2 := by decide
  have l67 : ((67 : Int32)).toInt = 67 := by decide
  simp only [← Int32.toInt_inj, Int32.lt_iff_toInt_lt, l0, l1, l2, l67]
  generalize x.toInt = z
  omega
theorem o_cases2 (x : Int32) : (x < (0 : Int32) ∧ x < (1 : Int32)) ∨ x = (0 : Int32) ∨ x = (1 : Int32) ∨ x = (2 : Int32) ∨ (¬ (x < (0 : Int32)) ∧ x < (68 : Int32) ∧ ¬ (x < (1 : Int32)) ∧ (2 : Int32) < x) ∨ (¬ (x < (0 : Int32)) ∧ ¬ (x < (68 : Int32)) ∧ ¬ (x < (1 : Int32)) ∧ (2 : Int32) < x) := by
  have l0 : ((0 : Int32)).toInt = 0 := by decide
  have l1 : ((1 : Int32)).toInt = 1 := by decide
  have l2 : ((2 : Int32)).toInt = 2 := by decide
  have l3 : ((3 : Int32)).toInt = 3 := by decide
  have l68 : ((68 : Int32)).toInt = 68 := by decide
  simp only [← Int32.toInt_inj, Int32.lt_iff_toInt_lt, l0, l1, l2, l3, l68]
  generalize x.toInt = z
  omega
theorem o_cases3 (x : Int32) : (x < (0 : Int32) ∧ x < (1 : Int32)) ∨ x = (0 : Int32) ∨ x = (1 : Int32) ∨ x = (2 : Int32) ∨ x = (3 : Int32) ∨ (¬ (x < (0 : Int32)) ∧ x < (69 : Int32) ∧ ¬ (x < (1 : Int32)) ∧ (3 : Int32) < x) ∨ (¬ (x < (0 : Int32)) ∧ ¬ (x < (69 : Int32)) ∧ ¬ (x < (1 : Int32)) ∧ (3 : Int32) < x) := by
  have l0 : ((0 : Int32)).toInt = 0 := by decide
  have l1 : ((1 : Int32)).toInt = 1 := by decide
  have l2 : ((2 : Int32)).toInt = 2 := by decide
  have l3 : ((3 : Int32)).toInt = 3 := by decide
  have l4 : ((4 : Int32)).toInt = 4 := by decide
  have l69 : ((69 : Int32)).toInt = 69 := by decide
  simp only [← Int32.toInt_inj, Int32.lt_iff_toInt_lt, l0, l1, l2, l3, l4, l69]
  generalize x.toInt = z
  omega
theorem sn_0 {Z : State} {a0 : Array Value} (hw : o_HW Z a0) : sO Z s4 s43 "B" ≠ sO Z s4 s34 "[B" := sN (Or.inr (w hw 29 rfl)) (Or.inr (w hw 27 rfl)) (by decide) (t := .byte) (t' := (.array .byte)) (by decide) (by decide)
theorem sn_1 {Z : State} {a0 : Array Value} (hw : o_HW Z a0) : sO Z s4 s37 "I" ≠ sO Z s4 s34 "[B" := sN (Or.inl (w hw 357 rfl)) (Or.inr (w hw 27 rfl)) (by decide) (t := .int) (t' := (.array .byte)) (by decide) (by decide)
theorem sn_2 {Z : State} {a0 : Array Value} (hw : o_HW Z a0) : sO Z s4 s37 "I" ≠ sO Z s4 s43 "B" := sN (Or.inl (w hw 357 rfl)) (Or.inr (w hw 29 rfl)) (by decide) (t := .int) (t' := .byte) (by decide) (by decide)
theorem sn_3 {Z : State} {a0 : Array Value} (hw : o_HW Z a0) : sO Z s4 s33 "Z" ≠ sO Z s4 s34 "[B" := sN (Or.inl (w hw 359 rfl)) (Or.inr (w hw 27 rfl)) (by decide) (t := .boolean) (t' := (.array .byte)) (by decide) (by decide)
theorem sn_4 {Z : State} {a0 : Array Value} (hw : o_HW Z a0) : sO Z s4 s33 "Z" ≠ sO Z s4 s43 "B" := sN (Or.inl (w hw 359 rfl)) (Or.inr (w hw 29 rfl)) (by decide) (t := .boolean) (t' := .byte) (by decide) (by decide)
theorem sn_5 {Z : State} {a0 : Array Value} (hw : o_HW Z a0) : sO Z s6 s27 s10 ≠ sO Z s24 s29 "I" := sN (Or.inl (w hw 53 rfl)) (Or.inl (w hw 50 rfl)) (by decide) (t := (.array (.object s8))) (t' := .int) (by decide) (by decide)
theorem sn_6 {Z : State} {a0 : Array Value} (hw : o_HW Z a0) : sO Z s6 s26 "I" ≠ sO Z s24 s29 "I" := sN (Or.inl (w hw 91 rfl)) (Or.inl (w hw 50 rfl)) (by decide) (t := .int) (t' := .int) (by decide) (by decide)
theorem sn_7 {Z : State} {a0 : Array Value} (hw : o_HW Z a0) : sO Z s6 s26 "I" ≠ sO Z s6 s27 s10 := sN (Or.inl (w hw 91 rfl)) (Or.inl (w hw 53 rfl)) (by decide) (t := .int) (t' := (.array (.object s8))) (by decide) (by decide)
theorem sn_8 {Z : State} {a0 : Array Value} (hw : o_HW Z a0) : sO Z s1 "name" s42 ≠ sO Z s1 "near" "[J" := sN (Or.inr (w hw 64 rfl)) (Or.inl (w hw 61 rfl)) (by decide) (t := (.object s4)) (t' := (.array .long)) (by decide) (by decide)
theorem sn_9 {Z : State} {a0 : Array Value} (hw : o_HW Z a0) : sO Z s1 "length" "I" ≠ sO Z s1 "near" "[J" := sN (Or.inr (w hw 66 rfl)) (Or.inl (w hw 61 rfl)) (by decide) (t := .int) (t' := (.array .long)) (by decide) (by decide)
theorem sn_10 {Z : State} {a0 : Array Value} (hw : o_HW Z a0) : sO Z s1 "length" "I" ≠ sO Z s1 "name" s42 := sN (Or.inr (w hw 66 rfl)) (Or.inr (w hw 64 rfl)) (by decide) (t := .int) (t' := (.object s4)) (by decide) (by decide)
theorem sn_11 {Z : State} {a0 : Array Value} (hw : o_HW Z a0) : sO Z s1 "accessList" s17 ≠ sO Z s1 "near" "[J" := sN (Or.inr (w hw 97 rfl)) (Or.inl (w hw 61 rfl)) (by decide) (t := (.object s21)) (t' := (.array .long)) (by decide) (by decide)
theorem sn_12 {Z : State} {a0 : Array Value} (hw : o_HW Z a0) : sO Z s1 "accessList" s17 ≠ sO Z s1 "name" s42 := sN (Or.inr (w hw 97 rfl)) (Or.inr (w hw 64 rfl)) (by decide) (t := (.object s21)) (t' := (.object s4)) (by decide) (by decide)
theorem sn_13 {Z : State} {a0 : Array Value} (hw : o_HW Z a0) : sO Z s1 "accessList" s17 ≠ sO Z s1 "length" "I" := sN (Or.inr (w hw 97 rfl)) (Or.inr (w hw 66 rfl)) (by decide) (t := (.object s21)) (t' := .int) (by decide) (by decide)
theorem sn_14 {Z : State} {a0 : Array Value} (hw : o_HW Z a0) : sO Z s7 s29 "I" ≠ sO Z s7 s44 "F" := sN (Or.inl (w hw 405 rfl)) (Or.inr (w hw 122 rfl)) (by decide) (t := .int) (t' := .float) (by decide) (by decide)
theorem sn_15 {Z : State} {a0 : Array Value} (hw : o_HW Z a0) : sO Z s7 s26 "I" ≠ sO Z s7 s44 "F" := sN (Or.inl (w hw 407 rfl)) (Or.inr (w hw 122 rfl)) (by decide) (t := .int) (t' := .float) (by decide) (by decide)
theorem sn_16 {Z : State} {a0 : Array Value} (hw : o_HW Z a0) : sO Z s7 s61 s23 ≠ sO Z s7 s44 "F" := sN (Or.inl (w hw 374 rfl)) (Or.inr (w hw 122 rfl)) (by decide) (t := (.array (.object s5))) (t' := .float) (by decide) (by decide)
theorem sn_17 {Z : State} {a0 : Array Value} (hw : o_HW Z a0) : sO Z s7 s46 "I" ≠ sO Z s7 s44 "F" := sN (Or.inl (w hw 381 rfl)) (Or.inr (w hw 122 rfl)) (by decide) (t := .int) (t' := .float) (by decide) (by decide)
theorem sn_18 {Z : State} {a0 : Array Value} (hw : o_HW Z a0) : sO Z s3 s72 s17 ≠ sO Z s3 "numbers" s59 := sN (Or.inr (w hw 127 rfl)) (Or.inr (w hw 124 rfl)) (by decide) (t := (.object s21)) (t' := (.object s64)) (by decide) (by decide)
theorem sn_19 {Z : State} {a0 : Array Value} (hw : o_HW Z a0) : sO Z s3 s35 s17 ≠ sO Z s3 "numbers" s59 := sN (Or.inr (w hw 129 rfl)) (Or.inr (w hw 124 rfl)) (by decide) (t := (.object s21)) (t' := (.object s64)) (by decide) (by decide)
theorem sn_20 {Z : State} {a0 : Array Value} (hw : o_HW Z a0) : sO Z s3 s35 s17 ≠ sO Z s3 s72 s17 := sN (Or.inr (w hw 129 rfl)) (Or.inr (w hw 127 rfl)) (by decide) (t := (.object s21)) (t' := (.object s21)) (by decide) (by decide)
theorem sn_21 {Z : State} {a0 : Array Value} (hw : o_HW Z a0) : sO Z s0 "x" "[I" ≠ sO Z s0 s66 "[I" := sN (Or.inr (w hw 153 rfl)) (Or.inr (w hw 151 rfl)) (by decide) (t := (.array .int)) (t' := (.array .int)) (by decide) (by decide)
theorem sn_22 {Z : State} {a0 : Array Value} (hw : o_HW Z a0) : sO Z s0 s60 "[J" ≠ sO Z s0 s66 "[I" := sN (Or.inr (w hw 158 rfl)) (Or.inr (w hw 151 rfl)) (by decide) (t := (.array .long)) (t' := (.array .int)) (by decide) (by decide)
theorem sn_23 {Z : State} {a0 : Array Value} (hw : o_HW Z a0) : sO Z s0 s60 "[J" ≠ sO Z s0 "x" "[I" := sN (Or.inr (w hw 158 rfl)) (Or.inr (w hw 153 rfl)) (by decide) (t := (.array .long)) (t' := (.array .int)) (by decide) (by decide)
theorem sn_24 {Z : State} {a0 : Array Value} (hw : o_HW Z a0) : sO Z s0 s47 "[J" ≠ sO Z s0 s66 "[I" := sN (Or.inr (w hw 160 rfl)) (Or.inr (w hw 151 rfl)) (by decide) (t := (.array .long)) (t' := (.array .int)) (by decide) (by decide)
theorem sn_25 {Z : State} {a0 : Array Value} (hw : o_HW Z a0) : sO Z s0 s47 "[J" ≠ sO Z s0 "x" "[I" := sN (Or.inr (w hw 160 rfl)) (Or.inr (w hw 153 rfl)) (by decide) (t := (.array .long)) (t' := (.array .int)) (by decide) (by decide)
theorem sn_26 {Z : State} {a0 : Array Value} (hw : o_HW Z a0) : sO Z s0 s47 "[J" ≠ sO Z s0 s60 "[J" := sN (Or.inr (w hw 160 rfl)) (Or.inr (w hw 158 rfl)) (by decide) (t := (.array .long)) (t' := (.array .long)) (by decide) (by decide)
theorem sn_27 {Z : State} {a0 : Array Value} (hw : o_HW Z a0) : sO Z s0 s49 s18 ≠ sO Z s0 s66 "[I" := sN (Or.inr (w hw 162 rfl)) (Or.inr (w hw 151 rfl)) (by decide) (t := (.object s19)) (t' := (.array .int)) (by decide) (by decide)
theorem sn_28 {Z : State} {a0 : Array Value} (hw : o_HW Z a0) : sO Z s0 s49 s18 ≠ sO Z s0 "x" "[I" := sN (Or.inr (w hw 162 rfl)) (Or.inr (w hw 153 rfl)) (by decide) (t := (.object s19)) (t' := (.array .int)) (by decide) (by decide)
theorem sn_29 {Z : State} {a0 : Array Value} (hw : o_HW Z a0) : sO Z s0 s49 s18 ≠ sO Z s0 s60 "[J" := sN (Or.inr (w hw 162 rfl)) (Or.inr (w hw 158 rfl)) (by decide) (t := (.object s19)) (t' := (.array .long)) (by decide) (by decide)
theorem sn_30 {Z : State} {a0 : Array Value} (hw : o_HW Z a0) : sO Z s0 s49 s18 ≠ sO Z s0 s47 "[J" := sN (Or.inr (w hw 162 rfl)) (Or.inr (w hw 160 rfl)) (by decide) (t := (.object s19)) (t' := (.array .long)) (by decide) (by decide)
theorem sn_31 {Z : State} {a0 : Array Value} (hw : o_HW Z a0) : sO Z s0 "image" s22 ≠ sO Z s0 s66 "[I" := sN (Or.inr (w hw 164 rfl)) (Or.inr (w hw 151 rfl)) (by decide) (t := (.object s3)) (t' := (.array .int)) (by decide) (by decide)
theorem sn_32 {Z : State} {a0 : Array Value} (hw : o_HW Z a0) : sO Z s0 "image" s22 ≠ sO Z s0 "x" "[I" := sN (Or.inr (w hw 164 rfl)) (Or.inr (w hw 153 rfl)) (by decide) (t := (.object s3)) (t' := (.array .int)) (by decide) (by decide)
theorem sn_33 {Z : State} {a0 : Array Value} (hw : o_HW Z a0) : sO Z s0 "image" s22 ≠ sO Z s0 s60 "[J" := sN (Or.inr (w hw 164 rfl)) (Or.inr (w hw 158 rfl)) (by decide) (t := (.object s3)) (t' := (.array .long)) (by decide) (by decide)
theorem sn_34 {Z : State} {a0 : Array Value} (hw : o_HW Z a0) : sO Z s0 "image" s22 ≠ sO Z s0 s47 "[J" := sN (Or.inr (w hw 164 rfl)) (Or.inr (w hw 160 rfl)) (by decide) (t := (.object s3)) (t' := (.array .long)) (by decide) (by decide)
theorem sn_35 {Z : State} {a0 : Array Value} (hw : o_HW Z a0) : sO Z s0 "image" s22 ≠ sO Z s0 s49 s18 := sN (Or.inr (w hw 164 rfl)) (Or.inr (w hw 162 rfl)) (by decide) (t := (.object s3)) (t' := (.object s19)) (by decide) (by decide)
theorem sn_36 {Z : State} {a0 : Array Value} (hw : o_HW Z a0) : sO Z s0 s48 "I" ≠ sO Z s0 s66 "[I" := sN (Or.inr (w hw 172 rfl)) (Or.inr (w hw 151 rfl)) (by decide) (t := .int) (t' := (.array .int)) (by decide) (by decide)
theorem sn_37 {Z : State} {a0 : Array Value} (hw : o_HW Z a0) : sO Z s0 s48 "I" ≠ sO Z s0 "x" "[I" := sN (Or.inr (w hw 172 rfl)) (Or.inr (w hw 153 rfl)) (by decide) (t := .int) (t' := (.array .int)) (by decide) (by decide)
theorem sn_38 {Z : State} {a0 : Array Value} (hw : o_HW Z a0) : sO Z s0 s48 "I" ≠ sO Z s0 s60 "[J" := sN (Or.inr (w hw 172 rfl)) (Or.inr (w hw 158 rfl)) (by decide) (t := .int) (t' := (.array .long)) (by decide) (by decide)
theorem sn_39 {Z : State} {a0 : Array Value} (hw : o_HW Z a0) : sO Z s0 s48 "I" ≠ sO Z s0 s47 "[J" := sN (Or.inr (w hw 172 rfl)) (Or.inr (w hw 160 rfl)) (by decide) (t := .int) (t' := (.array .long)) (by decide) (by decide)
theorem sn_40 {Z : State} {a0 : Array Value} (hw : o_HW Z a0) : sO Z s0 s48 "I" ≠ sO Z s0 s49 s18 := sN (Or.inr (w hw 172 rfl)) (Or.inr (w hw 162 rfl)) (by decide) (t := .int) (t' := (.object s19)) (by decide) (by decide)
theorem sn_41 {Z : State} {a0 : Array Value} (hw : o_HW Z a0) : sO Z s0 s48 "I" ≠ sO Z s0 "image" s22 := sN (Or.inr (w hw 172 rfl)) (Or.inr (w hw 164 rfl)) (by decide) (t := .int) (t' := (.object s3)) (by decide) (by decide)
theorem sn_42 {Z : State} {a0 : Array Value} (hw : o_HW Z a0) : sO Z s0 s35 s12 ≠ sO Z s0 s66 "[I" := sN (Or.inr (w hw 175 rfl)) (Or.inr (w hw 151 rfl)) (by decide) (t := (.array (.object s1))) (t' := (.array .int)) (by decide) (by decide)
theorem sn_43 {Z : State} {a0 : Array Value} (hw : o_HW Z a0) : sO Z s0 s35 s12 ≠ sO Z s0 "x" "[I" := sN (Or.inr (w hw 175 rfl)) (Or.inr (w hw 153 rfl)) (by decide) (t := (.array (.object s1))) (t' := (.array .int)) (by decide) (by decide)
theorem sn_44 {Z : State} {a0 : Array Value} (hw : o_HW Z a0) : sO Z s0 s35 s12 ≠ sO Z s0 s60 "[J" := sN (Or.inr (w hw 175 rfl)) (Or.inr (w hw 158 rfl)) (by decide) (t := (.array (.object s1))) (t' := (.array .long)) (by decide) (by decide)
theorem sn_45 {Z : State} {a0 : Array Value} (hw : o_HW Z a0) : sO Z s0 s35 s12 ≠ sO Z s0 s47 "[J" := sN (Or.inr (w hw 175 rfl)) (Or.inr (w hw 160 rfl)) (by decide) (t := (.array (.object s1))) (t' := (.array .long)) (by decide) (by decide)
theorem sn_46 {Z : State} {a0 : Array Value} (hw : o_HW Z a0) : sO Z s0 s35 s12 ≠ sO Z s0 s49 s18 := sN (Or.inr (w hw 175 rfl)) (Or.inr (w hw 162 rfl)) (by decide) (t := (.array (.object s1))) (t' := (.object s19)) (by decide) (by decide)
theorem sn_47 {Z : State} {a0 : Array Value} (hw : o_HW Z a0) : sO Z s0 s35 s12 ≠ sO Z s0 "image" s22 := sN (Or.inr (w hw 175 rfl)) (Or.inr (w hw 164 rfl)) (by decide) (t := (.array (.object s1))) (t' := (.object s3)) (by decide) (by decide)
theorem sn_48 {Z : State} {a0 : Array Value} (hw : o_HW Z a0) : sO Z s0 s35 s12 ≠ sO Z s0 s48 "I" := sN (Or.inr (w hw 175 rfl)) (Or.inr (w hw 172 rfl)) (by decide) (t := (.array (.object s1))) (t' := .int) (by decide) (by decide)
theorem sn_49 {Z : State} {a0 : Array Value} (hw : o_HW Z a0) : sO Z s2 s26 "I" ≠ sO Z s2 s55 s17 := sN (Or.inr (w hw 200 rfl)) (Or.inr (w hw 198 rfl)) (by decide) (t := .int) (t' := (.object s21)) (by decide) (by decide)
theorem sn_50 {Z : State} {a0 : Array Value} (hw : o_HW Z a0) : sO Z s2 s41 "I" ≠ sO Z s2 s55 s17 := sN (Or.inl (w hw 202 rfl)) (Or.inr (w hw 198 rfl)) (by decide) (t := .int) (t' := (.object s21)) (by decide) (by decide)
theorem sn_51 {Z : State} {a0 : Array Value} (hw : o_HW Z a0) : sO Z s2 s41 "I" ≠ sO Z s2 s26 "I" := sN (Or.inl (w hw 202 rfl)) (Or.inr (w hw 200 rfl)) (by decide) (t := .int) (t' := .int) (by decide) (by decide)
theorem sn_52 {Z : State} {a0 : Array Value} (hw : o_HW Z a0) : sO Z s2 s32 "Z" ≠ sO Z s2 s55 s17 := sN (Or.inr (w hw 204 rfl)) (Or.inr (w hw 198 rfl)) (by decide) (t := .boolean) (t' := (.object s21)) (by decide) (by decide)
theorem sn_53 {Z : State} {a0 : Array Value} (hw : o_HW Z a0) : sO Z s2 s32 "Z" ≠ sO Z s2 s26 "I" := sN (Or.inr (w hw 204 rfl)) (Or.inr (w hw 200 rfl)) (by decide) (t := .boolean) (t' := .int) (by decide) (by decide)
theorem sn_54 {Z : State} {a0 : Array Value} (hw : o_HW Z a0) : sO Z s2 s32 "Z" ≠ sO Z s2 s41 "I" := sN (Or.inr (w hw 204 rfl)) (Or.inl (w hw 202 rfl)) (by decide) (t := .boolean) (t' := .int) (by decide) (by decide)
theorem sn_55 {Z : State} {a0 : Array Value} (hw : o_HW Z a0) : sO Z s0 s67 s14 ≠ sO Z s0 s66 "[I" := sN (Or.inr (w hw 217 rfl)) (Or.inr (w hw 151 rfl)) (by decide) (t := (.array (.array (.object s16)))) (t' := (.array .int)) (by decide) (by decide)
theorem sn_56 {Z : State} {a0 : Array Value} (hw : o_HW Z a0) : sO Z s0 s67 s14 ≠ sO Z s0 "x" "[I" := sN (Or.inr (w hw 217 rfl)) (Or.inr (w hw 153 rfl)) (by decide) (t := (.array (.array (.object s16)))) (t' := (.array .int)) (by decide) (by decide)
theorem sn_57 {Z : State} {a0 : Array Value} (hw : o_HW Z a0) : sO Z s0 s67 s14 ≠ sO Z s0 s60 "[J" := sN (Or.inr (w hw 217 rfl)) (Or.inr (w hw 158 rfl)) (by decide) (t := (.array (.array (.object s16)))) (t' := (.array .long)) (by decide) (by decide)
theorem sn_58 {Z : State} {a0 : Array Value} (hw : o_HW Z a0) : sO Z s0 s67 s14 ≠ sO Z s0 s47 "[J" := sN (Or.inr (w hw 217 rfl)) (Or.inr (w hw 160 rfl)) (by decide) (t := (.array (.array (.object s16)))) (t' := (.array .long)) (by decide) (by decide)
theorem sn_59 {Z : State} {a0 : Array Value} (hw : o_HW Z a0) : sO Z s0 s67 s14 ≠ sO Z s0 s49 s18 := sN (Or.inr (w hw 217 rfl)) (Or.inr (w hw 162 rfl)) (by decide) (t := (.array (.array (.object s16)))) (t' := (.object s19)) (by decide) (by decide)
theorem sn_60 {Z : State} {a0 : Array Value} (hw : o_HW Z a0) : sO Z s0 s67 s14 ≠ sO Z s0 "image" s22 := sN (Or.inr (w hw 217 rfl)) (Or.inr (w hw 164 rfl)) (by decide) (t := (.array (.array (.object s16)))) (t' := (.object s3)) (by decide) (by decide)
theorem sn_61 {Z : State} {a0 : Array Value} (hw : o_HW Z a0) : sO Z s0 s67 s14 ≠ sO Z s0 s48 "I" := sN (Or.inr (w hw 217 rfl)) (Or.inr (w hw 172 rfl)) (by decide) (t := (.array (.array (.object s16)))) (t' := .int) (by decide) (by decide)
theorem sn_62 {Z : State} {a0 : Array Value} (hw : o_HW Z a0) : sO Z s0 s67 s14 ≠ sO Z s0 s35 s12 := sN (Or.inr (w hw 217 rfl)) (Or.inr (w hw 175 rfl)) (by decide) (t := (.array (.array (.object s16)))) (t' := (.array (.object s1))) (by decide) (by decide)
theorem sn_63 {Z : State} {a0 : Array Value} (hw : o_HW Z a0) : sO Z s9 "e1" s13 ≠ sO Z s9 "e0" s13 := sN (Or.inr (w hw 439 rfl)) (Or.inr (w hw 437 rfl)) (by decide) (t := (.object s8)) (t' := (.object s8)) (by decide) (by decide)
theorem sn_64 {Z : State} {a0 : Array Value} (hw : o_HW Z a0) : sO Z s4 s33 "Z" ≠ sO Z s4 s37 "I" := sN (Or.inl (w hw 359 rfl)) (Or.inl (w hw 357 rfl)) (by decide) (t := .boolean) (t' := .int) (by decide) (by decide)
theorem sn_65 {Z : State} {a0 : Array Value} (hw : o_HW Z a0) : sO Z s7 s61 s23 ≠ sO Z s7 s46 "I" := sN (Or.inl (w hw 374 rfl)) (Or.inl (w hw 381 rfl)) (by decide) (t := (.array (.object s5))) (t' := .int) (by decide) (by decide)
theorem sn_66 {Z : State} {a0 : Array Value} (hw : o_HW Z a0) : sO Z s7 s29 "I" ≠ sO Z s7 s46 "I" := sN (Or.inl (w hw 405 rfl)) (Or.inl (w hw 381 rfl)) (by decide) (t := .int) (t' := .int) (by decide) (by decide)
theorem sn_67 {Z : State} {a0 : Array Value} (hw : o_HW Z a0) : sO Z s7 s29 "I" ≠ sO Z s7 s61 s23 := sN (Or.inl (w hw 405 rfl)) (Or.inl (w hw 374 rfl)) (by decide) (t := .int) (t' := (.array (.object s5))) (by decide) (by decide)
theorem sn_68 {Z : State} {a0 : Array Value} (hw : o_HW Z a0) : sO Z s7 s26 "I" ≠ sO Z s7 s46 "I" := sN (Or.inl (w hw 407 rfl)) (Or.inl (w hw 381 rfl)) (by decide) (t := .int) (t' := .int) (by decide) (by decide)
theorem sn_69 {Z : State} {a0 : Array Value} (hw : o_HW Z a0) : sO Z s7 s26 "I" ≠ sO Z s7 s61 s23 := sN (Or.inl (w hw 407 rfl)) (Or.inl (w hw 374 rfl)) (by decide) (t := .int) (t' := (.array (.object s5))) (by decide) (by decide)
theorem sn_70 {Z : State} {a0 : Array Value} (hw : o_HW Z a0) : sO Z s5 "key" s13 ≠ sO Z s5 s37 "I" := sN (Or.inr (w hw 399 rfl)) (Or.inr (w hw 397 rfl)) (by decide) (t := (.object s8)) (t' := .int) (by decide) (by decide)
theorem sn_71 {Z : State} {a0 : Array Value} (hw : o_HW Z a0) : sO Z s5 s34 s13 ≠ sO Z s5 s37 "I" := sN (Or.inl (w hw 401 rfl)) (Or.inr (w hw 397 rfl)) (by decide) (t := (.object s8)) (t' := .int) (by decide) (by decide)
theorem sn_72 {Z : State} {a0 : Array Value} (hw : o_HW Z a0) : sO Z s5 s34 s13 ≠ sO Z s5 "key" s13 := sN (Or.inl (w hw 401 rfl)) (Or.inr (w hw 399 rfl)) (by decide) (t := (.object s8)) (t' := (.object s8)) (by decide) (by decide)
theorem sn_73 {Z : State} {a0 : Array Value} (hw : o_HW Z a0) : sO Z s5 s62 s28 ≠ sO Z s5 s37 "I" := sN (Or.inl (w hw 403 rfl)) (Or.inr (w hw 397 rfl)) (by decide) (t := (.object s5)) (t' := .int) (by decide) (by decide)
theorem sn_74 {Z : State} {a0 : Array Value} (hw : o_HW Z a0) : sO Z s5 s62 s28 ≠ sO Z s5 "key" s13 := sN (Or.inl (w hw 403 rfl)) (Or.inr (w hw 399 rfl)) (by decide) (t := (.object s5)) (t' := (.object s8)) (by decide) (by decide)
theorem sn_75 {Z : State} {a0 : Array Value} (hw : o_HW Z a0) : sO Z s5 s62 s28 ≠ sO Z s5 s34 s13 := sN (Or.inl (w hw 403 rfl)) (Or.inl (w hw 401 rfl)) (by decide) (t := (.object s5)) (t' := (.object s8)) (by decide) (by decide)
theorem sn_76 {Z : State} {a0 : Array Value} (hw : o_HW Z a0) : sO Z s7 s26 "I" ≠ sO Z s7 s29 "I" := sN (Or.inl (w hw 407 rfl)) (Or.inl (w hw 405 rfl)) (by decide) (t := .int) (t' := .int) (by decide) (by decide)
theorem sn_77 {Z : State} {a0 : Array Value} (hw : o_HW Z a0) : sO Z s0 s53 "I" ≠ sO Z s0 s66 "[I" := sN (Or.inl (w hw 423 rfl)) (Or.inr (w hw 151 rfl)) (by decide) (t := .int) (t' := (.array .int)) (by decide) (by decide)
theorem sn_78 {Z : State} {a0 : Array Value} (hw : o_HW Z a0) : sO Z s0 s53 "I" ≠ sO Z s0 "x" "[I" := sN (Or.inl (w hw 423 rfl)) (Or.inr (w hw 153 rfl)) (by decide) (t := .int) (t' := (.array .int)) (by decide) (by decide)
theorem sn_79 {Z : State} {a0 : Array Value} (hw : o_HW Z a0) : sO Z s0 s53 "I" ≠ sO Z s0 s60 "[J" := sN (Or.inl (w hw 423 rfl)) (Or.inr (w hw 158 rfl)) (by decide) (t := .int) (t' := (.array .long)) (by decide) (by decide)
theorem sn_80 {Z : State} {a0 : Array Value} (hw : o_HW Z a0) : sO Z s0 s53 "I" ≠ sO Z s0 s47 "[J" := sN (Or.inl (w hw 423 rfl)) (Or.inr (w hw 160 rfl)) (by decide) (t := .int) (t' := (.array .long)) (by decide) (by decide)
theorem sn_81 {Z : State} {a0 : Array Value} (hw : o_HW Z a0) : sO Z s0 s53 "I" ≠ sO Z s0 s49 s18 := sN (Or.inl (w hw 423 rfl)) (Or.inr (w hw 162 rfl)) (by decide) (t := .int) (t' := (.object s19)) (by decide) (by decide)
theorem sn_82 {Z : State} {a0 : Array Value} (hw : o_HW Z a0) : sO Z s0 s53 "I" ≠ sO Z s0 "image" s22 := sN (Or.inl (w hw 423 rfl)) (Or.inr (w hw 164 rfl)) (by decide) (t := .int) (t' := (.object s3)) (by decide) (by decide)
theorem sn_83 {Z : State} {a0 : Array Value} (hw : o_HW Z a0) : sO Z s0 s53 "I" ≠ sO Z s0 s48 "I" := sN (Or.inl (w hw 423 rfl)) (Or.inr (w hw 172 rfl)) (by decide) (t := .int) (t' := .int) (by decide) (by decide)
theorem sn_84 {Z : State} {a0 : Array Value} (hw : o_HW Z a0) : sO Z s0 s53 "I" ≠ sO Z s0 s35 s12 := sN (Or.inl (w hw 423 rfl)) (Or.inr (w hw 175 rfl)) (by decide) (t := .int) (t' := (.array (.object s1))) (by decide) (by decide)
theorem sn_85 {Z : State} {a0 : Array Value} (hw : o_HW Z a0) : sO Z s0 s67 s14 ≠ sO Z s0 s53 "I" := sN (Or.inr (w hw 217 rfl)) (Or.inl (w hw 423 rfl)) (by decide) (t := (.array (.array (.object s16)))) (t' := .int) (by decide) (by decide)
theorem sn_86 {Z : State} {a0 : Array Value} (hw : o_HW Z a0) : sO Z s11 s70 "Z" ≠ sO Z s11 s54 s10 := sN (Or.inr (w hw 316 rfl)) (Or.inr (w hw 141 rfl)) (by decide) (t := .boolean) (t' := (.array (.object s8))) (by decide) (by decide)
theorem d1_0 : decode B0 0 = .ok (.iload_n 0, 1) := by decide +kernel
theorem d1_1 : decode B0 1 = .ok (.sipush 255, 3) := by decide +kernel
theorem d1_4 : decode B0 4 = .ok (.if_icmp .gt 7, 3) := by decide +kernel
theorem d1_7 : decode B0 7 = .ok (.iconst 1, 1) := by decide +kernel
theorem d1_8 : decode B0 8 = .ok (.goto 4, 3) := by decide +kernel
theorem d1_12 : decode B0 12 = .ok (.ireturn, 1) := by decide +kernel
theorem pn_0 : plainName "java/lang/StringLatin1" = true := by first | (simp [plainName, overriddenIn]; done) | decide +kernel
theorem ef_0 (m : MethodId) (y0 : Int32) : entryFrame m #[(.int y0)] 1 = mkF m 0 #[.val (.int y0)] [] := by first | (simp [entryFrame, mkF, argsToLocals, Value.category]; done) | rfl
theorem rm_canEncode_2 (hw : o_HW Z a0) (O : Old Z n0 h0)  :
    o_Met l (⟨s36, "canEncode", "(C)Z"⟩ : MethodName) B0 1 (some .boolean) [] (o_rm 0 0 0 0) Z #[(.int 112)] h0 (o_R (some (.int 1)) h0) := by
  refine o_met (pN pn_0) ?_
  intro p e s m below meth c T0 hx y hml hown hret hk hnm hZ X0 e0
  refine o_ent (ef_0 m (112 : Int32)) ?_
  refine qI X0 hx (hb y d1_0) rfl 1 rfl ?_
  refine o_sipush X0 hx (hb y d1_1) (255 : Int32) rfl 4 rfl ?_
  refine qn X0 hx (hb y d1_4) (flt (by decide : ¬ ((255 : Int32) < (112 : Int32)))).2.2.1 7 rfl ?_
  refine qC X0 hx (hb y d1_7) (1 : Int32) rfl 8 rfl ?_
  refine qG X0 hx (hb y d1_8) 12 (by decide) (by decide) ?_
  exact o_retZ X0 hx hk hret (hb y d1_12) rfl ⟨rfl, e0, rfl⟩ (by decide) (by decide)
def Q_rm_toBytes_3 (Z : State) (h0 : Heap) (n0 : Nat)  (v : Option Value) (h : Heap) (L : List Loc) : Prop := ∃ (y0 : Addr) (yk0 : ClassId), v = some (.ref y0) ∧ Fr n0 L ∧ Keep h0 h [] ∧ h0.size ≤ y0 ∧ Arv Z h y0 yk0 .byte (1 : Int32) [(.int 112)] (.int 0) ∧ Exa Z h y0 "[B"
theorem d2_0 : decode B1 0 = .ok (.iconst 1, 1) := by decide +kernel
theorem d2_1 : decode B1 1 = .ok (.newarray .byte, 2) := by decide +kernel
theorem d2_3 : decode B1 3 = .ok (.dup, 1) := by decide +kernel
theorem d2_4 : decode B1 4 = .ok (.iconst 0, 1) := by decide +kernel
theorem d2_5 : decode B1 5 = .ok (.iload_n 0, 1) := by decide +kernel
theorem d2_6 : decode B1 6 = .ok (.i2b, 1) := by decide +kernel
theorem d2_7 : decode B1 7 = .ok (.bastore, 1) := by decide +kernel
theorem d2_8 : decode B1 8 = .ok (.areturn, 1) := by decide +kernel
theorem rm_toBytes_3 (hw : o_HW Z a0) (O : Old Z n0 h0)  :
    o_Met l (⟨s36, "toBytes", "(C)[B"⟩ : MethodName) B1 1 (some (.array .byte)) [] (o_rm 0 1 1 0) Z #[(.int 112)] h0 (Q_rm_toBytes_3 Z h0 n0 ) := by
  refine o_met (pN pn_0) ?_
  intro p e s m below meth c T0 hx y hml hown hret hk hnm hZ X0 e0
  refine o_ent (ef_0 m (112 : Int32)) ?_
  refine qC X0 hx (hb y d2_0) (1 : Int32) rfl 1 rfl ?_
  refine o_newP X0 hx hZ (w hw 18 rfl) e0 (hb y d2_1) (by decide) 1 (by decide) (by decide) (by decide) (by decide) "[B" (by decide) 3 rfl fun T1 a1 c1 g1 X1 E1 V1 A1 => ?_
  have g_a1 : n0 ≤ a1 := Nat.le_trans (o_osz O) (Nat.le_of_eq g1)
  have z_a1 : h0.size ≤ a1 := Nat.le_trans ((Keep.refl h0 [])).1 (Nat.le_of_eq g1)
  have K2 := Keep.ext (Keep.refl h0 []) E1
  have V1 : Arv Z T1.heap a1 c1 .byte (1 : Int32) [] (.int 0) := V1
  refine qD X1 hx (hb y d2_3) rfl 4 rfl ?_
  refine qC X1 hx (hb y d2_4) (0 : Int32) rfl 5 rfl ?_
  refine qI X1 hx (hb y d2_5) rfl 6 rfl ?_
  refine o_i2b X1 hx (hb y d2_6) 7 rfl ?_
  refine o_topI (112 : Int32) (by decide) ?_
  have V3 : Arv Z T1.heap a1 c1 .byte (1 : Int32) [(.int 0)] (.int 0) := V1.pad (pad_rep [] (.int 0) 1)
  refine o_bastore X1 hx hZ rfl V3 0 (by decide) (by decide) (by simp) (112 : Int32) (by decide) [(.int 112)] rfl (hb y d2_7) 8 rfl fun T4 X4 W4 V4 => ?_
  have N5 := Fr.snoc X4 (Fr.nil n0) g_a1
  have K5 := Keep.wr K2 W4 (Or.inr z_a1)
  have f6 := (A1.wr W4)
  exact qR X4 hx hk hret rfl rfl (hb y d2_8) rfl (by show Q_rm_toBytes_3 Z h0 n0  _ T4.heap _; exact ⟨a1, c1, rfl, N5, K5, z_a1, V4, f6⟩) (by decide) (by decide)
def Q_rm__init__4 (Z : State) (h0 : Heap) (n0 : Nat) (b0 : Addr) (b1 : Addr) (v : Option Value) (h : Heap) (L : List Loc) : Prop := v = none ∧ Fr n0 L ∧ Keep h0 h [b0] ∧ Exa Z h b0 s4 ∧ Fld Z h b0 s4 s43 "B" (.int 0) ∧ Fld Z h b0 s4 s37 "I" (.int 0) ∧ Fld Z h b0 s4 s33 "Z" (.int 0) ∧ Fld Z h b0 s4 s34 "[B" (.ref b1)
theorem d3_0 : decode B2 0 = .ok (.aload_n 0, 1) := by decide +kernel
theorem d3_1 : decode B2 1 = .ok (.invokespecial 1, 3) := by decide +kernel
theorem d3_4 : decode B2 4 = .ok (.aload_n 0, 1) := by decide +kernel
theorem d3_5 : decode B2 5 = .ok (.aload_n 1, 1) := by decide +kernel
theorem d3_6 : decode B2 6 = .ok (.putfield 9, 3) := by decide +kernel
theorem d3_9 : decode B2 9 = .ok (.aload_n 0, 1) := by decide +kernel
theorem d3_10 : decode B2 10 = .ok (.iload_n 2, 1) := by decide +kernel
theorem d3_11 : decode B2 11 = .ok (.putfield 15, 3) := by decide +kernel
theorem d3_14 : decode B2 14 = .ok (.return_, 1) := by decide +kernel
theorem pn_1 : plainName "java/lang/String" = true := by first | (simp [plainName, overriddenIn]; done) | decide +kernel
theorem ef_1 (m : MethodId) (y0 : Addr) (y1 : Addr) (y2 : Int32) : entryFrame m #[(.ref y0), (.ref y1), (.int y2)] 3 = mkF m 0 #[.val (.ref y0), .val (.ref y1), .val (.int y2)] [] := by first | (simp [entryFrame, mkF, argsToLocals, Value.category]; done) | rfl
theorem rm__init__4 (hw : o_HW Z a0) (O : Old Z n0 h0) (b0 : Addr) (b1 : Addr) (E_b0 : Exa Z h0 b0 s4) (F_b0_coder : Fld Z h0 b0 s4 s43 "B" (.int 0)) (F_b0_hash : Fld Z h0 b0 s4 s37 "I" (.int 0)) (F_b0_hashIsZero : Fld Z h0 b0 s4 s33 "Z" (.int 0)) (F_b0_value : Fld Z h0 b0 s4 s34 "[B" .null) (g_b0 : n0 ≤ b0) :
    o_Met l (⟨s4, s50, "([BB)V"⟩ : MethodName) B2 3 none [] (o_rm 1 0 0 12) Z #[(.ref b0), (.ref b1), (.int 0)] h0 (Q_rm__init__4 Z h0 n0 b0 b1) := by
  refine o_met (pN pn_1) ?_
  intro p e s m below meth c T0 hx y hml hown hret hk hnm hZ X0 e0
  refine o_ent (ef_1 m b0 b1 (0 : Int32)) ?_
  refine qA X0 hx (hb y d3_0) rfl rfl 1 rfl ?_
  refine o_initO X0 hx hZ hown (w hw 23 rfl) (w hw 24 rfl) (w hw 25 rfl) e0 (by rw [hml]; rfl) (hb y d3_1) (by decide) 0 (Nat.le_of_eq rfl) (by decide) 4 rfl fun T1 X1 e1 => ?_
  refine qA X1 hx (hb y d3_4) rfl rfl 5 rfl ?_
  refine qA X1 hx (hb y d3_5) rfl rfl 6 rfl ?_
  refine qP X1 hx hZ hown (host := "") (Or.inl (w hw 26 rfl)) Via.refl e1 F_b0_value E_b0 (Or.inr ⟨(w hw 27 rfl), rfl, hnm⟩) (w hw 14 rfl) (ty := (.array .byte)) (by decide) rfl rfl (hb y d3_6) 9 rfl fun T2 X2 W2 => ?_
  have G2 := Fld.same W2 F_b0_value
  have N3 := Fr.snoc X2 (Fr.nil n0) g_b0
  have K3 := Keep.wr (Keep.refl h0 [b0]) W2 (Or.inl (by simp))
  refine qA X2 hx (hb y d3_9) rfl rfl 10 rfl ?_
  refine qI X2 hx (hb y d3_10) rfl 11 rfl ?_
  have f5 := (F_b0_coder.other W2 (Or.inr (sn_0 hw)))
  have f6 := (E_b0.wr W2)
  refine o_putFN X2 hx hZ hown (w hw 28 rfl) Via.refl rfl ((.int 0)) f5 f6 (Or.inr ⟨(w hw 29 rfl), rfl, hnm⟩) (w hw 14 rfl) (ty := .byte) (by decide) rfl rfl (hb y d3_11) 14 rfl fun T4 X4 W4 => ?_
  have G4 := Fld.same W4 f5
  have N7 := Fr.snoc X4 N3 g_b0
  have K7 := Keep.wr K3 W4 (Or.inl (by simp))
  have f8 := (f6.wr W4)
  have f9 := ((F_b0_hash.other W2 (Or.inr (sn_1 hw))).other W4 (Or.inr (sn_2 hw)))
  have f10 := ((F_b0_hashIsZero.other W2 (Or.inr (sn_3 hw))).other W4 (Or.inr (sn_4 hw)))
  have f11 := (G2.other W4 (Or.inr (Ne.symm (sn_0 hw))))
  exact qv X4 hx hk hret (hb y d3_14) (by show Q_rm__init__4 Z h0 n0 b0 b1 _ T4.heap _; exact ⟨rfl, N7, K7, f8, G4, f9, f10, f11⟩) (by decide) (by decide)
def Q_rm_valueOf_1 (Z : State) (h0 : Heap) (n0 : Nat)  (v : Option Value) (h : Heap) (L : List Loc) : Prop := ∃ (y0 y1 : Addr) (yk0 : ClassId), v = some (.ref y0) ∧ Fr n0 L ∧ Keep h0 h [] ∧ h0.size ≤ y0 ∧ h0.size ≤ y1 ∧ y0 ≠ y1 ∧ Exa Z h y0 s4 ∧ Fld Z h y0 s4 s43 "B" (.int 0) ∧ Fld Z h y0 s4 s37 "I" (.int 0) ∧ Fld Z h y0 s4 s33 "Z" (.int 0) ∧ Fld Z h y0 s4 s34 "[B" (.ref y1) ∧ Arv Z h y1 yk0 .byte (1 : Int32) [(.int 112)] (.int 0) ∧ Exa Z h y1 "[B"
theorem pd_0 : parseMethodDescriptor "(C)Z" = some ⟨[.char], some .boolean⟩ := by decide +kernel
theorem pd_1 : parseMethodDescriptor "(C)[B" = some ⟨[.char], some (.array .byte)⟩ := by decide +kernel
theorem pd_2 : parseMethodDescriptor "([BB)V" = some ⟨[(.array .byte), .byte], none⟩ := by decide +kernel
theorem d0_0 : decode B3 0 = .ok (.getstatic 38, 3) := by decide +kernel
theorem d0_3 : decode B3 3 = .ok (.ifCond .eq 23, 3) := by decide +kernel
theorem d0_6 : decode B3 6 = .ok (.iload_n 0, 1) := by decide +kernel
theorem d0_7 : decode B3 7 = .ok (.invokestatic 1015, 3) := by decide +kernel
theorem d0_10 : decode B3 10 = .ok (.ifCond .eq 16, 3) := by decide +kernel
theorem d0_13 : decode B3 13 = .ok (.new 10, 3) := by decide +kernel
theorem d0_16 : decode B3 16 = .ok (.dup, 1) := by decide +kernel
theorem d0_17 : decode B3 17 = .ok (.iload_n 0, 1) := by decide +kernel
theorem d0_18 : decode B3 18 = .ok (.invokestatic 1018, 3) := by decide +kernel
theorem d0_21 : decode B3 21 = .ok (.iconst 0, 1) := by decide +kernel
theorem d0_22 : decode B3 22 = .ok (.invokespecial 209, 3) := by decide +kernel
theorem d0_25 : decode B3 25 = .ok (.areturn, 1) := by decide +kernel
theorem rm_valueOf_1 (hw : o_HW Z a0) (H : o_C Z Z.heap w_NW w_DC w_EL w_EA w_EM w_MO w_cacheI c_cacheI k_DC k_EA z_CS) (O : Old Z n0 h0)  :
    o_Met l (⟨s4, "valueOf", "(C)Ljava/lang/String;"⟩ : MethodName) B3 1 (some (.object s4)) [] (o_rm 2 2 5 27) Z #[(.int 112)] h0 (Q_rm_valueOf_1 Z h0 n0 ) := by
  refine o_met (pN pn_1) ?_
  intro p e s m below meth c T0 hx y hml hown hret hk hnm hZ X0 e0
  obtain ⟨-, -, S_CS, N_CS, -, -, -, -, -, -, -, -, -, -, -, -, -, -, -⟩ := id H
  refine o_ent (ef_0 m (112 : Int32)) ?_
  refine o_getS X0 hx hZ hown (host := "") (Or.inl (w hw 8 rfl)) Via.refl e0 (S_CS.ext O.2) (hb y d0_0) 3 rfl fun T1 X1 e1 => ?_
  refine qN X1 hx (hb y d0_3) ((if0 _ _).trans (feq N_CS).1) 6 rfl ?_
  refine qI X1 hx (hb y d0_6) rfl 7 rfl ?_
  refine qS X1 hx hZ hown (w hw 9 rfl) (w hw 10 rfl) (w hw 11 rfl) (w hw 12 rfl) (by decide) [(.int 112)] [] 0 (rm_canEncode_2 l Z a0 h0 n0 hw O ) (by decide) (by decide) rfl rfl e1 (by rw [hml]; rfl) (lenOf pd_0 rfl) (Nat.le_of_eq rfl) (hb y d0_7) 10 rfl rfl (by decide) (by decide) fun T3 X3 e3 => ?_
  refine qN X3 hx (hb y d0_10) ((if0 _ _).trans (feq (by decide : ¬ ((1 : Int32) = (0 : Int32)))).1) 13 rfl ?_
  refine nO X3 hx hZ hown (w hw 13 rfl) (w hw 14 rfl) (w hw 6 rfl) e3 (hb y d0_13) 16 rfl (by decide) (by decide) fun T4 a4 g4 X4 E4 A4 D4 => ?_
  have g_a4 : n0 ≤ a4 := Nat.le_trans (o_osz O) (Nat.le_of_eq g4)
  have z_a4 : h0.size ≤ a4 := Nat.le_trans ((Keep.refl h0 [])).1 (Nat.le_of_eq g4)
  have O5 := O.ext E4
  have K5 := Keep.ext (Keep.refl h0 []) E4
  have F4_value : Fld Z T4.heap a4 s4 s34 "[B" .null := D4 (Or.inr (w hw 27 rfl)) (ty := (.array .byte)) (by decide)
  have F4_coder : Fld Z T4.heap a4 s4 s43 "B" (.int 0) := D4 (Or.inr (w hw 29 rfl)) (ty := .byte) (by decide)
  have F4_hash : Fld Z T4.heap a4 s4 s37 "I" (.int 0) := D4 (Or.inl (w hw 357 rfl)) (ty := .int) (by decide)
  have F4_hashIsZero : Fld Z T4.heap a4 s4 s33 "Z" (.int 0) := D4 (Or.inl (w hw 359 rfl)) (ty := .boolean) (by decide)
  refine qD X4 hx (hb y d0_16) rfl 17 rfl ?_
  refine qI X4 hx (hb y d0_17) rfl 18 rfl ?_
  refine kS X4 hx hZ hown (w hw 15 rfl) (w hw 16 rfl) (w hw 11 rfl) (w hw 17 rfl) (by decide) [(.int 112)] [(.ref a4), (.ref a4)] 2 (rm_toBytes_3 l Z a0 T4.heap n0 hw O5 ) (by decide) (by decide) rfl (by rw [hml]; rfl) (lenOf pd_1 rfl) (Nat.le_of_eq rfl) (hb y d0_18) (by decide) (by decide) 21 rfl fun v6 T6 L6 X6 hQ6 => ?_
  obtain ⟨q6_0, qk6_0, rfl, Nq6, Kq6, le_q6_0, p6_0, p6_1⟩ := hQ6
  have z_q6_0 : h0.size ≤ q6_0 := Nat.le_trans (K5).1 le_q6_0
  have O7 := O5.keep Kq6 all0
  have N7 := Fr.app (Fr.nil n0) Nq6
  have K7 := Keep.trans K5 Kq6 all0
  refine o_nR ?_
  refine qC X6 hx (hb y d0_21) (0 : Int32) rfl 22 rfl ?_
  have f9 := (A4.keep Kq6)
  have f10 := (F4_coder.keep Kq6 nin0)
  have f11 := (F4_hash.keep Kq6 nin0)
  have f12 := (F4_hashIsZero.keep Kq6 nin0)
  have f13 := (F4_value.keep Kq6 nin0)
  refine kN X6 hx hZ rfl hown (w hw 19 rfl) (w hw 20 rfl) (w hw 6 rfl) (w hw 22 rfl) (by decide) a4 [(.ref q6_0), (.int 0)] [(.ref a4)] 1 (rm__init__4 l Z a0 T6.heap n0 hw O7 a4 q6_0 f9 f10 f11 f12 f13 g_a4) (by decide) (by decide) rfl (by rw [hml]; rfl) (lenOf pd_2 rfl) (Nat.le_of_eq rfl) (hb y d0_22) (by decide) (by decide) 25 rfl fun v8 T8 L8 X8 hQ8 => ?_
  obtain ⟨rfl, Nq8, Kq8, p8_0, p8_1, p8_2, p8_3, p8_4⟩ := hQ8
  have N14 := Fr.app N7 Nq8
  have K14 := Keep.trans K7 Kq8 (allS (Or.inr z_a4) all0)
  refine o_nV ?_
  have ne16 := o_nl A4.lt (Nat.le_refl _) le_q6_0
  have f17 := (p6_0.keep Kq8 (ninS (Ne.symm ne16) nin0))
  have f18 := (p6_1.keep Kq8)
  exact qR X8 hx hk hret rfl rfl (hb y d0_25) rfl (by show Q_rm_valueOf_1 Z h0 n0  _ T8.heap _; exact ⟨a4, q6_0, qk6_0, rfl, N14, K14, z_a4, z_q6_0, ne16, p8_0, p8_1, p8_2, p8_3, p8_4, f17, f18⟩) (by decide) (by decide)
theorem d6_0 : decode B4 0 = .ok (.aload_n 0, 1) := by decide +kernel
theorem d6_1 : decode B4 1 = .ok (.invokespecial 1, 3) := by decide +kernel
theorem d6_4 : decode B4 4 = .ok (.return_, 1) := by decide +kernel
theorem pn_2 : plainName "java/util/AbstractCollection" = true := by first | (simp [plainName, overriddenIn]; done) | decide +kernel
theorem ef_2 (m : MethodId) (y0 : Addr) : entryFrame m #[(.ref y0)] 1 = mkF m 0 #[.val (.ref y0)] [] := by first | (simp [entryFrame, mkF, argsToLocals, Value.category]; done) | rfl
theorem rm__init__7 (hw : o_HW Z a0) (O : Old Z n0 h0) (b0 : Addr) :
    o_Met l (⟨"java/util/AbstractCollection", s50, "()V"⟩ : MethodName) B4 1 none [] (o_rm 1 0 0 12) Z #[(.ref b0)] h0 (o_R (none) h0) := by
  refine o_met (pN pn_2) ?_
  intro p e s m below meth c T0 hx y hml hown hret hk hnm hZ X0 e0
  refine o_ent (ef_2 m b0) ?_
  refine qA X0 hx (hb y d6_0) rfl rfl 1 rfl ?_
  refine o_initO X0 hx hZ hown (w hw 48 rfl) (w hw 24 rfl) (w hw 25 rfl) e0 (by rw [hml]; rfl) (hb y d6_1) (by decide) 0 (Nat.le_of_eq rfl) (by decide) 4 rfl fun T1 X1 e1 => ?_
  exact qv X1 hx hk hret (hb y d6_4) ⟨rfl, e1, rfl⟩ (by decide) (by decide)
def Q_rm__init__6 (Z : State) (h0 : Heap) (n0 : Nat) (b0 : Addr) (v : Option Value) (h : Heap) (L : List Loc) : Prop := v = none ∧ Fr n0 L ∧ Keep h0 h [b0] ∧ Exa Z h b0 s6 ∧ Fld Z h b0 s24 s29 "I" (.int 0) ∧ Fld Z h b0 s6 s27 s10 .null ∧ Fld Z h b0 s6 s26 "I" (.int 0)
theorem pd_4 : parseMethodDescriptor "()V" = some ⟨[], none⟩ := by decide +kernel
theorem d5_0 : decode B5 0 = .ok (.aload_n 0, 1) := by decide +kernel
theorem d5_1 : decode B5 1 = .ok (.invokespecial 1, 3) := by decide +kernel
theorem d5_4 : decode B5 4 = .ok (.aload_n 0, 1) := by decide +kernel
theorem d5_5 : decode B5 5 = .ok (.iconst 0, 1) := by decide +kernel
theorem d5_6 : decode B5 6 = .ok (.putfield 7, 3) := by decide +kernel
theorem d5_9 : decode B5 9 = .ok (.return_, 1) := by decide +kernel
theorem pn_3 : plainName "java/util/AbstractList" = true := by first | (simp [plainName, overriddenIn]; done) | decide +kernel
theorem rm__init__6 (hw : o_HW Z a0) (O : Old Z n0 h0) (b0 : Addr) (E_b0 : Exa Z h0 b0 s6) (F_b0_modCount : Fld Z h0 b0 s24 s29 "I" (.int 0)) (F_b0_elementData : Fld Z h0 b0 s6 s27 s10 .null) (F_b0_size : Fld Z h0 b0 s6 s26 "I" (.int 0)) (g_b0 : n0 ≤ b0) :
    o_Met l (⟨s24, s50, "()V"⟩ : MethodName) B5 1 none [] (o_rm 2 0 0 24) Z #[(.ref b0)] h0 (Q_rm__init__6 Z h0 n0 b0) := by
  refine o_met (pN pn_3) ?_
  intro p e s m below meth c T0 hx y hml hown hret hk hnm hZ X0 e0
  refine o_ent (ef_2 m b0) ?_
  refine qA X0 hx (hb y d5_0) rfl rfl 1 rfl ?_
  refine vN X0 hx hZ rfl hown (w hw 42 rfl) (w hw 43 rfl) (w hw 46 rfl) (w hw 47 rfl) (by decide) b0 [] [] 0 (rm__init__7 l Z a0 h0 n0 hw O b0) (by decide) (by decide) rfl rfl e0 (by rw [hml]; rfl) (lenOf pd_4 rfl) (Nat.le_of_eq rfl) (hb y d5_1) 4 rfl rfl (by decide) (by decide) fun T2 X2 e2 => ?_
  refine qA X2 hx (hb y d5_4) rfl rfl 5 rfl ?_
  refine qC X2 hx (hb y d5_5) (0 : Int32) rfl 6 rfl ?_
  refine qP X2 hx hZ hown (host := "") (Or.inl (w hw 49 rfl)) Via.refl e2 F_b0_modCount E_b0 (Or.inl (w hw 50 rfl)) (w hw 31 rfl) (ty := .int) (by decide) rfl rfl (hb y d5_6) 9 rfl fun T3 X3 W3 => ?_
  have G3 := Fld.same W3 F_b0_modCount
  have N4 := Fr.snoc X3 (Fr.nil n0) g_b0
  have K4 := Keep.wr (Keep.refl h0 [b0]) W3 (Or.inl (by simp))
  have f5 := (E_b0.wr W3)
  have f6 := (F_b0_elementData.other W3 (Or.inr (sn_5 hw)))
  have f7 := (F_b0_size.other W3 (Or.inr (sn_6 hw)))
  exact qv X3 hx hk hret (hb y d5_9) (by show Q_rm__init__6 Z h0 n0 b0 _ T3.heap _; exact ⟨rfl, N4, K4, f5, G3, f6, f7⟩) (by decide) (by decide)
def Q_rm__init__5 (Z : State) (h0 : Heap) (n0 : Nat) (b0 : Addr) (w_DC : Addr) (v : Option Value) (h : Heap) (L : List Loc) : Prop := v = none ∧ Fr n0 L ∧ Keep h0 h [b0] ∧ Exa Z h b0 s6 ∧ Fld Z h b0 s24 s29 "I" (.int 0) ∧ Fld Z h b0 s6 s27 s10 (.ref w_DC) ∧ Fld Z h b0 s6 s26 "I" (.int 0)
theorem d4_0 : decode B6 0 = .ok (.aload_n 0, 1) := by decide +kernel
theorem d4_1 : decode B6 1 = .ok (.invokespecial 1, 3) := by decide +kernel
theorem d4_4 : decode B6 4 = .ok (.aload_n 0, 1) := by decide +kernel
theorem d4_5 : decode B6 5 = .ok (.getstatic 39, 3) := by decide +kernel
theorem d4_8 : decode B6 8 = .ok (.putfield 9, 3) := by decide +kernel
theorem d4_11 : decode B6 11 = .ok (.return_, 1) := by decide +kernel
theorem pn_4 : plainName "java/util/ArrayList" = true := by first | (simp [plainName, overriddenIn]; done) | decide +kernel
theorem rm__init__5 (hw : o_HW Z a0) (H : o_C Z Z.heap w_NW w_DC w_EL w_EA w_EM w_MO w_cacheI c_cacheI k_DC k_EA z_CS) (O : Old Z n0 h0) (b0 : Addr) (E_b0 : Exa Z h0 b0 s6) (F_b0_modCount : Fld Z h0 b0 s24 s29 "I" (.int 0)) (F_b0_elementData : Fld Z h0 b0 s6 s27 s10 .null) (F_b0_size : Fld Z h0 b0 s6 s26 "I" (.int 0)) (g_b0 : n0 ≤ b0) :
    o_Met l (⟨s6, s50, "()V"⟩ : MethodName) B6 1 none [] (o_rm 3 0 0 36) Z #[(.ref b0)] h0 (Q_rm__init__5 Z h0 n0 b0 w_DC) := by
  refine o_met (pN pn_4) ?_
  intro p e s m below meth c T0 hx y hml hown hret hk hnm hZ X0 e0
  obtain ⟨-, -, -, -, S_DC, -, -, -, -, -, -, -, -, -, -, -, -, -, -⟩ := id H
  refine o_ent (ef_2 m b0) ?_
  refine qA X0 hx (hb y d4_0) rfl rfl 1 rfl ?_
  refine kN X0 hx hZ rfl hown (w hw 36 rfl) (w hw 37 rfl) (w hw 40 rfl) (w hw 41 rfl) (by decide) b0 [] [] 0 (rm__init__6 l Z a0 h0 n0 hw O b0 E_b0 F_b0_modCount F_b0_elementData F_b0_size g_b0) (by decide) (by decide) e0 (by rw [hml]; rfl) (lenOf pd_4 rfl) (Nat.le_of_eq rfl) (hb y d4_1) (by decide) (by decide) 4 rfl fun v1 T1 L1 X1 hQ1 => ?_
  obtain ⟨rfl, Nq1, Kq1, p1_0, p1_1, p1_2, p1_3⟩ := hQ1
  have O2 := O.keep Kq1 (allS g_b0 all0)
  have N2 := Fr.app (Fr.nil n0) Nq1
  have K2 := Keep.trans (Keep.refl h0 [b0]) Kq1 (allS (Or.inl (by simp)) all0)
  refine o_nV ?_
  refine qA X1 hx (hb y d4_4) rfl rfl 5 rfl ?_
  refine o_getS X1 hx hZ hown (host := "") (Or.inl (w hw 51 rfl)) Via.refl rfl (S_DC.ext O2.2) (hb y d4_5) 8 rfl fun T3 X3 e3 => ?_
  refine qP X3 hx hZ hown (host := "") (Or.inl (w hw 52 rfl)) Via.refl e3 p1_2 p1_0 (Or.inl (w hw 53 rfl)) (w hw 31 rfl) (ty := (.array (.object s8))) (by decide) rfl rfl (hb y d4_8) 11 rfl fun T4 X4 W4 => ?_
  have G4 := Fld.same W4 p1_2
  have N5 := Fr.snoc X4 N2 g_b0
  have K5 := Keep.wr K2 W4 (Or.inl (by simp))
  have f6 := (p1_0.wr W4)
  have f7 := (p1_1.other W4 (Or.inr (Ne.symm (sn_5 hw))))
  have f8 := (p1_3.other W4 (Or.inr (sn_7 hw)))
  exact qv X4 hx hk hret (hb y d4_11) (by show Q_rm__init__5 Z h0 n0 b0 w_DC _ T4.heap _; exact ⟨rfl, N5, K5, f6, f7, G4, f8⟩) (by decide) (by decide)
theorem d10_0 : decode B7 0 = .ok (.aload_n 0, 1) := by decide +kernel
theorem d10_1 : decode B7 1 = .ok (.getfield 48, 3) := by decide +kernel
theorem d10_4 : decode B7 4 = .ok (.ifCond .ne 7, 3) := by decide +kernel
theorem d10_7 : decode B7 7 = .ok (.iconst 1, 1) := by decide +kernel
theorem d10_8 : decode B7 8 = .ok (.goto 4, 3) := by decide +kernel
theorem d10_12 : decode B7 12 = .ok (.ireturn, 1) := by decide +kernel
theorem rm_isEmpty_11 (hw : o_HW Z a0) (O : Old Z n0 h0) (b0 : Addr) (F_b0_size : Fld Z h0 b0 s6 s26 "I" (.int 0)) :
    o_Met l (⟨s6, "isEmpty", "()Z"⟩ : MethodName) B7 1 (some .boolean) [] (o_rm 0 0 0 0) Z #[(.ref b0)] h0 (o_R (some (.int 1)) h0) := by
  refine o_met (pN pn_4) ?_
  intro p e s m below meth c T0 hx y hml hown hret hk hnm hZ X0 e0
  refine o_ent (ef_2 m b0) ?_
  refine qA X0 hx (hb y d10_0) rfl rfl 1 rfl ?_
  refine qF X0 hx hZ hown (host := "") (Or.inl (w hw 90 rfl)) Via.refl e0 F_b0_size (hb y d10_1) 4 rfl fun T1 X1 e1 => ?_
  refine qN X1 hx (hb y d10_4) ((if0 _ _).trans (teq (by decide : (0 : Int32) = (0 : Int32))).2) 7 rfl ?_
  refine qC X1 hx (hb y d10_7) (1 : Int32) rfl 8 rfl ?_
  refine qG X1 hx (hb y d10_8) 12 (by decide) (by decide) ?_
  exact o_retZ X1 hx hk hret (hb y d10_12) rfl ⟨rfl, e1, rfl⟩ (by decide) (by decide)
theorem d11_0 : decode B8 0 = .ok (.getstatic 90, 3) := by decide +kernel
theorem d11_3 : decode B8 3 = .ok (.areturn, 1) := by decide +kernel
theorem pn_5 : plainName "java/util/List" = true := by first | (simp [plainName, overriddenIn]; done) | decide +kernel
theorem ef_3 (m : MethodId)  : entryFrame m #[] 0 = mkF m 0 #[] [] := by first | (simp [entryFrame, mkF, argsToLocals, Value.category]; done) | rfl
theorem rm_of_12 (hw : o_HW Z a0) (H : o_C Z Z.heap w_NW w_DC w_EL w_EA w_EM w_MO w_cacheI c_cacheI k_DC k_EA z_CS) (O : Old Z n0 h0)  :
    o_Met l (⟨s21, "of", "()Ljava/util/List;"⟩ : MethodName) B8 0 (some (.object s21)) [] (o_rm 0 0 0 0) Z #[] h0 (o_R (some (.ref w_EL)) h0) := by
  refine o_met (pN pn_5) ?_
  intro p e s m below meth c T0 hx y hml hown hret hk hnm hZ X0 e0
  obtain ⟨-, -, -, -, -, -, -, S_EL, -, -, -, -, -, -, -, -, -, -, -⟩ := id H
  refine o_ent (ef_3 m ) ?_
  refine o_getS X0 hx hZ hown (host := "") (Or.inl (w hw 95 rfl)) Via.refl e0 (S_EL.ext O.2) (hb y d11_0) 3 rfl fun T1 X1 e1 => ?_
  exact qR X1 hx hk hret rfl rfl (hb y d11_3) rfl ⟨rfl, e1, rfl⟩ (by decide) (by decide)
theorem pd_5 : parseMethodDescriptor "()Z" = some ⟨[], some .boolean⟩ := by decide +kernel
theorem pd_6 : parseMethodDescriptor "()Ljava/util/List;" = some ⟨[], some (.object "java/util/List")⟩ := by decide +kernel
theorem d9_0 : decode B9 0 = .ok (.aload_n 0, 1) := by decide +kernel
theorem d9_1 : decode B9 1 = .ok (.instanceof 10, 3) := by decide +kernel
theorem d9_4 : decode B9 4 = .ok (.ifCond .ne 22, 3) := by decide +kernel
theorem d9_7 : decode B9 7 = .ok (.aload_n 0, 1) := by decide +kernel
theorem d9_8 : decode B9 8 = .ok (.instanceof 12, 3) := by decide +kernel
theorem d9_11 : decode B9 11 = .ok (.ifCond .eq 20, 3) := by decide +kernel
theorem d9_31 : decode B9 31 = .ok (.aload_n 0, 1) := by decide +kernel
theorem d9_32 : decode B9 32 = .ok (.invokeinterface 20 1, 5) := by decide +kernel
theorem d9_37 : decode B9 37 = .ok (.ifCond .eq 7, 3) := by decide +kernel
theorem d9_40 : decode B9 40 = .ok (.invokestatic 26, 3) := by decide +kernel
theorem d9_43 : decode B9 43 = .ok (.areturn, 1) := by decide +kernel
theorem pn_6 : plainName "java/util/ImmutableCollections" = true := by first | (simp [plainName, overriddenIn]; done) | decide +kernel
theorem ef_4 (m : MethodId) (y0 : Addr) : entryFrame m #[(.ref y0)] 2 = mkF m 0 #[.val (.ref y0), .unset] [] := by first | (simp [entryFrame, mkF, argsToLocals, Value.category]; done) | rfl
theorem rm_listCopy_10 (hw : o_HW Z a0) (H : o_C Z Z.heap w_NW w_DC w_EL w_EA w_EM w_MO w_cacheI c_cacheI k_DC k_EA z_CS) (O : Old Z n0 h0) (b0 : Addr) (E_b0 : Exa Z h0 b0 s6) (F_b0_size : Fld Z h0 b0 s6 s26 "I" (.int 0)) :
    o_Met l (⟨s38, "listCopy", s40⟩ : MethodName) B9 2 (some (.object s21)) [] (o_rm 1 0 0 12) Z #[(.ref b0)] h0 (o_R (some (.ref w_EL)) h0) := by
  refine o_met (pN pn_6) ?_
  intro p e s m below meth c T0 hx y hml hown hret hk hnm hZ X0 e0
  obtain ⟨-, -, -, -, -, -, -, -, -, -, -, -, -, -, -, -, -, -, -⟩ := id H
  refine o_ent (ef_4 m b0) ?_
  refine qA X0 hx (hb y d9_0) rfl rfl 1 rfl ?_
  refine o_instNo X0 hx hZ hown (w hw 75 rfl) e0 E_b0 (o_no (w hw 76 rfl) (w hw 425 rfl) (NS.step (w hw 76 rfl) (NS.step (w hw 77 rfl) (NS.step (w hw 78 rfl) (o_root (w hw 79 rfl) (Cond.instantiable_spec (w hw 425 rfl)).choose_spec.choose_spec.1 (by decide)) (by decide)) (by decide)) (by decide)) (by decide)) (hb y d9_1) 4 rfl fun T1 X1 e1 => ?_
  refine qN X1 hx (hb y d9_4) ((if0 _ _).trans (teq (by decide : (0 : Int32) = (0 : Int32))).2) 7 rfl ?_
  refine qA X1 hx (hb y d9_7) rfl rfl 8 rfl ?_
  refine o_instNo X1 hx hZ hown (w hw 80 rfl) e1 E_b0 (o_no (w hw 76 rfl) (w hw 297 rfl) (NS.step (w hw 76 rfl) (NS.step (w hw 77 rfl) (NS.step (w hw 78 rfl) (o_root (w hw 79 rfl) (Cond.instantiable_spec (w hw 297 rfl)).choose_spec.choose_spec.1 (by decide)) (by decide)) (by decide)) (by decide)) (by decide)) (hb y d9_8) 11 rfl fun T2 X2 e2 => ?_
  refine o_ifY X2 hx (hb y d9_11) ((if0 _ _).trans (teq (by decide : (0 : Int32) = (0 : Int32))).1) 31 (by decide) (by decide) ?_
  refine qA X2 hx (hb y d9_31) rfl rfl 32 rfl ?_
  refine oC (cI X2 hx hZ hown (w hw 81 rfl) (w hw 82 rfl) (w hw 83 rfl) (w hw 84 rfl) (w hw 85 rfl) (w hw 86 rfl) (w hw 87 rfl) (w hw 88 rfl) (w hw 32 rfl) (w hw 89 rfl) (by decide) (by decide) b0 [] [] 0 (rm_isEmpty_11 l Z a0 h0 n0 hw O b0 F_b0_size) (by decide) (by decide) e2 E_b0 (by rw [hml]; rfl) (lenOf pd_5 rfl) (Nat.le_of_eq rfl) (hb y d9_32) 37 rfl (by decide) (by decide)) rfl rfl fun T4 X4 e4 => ?_
  refine qN X4 hx (hb y d9_37) ((if0 _ _).trans (feq (by decide : ¬ ((1 : Int32) = (0 : Int32)))).1) 40 rfl ?_
  refine qS X4 hx hZ hown (w hw 92 rfl) (w hw 93 rfl) (w hw 69 rfl) (w hw 94 rfl) (by decide) [] [] 0 (rm_of_12 l Z a0 h0 n0 hw H O ) (by decide) (by decide) rfl rfl e4 (by rw [hml]; rfl) (lenOf pd_6 rfl) (Nat.le_of_eq rfl) (hb y d9_40) 43 rfl rfl (by decide) (by decide) fun T6 X6 e6 => ?_
  exact qR X6 hx hk hret rfl rfl (hb y d9_43) rfl ⟨rfl, e6, rfl⟩ (by decide) (by decide)
theorem pd_7 : parseMethodDescriptor "(Ljava/util/Collection;)Ljava/util/List;" = some ⟨[(.object "java/util/Collection")], some (.object "java/util/List")⟩ := by decide +kernel
theorem d8_0 : decode B10 0 = .ok (.aload_n 0, 1) := by decide +kernel
theorem d8_1 : decode B10 1 = .ok (.invokestatic 112, 3) := by decide +kernel
theorem d8_4 : decode B10 4 = .ok (.areturn, 1) := by decide +kernel
theorem rm_copyOf_9 (hw : o_HW Z a0) (H : o_C Z Z.heap w_NW w_DC w_EL w_EA w_EM w_MO w_cacheI c_cacheI k_DC k_EA z_CS) (O : Old Z n0 h0) (b0 : Addr) (E_b0 : Exa Z h0 b0 s6) (F_b0_size : Fld Z h0 b0 s6 s26 "I" (.int 0)) :
    o_Met l (⟨s21, "copyOf", s40⟩ : MethodName) B10 1 (some (.object s21)) [] (o_rm 2 0 0 25) Z #[(.ref b0)] h0 (o_R (some (.ref w_EL)) h0) := by
  refine o_met (pN pn_5) ?_
  intro p e s m below meth c T0 hx y hml hown hret hk hnm hZ X0 e0
  obtain ⟨-, -, -, -, -, -, -, -, -, -, -, -, -, -, -, -, -, -, -⟩ := id H
  refine o_ent (ef_2 m b0) ?_
  refine qA X0 hx (hb y d8_0) rfl rfl 1 rfl ?_
  refine qS X0 hx hZ hown (w hw 71 rfl) (w hw 72 rfl) (w hw 73 rfl) (w hw 74 rfl) (by decide) [(.ref b0)] [] 0 (rm_listCopy_10 l Z a0 h0 n0 hw H O b0 E_b0 F_b0_size) (by decide) (by decide) rfl rfl e0 (by rw [hml]; rfl) (lenOf pd_7 rfl) (Nat.le_of_eq rfl) (hb y d8_1) 4 rfl rfl (by decide) (by decide) fun T2 X2 e2 => ?_
  exact qR X2 hx hk hret rfl rfl (hb y d8_4) rfl ⟨rfl, e2, rfl⟩ (by decide) (by decide)
def Q_rm__init__8 (Z : State) (h0 : Heap) (n0 : Nat) (b0 : Addr) (b1 : Addr) (b2 : Addr) (i0 : Int32) (v : Option Value) (h : Heap) (L : List Loc) : Prop := v = none ∧ Fr n0 L ∧ Keep h0 h [b0] ∧ Exa Z h b0 s1 ∧ Fld Z h b0 s1 "name" s42 (.ref b1)
theorem d7_0 : decode B11 0 = .ok (.aload_n 0, 1) := by decide +kernel
theorem d7_1 : decode B11 1 = .ok (.invokespecial 3, 3) := by decide +kernel
theorem d7_4 : decode B11 4 = .ok (.aload_n 0, 1) := by decide +kernel
theorem d7_5 : decode B11 5 = .ok (.getstatic 9, 3) := by decide +kernel
theorem d7_8 : decode B11 8 = .ok (.putfield 13, 3) := by decide +kernel
theorem d7_11 : decode B11 11 = .ok (.iload_n 2, 1) := by decide +kernel
theorem d7_12 : decode B11 12 = .ok (.ifCond .lt 9, 3) := by decide +kernel
theorem d7_15 : decode B11 15 = .ok (.iload_n 2, 1) := by decide +kernel
theorem d7_16 : decode B11 16 = .ok (.ldc 16, 2) := by decide +kernel
theorem d7_18 : decode B11 18 = .ok (.if_icmp .le 17, 3) := by decide +kernel
theorem d7_35 : decode B11 35 = .ok (.aload_n 0, 1) := by decide +kernel
theorem d7_36 : decode B11 36 = .ok (.aload_n 1, 1) := by decide +kernel
theorem d7_37 : decode B11 37 = .ok (.putfield 26, 3) := by decide +kernel
theorem d7_40 : decode B11 40 = .ok (.aload_n 0, 1) := by decide +kernel
theorem d7_41 : decode B11 41 = .ok (.iload_n 2, 1) := by decide +kernel
theorem d7_42 : decode B11 42 = .ok (.putfield 30, 3) := by decide +kernel
theorem d7_45 : decode B11 45 = .ok (.aload_n 0, 1) := by decide +kernel
theorem d7_46 : decode B11 46 = .ok (.aload_n 3, 1) := by decide +kernel
theorem d7_47 : decode B11 47 = .ok (.invokestatic 34, 3) := by decide +kernel
theorem d7_50 : decode B11 50 = .ok (.putfield 40, 3) := by decide +kernel
theorem d7_53 : decode B11 53 = .ok (.return_, 1) := by decide +kernel
theorem pn_7 : plainName "com/example/lawful_crossing/lawfulcrossing/model/Segment" = true := by first | (simp [plainName, overriddenIn]; done) | decide +kernel
theorem ef_5 (m : MethodId) (y0 : Addr) (y1 : Addr) (y2 : Int32) (y3 : Addr) : entryFrame m #[(.ref y0), (.ref y1), (.int y2), (.ref y3)] 4 = mkF m 0 #[.val (.ref y0), .val (.ref y1), .val (.int y2), .val (.ref y3)] [] := by first | (simp [entryFrame, mkF, argsToLocals, Value.category]; done) | rfl
theorem rm__init__8 (hw : o_HW Z a0) (H : o_C Z Z.heap w_NW w_DC w_EL w_EA w_EM w_MO w_cacheI c_cacheI k_DC k_EA z_CS) (O : Old Z n0 h0) (b0 : Addr) (b1 : Addr) (b2 : Addr) (i0 : Int32) (E_b0 : Exa Z h0 b0 s1) (F_b0_accessList : Fld Z h0 b0 s1 "accessList" s17 .null) (F_b0_length : Fld Z h0 b0 s1 "length" "I" (.int 0)) (F_b0_name : Fld Z h0 b0 s1 "name" s42 .null) (F_b0_near : Fld Z h0 b0 s1 "near" "[J" .null) (g_b0 : n0 ≤ b0) (E_b2 : Exa Z h0 b2 s6) (F_b2_size : Fld Z h0 b2 s6 s26 "I" (.int 0)) (ne_b0_b2 : b0 ≠ b2) (kn0 : ¬ (i0 < (0 : Int32))) (kn1 : ¬ ((262144 : Int32) < i0)) :
    o_Met l (⟨s1, s50, "(Ljava/lang/String;ILjava/util/List;)V"⟩ : MethodName) B11 4 none [] (o_rm 3 0 0 38) Z #[(.ref b0), (.ref b1), (.int i0), (.ref b2)] h0 (Q_rm__init__8 Z h0 n0 b0 b1 b2 i0) := by
  refine o_met (pN pn_7) ?_
  intro p e s m below meth c T0 hx y hml hown hret hk hnm hZ X0 e0
  obtain ⟨S_NW, -, -, -, -, -, -, -, -, -, -, -, -, -, -, -, -, -, -⟩ := id H
  refine o_ent (ef_5 m b0 b1 i0 b2) ?_
  refine qA X0 hx (hb y d7_0) rfl rfl 1 rfl ?_
  refine o_initO X0 hx hZ hown (w hw 57 rfl) (w hw 24 rfl) (w hw 25 rfl) e0 (by rw [hml]; rfl) (hb y d7_1) (by decide) 0 (Nat.le_of_eq rfl) (by decide) 4 rfl fun T1 X1 e1 => ?_
  refine qA X1 hx (hb y d7_4) rfl rfl 5 rfl ?_
  refine o_getS X1 hx hZ hown (host := "") (Or.inl (w hw 58 rfl)) Via.refl e1 (S_NW.ext O.2) (hb y d7_5) 8 rfl fun T2 X2 e2 => ?_
  refine qP X2 hx hZ hown (host := "") (Or.inl (w hw 60 rfl)) Via.refl e2 F_b0_near E_b0 (Or.inl (w hw 61 rfl)) (w hw 2 rfl) (ty := (.array .long)) (by decide) rfl rfl (hb y d7_8) 11 rfl fun T3 X3 W3 => ?_
  have O4 := O.wr W3 g_b0
  have N4 := Fr.snoc X3 (Fr.nil n0) g_b0
  have K4 := Keep.wr (Keep.refl h0 [b0]) W3 (Or.inl (by simp))
  refine qI X3 hx (hb y d7_11) rfl 12 rfl ?_
  refine qN X3 hx (hb y d7_12) ((if0 _ _).trans (flt kn0).1) 15 rfl ?_
  refine qI X3 hx (hb y d7_15) rfl 16 rfl ?_
  refine o_ldc X3 hx hZ hown (w hw 62 rfl) (hb y d7_16) 18 rfl ?_
  refine o_icmpY X3 hx (hb y d7_18) (flt kn1).2.2.2 35 (by decide) (by decide) ?_
  refine qA X3 hx (hb y d7_35) rfl rfl 36 rfl ?_
  refine qA X3 hx (hb y d7_36) rfl rfl 37 rfl ?_
  have f6 := (F_b0_name.other W3 (Or.inr (sn_8 hw)))
  have f7 := (E_b0.wr W3)
  refine qP X3 hx hZ hown (host := "") (Or.inl (w hw 63 rfl)) Via.refl rfl f6 f7 (Or.inr ⟨(w hw 64 rfl), rfl, hnm⟩) (w hw 2 rfl) (ty := (.object s4)) (by decide) rfl rfl (hb y d7_37) 40 rfl fun T5 X5 W5 => ?_
  have G5 := Fld.same W5 f6
  have O8 := O4.wr W5 g_b0
  have N8 := Fr.snoc X5 N4 g_b0
  have K8 := Keep.wr K4 W5 (Or.inl (by simp))
  refine qA X5 hx (hb y d7_40) rfl rfl 41 rfl ?_
  refine qI X5 hx (hb y d7_41) rfl 42 rfl ?_
  have f10 := ((F_b0_length.other W3 (Or.inr (sn_9 hw))).other W5 (Or.inr (sn_10 hw)))
  have f11 := (f7.wr W5)
  refine qP X5 hx hZ hown (host := "") (Or.inl (w hw 65 rfl)) Via.refl rfl f10 f11 (Or.inr ⟨(w hw 66 rfl), rfl, hnm⟩) (w hw 2 rfl) (ty := .int) (by decide) rfl rfl (hb y d7_42) 45 rfl fun T9 X9 W9 => ?_
  have O12 := O8.wr W9 g_b0
  have N12 := Fr.snoc X9 N8 g_b0
  have K12 := Keep.wr K8 W9 (Or.inl (by simp))
  refine qA X9 hx (hb y d7_45) rfl rfl 46 rfl ?_
  refine qA X9 hx (hb y d7_46) rfl rfl 47 rfl ?_
  have f14 := (((E_b2.wr W3).wr W5).wr W9)
  have f15 := (o_fo (o_fo (o_fo F_b2_size W3 ne_b0_b2) W5 ne_b0_b2) W9 ne_b0_b2)
  refine qS X9 hx hZ hown (w hw 67 rfl) (w hw 68 rfl) (w hw 69 rfl) (w hw 70 rfl) (by decide) [(.ref b2)] [(.ref b0)] 1 (rm_copyOf_9 l Z a0 T9.heap n0 hw H O12 b2 f14 f15) (by decide) (by decide) rfl rfl rfl (by rw [hml]; rfl) (lenOf pd_7 rfl) (Nat.le_of_eq rfl) (hb y d7_47) 50 rfl rfl (by decide) (by decide) fun T16 X16 e16 => ?_
  have f18 := (((F_b0_accessList.other W3 (Or.inr (sn_11 hw))).other W5 (Or.inr (sn_12 hw))).other W9 (Or.inr (sn_13 hw)))
  have f19 := (f11.wr W9)
  refine qP X16 hx hZ hown (host := "") (Or.inl (w hw 96 rfl)) Via.refl e16 f18 f19 (Or.inr ⟨(w hw 97 rfl), rfl, hnm⟩) (w hw 2 rfl) (ty := (.object s21)) (by decide) rfl rfl (hb y d7_50) 53 rfl fun T17 X17 W17 => ?_
  have N20 := Fr.snoc X17 N12 g_b0
  have K20 := Keep.wr K12 W17 (Or.inl (by simp))
  have f21 := (f19.wr W17)
  have f22 := ((G5.other W9 (Or.inr (Ne.symm (sn_10 hw)))).other W17 (Or.inr (Ne.symm (sn_12 hw))))
  exact qv X17 hx hk hret (hb y d7_53) (by show Q_rm__init__8 Z h0 n0 b0 b1 b2 i0 _ T17.heap _; exact ⟨rfl, N20, K20, f21, f22⟩) (by decide) (by decide)
theorem rm_canEncode_14 (hw : o_HW Z a0) (O : Old Z n0 h0)  :
    o_Met l (⟨s36, "canEncode", "(C)Z"⟩ : MethodName) B0 1 (some .boolean) [] (o_rm 0 0 0 0) Z #[(.int 113)] h0 (o_R (some (.int 1)) h0) := by
  refine o_met (pN pn_0) ?_
  intro p e s m below meth c T0 hx y hml hown hret hk hnm hZ X0 e0
  refine o_ent (ef_0 m (113 : Int32)) ?_
  refine qI X0 hx (hb y d1_0) rfl 1 rfl ?_
  refine o_sipush X0 hx (hb y d1_1) (255 : Int32) rfl 4 rfl ?_
  refine qn X0 hx (hb y d1_4) (flt (by decide : ¬ ((255 : Int32) < (113 : Int32)))).2.2.1 7 rfl ?_
  refine qC X0 hx (hb y d1_7) (1 : Int32) rfl 8 rfl ?_
  refine qG X0 hx (hb y d1_8) 12 (by decide) (by decide) ?_
  exact o_retZ X0 hx hk hret (hb y d1_12) rfl ⟨rfl, e0, rfl⟩ (by decide) (by decide)
def Q_rm_toBytes_15 (Z : State) (h0 : Heap) (n0 : Nat)  (v : Option Value) (h : Heap) (L : List Loc) : Prop := ∃ (y0 : Addr) (yk0 : ClassId), v = some (.ref y0) ∧ Fr n0 L ∧ Keep h0 h [] ∧ h0.size ≤ y0 ∧ Arv Z h y0 yk0 .byte (1 : Int32) [(.int 113)] (.int 0) ∧ Exa Z h y0 "[B"
theorem rm_toBytes_15 (hw : o_HW Z a0) (O : Old Z n0 h0)  :
    o_Met l (⟨s36, "toBytes", "(C)[B"⟩ : MethodName) B1 1 (some (.array .byte)) [] (o_rm 0 1 1 0) Z #[(.int 113)] h0 (Q_rm_toBytes_15 Z h0 n0 ) := by
  refine o_met (pN pn_0) ?_
  intro p e s m below meth c T0 hx y hml hown hret hk hnm hZ X0 e0
  refine o_ent (ef_0 m (113 : Int32)) ?_
  refine qC X0 hx (hb y d2_0) (1 : Int32) rfl 1 rfl ?_
  refine o_newP X0 hx hZ (w hw 18 rfl) e0 (hb y d2_1) (by decide) 1 (by decide) (by decide) (by decide) (by decide) "[B" (by decide) 3 rfl fun T1 a1 c1 g1 X1 E1 V1 A1 => ?_
  have g_a1 : n0 ≤ a1 := Nat.le_trans (o_osz O) (Nat.le_of_eq g1)
  have z_a1 : h0.size ≤ a1 := Nat.le_trans ((Keep.refl h0 [])).1 (Nat.le_of_eq g1)
  have K2 := Keep.ext (Keep.refl h0 []) E1
  have V1 : Arv Z T1.heap a1 c1 .byte (1 : Int32) [] (.int 0) := V1
  refine qD X1 hx (hb y d2_3) rfl 4 rfl ?_
  refine qC X1 hx (hb y d2_4) (0 : Int32) rfl 5 rfl ?_
  refine qI X1 hx (hb y d2_5) rfl 6 rfl ?_
  refine o_i2b X1 hx (hb y d2_6) 7 rfl ?_
  refine o_topI (113 : Int32) (by decide) ?_
  have V3 : Arv Z T1.heap a1 c1 .byte (1 : Int32) [(.int 0)] (.int 0) := V1.pad (pad_rep [] (.int 0) 1)
  refine o_bastore X1 hx hZ rfl V3 0 (by decide) (by decide) (by simp) (113 : Int32) (by decide) [(.int 113)] rfl (hb y d2_7) 8 rfl fun T4 X4 W4 V4 => ?_
  have N5 := Fr.snoc X4 (Fr.nil n0) g_a1
  have K5 := Keep.wr K2 W4 (Or.inr z_a1)
  have f6 := (A1.wr W4)
  exact qR X4 hx hk hret rfl rfl (hb y d2_8) rfl (by show Q_rm_toBytes_15 Z h0 n0  _ T4.heap _; exact ⟨a1, c1, rfl, N5, K5, z_a1, V4, f6⟩) (by decide) (by decide)
def Q_rm_valueOf_13 (Z : State) (h0 : Heap) (n0 : Nat)  (v : Option Value) (h : Heap) (L : List Loc) : Prop := ∃ (y0 y1 : Addr) (yk0 : ClassId), v = some (.ref y0) ∧ Fr n0 L ∧ Keep h0 h [] ∧ h0.size ≤ y0 ∧ h0.size ≤ y1 ∧ y0 ≠ y1 ∧ Exa Z h y0 s4 ∧ Fld Z h y0 s4 s43 "B" (.int 0) ∧ Fld Z h y0 s4 s37 "I" (.int 0) ∧ Fld Z h y0 s4 s33 "Z" (.int 0) ∧ Fld Z h y0 s4 s34 "[B" (.ref y1) ∧ Arv Z h y1 yk0 .byte (1 : Int32) [(.int 113)] (.int 0) ∧ Exa Z h y1 "[B"
theorem rm_valueOf_13 (hw : o_HW Z a0) (H : o_C Z Z.heap w_NW w_DC w_EL w_EA w_EM w_MO w_cacheI c_cacheI k_DC k_EA z_CS) (O : Old Z n0 h0)  :
    o_Met l (⟨s4, "valueOf", "(C)Ljava/lang/String;"⟩ : MethodName) B3 1 (some (.object s4)) [] (o_rm 2 2 5 27) Z #[(.int 113)] h0 (Q_rm_valueOf_13 Z h0 n0 ) := by
  refine o_met (pN pn_1) ?_
  intro p e s m below meth c T0 hx y hml hown hret hk hnm hZ X0 e0
  obtain ⟨-, -, S_CS, N_CS, -, -, -, -, -, -, -, -, -, -, -, -, -, -, -⟩ := id H
  refine o_ent (ef_0 m (113 : Int32)) ?_
  refine o_getS X0 hx hZ hown (host := "") (Or.inl (w hw 8 rfl)) Via.refl e0 (S_CS.ext O.2) (hb y d0_0) 3 rfl fun T1 X1 e1 => ?_
  refine qN X1 hx (hb y d0_3) ((if0 _ _).trans (feq N_CS).1) 6 rfl ?_
  refine qI X1 hx (hb y d0_6) rfl 7 rfl ?_
  refine qS X1 hx hZ hown (w hw 9 rfl) (w hw 10 rfl) (w hw 11 rfl) (w hw 12 rfl) (by decide) [(.int 113)] [] 0 (rm_canEncode_14 l Z a0 h0 n0 hw O ) (by decide) (by decide) rfl rfl e1 (by rw [hml]; rfl) (lenOf pd_0 rfl) (Nat.le_of_eq rfl) (hb y d0_7) 10 rfl rfl (by decide) (by decide) fun T3 X3 e3 => ?_
  refine qN X3 hx (hb y d0_10) ((if0 _ _).trans (feq (by decide : ¬ ((1 : Int32) = (0 : Int32)))).1) 13 rfl ?_
  refine nO X3 hx hZ hown (w hw 13 rfl) (w hw 14 rfl) (w hw 6 rfl) e3 (hb y d0_13) 16 rfl (by decide) (by decide) fun T4 a4 g4 X4 E4 A4 D4 => ?_
  have g_a4 : n0 ≤ a4 := Nat.le_trans (o_osz O) (Nat.le_of_eq g4)
  have z_a4 : h0.size ≤ a4 := Nat.le_trans ((Keep.refl h0 [])).1 (Nat.le_of_eq g4)
  have O5 := O.ext E4
  have K5 := Keep.ext (Keep.refl h0 []) E4
  have F4_value : Fld Z T4.heap a4 s4 s34 "[B" .null := D4 (Or.inr (w hw 27 rfl)) (ty := (.array .byte)) (by decide)
  have F4_coder : Fld Z T4.heap a4 s4 s43 "B" (.int 0) := D4 (Or.inr (w hw 29 rfl)) (ty := .byte) (by decide)
  have F4_hash : Fld Z T4.heap a4 s4 s37 "I" (.int 0) := D4 (Or.inl (w hw 357 rfl)) (ty := .int) (by decide)
  have F4_hashIsZero : Fld Z T4.heap a4 s4 s33 "Z" (.int 0) := D4 (Or.inl (w hw 359 rfl)) (ty := .boolean) (by decide)
  refine qD X4 hx (hb y d0_16) rfl 17 rfl ?_
  refine qI X4 hx (hb y d0_17) rfl 18 rfl ?_
  refine kS X4 hx hZ hown (w hw 15 rfl) (w hw 16 rfl) (w hw 11 rfl) (w hw 17 rfl) (by decide) [(.int 113)] [(.ref a4), (.ref a4)] 2 (rm_toBytes_15 l Z a0 T4.heap n0 hw O5 ) (by decide) (by decide) rfl (by rw [hml]; rfl) (lenOf pd_1 rfl) (Nat.le_of_eq rfl) (hb y d0_18) (by decide) (by decide) 21 rfl fun v6 T6 L6 X6 hQ6 => ?_
  obtain ⟨q6_0, qk6_0, rfl, Nq6, Kq6, le_q6_0, p6_0, p6_1⟩ := hQ6
  have z_q6_0 : h0.size ≤ q6_0 := Nat.le_trans (K5).1 le_q6_0
  have O7 := O5.keep Kq6 all0
  have N7 := Fr.app (Fr.nil n0) Nq6
  have K7 := Keep.trans K5 Kq6 all0
  refine o_nR ?_
  refine qC X6 hx (hb y d0_21) (0 : Int32) rfl 22 rfl ?_
  have f9 := (A4.keep Kq6)
  have f10 := (F4_coder.keep Kq6 nin0)
  have f11 := (F4_hash.keep Kq6 nin0)
  have f12 := (F4_hashIsZero.keep Kq6 nin0)
  have f13 := (F4_value.keep Kq6 nin0)
  refine kN X6 hx hZ rfl hown (w hw 19 rfl) (w hw 20 rfl) (w hw 6 rfl) (w hw 22 rfl) (by decide) a4 [(.ref q6_0), (.int 0)] [(.ref a4)] 1 (rm__init__4 l Z a0 T6.heap n0 hw O7 a4 q6_0 f9 f10 f11 f12 f13 g_a4) (by decide) (by decide) rfl (by rw [hml]; rfl) (lenOf pd_2 rfl) (Nat.le_of_eq rfl) (hb y d0_22) (by decide) (by decide) 25 rfl fun v8 T8 L8 X8 hQ8 => ?_
  obtain ⟨rfl, Nq8, Kq8, p8_0, p8_1, p8_2, p8_3, p8_4⟩ := hQ8
  have N14 := Fr.app N7 Nq8
  have K14 := Keep.trans K7 Kq8 (allS (Or.inr z_a4) all0)
  refine o_nV ?_
  have ne16 := o_nl A4.lt (Nat.le_refl _) le_q6_0
  have f17 := (p6_0.keep Kq8 (ninS (Ne.symm ne16) nin0))
  have f18 := (p6_1.keep Kq8)
  exact qR X8 hx hk hret rfl rfl (hb y d0_25) rfl (by show Q_rm_valueOf_13 Z h0 n0  _ T8.heap _; exact ⟨a4, q6_0, qk6_0, rfl, N14, K14, z_a4, z_q6_0, ne16, p8_0, p8_1, p8_2, p8_3, p8_4, f17, f18⟩) (by decide) (by decide)
theorem rm_canEncode_17 (hw : o_HW Z a0) (O : Old Z n0 h0)  :
    o_Met l (⟨s36, "canEncode", "(C)Z"⟩ : MethodName) B0 1 (some .boolean) [] (o_rm 0 0 0 0) Z #[(.int 114)] h0 (o_R (some (.int 1)) h0) := by
  refine o_met (pN pn_0) ?_
  intro p e s m below meth c T0 hx y hml hown hret hk hnm hZ X0 e0
  refine o_ent (ef_0 m (114 : Int32)) ?_
  refine qI X0 hx (hb y d1_0) rfl 1 rfl ?_
  refine o_sipush X0 hx (hb y d1_1) (255 : Int32) rfl 4 rfl ?_
  refine qn X0 hx (hb y d1_4) (flt (by decide : ¬ ((255 : Int32) < (114 : Int32)))).2.2.1 7 rfl ?_
  refine qC X0 hx (hb y d1_7) (1 : Int32) rfl 8 rfl ?_
  refine qG X0 hx (hb y d1_8) 12 (by decide) (by decide) ?_
  exact o_retZ X0 hx hk hret (hb y d1_12) rfl ⟨rfl, e0, rfl⟩ (by decide) (by decide)
def Q_rm_toBytes_18 (Z : State) (h0 : Heap) (n0 : Nat)  (v : Option Value) (h : Heap) (L : List Loc) : Prop := ∃ (y0 : Addr) (yk0 : ClassId), v = some (.ref y0) ∧ Fr n0 L ∧ Keep h0 h [] ∧ h0.size ≤ y0 ∧ Arv Z h y0 yk0 .byte (1 : Int32) [(.int 114)] (.int 0) ∧ Exa Z h y0 "[B"
theorem rm_toBytes_18 (hw : o_HW Z a0) (O : Old Z n0 h0)  :
    o_Met l (⟨s36, "toBytes", "(C)[B"⟩ : MethodName) B1 1 (some (.array .byte)) [] (o_rm 0 1 1 0) Z #[(.int 114)] h0 (Q_rm_toBytes_18 Z h0 n0 ) := by
  refine o_met (pN pn_0) ?_
  intro p e s m below meth c T0 hx y hml hown hret hk hnm hZ X0 e0
  refine o_ent (ef_0 m (114 : Int32)) ?_
  refine qC X0 hx (hb y d2_0) (1 : Int32) rfl 1 rfl ?_
  refine o_newP X0 hx hZ (w hw 18 rfl) e0 (hb y d2_1) (by decide) 1 (by decide) (by decide) (by decide) (by decide) "[B" (by decide) 3 rfl fun T1 a1 c1 g1 X1 E1 V1 A1 => ?_
  have g_a1 : n0 ≤ a1 := Nat.le_trans (o_osz O) (Nat.le_of_eq g1)
  have z_a1 : h0.size ≤ a1 := Nat.le_trans ((Keep.refl h0 [])).1 (Nat.le_of_eq g1)
  have K2 := Keep.ext (Keep.refl h0 []) E1
  have V1 : Arv Z T1.heap a1 c1 .byte (1 : Int32) [] (.int 0) := V1
  refine qD X1 hx (hb y d2_3) rfl 4 rfl ?_
  refine qC X1 hx (hb y d2_4) (0 : Int32) rfl 5 rfl ?_
  refine qI X1 hx (hb y d2_5) rfl 6 rfl ?_
  refine o_i2b X1 hx (hb y d2_6) 7 rfl ?_
  refine o_topI (114 : Int32) (by decide) ?_
  have V3 : Arv Z T1.heap a1 c1 .byte (1 : Int32) [(.int 0)] (.int 0) := V1.pad (pad_rep [] (.int 0) 1)
  refine o_bastore X1 hx hZ rfl V3 0 (by decide) (by decide) (by simp) (114 : Int32) (by decide) [(.int 114)] rfl (hb y d2_7) 8 rfl fun T4 X4 W4 V4 => ?_
  have N5 := Fr.snoc X4 (Fr.nil n0) g_a1
  have K5 := Keep.wr K2 W4 (Or.inr z_a1)
  have f6 := (A1.wr W4)
  exact qR X4 hx hk hret rfl rfl (hb y d2_8) rfl (by show Q_rm_toBytes_18 Z h0 n0  _ T4.heap _; exact ⟨a1, c1, rfl, N5, K5, z_a1, V4, f6⟩) (by decide) (by decide)
def Q_rm_valueOf_16 (Z : State) (h0 : Heap) (n0 : Nat)  (v : Option Value) (h : Heap) (L : List Loc) : Prop := ∃ (y0 y1 : Addr) (yk0 : ClassId), v = some (.ref y0) ∧ Fr n0 L ∧ Keep h0 h [] ∧ h0.size ≤ y0 ∧ h0.size ≤ y1 ∧ y0 ≠ y1 ∧ Exa Z h y0 s4 ∧ Fld Z h y0 s4 s43 "B" (.int 0) ∧ Fld Z h y0 s4 s37 "I" (.int 0) ∧ Fld Z h y0 s4 s33 "Z" (.int 0) ∧ Fld Z h y0 s4 s34 "[B" (.ref y1) ∧ Arv Z h y1 yk0 .byte (1 : Int32) [(.int 114)] (.int 0) ∧ Exa Z h y1 "[B"
theorem rm_valueOf_16 (hw : o_HW Z a0) (H : o_C Z Z.heap w_NW w_DC w_EL w_EA w_EM w_MO w_cacheI c_cacheI k_DC k_EA z_CS) (O : Old Z n0 h0)  :
    o_Met l (⟨s4, "valueOf", "(C)Ljava/lang/String;"⟩ : MethodName) B3 1 (some (.object s4)) [] (o_rm 2 2 5 27) Z #[(.int 114)] h0 (Q_rm_valueOf_16 Z h0 n0 ) := by
  refine o_met (pN pn_1) ?_
  intro p e s m below meth c T0 hx y hml hown hret hk hnm hZ X0 e0
  obtain ⟨-, -, S_CS, N_CS, -, -, -, -, -, -, -, -, -, -, -, -, -, -, -⟩ := id H
  refine o_ent (ef_0 m (114 : Int32)) ?_
  refine o_getS X0 hx hZ hown (host := "") (Or.inl (w hw 8 rfl)) Via.refl e0 (S_CS.ext O.2) (hb y d0_0) 3 rfl fun T1 X1 e1 => ?_
  refine qN X1 hx (hb y d0_3) ((if0 _ _).trans (feq N_CS).1) 6 rfl ?_
  refine qI X1 hx (hb y d0_6) rfl 7 rfl ?_
  refine qS X1 hx hZ hown (w hw 9 rfl) (w hw 10 rfl) (w hw 11 rfl) (w hw 12 rfl) (by decide) [(.int 114)] [] 0 (rm_canEncode_17 l Z a0 h0 n0 hw O ) (by decide) (by decide) rfl rfl e1 (by rw [hml]; rfl) (lenOf pd_0 rfl) (Nat.le_of_eq rfl) (hb y d0_7) 10 rfl rfl (by decide) (by decide) fun T3 X3 e3 => ?_
  refine qN X3 hx (hb y d0_10) ((if0 _ _).trans (feq (by decide : ¬ ((1 : Int32) = (0 : Int32)))).1) 13 rfl ?_
  refine nO X3 hx hZ hown (w hw 13 rfl) (w hw 14 rfl) (w hw 6 rfl) e3 (hb y d0_13) 16 rfl (by decide) (by decide) fun T4 a4 g4 X4 E4 A4 D4 => ?_
  have g_a4 : n0 ≤ a4 := Nat.le_trans (o_osz O) (Nat.le_of_eq g4)
  have z_a4 : h0.size ≤ a4 := Nat.le_trans ((Keep.refl h0 [])).1 (Nat.le_of_eq g4)
  have O5 := O.ext E4
  have K5 := Keep.ext (Keep.refl h0 []) E4
  have F4_value : Fld Z T4.heap a4 s4 s34 "[B" .null := D4 (Or.inr (w hw 27 rfl)) (ty := (.array .byte)) (by decide)
  have F4_coder : Fld Z T4.heap a4 s4 s43 "B" (.int 0) := D4 (Or.inr (w hw 29 rfl)) (ty := .byte) (by decide)
  have F4_hash : Fld Z T4.heap a4 s4 s37 "I" (.int 0) := D4 (Or.inl (w hw 357 rfl)) (ty := .int) (by decide)
  have F4_hashIsZero : Fld Z T4.heap a4 s4 s33 "Z" (.int 0) := D4 (Or.inl (w hw 359 rfl)) (ty := .boolean) (by decide)
  refine qD X4 hx (hb y d0_16) rfl 17 rfl ?_
  refine qI X4 hx (hb y d0_17) rfl 18 rfl ?_
  refine kS X4 hx hZ hown (w hw 15 rfl) (w hw 16 rfl) (w hw 11 rfl) (w hw 17 rfl) (by decide) [(.int 114)] [(.ref a4), (.ref a4)] 2 (rm_toBytes_18 l Z a0 T4.heap n0 hw O5 ) (by decide) (by decide) rfl (by rw [hml]; rfl) (lenOf pd_1 rfl) (Nat.le_of_eq rfl) (hb y d0_18) (by decide) (by decide) 21 rfl fun v6 T6 L6 X6 hQ6 => ?_
  obtain ⟨q6_0, qk6_0, rfl, Nq6, Kq6, le_q6_0, p6_0, p6_1⟩ := hQ6
  have z_q6_0 : h0.size ≤ q6_0 := Nat.le_trans (K5).1 le_q6_0
  have O7 := O5.keep Kq6 all0
  have N7 := Fr.app (Fr.nil n0) Nq6
  have K7 := Keep.trans K5 Kq6 all0
  refine o_nR ?_
  refine qC X6 hx (hb y d0_21) (0 : Int32) rfl 22 rfl ?_
  have f9 := (A4.keep Kq6)
  have f10 := (F4_coder.keep Kq6 nin0)
  have f11 := (F4_hash.keep Kq6 nin0)
  have f12 := (F4_hashIsZero.keep Kq6 nin0)
  have f13 := (F4_value.keep Kq6 nin0)
  refine kN X6 hx hZ rfl hown (w hw 19 rfl) (w hw 20 rfl) (w hw 6 rfl) (w hw 22 rfl) (by decide) a4 [(.ref q6_0), (.int 0)] [(.ref a4)] 1 (rm__init__4 l Z a0 T6.heap n0 hw O7 a4 q6_0 f9 f10 f11 f12 f13 g_a4) (by decide) (by decide) rfl (by rw [hml]; rfl) (lenOf pd_2 rfl) (Nat.le_of_eq rfl) (hb y d0_22) (by decide) (by decide) 25 rfl fun v8 T8 L8 X8 hQ8 => ?_
  obtain ⟨rfl, Nq8, Kq8, p8_0, p8_1, p8_2, p8_3, p8_4⟩ := hQ8
  have N14 := Fr.app N7 Nq8
  have K14 := Keep.trans K7 Kq8 (allS (Or.inr z_a4) all0)
  refine o_nV ?_
  have ne16 := o_nl A4.lt (Nat.le_refl _) le_q6_0
  have f17 := (p6_0.keep Kq8 (ninS (Ne.symm ne16) nin0))
  have f18 := (p6_1.keep Kq8)
  exact qR X8 hx hk hret rfl rfl (hb y d0_25) rfl (by show Q_rm_valueOf_16 Z h0 n0  _ T8.heap _; exact ⟨a4, q6_0, qk6_0, rfl, N14, K14, z_a4, z_q6_0, ne16, p8_0, p8_1, p8_2, p8_3, p8_4, f17, f18⟩) (by decide) (by decide)
theorem d14_0 : decode B12 0 = .ok (.aload_n 0, 1) := by decide +kernel
theorem d14_1 : decode B12 1 = .ok (.invokespecial 1, 3) := by decide +kernel
theorem d14_4 : decode B12 4 = .ok (.return_, 1) := by decide +kernel
theorem pn_8 : plainName "java/util/AbstractMap" = true := by first | (simp [plainName, overriddenIn]; done) | decide +kernel
theorem rm__init__21 (hw : o_HW Z a0) (O : Old Z n0 h0) (b0 : Addr) :
    o_Met l (⟨"java/util/AbstractMap", s50, "()V"⟩ : MethodName) B12 1 none [] (o_rm 1 0 0 12) Z #[(.ref b0)] h0 (o_R (none) h0) := by
  refine o_met (pN pn_8) ?_
  intro p e s m below meth c T0 hx y hml hown hret hk hnm hZ X0 e0
  refine o_ent (ef_2 m b0) ?_
  refine qA X0 hx (hb y d14_0) rfl rfl 1 rfl ?_
  refine o_initO X0 hx hZ hown (w hw 119 rfl) (w hw 24 rfl) (w hw 25 rfl) e0 (by rw [hml]; rfl) (hb y d14_1) (by decide) 0 (Nat.le_of_eq rfl) (by decide) 4 rfl fun T1 X1 e1 => ?_
  exact qv X1 hx hk hret (hb y d14_4) ⟨rfl, e1, rfl⟩ (by decide) (by decide)
def Q_rm__init__20 (Z : State) (h0 : Heap) (n0 : Nat) (b0 : Addr) (v : Option Value) (h : Heap) (L : List Loc) : Prop := v = none ∧ Fr n0 L ∧ Keep h0 h [b0] ∧ Exa Z h b0 s7 ∧ Fld Z h b0 s7 s44 "F" (.float (1061158912 : UInt32)) ∧ Fld Z h b0 s7 s29 "I" (.int 0) ∧ Fld Z h b0 s7 s26 "I" (.int 0) ∧ Fld Z h b0 s7 s61 s23 .null ∧ Fld Z h b0 s7 s46 "I" (.int 0)
theorem d13_0 : decode B13 0 = .ok (.aload_n 0, 1) := by decide +kernel
theorem d13_1 : decode B13 1 = .ok (.invokespecial 43, 3) := by decide +kernel
theorem d13_4 : decode B13 4 = .ok (.aload_n 0, 1) := by decide +kernel
theorem d13_5 : decode B13 5 = .ok (.ldc 92, 2) := by decide +kernel
theorem d13_7 : decode B13 7 = .ok (.putfield 81, 3) := by decide +kernel
theorem d13_10 : decode B13 10 = .ok (.return_, 1) := by decide +kernel
theorem pn_9 : plainName "java/util/HashMap" = true := by first | (simp [plainName, overriddenIn]; done) | decide +kernel
theorem rm__init__20 (hw : o_HW Z a0) (O : Old Z n0 h0) (b0 : Addr) (E_b0 : Exa Z h0 b0 s7) (F_b0_loadFactor : Fld Z h0 b0 s7 s44 "F" (defaultValue .float)) (F_b0_modCount : Fld Z h0 b0 s7 s29 "I" (.int 0)) (F_b0_size : Fld Z h0 b0 s7 s26 "I" (.int 0)) (F_b0_table : Fld Z h0 b0 s7 s61 s23 .null) (F_b0_threshold : Fld Z h0 b0 s7 s46 "I" (.int 0)) (g_b0 : n0 ≤ b0) :
    o_Met l (⟨s7, s50, "()V"⟩ : MethodName) B13 1 none [] (o_rm 2 0 0 24) Z #[(.ref b0)] h0 (Q_rm__init__20 Z h0 n0 b0) := by
  refine o_met (pN pn_9) ?_
  intro p e s m below meth c T0 hx y hml hown hret hk hnm hZ X0 e0
  refine o_ent (ef_2 m b0) ?_
  refine qA X0 hx (hb y d13_0) rfl rfl 1 rfl ?_
  refine vN X0 hx hZ rfl hown (w hw 113 rfl) (w hw 114 rfl) (w hw 117 rfl) (w hw 118 rfl) (by decide) b0 [] [] 0 (rm__init__21 l Z a0 h0 n0 hw O b0) (by decide) (by decide) rfl rfl e0 (by rw [hml]; rfl) (lenOf pd_4 rfl) (Nat.le_of_eq rfl) (hb y d13_1) 4 rfl rfl (by decide) (by decide) fun T2 X2 e2 => ?_
  refine qA X2 hx (hb y d13_4) rfl rfl 5 rfl ?_
  refine o_ldcF X2 hx hZ hown (w hw 120 rfl) (hb y d13_5) 7 rfl ?_
  refine qP X2 hx hZ hown (host := "") (Or.inl (w hw 121 rfl)) Via.refl e2 F_b0_loadFactor E_b0 (Or.inr ⟨(w hw 122 rfl), rfl, hnm⟩) (w hw 108 rfl) (ty := .float) (by decide) rfl rfl (hb y d13_7) 10 rfl fun T3 X3 W3 => ?_
  have G3 := Fld.same W3 F_b0_loadFactor
  have N4 := Fr.snoc X3 (Fr.nil n0) g_b0
  have K4 := Keep.wr (Keep.refl h0 [b0]) W3 (Or.inl (by simp))
  have f5 := (E_b0.wr W3)
  have f6 := (F_b0_modCount.other W3 (Or.inr (sn_14 hw)))
  have f7 := (F_b0_size.other W3 (Or.inr (sn_15 hw)))
  have f8 := (F_b0_table.other W3 (Or.inr (sn_16 hw)))
  have f9 := (F_b0_threshold.other W3 (Or.inr (sn_17 hw)))
  exact qv X3 hx hk hret (hb y d13_10) (by show Q_rm__init__20 Z h0 n0 b0 _ T3.heap _; exact ⟨rfl, N4, K4, f5, G3, f6, f7, f8, f9⟩) (by decide) (by decide)
theorem d15_0 : decode B14 0 = .ok (.aload_n 0, 1) := by decide +kernel
theorem d15_1 : decode B14 1 = .ok (.getfield 7, 3) := by decide +kernel
theorem d15_4 : decode B14 4 = .ok (.arraylength, 1) := by decide +kernel
theorem d15_5 : decode B14 5 = .ok (.ireturn, 1) := by decide +kernel
theorem pn_10 : plainName "java/util/ImmutableCollections$ListN" = true := by first | (simp [plainName, overriddenIn]; done) | decide +kernel
theorem rm_size_22 (hw : o_HW Z a0) (H : o_C Z Z.heap w_NW w_DC w_EL w_EA w_EM w_MO w_cacheI c_cacheI k_DC k_EA z_CS) (O : Old Z n0 h0)  :
    o_Met l (⟨s11, s26, "()I"⟩ : MethodName) B14 1 (some .int) [] (o_rm 0 0 0 0) Z #[(.ref w_EL)] h0 (o_R (some (.int 0)) h0) := by
  refine o_met (pN pn_10) ?_
  intro p e s m below meth c T0 hx y hml hown hret hk hnm hZ X0 e0
  obtain ⟨-, -, -, -, -, -, -, -, -, F_EL_elements, -, V_EA, -, -, -, -, -, -, -⟩ := id H
  refine o_ent (ef_2 m w_EL) ?_
  refine qA X0 hx (hb y d15_0) rfl rfl 1 rfl ?_
  refine qF X0 hx hZ hown (host := "") (Or.inl (w hw 140 rfl)) Via.refl e0 (F_EL_elements.ext O.2) (hb y d15_1) 4 rfl fun T1 X1 e1 => ?_
  refine o_alen X1 hx hZ e1 (V_EA.ext O.2) (hb y d15_4) 5 rfl ?_
  exact o_retI X1 hx hk hret (hb y d15_5) ⟨rfl, e1, rfl⟩ (by decide) (by decide)
def Q_rm__init__19 (Z : State) (h0 : Heap) (n0 : Nat) (b0 : Addr) (b1 : Addr) (b2 : Addr) (w_EL : Addr) (v : Option Value) (h : Heap) (L : List Loc) : Prop := v = none ∧ Fr n0 L ∧ Keep h0 h [b0] ∧ Exa Z h b0 s3 ∧ Fld Z h b0 s3 s35 s17 (.ref w_EL)
theorem pd_9 : parseMethodDescriptor "()I" = some ⟨[], some .int⟩ := by decide +kernel
theorem d12_0 : decode B15 0 = .ok (.aload_n 0, 1) := by decide +kernel
theorem d12_1 : decode B15 1 = .ok (.invokespecial 1, 3) := by decide +kernel
theorem d12_4 : decode B15 4 = .ok (.aload_n 0, 1) := by decide +kernel
theorem d12_5 : decode B15 5 = .ok (.new 7, 3) := by decide +kernel
theorem d12_8 : decode B15 8 = .ok (.dup, 1) := by decide +kernel
theorem d12_9 : decode B15 9 = .ok (.invokespecial 9, 3) := by decide +kernel
theorem d12_12 : decode B15 12 = .ok (.putfield 10, 3) := by decide +kernel
theorem d12_15 : decode B15 15 = .ok (.aload_n 0, 1) := by decide +kernel
theorem d12_16 : decode B15 16 = .ok (.aload_n 1, 1) := by decide +kernel
theorem d12_17 : decode B15 17 = .ok (.invokestatic 16, 3) := by decide +kernel
theorem d12_20 : decode B15 20 = .ok (.putfield 22, 3) := by decide +kernel
theorem d12_23 : decode B15 23 = .ok (.aload_n 0, 1) := by decide +kernel
theorem d12_24 : decode B15 24 = .ok (.aload_n 2, 1) := by decide +kernel
theorem d12_25 : decode B15 25 = .ok (.invokestatic 16, 3) := by decide +kernel
theorem d12_28 : decode B15 28 = .ok (.putfield 26, 3) := by decide +kernel
theorem d12_31 : decode B15 31 = .ok (.iconst 0, 1) := by decide +kernel
theorem d12_32 : decode B15 32 = .ok (.istore_n 3, 1) := by decide +kernel
theorem d12_33 : decode B15 33 = .ok (.iload_n 3, 1) := by decide +kernel
theorem d12_34 : decode B15 34 = .ok (.aload_n 0, 1) := by decide +kernel
theorem d12_35 : decode B15 35 = .ok (.getfield 26, 3) := by decide +kernel
theorem d12_38 : decode B15 38 = .ok (.invokeinterface 29 1, 5) := by decide +kernel
theorem d12_43 : decode B15 43 = .ok (.if_icmp .ge 41, 3) := by decide +kernel
theorem d12_84 : decode B15 84 = .ok (.return_, 1) := by decide +kernel
theorem pn_11 : plainName "com/example/lawful_crossing/lawfulcrossing/model/Image" = true := by first | (simp [plainName, overriddenIn]; done) | decide +kernel
theorem ef_6 (m : MethodId) (y0 : Addr) (y1 : Addr) (y2 : Addr) : entryFrame m #[(.ref y0), (.ref y1), (.ref y2)] 4 = mkF m 0 #[.val (.ref y0), .val (.ref y1), .val (.ref y2), .unset] [] := by first | (simp [entryFrame, mkF, argsToLocals, Value.category]; done) | rfl
theorem rm__init__19 (hw : o_HW Z a0) (H : o_C Z Z.heap w_NW w_DC w_EL w_EA w_EM w_MO w_cacheI c_cacheI k_DC k_EA z_CS) (O : Old Z n0 h0) (b0 : Addr) (b1 : Addr) (b2 : Addr) (E_b0 : Exa Z h0 b0 s3) (F_b0_numbers : Fld Z h0 b0 s3 "numbers" s59 .null) (F_b0_processes : Fld Z h0 b0 s3 s72 s17 .null) (F_b0_segments : Fld Z h0 b0 s3 s35 s17 .null) (g_b0 : n0 ≤ b0) (E_b1 : Exa Z h0 b1 s6) (F_b1_size : Fld Z h0 b1 s6 s26 "I" (.int 0)) (E_b2 : Exa Z h0 b2 s6) (F_b2_size : Fld Z h0 b2 s6 s26 "I" (.int 0)) (ne_b0_b1 : b0 ≠ b1) (ne_b0_b2 : b0 ≠ b2) :
    o_Met l (⟨s3, s50, s65⟩ : MethodName) B15 4 none [] (o_rm 3 1 8 38) Z #[(.ref b0), (.ref b1), (.ref b2)] h0 (Q_rm__init__19 Z h0 n0 b0 b1 b2 w_EL) := by
  refine o_met (pN pn_11) ?_
  intro p e s m below meth c T0 hx y hml hown hret hk hnm hZ X0 e0
  obtain ⟨-, -, -, -, -, -, -, -, E_EL, -, -, -, -, -, -, -, -, -, -⟩ := id H
  refine o_ent (ef_6 m b0 b1 b2) ?_
  refine qA X0 hx (hb y d12_0) rfl rfl 1 rfl ?_
  refine o_initO X0 hx hZ hown (w hw 106 rfl) (w hw 24 rfl) (w hw 25 rfl) e0 (by rw [hml]; rfl) (hb y d12_1) (by decide) 0 (Nat.le_of_eq rfl) (by decide) 4 rfl fun T1 X1 e1 => ?_
  refine qA X1 hx (hb y d12_4) rfl rfl 5 rfl ?_
  refine nO X1 hx hZ hown (w hw 107 rfl) (w hw 108 rfl) (w hw 109 rfl) e1 (hb y d12_5) 8 rfl (by decide) (by decide) fun T2 a2 g2 X2 E2 A2 D2 => ?_
  have g_a2 : n0 ≤ a2 := Nat.le_trans (o_osz O) (Nat.le_of_eq g2)
  have z_a2 : h0.size ≤ a2 := Nat.le_trans ((Keep.refl h0 [b0])).1 (Nat.le_of_eq g2)
  have O3 := O.ext E2
  have K3 := Keep.ext (Keep.refl h0 [b0]) E2
  have F2_loadFactor : Fld Z T2.heap a2 s7 s44 "F" (defaultValue .float) := D2 (Or.inr (w hw 122 rfl)) (ty := .float) (by decide)
  have F2_table : Fld Z T2.heap a2 s7 s61 s23 .null := D2 (Or.inl (w hw 374 rfl)) (ty := (.array (.object s5))) (by decide)
  have F2_threshold : Fld Z T2.heap a2 s7 s46 "I" (.int 0) := D2 (Or.inl (w hw 381 rfl)) (ty := .int) (by decide)
  have F2_modCount : Fld Z T2.heap a2 s7 s29 "I" (.int 0) := D2 (Or.inl (w hw 405 rfl)) (ty := .int) (by decide)
  have F2_size : Fld Z T2.heap a2 s7 s26 "I" (.int 0) := D2 (Or.inl (w hw 407 rfl)) (ty := .int) (by decide)
  refine qD X2 hx (hb y d12_8) rfl 9 rfl ?_
  refine kN X2 hx hZ rfl hown (w hw 110 rfl) (w hw 111 rfl) (w hw 109 rfl) (w hw 112 rfl) (by decide) a2 [] [(.ref a2), (.ref b0)] 2 (rm__init__20 l Z a0 T2.heap n0 hw O3 a2 A2 F2_loadFactor F2_modCount F2_size F2_table F2_threshold g_a2) (by decide) (by decide) rfl (by rw [hml]; rfl) (lenOf pd_4 rfl) (Nat.le_of_eq rfl) (hb y d12_9) (by decide) (by decide) 12 rfl fun v4 T4 L4 X4 hQ4 => ?_
  obtain ⟨rfl, Nq4, Kq4, p4_0, p4_1, p4_2, p4_3, p4_4, p4_5⟩ := hQ4
  have O5 := O3.keep Kq4 (allS g_a2 all0)
  have N5 := Fr.app (Fr.nil n0) Nq4
  have K5 := Keep.trans K3 Kq4 (allS (Or.inr z_a2) all0)
  refine o_nV ?_
  have ne7 := o_nl E_b0.lt (Nat.le_refl _) (Nat.le_of_eq g2)
  have f8 := ((F_b0_numbers.ext E2).keep Kq4 (ninS ne7 nin0))
  have f9 := ((E_b0.ext E2).keep Kq4)
  refine qP X4 hx hZ hown (host := "") (Or.inl (w hw 123 rfl)) Via.refl rfl f8 f9 (Or.inr ⟨(w hw 124 rfl), rfl, hnm⟩) (w hw 101 rfl) (ty := (.object s64)) (by decide) rfl rfl (hb y d12_12) 15 rfl fun T6 X6 W6 => ?_
  have O10 := O5.wr W6 g_b0
  have N10 := Fr.snoc X6 N5 g_b0
  have K10 := Keep.wr K5 W6 (Or.inl (by simp))
  refine qA X6 hx (hb y d12_15) rfl rfl 16 rfl ?_
  refine qA X6 hx (hb y d12_16) rfl rfl 17 rfl ?_
  have f12 := (((E_b1.ext E2).keep Kq4).wr W6)
  have ne13 := o_nl E_b1.lt (Nat.le_refl _) (Nat.le_of_eq g2)
  have f14 := (o_fo ((F_b1_size.ext E2).keep Kq4 (ninS ne13 nin0)) W6 ne_b0_b1)
  refine qS X6 hx hZ hown (w hw 125 rfl) (w hw 68 rfl) (w hw 69 rfl) (w hw 70 rfl) (by decide) [(.ref b1)] [(.ref b0)] 1 (rm_copyOf_9 l Z a0 T6.heap n0 hw H O10 b1 f12 f14) (by decide) (by decide) rfl rfl rfl (by rw [hml]; rfl) (lenOf pd_7 rfl) (Nat.le_of_eq rfl) (hb y d12_17) 20 rfl rfl (by decide) (by decide) fun T15 X15 e15 => ?_
  have f17 := (((F_b0_processes.ext E2).keep Kq4 (ninS ne7 nin0)).other W6 (Or.inr (sn_18 hw)))
  have f18 := (f9.wr W6)
  refine qP X15 hx hZ hown (host := "") (Or.inl (w hw 126 rfl)) Via.refl e15 f17 f18 (Or.inr ⟨(w hw 127 rfl), rfl, hnm⟩) (w hw 101 rfl) (ty := (.object s21)) (by decide) rfl rfl (hb y d12_20) 23 rfl fun T16 X16 W16 => ?_
  have O19 := O10.wr W16 g_b0
  have N19 := Fr.snoc X16 N10 g_b0
  have K19 := Keep.wr K10 W16 (Or.inl (by simp))
  refine qA X16 hx (hb y d12_23) rfl rfl 24 rfl ?_
  refine qA X16 hx (hb y d12_24) rfl rfl 25 rfl ?_
  have f21 := ((((E_b2.ext E2).keep Kq4).wr W6).wr W16)
  have ne22 := o_nl E_b2.lt (Nat.le_refl _) (Nat.le_of_eq g2)
  have f23 := (o_fo (o_fo ((F_b2_size.ext E2).keep Kq4 (ninS ne22 nin0)) W6 ne_b0_b2) W16 ne_b0_b2)
  refine qS X16 hx hZ hown (w hw 125 rfl) (w hw 68 rfl) (w hw 69 rfl) (w hw 70 rfl) (by decide) [(.ref b2)] [(.ref b0)] 1 (rm_copyOf_9 l Z a0 T16.heap n0 hw H O19 b2 f21 f23) (by decide) (by decide) rfl rfl rfl (by rw [hml]; rfl) (lenOf pd_7 rfl) (Nat.le_of_eq rfl) (hb y d12_25) 28 rfl rfl (by decide) (by decide) fun T24 X24 e24 => ?_
  have f26 := ((((F_b0_segments.ext E2).keep Kq4 (ninS ne7 nin0)).other W6 (Or.inr (sn_19 hw))).other W16 (Or.inr (sn_20 hw)))
  have f27 := (f18.wr W16)
  refine qP X24 hx hZ hown (host := "") (Or.inl (w hw 128 rfl)) Via.refl e24 f26 f27 (Or.inr ⟨(w hw 129 rfl), rfl, hnm⟩) (w hw 101 rfl) (ty := (.object s21)) (by decide) rfl rfl (hb y d12_28) 31 rfl fun T25 X25 W25 => ?_
  have G25 := Fld.same W25 f26
  have O28 := O19.wr W25 g_b0
  have N28 := Fr.snoc X25 N19 g_b0
  have K28 := Keep.wr K19 W25 (Or.inl (by simp))
  refine qC X25 hx (hb y d12_31) (0 : Int32) rfl 32 rfl ?_
  refine qk X25 hx (hb y d12_32) #[.val (.ref b0), .val (.ref b1), .val (.ref b2), .val (.int 0)] rfl 33 rfl ?_
  refine qI X25 hx (hb y d12_33) rfl 34 rfl ?_
  refine qA X25 hx (hb y d12_34) rfl rfl 35 rfl ?_
  refine qF X25 hx hZ hown (host := "") (Or.inl (w hw 128 rfl)) Via.refl rfl G25 (hb y d12_35) 38 rfl fun T29 X29 e29 => ?_
  refine oC (cI X29 hx hZ hown (w hw 130 rfl) (w hw 131 rfl) (w hw 132 rfl) (w hw 133 rfl) (w hw 134 rfl) (w hw 135 rfl) (w hw 136 rfl) (w hw 137 rfl) (w hw 138 rfl) (w hw 139 rfl) (by decide) (by decide) w_EL [] [(.int 0)] 1 (rm_size_22 l Z a0 T25.heap n0 hw H O28 ) (by decide) (by decide) e29 (E_EL.ext O28.2) (by rw [hml]; rfl) (lenOf pd_9 rfl) (Nat.le_of_eq rfl) (hb y d12_38) 43 rfl (by decide) (by decide)) rfl rfl fun T31 X31 e31 => ?_
  refine o_icmpY X31 hx (hb y d12_43) (flt (by decide : ¬ ((0 : Int32) < (0 : Int32)))).2.1 84 (by decide) (by decide) ?_
  have f32 := (f27.wr W25)
  exact qv X31 hx hk hret (hb y d12_84) (by show Q_rm__init__19 Z h0 n0 b0 b1 b2 w_EL _ T31.heap _; rw [e31]; exact ⟨rfl, N28, K28, f32, G25⟩) (by decide) (by decide)
theorem d17_0 : decode B16 0 = .ok (.aload_n 0, 1) := by decide +kernel
theorem d17_1 : decode B16 1 = .ok (.getfield 26, 3) := by decide +kernel
theorem d17_4 : decode B16 4 = .ok (.areturn, 1) := by decide +kernel
theorem rm_segments_24 (hw : o_HW Z a0) (H : o_C Z Z.heap w_NW w_DC w_EL w_EA w_EM w_MO w_cacheI c_cacheI k_DC k_EA z_CS) (O : Old Z n0 h0) (b0 : Addr) (F_b0_segments : Fld Z h0 b0 s3 s35 s17 (.ref w_EL)) :
    o_Met l (⟨s3, s35, "()Ljava/util/List;"⟩ : MethodName) B16 1 (some (.object s21)) [] (o_rm 0 0 0 0) Z #[(.ref b0)] h0 (o_R (some (.ref w_EL)) h0) := by
  refine o_met (pN pn_11) ?_
  intro p e s m below meth c T0 hx y hml hown hret hk hnm hZ X0 e0
  obtain ⟨-, -, -, -, -, -, -, -, -, -, -, -, -, -, -, -, -, -, -⟩ := id H
  refine o_ent (ef_2 m b0) ?_
  refine qA X0 hx (hb y d17_0) rfl rfl 1 rfl ?_
  refine qF X0 hx hZ hown (host := "") (Or.inl (w hw 128 rfl)) Via.refl e0 F_b0_segments (hb y d17_1) 4 rfl fun T1 X1 e1 => ?_
  exact qR X1 hx hk hret rfl rfl (hb y d17_4) rfl ⟨rfl, e1, rfl⟩ (by decide) (by decide)
def Q_rm__init__26 (Z : State) (h0 : Heap) (n0 : Nat) (b0 : Addr) (w_EL : Addr) (v : Option Value) (h : Heap) (L : List Loc) : Prop := v = none ∧ Fr n0 L ∧ Keep h0 h [b0] ∧ Exa Z h b0 s2 ∧ Fld Z h b0 s2 s41 "I" (.int 0) ∧ Fld Z h b0 s2 s32 "Z" (.int 0) ∧ Fld Z h b0 s2 s55 s17 (.ref w_EL) ∧ Fld Z h b0 s2 s26 "I" (.int 0)
theorem d19_0 : decode B17 0 = .ok (.aload_n 0, 1) := by decide +kernel
theorem d19_1 : decode B17 1 = .ok (.invokespecial 1, 3) := by decide +kernel
theorem d19_4 : decode B17 4 = .ok (.aload_n 0, 1) := by decide +kernel
theorem d19_5 : decode B17 5 = .ok (.aload_n 1, 1) := by decide +kernel
theorem d19_6 : decode B17 6 = .ok (.putfield 7, 3) := by decide +kernel
theorem d19_9 : decode B17 9 = .ok (.aload_n 0, 1) := by decide +kernel
theorem d19_10 : decode B17 10 = .ok (.iload_n 2, 1) := by decide +kernel
theorem d19_11 : decode B17 11 = .ok (.putfield 13, 3) := by decide +kernel
theorem d19_14 : decode B17 14 = .ok (.aload_n 0, 1) := by decide +kernel
theorem d19_15 : decode B17 15 = .ok (.iconst 0, 1) := by decide +kernel
theorem d19_16 : decode B17 16 = .ok (.putfield 17, 3) := by decide +kernel
theorem d19_19 : decode B17 19 = .ok (.aload_n 0, 1) := by decide +kernel
theorem d19_20 : decode B17 20 = .ok (.iconst 0, 1) := by decide +kernel
theorem d19_21 : decode B17 21 = .ok (.putfield 20, 3) := by decide +kernel
theorem d19_24 : decode B17 24 = .ok (.return_, 1) := by decide +kernel
theorem pn_12 : plainName "java/util/ImmutableCollections$ListItr" = true := by first | (simp [plainName, overriddenIn]; done) | decide +kernel
theorem rm__init__26 (hw : o_HW Z a0) (H : o_C Z Z.heap w_NW w_DC w_EL w_EA w_EM w_MO w_cacheI c_cacheI k_DC k_EA z_CS) (O : Old Z n0 h0) (b0 : Addr) (E_b0 : Exa Z h0 b0 s2) (F_b0_cursor : Fld Z h0 b0 s2 s41 "I" (.int 0)) (F_b0_isListIterator : Fld Z h0 b0 s2 s32 "Z" (.int 0)) (F_b0_list : Fld Z h0 b0 s2 s55 s17 .null) (F_b0_size : Fld Z h0 b0 s2 s26 "I" (.int 0)) (g_b0 : n0 ≤ b0) :
    o_Met l (⟨s2, s50, "(Ljava/util/List;I)V"⟩ : MethodName) B17 3 none [] (o_rm 1 0 0 12) Z #[(.ref b0), (.ref w_EL), (.int 0)] h0 (Q_rm__init__26 Z h0 n0 b0 w_EL) := by
  refine o_met (pN pn_12) ?_
  intro p e s m below meth c T0 hx y hml hown hret hk hnm hZ X0 e0
  obtain ⟨-, -, -, -, -, -, -, -, -, -, -, -, -, -, -, -, -, -, -⟩ := id H
  refine o_ent (ef_1 m b0 w_EL (0 : Int32)) ?_
  refine qA X0 hx (hb y d19_0) rfl rfl 1 rfl ?_
  refine o_initO X0 hx hZ hown (w hw 196 rfl) (w hw 24 rfl) (w hw 25 rfl) e0 (by rw [hml]; rfl) (hb y d19_1) (by decide) 0 (Nat.le_of_eq rfl) (by decide) 4 rfl fun T1 X1 e1 => ?_
  refine qA X1 hx (hb y d19_4) rfl rfl 5 rfl ?_
  refine qA X1 hx (hb y d19_5) rfl rfl 6 rfl ?_
  refine qP X1 hx hZ hown (host := "") (Or.inl (w hw 197 rfl)) Via.refl e1 F_b0_list E_b0 (Or.inr ⟨(w hw 198 rfl), rfl, hnm⟩) (w hw 186 rfl) (ty := (.object s21)) (by decide) rfl rfl (hb y d19_6) 9 rfl fun T2 X2 W2 => ?_
  have G2 := Fld.same W2 F_b0_list
  have N3 := Fr.snoc X2 (Fr.nil n0) g_b0
  have K3 := Keep.wr (Keep.refl h0 [b0]) W2 (Or.inl (by simp))
  refine qA X2 hx (hb y d19_9) rfl rfl 10 rfl ?_
  refine qI X2 hx (hb y d19_10) rfl 11 rfl ?_
  have f5 := (F_b0_size.other W2 (Or.inr (sn_49 hw)))
  have f6 := (E_b0.wr W2)
  refine qP X2 hx hZ hown (host := "") (Or.inl (w hw 199 rfl)) Via.refl rfl f5 f6 (Or.inr ⟨(w hw 200 rfl), rfl, hnm⟩) (w hw 186 rfl) (ty := .int) (by decide) rfl rfl (hb y d19_11) 14 rfl fun T4 X4 W4 => ?_
  have G4 := Fld.same W4 f5
  have N7 := Fr.snoc X4 N3 g_b0
  have K7 := Keep.wr K3 W4 (Or.inl (by simp))
  refine qA X4 hx (hb y d19_14) rfl rfl 15 rfl ?_
  refine qC X4 hx (hb y d19_15) (0 : Int32) rfl 16 rfl ?_
  have f9 := ((F_b0_cursor.other W2 (Or.inr (sn_50 hw))).other W4 (Or.inr (sn_51 hw)))
  have f10 := (f6.wr W4)
  refine qP X4 hx hZ hown (host := "") (Or.inl (w hw 201 rfl)) Via.refl rfl f9 f10 (Or.inl (w hw 202 rfl)) (w hw 186 rfl) (ty := .int) (by decide) rfl rfl (hb y d19_16) 19 rfl fun T8 X8 W8 => ?_
  have G8 := Fld.same W8 f9
  have N11 := Fr.snoc X8 N7 g_b0
  have K11 := Keep.wr K7 W8 (Or.inl (by simp))
  refine qA X8 hx (hb y d19_19) rfl rfl 20 rfl ?_
  refine qC X8 hx (hb y d19_20) (0 : Int32) rfl 21 rfl ?_
  have f13 := (((F_b0_isListIterator.other W2 (Or.inr (sn_52 hw))).other W4 (Or.inr (sn_53 hw))).other W8 (Or.inr (sn_54 hw)))
  have f14 := (f10.wr W8)
  refine o_putFN X8 hx hZ hown (w hw 203 rfl) Via.refl rfl ((.int 0)) f13 f14 (Or.inr ⟨(w hw 204 rfl), rfl, hnm⟩) (w hw 186 rfl) (ty := .boolean) (by decide) rfl rfl (hb y d19_21) 24 rfl fun T12 X12 W12 => ?_
  have G12 := Fld.same W12 f13
  have N15 := Fr.snoc X12 N11 g_b0
  have K15 := Keep.wr K11 W12 (Or.inl (by simp))
  have f16 := (f14.wr W12)
  have f17 := (G8.other W12 (Or.inr (Ne.symm (sn_54 hw))))
  have f18 := (((G2.other W4 (Or.inr (Ne.symm (sn_49 hw)))).other W8 (Or.inr (Ne.symm (sn_50 hw)))).other W12 (Or.inr (Ne.symm (sn_52 hw))))
  have f19 := ((G4.other W8 (Or.inr (Ne.symm (sn_51 hw)))).other W12 (Or.inr (Ne.symm (sn_53 hw))))
  exact qv X12 hx hk hret (hb y d19_24) (by show Q_rm__init__26 Z h0 n0 b0 w_EL _ T12.heap _; exact ⟨rfl, N15, K15, f16, f17, G12, f18, f19⟩) (by decide) (by decide)
def Q_rm_iterator_25 (Z : State) (h0 : Heap) (n0 : Nat) (w_EL : Addr) (v : Option Value) (h : Heap) (L : List Loc) : Prop := ∃ (y0 : Addr), v = some (.ref y0) ∧ Fr n0 L ∧ Keep h0 h [] ∧ h0.size ≤ y0 ∧ Exa Z h y0 s2 ∧ Fld Z h y0 s2 s41 "I" (.int 0) ∧ Fld Z h y0 s2 s32 "Z" (.int 0) ∧ Fld Z h y0 s2 s55 s17 (.ref w_EL) ∧ Fld Z h y0 s2 s26 "I" (.int 0)
theorem pd_11 : parseMethodDescriptor "(Ljava/util/List;I)V" = some ⟨[(.object "java/util/List"), .int], none⟩ := by decide +kernel
theorem d18_0 : decode B18 0 = .ok (.new 61, 3) := by decide +kernel
theorem d18_3 : decode B18 3 = .ok (.dup, 1) := by decide +kernel
theorem d18_4 : decode B18 4 = .ok (.aload_n 0, 1) := by decide +kernel
theorem d18_5 : decode B18 5 = .ok (.aload_n 0, 1) := by decide +kernel
theorem d18_6 : decode B18 6 = .ok (.invokevirtual 13, 3) := by decide +kernel
theorem d18_9 : decode B18 9 = .ok (.invokespecial 63, 3) := by decide +kernel
theorem d18_12 : decode B18 12 = .ok (.areturn, 1) := by decide +kernel
theorem pn_13 : plainName "java/util/ImmutableCollections$AbstractImmutableList" = true := by first | (simp [plainName, overriddenIn]; done) | decide +kernel
theorem rm_iterator_25 (hw : o_HW Z a0) (H : o_C Z Z.heap w_NW w_DC w_EL w_EA w_EM w_MO w_cacheI c_cacheI k_DC k_EA z_CS) (O : Old Z n0 h0)  :
    o_Met l (⟨s30, "iterator", "()Ljava/util/Iterator;"⟩ : MethodName) B18 1 (some (.object "java/util/Iterator")) [] (o_rm 2 1 4 27) Z #[(.ref w_EL)] h0 (Q_rm_iterator_25 Z h0 n0  w_EL) := by
  refine o_met (pN pn_13) ?_
  intro p e s m below meth c T0 hx y hml hown hret hk hnm hZ X0 e0
  obtain ⟨-, -, -, -, -, -, -, -, E_EL, -, -, -, -, -, -, -, -, -, -⟩ := id H
  refine o_ent (ef_2 m w_EL) ?_
  refine nO X0 hx hZ hown (w hw 185 rfl) (w hw 186 rfl) (w hw 187 rfl) e0 (hb y d18_0) 3 rfl (by decide) (by decide) fun T1 a1 g1 X1 E1 A1 D1 => ?_
  have g_a1 : n0 ≤ a1 := Nat.le_trans (o_osz O) (Nat.le_of_eq g1)
  have z_a1 : h0.size ≤ a1 := Nat.le_trans ((Keep.refl h0 [])).1 (Nat.le_of_eq g1)
  have O2 := O.ext E1
  have K2 := Keep.ext (Keep.refl h0 []) E1
  have F1_list : Fld Z T1.heap a1 s2 s55 s17 .null := D1 (Or.inr (w hw 198 rfl)) (ty := (.object s21)) (by decide)
  have F1_size : Fld Z T1.heap a1 s2 s26 "I" (.int 0) := D1 (Or.inr (w hw 200 rfl)) (ty := .int) (by decide)
  have F1_cursor : Fld Z T1.heap a1 s2 s41 "I" (.int 0) := D1 (Or.inl (w hw 202 rfl)) (ty := .int) (by decide)
  have F1_isListIterator : Fld Z T1.heap a1 s2 s32 "Z" (.int 0) := D1 (Or.inr (w hw 204 rfl)) (ty := .boolean) (by decide)
  refine qD X1 hx (hb y d18_3) rfl 4 rfl ?_
  refine qA X1 hx (hb y d18_4) rfl rfl 5 rfl ?_
  refine qA X1 hx (hb y d18_5) rfl rfl 6 rfl ?_
  refine o_pureU X1 hx hZ hown (w hw 188 rfl) (w hw 189 rfl) (w hw 190 rfl) (by decide) (w hw 191 rfl) (w hw 134 rfl) (w hw 138 rfl) (w hw 139 rfl) w_EL [] [(.ref w_EL), (.ref a1), (.ref a1)] 3 (rm_size_22 l Z a0 T1.heap n0 hw H O2 ) (by decide) (by decide) rfl rfl rfl (E_EL.ext O2.2) (by rw [hml]; rfl) (lenOf pd_9 rfl) (Nat.le_of_eq rfl) (hb y d18_6) 9 rfl rfl (by decide) (by decide) fun T4 X4 e4 => ?_
  refine kN X4 hx hZ rfl hown (w hw 192 rfl) (w hw 193 rfl) (w hw 187 rfl) (w hw 195 rfl) (by decide) a1 [(.ref w_EL), (.int 0)] [(.ref a1)] 1 (rm__init__26 l Z a0 T1.heap n0 hw H O2 a1 A1 F1_cursor F1_isListIterator F1_list F1_size g_a1) (by decide) (by decide) e4 (by rw [hml]; rfl) (lenOf pd_11 rfl) (Nat.le_of_eq rfl) (hb y d18_9) (by decide) (by decide) 12 rfl fun v5 T5 L5 X5 hQ5 => ?_
  obtain ⟨rfl, Nq5, Kq5, p5_0, p5_1, p5_2, p5_3, p5_4⟩ := hQ5
  have N6 := Fr.app (Fr.nil n0) Nq5
  have K6 := Keep.trans K2 Kq5 (allS (Or.inr z_a1) all0)
  refine o_nV ?_
  exact qR X5 hx hk hret rfl rfl (hb y d18_12) rfl (by show Q_rm_iterator_25 Z h0 n0  w_EL _ T5.heap _; exact ⟨a1, rfl, N6, K6, z_a1, p5_0, p5_1, p5_2, p5_3, p5_4⟩) (by decide) (by decide)
theorem d20_0 : decode B19 0 = .ok (.aload_n 0, 1) := by decide +kernel
theorem d20_1 : decode B19 1 = .ok (.getfield 17, 3) := by decide +kernel
theorem d20_4 : decode B19 4 = .ok (.aload_n 0, 1) := by decide +kernel
theorem d20_5 : decode B19 5 = .ok (.getfield 13, 3) := by decide +kernel
theorem d20_8 : decode B19 8 = .ok (.if_icmp .eq 7, 3) := by decide +kernel
theorem d20_15 : decode B19 15 = .ok (.iconst 0, 1) := by decide +kernel
theorem d20_16 : decode B19 16 = .ok (.ireturn, 1) := by decide +kernel
theorem rm_hasNext_27 (hw : o_HW Z a0) (O : Old Z n0 h0) (b0 : Addr) (F_b0_cursor : Fld Z h0 b0 s2 s41 "I" (.int 0)) (F_b0_size : Fld Z h0 b0 s2 s26 "I" (.int 0)) :
    o_Met l (⟨s2, "hasNext", "()Z"⟩ : MethodName) B19 1 (some .boolean) [] (o_rm 0 0 0 0) Z #[(.ref b0)] h0 (o_R (some (.int 0)) h0) := by
  refine o_met (pN pn_12) ?_
  intro p e s m below meth c T0 hx y hml hown hret hk hnm hZ X0 e0
  refine o_ent (ef_2 m b0) ?_
  refine qA X0 hx (hb y d20_0) rfl rfl 1 rfl ?_
  refine qF X0 hx hZ hown (host := "") (Or.inl (w hw 201 rfl)) Via.refl e0 F_b0_cursor (hb y d20_1) 4 rfl fun T1 X1 e1 => ?_
  refine qA X1 hx (hb y d20_4) rfl rfl 5 rfl ?_
  refine qF X1 hx hZ hown (host := "") (Or.inl (w hw 199 rfl)) Via.refl e1 F_b0_size (hb y d20_5) 8 rfl fun T2 X2 e2 => ?_
  refine o_icmpY X2 hx (hb y d20_8) (teq (by decide : (0 : Int32) = (0 : Int32))).1 15 (by decide) (by decide) ?_
  refine qC X2 hx (hb y d20_15) (0 : Int32) rfl 16 rfl ?_
  exact o_retZ X2 hx hk hret (hb y d20_16) rfl ⟨rfl, e2, rfl⟩ (by decide) (by decide)
def Q_rm__init__23 (Z : State) (h0 : Heap) (n0 : Nat) (b0 : Addr) (b1 : Addr) (v : Option Value) (h : Heap) (L : List Loc) : Prop := ∃ (y0 : Addr) (yk0 : ClassId), v = none ∧ Fr n0 L ∧ Keep h0 h [b0] ∧ h0.size ≤ y0 ∧ Exa Z h b0 s0 ∧ Fld Z h b0 s0 s35 s12 (.ref y0) ∧ Arv Z h y0 yk0 (.object s1) (66 : Int32) [] .null ∧ Exa Z h y0 s12 ∧ Ovr Z yk0 s1
theorem pd_12 : parseMethodDescriptor "()Ljava/util/Iterator;" = some ⟨[], some (.object "java/util/Iterator")⟩ := by decide +kernel
theorem d16_0 : decode B20 0 = .ok (.aload_n 0, 1) := by decide +kernel
theorem d16_1 : decode B20 1 = .ok (.invokespecial 5, 3) := by decide +kernel
theorem d16_4 : decode B20 4 = .ok (.aload_n 0, 1) := by decide +kernel
theorem d16_5 : decode B20 5 = .ok (.bipush 64, 2) := by decide +kernel
theorem d16_7 : decode B20 7 = .ok (.newarray .int, 2) := by decide +kernel
theorem d16_9 : decode B20 9 = .ok (.putfield 11, 3) := by decide +kernel
theorem d16_12 : decode B20 12 = .ok (.aload_n 0, 1) := by decide +kernel
theorem d16_13 : decode B20 13 = .ok (.iconst 4, 1) := by decide +kernel
theorem d16_14 : decode B20 14 = .ok (.newarray .int, 2) := by decide +kernel
theorem d16_16 : decode B20 16 = .ok (.putfield 15, 3) := by decide +kernel
theorem d16_19 : decode B20 19 = .ok (.aload_n 0, 1) := by decide +kernel
theorem d16_20 : decode B20 20 = .ok (.getstatic 18, 3) := by decide +kernel
theorem d16_23 : decode B20 23 = .ok (.newarray .long, 2) := by decide +kernel
theorem d16_25 : decode B20 25 = .ok (.putfield 22, 3) := by decide +kernel
theorem d16_28 : decode B20 28 = .ok (.aload_n 0, 1) := by decide +kernel
theorem d16_29 : decode B20 29 = .ok (.bipush 8, 2) := by decide +kernel
theorem d16_31 : decode B20 31 = .ok (.newarray .long, 2) := by decide +kernel
theorem d16_33 : decode B20 33 = .ok (.putfield 26, 3) := by decide +kernel
theorem d16_36 : decode B20 36 = .ok (.aload_n 0, 1) := by decide +kernel
theorem d16_37 : decode B20 37 = .ok (.aload_n 1, 1) := by decide +kernel
theorem d16_38 : decode B20 38 = .ok (.putfield 29, 3) := by decide +kernel
theorem d16_41 : decode B20 41 = .ok (.aload_n 0, 1) := by decide +kernel
theorem d16_42 : decode B20 42 = .ok (.aload_n 2, 1) := by decide +kernel
theorem d16_43 : decode B20 43 = .ok (.putfield 33, 3) := by decide +kernel
theorem d16_46 : decode B20 46 = .ok (.aload_n 0, 1) := by decide +kernel
theorem d16_47 : decode B20 47 = .ok (.aload_n 2, 1) := by decide +kernel
theorem d16_48 : decode B20 48 = .ok (.invokevirtual 37, 3) := by decide +kernel
theorem d16_51 : decode B20 51 = .ok (.invokeinterface 43 1, 5) := by decide +kernel
theorem d16_56 : decode B20 56 = .ok (.putfield 49, 3) := by decide +kernel
theorem d16_59 : decode B20 59 = .ok (.aload_n 0, 1) := by decide +kernel
theorem d16_60 : decode B20 60 = .ok (.aload_n 0, 1) := by decide +kernel
theorem d16_61 : decode B20 61 = .ok (.getfield 49, 3) := by decide +kernel
theorem d16_64 : decode B20 64 = .ok (.iconst 1, 1) := by decide +kernel
theorem d16_65 : decode B20 65 = .ok (.iadd, 1) := by decide +kernel
theorem d16_66 : decode B20 66 = .ok (.bipush 65, 2) := by decide +kernel
theorem d16_68 : decode B20 68 = .ok (.iadd, 1) := by decide +kernel
theorem d16_69 : decode B20 69 = .ok (.anewarray 52, 3) := by decide +kernel
theorem d16_72 : decode B20 72 = .ok (.putfield 54, 3) := by decide +kernel
theorem d16_75 : decode B20 75 = .ok (.aload_n 2, 1) := by decide +kernel
theorem d16_76 : decode B20 76 = .ok (.invokevirtual 37, 3) := by decide +kernel
theorem d16_79 : decode B20 79 = .ok (.invokeinterface 57 1, 5) := by decide +kernel
theorem d16_84 : decode B20 84 = .ok (.astore_n 3, 1) := by decide +kernel
theorem d16_85 : decode B20 85 = .ok (.aload_n 3, 1) := by decide +kernel
theorem d16_86 : decode B20 86 = .ok (.invokeinterface 61 1, 5) := by decide +kernel
theorem d16_91 : decode B20 91 = .ok (.ifCond .eq 35, 3) := by decide +kernel
theorem d16_126 : decode B20 126 = .ok (.aload_n 0, 1) := by decide +kernel
theorem d16_127 : decode B20 127 = .ok (.aload_n 0, 1) := by decide +kernel
theorem d16_128 : decode B20 128 = .ok (.getfield 54, 3) := by decide +kernel
theorem d16_131 : decode B20 131 = .ok (.arraylength, 1) := by decide +kernel
theorem d16_132 : decode B20 132 = .ok (.anewarray 74, 3) := by decide +kernel
theorem d16_135 : decode B20 135 = .ok (.putfield 76, 3) := by decide +kernel
theorem d16_138 : decode B20 138 = .ok (.return_, 1) := by decide +kernel
theorem pn_14 : plainName "com/example/lawful_crossing/lawfulcrossing/service/ProcessState" = true := by first | (simp [plainName, overriddenIn]; done) | decide +kernel
theorem ef_7 (m : MethodId) (y0 : Addr) (y2 : Addr) : entryFrame m #[(.ref y0), .null, (.ref y2)] 5 = mkF m 0 #[.val (.ref y0), .val .null, .val (.ref y2), .unset, .unset] [] := by first | (simp [entryFrame, mkF, argsToLocals, Value.category]; done) | rfl
theorem rm__init__23 (hw : o_HW Z a0) (H : o_C Z Z.heap w_NW w_DC w_EL w_EA w_EM w_MO w_cacheI c_cacheI k_DC k_EA z_CS) (O : Old Z n0 h0) (b0 : Addr) (b1 : Addr) (E_b0 : Exa Z h0 b0 s0) (F_b0_access : Fld Z h0 b0 s0 s67 s14 .null) (F_b0_declaration : Fld Z h0 b0 s0 s49 s18 .null) (F_b0_image : Fld Z h0 b0 s0 "image" s22 .null) (F_b0_imageSegments : Fld Z h0 b0 s0 s48 "I" (.int 0)) (F_b0_pointers : Fld Z h0 b0 s0 s60 "[J" .null) (F_b0_registerWords : Fld Z h0 b0 s0 s47 "[J" .null) (F_b0_segments : Fld Z h0 b0 s0 s35 s12 .null) (F_b0_stacks : Fld Z h0 b0 s0 s66 "[I" .null) (F_b0_x : Fld Z h0 b0 s0 "x" "[I" .null) (g_b0 : n0 ≤ b0) (E_b1 : Exa Z h0 b1 s3) (F_b1_segments : Fld Z h0 b1 s3 s35 s17 (.ref w_EL)) (ne_b0_b1 : b0 ≠ b1) :
    o_Met l (⟨s0, s50, s31⟩ : MethodName) B20 5 none [] (o_rm 3 7 220 39) Z #[(.ref b0), .null, (.ref b1)] h0 (Q_rm__init__23 Z h0 n0 b0 b1) := by
  refine o_met (pN pn_14) ?_
  intro p e s m below meth c T0 hx y hml hown hret hk hnm hZ X0 e0
  obtain ⟨-, S_PW, -, -, -, -, -, -, E_EL, -, -, -, -, -, -, -, -, -, -⟩ := id H
  refine o_ent (ef_7 m b0 b1) ?_
  refine qA X0 hx (hb y d16_0) rfl rfl 1 rfl ?_
  refine o_initO X0 hx hZ hown (w hw 148 rfl) (w hw 24 rfl) (w hw 25 rfl) e0 (by rw [hml]; rfl) (hb y d16_1) (by decide) 0 (Nat.le_of_eq rfl) (by decide) 4 rfl fun T1 X1 e1 => ?_
  refine qA X1 hx (hb y d16_4) rfl rfl 5 rfl ?_
  refine o_bipush X1 hx (hb y d16_5) (64 : Int32) rfl 7 rfl ?_
  refine o_newP X1 hx hZ (w hw 149 rfl) e1 (hb y d16_7) (by decide) 64 (by decide) (by decide) (by decide) (by decide) "[I" (by decide) 9 rfl fun T2 a2 c2 g2 X2 E2 V2 A2 => ?_
  have O3 := O.ext E2
  have K3 := Keep.ext (Keep.refl h0 [b0]) E2
  have V2 : Arv Z T2.heap a2 c2 .int (64 : Int32) [] (.int 0) := V2
  have f5 := (F_b0_stacks.ext E2)
  have f6 := (E_b0.ext E2)
  refine qP X2 hx hZ hown (host := "") (Or.inl (w hw 150 rfl)) Via.refl rfl f5 f6 (Or.inr ⟨(w hw 151 rfl), rfl, hnm⟩) (w hw 143 rfl) (ty := (.array .int)) (by decide) rfl rfl (hb y d16_9) 12 rfl fun T4 X4 W4 => ?_
  have O7 := O3.wr W4 g_b0
  have N7 := Fr.snoc X4 (Fr.nil n0) g_b0
  have K7 := Keep.wr K3 W4 (Or.inl (by simp))
  refine qA X4 hx (hb y d16_12) rfl rfl 13 rfl ?_
  refine qC X4 hx (hb y d16_13) (4 : Int32) rfl 14 rfl ?_
  refine o_newP X4 hx hZ (w hw 149 rfl) rfl (hb y d16_14) (by decide) 4 (by decide) (by decide) (by decide) (by decide) "[I" (by decide) 16 rfl fun T8 a8 c8 g8 X8 E8 V8 A8 => ?_
  have O9 := O7.ext E8
  have K9 := Keep.ext K7 E8
  have V8 : Arv Z T8.heap a8 c8 .int (4 : Int32) [] (.int 0) := V8
  have f11 := (((F_b0_x.ext E2).other W4 (Or.inr (sn_21 hw))).ext E8)
  have f12 := ((f6.wr W4).ext E8)
  refine qP X8 hx hZ hown (host := "") (Or.inl (w hw 152 rfl)) Via.refl rfl f11 f12 (Or.inr ⟨(w hw 153 rfl), rfl, hnm⟩) (w hw 143 rfl) (ty := (.array .int)) (by decide) rfl rfl (hb y d16_16) 19 rfl fun T10 X10 W10 => ?_
  have O13 := O9.wr W10 g_b0
  have N13 := Fr.snoc X10 N7 g_b0
  have K13 := Keep.wr K9 W10 (Or.inl (by simp))
  refine qA X10 hx (hb y d16_19) rfl rfl 20 rfl ?_
  refine o_getS X10 hx hZ hown (host := "") (Or.inl (w hw 154 rfl)) Via.refl rfl (S_PW.ext O13.2) (hb y d16_20) 23 rfl fun T14 X14 e14 => ?_
  refine o_newP X14 hx hZ (w hw 156 rfl) e14 (hb y d16_23) (by decide) 8 (by decide) (by decide) (by decide) (by decide) "[J" (by decide) 25 rfl fun T15 a15 c15 g15 X15 E15 V15 A15 => ?_
  have O16 := O13.ext E15
  have K16 := Keep.ext K13 E15
  have V15 : Arv Z T15.heap a15 c15 .long (8 : Int32) [] (.long (0 : Int64)) := V15
  have f18 := (((((F_b0_pointers.ext E2).other W4 (Or.inr (sn_22 hw))).ext E8).other W10 (Or.inr (sn_23 hw))).ext E15)
  have f19 := ((f12.wr W10).ext E15)
  refine qP X15 hx hZ hown (host := "") (Or.inl (w hw 157 rfl)) Via.refl rfl f18 f19 (Or.inr ⟨(w hw 158 rfl), rfl, hnm⟩) (w hw 143 rfl) (ty := (.array .long)) (by decide) rfl rfl (hb y d16_25) 28 rfl fun T17 X17 W17 => ?_
  have O20 := O16.wr W17 g_b0
  have N20 := Fr.snoc X17 N13 g_b0
  have K20 := Keep.wr K16 W17 (Or.inl (by simp))
  refine qA X17 hx (hb y d16_28) rfl rfl 29 rfl ?_
  refine o_bipush X17 hx (hb y d16_29) (8 : Int32) rfl 31 rfl ?_
  refine o_newP X17 hx hZ (w hw 156 rfl) rfl (hb y d16_31) (by decide) 8 (by decide) (by decide) (by decide) (by decide) "[J" (by decide) 33 rfl fun T21 a21 c21 g21 X21 E21 V21 A21 => ?_
  have O22 := O20.ext E21
  have K22 := Keep.ext K20 E21
  have V21 : Arv Z T21.heap a21 c21 .long (8 : Int32) [] (.long (0 : Int64)) := V21
  have f24 := (((((((F_b0_registerWords.ext E2).other W4 (Or.inr (sn_24 hw))).ext E8).other W10 (Or.inr (sn_25 hw))).ext E15).other W17 (Or.inr (sn_26 hw))).ext E21)
  have f25 := ((f19.wr W17).ext E21)
  refine qP X21 hx hZ hown (host := "") (Or.inl (w hw 159 rfl)) Via.refl rfl f24 f25 (Or.inr ⟨(w hw 160 rfl), rfl, hnm⟩) (w hw 143 rfl) (ty := (.array .long)) (by decide) rfl rfl (hb y d16_33) 36 rfl fun T23 X23 W23 => ?_
  have O26 := O22.wr W23 g_b0
  have N26 := Fr.snoc X23 N20 g_b0
  have K26 := Keep.wr K22 W23 (Or.inl (by simp))
  refine qA X23 hx (hb y d16_36) rfl rfl 37 rfl ?_
  refine qA X23 hx (hb y d16_37) rfl rfl 38 rfl ?_
  have f28 := ((((((((F_b0_declaration.ext E2).other W4 (Or.inr (sn_27 hw))).ext E8).other W10 (Or.inr (sn_28 hw))).ext E15).other W17 (Or.inr (sn_29 hw))).ext E21).other W23 (Or.inr (sn_30 hw)))
  have f29 := (f25.wr W23)
  refine qP X23 hx hZ hown (host := "") (Or.inl (w hw 161 rfl)) Via.refl rfl f28 f29 (Or.inr ⟨(w hw 162 rfl), rfl, hnm⟩) (w hw 143 rfl) (ty := (.object s19)) (by decide) rfl rfl (hb y d16_38) 41 rfl fun T27 X27 W27 => ?_
  have O30 := O26.wr W27 g_b0
  have N30 := Fr.snoc X27 N26 g_b0
  have K30 := Keep.wr K26 W27 (Or.inl (by simp))
  refine qA X27 hx (hb y d16_41) rfl rfl 42 rfl ?_
  refine qA X27 hx (hb y d16_42) rfl rfl 43 rfl ?_
  have f32 := (((((((((F_b0_image.ext E2).other W4 (Or.inr (sn_31 hw))).ext E8).other W10 (Or.inr (sn_32 hw))).ext E15).other W17 (Or.inr (sn_33 hw))).ext E21).other W23 (Or.inr (sn_34 hw))).other W27 (Or.inr (sn_35 hw)))
  have f33 := (f29.wr W27)
  refine qP X27 hx hZ hown (host := "") (Or.inl (w hw 163 rfl)) Via.refl rfl f32 f33 (Or.inr ⟨(w hw 164 rfl), rfl, hnm⟩) (w hw 143 rfl) (ty := (.object s3)) (by decide) rfl rfl (hb y d16_43) 46 rfl fun T31 X31 W31 => ?_
  have O34 := O30.wr W31 g_b0
  have N34 := Fr.snoc X31 N30 g_b0
  have K34 := Keep.wr K30 W31 (Or.inl (by simp))
  refine qA X31 hx (hb y d16_46) rfl rfl 47 rfl ?_
  refine qA X31 hx (hb y d16_47) rfl rfl 48 rfl ?_
  have f36 := ((((((((((E_b1.ext E2).wr W4).ext E8).wr W10).ext E15).wr W17).ext E21).wr W23).wr W27).wr W31)
  have f37 := (o_fo (o_fo (o_fo ((o_fo ((o_fo ((o_fo (F_b1_segments.ext E2) W4 ne_b0_b1).ext E8) W10 ne_b0_b1).ext E15) W17 ne_b0_b1).ext E21) W23 ne_b0_b1) W27 ne_b0_b1) W31 ne_b0_b1)
  refine qV X31 hx hZ hown (w hw 165 rfl) (w hw 166 rfl) (notFace_of_selects (args := #[]) (mvT hZ (w hw 168 rfl))) (w hw 168 rfl) (w hw 167 rfl) (w hw 102 rfl) (w hw 169 rfl) (by decide) b1 [] [(.ref b0)] 1 (rm_segments_24 l Z a0 T31.heap n0 hw H O34 b1 f37) (by decide) (by decide) rfl rfl rfl f36 (by rw [hml]; rfl) (lenOf pd_6 rfl) (Nat.le_of_eq rfl) (hb y d16_48) 51 rfl rfl (by decide) (by decide) fun T38 X38 e38 => ?_
  refine oC (cI X38 hx hZ hown (w hw 170 rfl) (w hw 131 rfl) (w hw 132 rfl) (w hw 133 rfl) (w hw 134 rfl) (w hw 135 rfl) (w hw 136 rfl) (w hw 137 rfl) (w hw 138 rfl) (w hw 139 rfl) (by decide) (by decide) w_EL [] [(.ref b0)] 1 (rm_size_22 l Z a0 T31.heap n0 hw H O34 ) (by decide) (by decide) e38 (E_EL.ext O34.2) (by rw [hml]; rfl) (lenOf pd_9 rfl) (Nat.le_of_eq rfl) (hb y d16_51) 56 rfl (by decide) (by decide)) rfl rfl fun T40 X40 e40 => ?_
  have f42 := ((((((((((F_b0_imageSegments.ext E2).other W4 (Or.inr (sn_36 hw))).ext E8).other W10 (Or.inr (sn_37 hw))).ext E15).other W17 (Or.inr (sn_38 hw))).ext E21).other W23 (Or.inr (sn_39 hw))).other W27 (Or.inr (sn_40 hw))).other W31 (Or.inr (sn_41 hw)))
  have f43 := (f33.wr W31)
  refine qP X40 hx hZ hown (host := "") (Or.inl (w hw 171 rfl)) Via.refl e40 f42 f43 (Or.inr ⟨(w hw 172 rfl), rfl, hnm⟩) (w hw 143 rfl) (ty := .int) (by decide) rfl rfl (hb y d16_56) 59 rfl fun T41 X41 W41 => ?_
  have G41 := Fld.same W41 f42
  have O44 := O34.wr W41 g_b0
  have N44 := Fr.snoc X41 N34 g_b0
  have K44 := Keep.wr K34 W41 (Or.inl (by simp))
  refine qA X41 hx (hb y d16_59) rfl rfl 60 rfl ?_
  refine qA X41 hx (hb y d16_60) rfl rfl 61 rfl ?_
  refine qF X41 hx hZ hown (host := "") (Or.inl (w hw 171 rfl)) Via.refl rfl G41 (hb y d16_61) 64 rfl fun T45 X45 e45 => ?_
  refine qC X45 hx (hb y d16_64) (1 : Int32) rfl 65 rfl ?_
  refine o_iadd X45 hx (hb y d16_65) 66 rfl ?_
  refine o_topI (1 : Int32) (by decide) ?_
  refine o_bipush X45 hx (hb y d16_66) (65 : Int32) rfl 68 rfl ?_
  refine o_iadd X45 hx (hb y d16_68) 69 rfl ?_
  refine o_topI (66 : Int32) (by decide) ?_
  refine o_newR X45 hx hZ hown (w hw 173 rfl) (w hw 98 rfl) e45 (hb y d16_69) (by decide) 66 (by decide) (by decide) (by decide) (by decide) s12 (by decide) 72 rfl fun T46 a46 c46 g46 X46 E46 V46 A46 P46 => ?_
  have z_a46 : h0.size ≤ a46 := Nat.le_trans (K44).1 (Nat.le_of_eq g46)
  have O47 := O44.ext E46
  have K47 := Keep.ext K44 E46
  have V46 : Arv Z T46.heap a46 c46 (.object s1) (66 : Int32) [] .null := V46
  have f49 := ((((((((((((F_b0_segments.ext E2).other W4 (Or.inr (sn_42 hw))).ext E8).other W10 (Or.inr (sn_43 hw))).ext E15).other W17 (Or.inr (sn_44 hw))).ext E21).other W23 (Or.inr (sn_45 hw))).other W27 (Or.inr (sn_46 hw))).other W31 (Or.inr (sn_47 hw))).other W41 (Or.inr (sn_48 hw))).ext E46)
  have f50 := ((f43.wr W41).ext E46)
  refine qP X46 hx hZ hown (host := "") (Or.inl (w hw 174 rfl)) Via.refl rfl f49 f50 (Or.inr ⟨(w hw 175 rfl), rfl, hnm⟩) (w hw 143 rfl) (ty := (.array (.object s1))) (by decide) rfl rfl (hb y d16_72) 75 rfl fun T48 X48 W48 => ?_
  have G48 := Fld.same W48 f49
  have O51 := O47.wr W48 g_b0
  have N51 := Fr.snoc X48 N44 g_b0
  have K51 := Keep.wr K47 W48 (Or.inl (by simp))
  refine qA X48 hx (hb y d16_75) rfl rfl 76 rfl ?_
  have f53 := (((f36.wr W41).ext E46).wr W48)
  have f54 := (o_fo ((o_fo f37 W41 ne_b0_b1).ext E46) W48 ne_b0_b1)
  refine qV X48 hx hZ hown (w hw 165 rfl) (w hw 166 rfl) (notFace_of_selects (args := #[]) (mvT hZ (w hw 168 rfl))) (w hw 168 rfl) (w hw 167 rfl) (w hw 102 rfl) (w hw 169 rfl) (by decide) b1 [] [] 0 (rm_segments_24 l Z a0 T48.heap n0 hw H O51 b1 f54) (by decide) (by decide) rfl rfl rfl f53 (by rw [hml]; rfl) (lenOf pd_6 rfl) (Nat.le_of_eq rfl) (hb y d16_76) 79 rfl rfl (by decide) (by decide) fun T55 X55 e55 => ?_
  refine kI X55 hx hZ hown (w hw 176 rfl) (w hw 177 rfl) (w hw 178 rfl) (w hw 179 rfl) (w hw 180 rfl) (w hw 181 rfl) (w hw 182 rfl) (w hw 137 rfl) (w hw 183 rfl) (w hw 184 rfl) (by decide) (by decide) w_EL [] [] 0 (rm_iterator_25 l Z a0 T48.heap n0 hw H O51 ) (by decide) (by decide) e55 (E_EL.ext O51.2) (by rw [hml]; rfl) (lenOf pd_12 rfl) (Nat.le_of_eq rfl) (hb y d16_79) 84 rfl (by decide) (by decide) fun v56 T56 L56 X56 hQ56 => ?_
  obtain ⟨q56_0, rfl, Nq56, Kq56, le_q56_0, p56_0, p56_1, p56_2, p56_3, p56_4⟩ := hQ56
  have O57 := O51.keep Kq56 all0
  have N57 := Fr.app N51 Nq56
  have K57 := Keep.trans K51 Kq56 all0
  refine o_nR ?_
  refine qh X56 hx (hb y d16_84) #[.val (.ref b0), .val .null, .val (.ref b1), .val (.ref q56_0), .unset] rfl rfl 85 rfl ?_
  refine qA X56 hx (hb y d16_85) rfl rfl 86 rfl ?_
  refine oC (cI X56 hx hZ hown (w hw 205 rfl) (w hw 206 rfl) (w hw 207 rfl) (w hw 208 rfl) (w hw 209 rfl) (w hw 210 rfl) (w hw 211 rfl) (w hw 212 rfl) (w hw 187 rfl) (w hw 213 rfl) (by decide) (by decide) q56_0 [] [] 0 (rm_hasNext_27 l Z a0 T56.heap n0 hw O57 q56_0 p56_1 p56_4) (by decide) (by decide) rfl p56_0 (by rw [hml]; rfl) (lenOf pd_5 rfl) (Nat.le_of_eq rfl) (hb y d16_86) 91 rfl (by decide) (by decide)) rfl rfl fun T59 X59 e59 => ?_
  refine o_ifY X59 hx (hb y d16_91) ((if0 _ _).trans (teq (by decide : (0 : Int32) = (0 : Int32))).1) 126 (by decide) (by decide) ?_
  refine qA X59 hx (hb y d16_126) rfl rfl 127 rfl ?_
  refine qA X59 hx (hb y d16_127) rfl rfl 128 rfl ?_
  have f60 := (G48.keep Kq56 nin0)
  refine qF X59 hx hZ hown (host := "") (Or.inl (w hw 174 rfl)) Via.refl e59 f60 (hb y d16_128) 131 rfl fun T61 X61 e61 => ?_
  have l64 := (Nat.le_trans (Nat.le_trans (Nat.le_trans (Nat.le_trans (Nat.le_trans (Nat.le_trans (Nat.le_trans (Nat.le_trans (Nat.le_trans (Nat.le_trans E2.1 (Nat.le_of_eq (Wr.size W4).symm)) E8.1) (Nat.le_of_eq (Wr.size W10).symm)) E15.1) (Nat.le_of_eq (Wr.size W17).symm)) E21.1) (Nat.le_of_eq (Wr.size W23).symm)) (Nat.le_of_eq (Wr.size W27).symm)) (Nat.le_of_eq (Wr.size W31).symm)) (Nat.le_of_eq (Wr.size W41).symm))
  have ne63 := o_nl E_b0.lt l64 (Nat.le_of_eq g46)
  have f65 := ((o_vo V46 W48 ne63).keep Kq56 nin0)
  refine o_alen X61 hx hZ e61 f65 (hb y d16_131) 132 rfl ?_
  refine o_newRA X61 hx hZ hown (by decide) (w hw 214 rfl) (w hw 215 rfl) e61 (hb y d16_132) (by decide) 66 (by decide) (by decide) (by decide) (by decide) s14 (by decide) 135 rfl fun T66 a66 c66 g66 X66 E66 V66 A66 P66 => ?_
  have K67 := Keep.ext K57 E66
  have V66 : Arv Z T66.heap a66 c66 (.array (.object s16)) (66 : Int32) [] .null := V66
  have f69 := (((((((((((((((F_b0_access.ext E2).other W4 (Or.inr (sn_55 hw))).ext E8).other W10 (Or.inr (sn_56 hw))).ext E15).other W17 (Or.inr (sn_57 hw))).ext E21).other W23 (Or.inr (sn_58 hw))).other W27 (Or.inr (sn_59 hw))).other W31 (Or.inr (sn_60 hw))).other W41 (Or.inr (sn_61 hw))).ext E46).other W48 (Or.inr (sn_62 hw))).keep Kq56 nin0).ext E66)
  have f70 := (((f50.wr W48).keep Kq56).ext E66)
  refine qP X66 hx hZ hown (host := "") (Or.inl (w hw 216 rfl)) Via.refl rfl f69 f70 (Or.inr ⟨(w hw 217 rfl), rfl, hnm⟩) (w hw 143 rfl) (ty := (.array (.array (.object s16)))) (by decide) rfl rfl (hb y d16_135) 138 rfl fun T68 X68 W68 => ?_
  have N71 := Fr.snoc X68 N57 g_b0
  have K71 := Keep.wr K67 W68 (Or.inl (by simp))
  have f72 := (f70.wr W68)
  have f73 := ((f60.ext E66).other W68 (Or.inr (Ne.symm (sn_62 hw))))
  have f74 := (o_vo (f65.ext E66) W68 ne63)
  have f75 := ((((A46.wr W48).keep Kq56).ext E66).wr W68)
  exact qv X68 hx hk hret (hb y d16_138) (by show Q_rm__init__23 Z h0 n0 b0 b1 _ T68.heap _; exact ⟨a46, c46, rfl, N71, K71, z_a46, f72, f73, f74, f75, P46⟩) (by decide) (by decide)
theorem d21_0 : decode B21 0 = .ok (.iload_n 1, 1) := by decide +kernel
theorem d21_1 : decode B21 1 = .ok (.ifCond .lt 21, 3) := by decide +kernel
theorem d21_22 : decode B21 22 = .ok (.aconst_null, 1) := by decide +kernel
theorem d21_23 : decode B21 23 = .ok (.areturn, 1) := by decide +kernel
theorem ef_8 (m : MethodId) (y0 : Addr) (y1 : Int32) : entryFrame m #[(.ref y0), (.int y1)] 2 = mkF m 0 #[.val (.ref y0), .val (.int y1)] [] := by first | (simp [entryFrame, mkF, argsToLocals, Value.category]; done) | rfl
theorem rm_segment_neg (hw : o_HW Z a0) {b0 : Addr} {ii : Int32} (kn0 : ii < (0 : Int32)) :
    o_Met l (⟨s0, s74, s25⟩ : MethodName) B21 2 (some (.object s1)) [] (o_rm 0 0 0 0) Z #[(.ref b0), (.int ii)] h0 (o_R (some .null) h0) := by
  refine o_met (pN pn_14) ?_
  intro p e s m below meth c T0 hx y hml hown hret hk hnm hZ X0 e0
  refine o_ent (ef_8 m b0 ii) ?_
  refine qI X0 hx (hb y d21_0) rfl 1 rfl ?_
  refine o_ifY X0 hx (hb y d21_1) ((if0 _ _).trans (tlt kn0).1) 22 (by decide) (by decide) ?_
  refine o_aconst_null X0 hx (hb y d21_22) 23 rfl ?_
  exact qR X0 hx hk hret rfl rfl (hb y d21_23) rfl ⟨rfl, e0, rfl⟩ (by decide) (by decide)
theorem d22_0 : decode B22 0 = .ok (.aconst_null, 1) := by decide +kernel
theorem d22_1 : decode B22 1 = .ok (.astore_n 3, 1) := by decide +kernel
theorem d22_2 : decode B22 2 = .ok (.iload_n 2, 1) := by decide +kernel
theorem d22_3 : decode B22 3 = .ok (.iconst 1, 1) := by decide +kernel
theorem d22_4 : decode B22 4 = .ok (.if_icmp .lt 14, 3) := by decide +kernel
theorem d22_18 : decode B22 18 = .ok (.aload_n 3, 1) := by decide +kernel
theorem d22_19 : decode B22 19 = .ok (.areturn, 1) := by decide +kernel
theorem pn_15 : plainName "com/example/lawful_crossing/lawfulcrossing/service/ProcessStateSegmentPinLaw" = true := by first | (simp [plainName, overriddenIn]; done) | decide +kernel
theorem ef_9 (m : MethodId) (y0 : Addr) (y1 : Int32) (y2 : Int32) : entryFrame m #[(.ref y0), (.int y1), (.int y2)] 4 = mkF m 0 #[.val (.ref y0), .val (.int y1), .val (.int y2), .unset] [] := by first | (simp [entryFrame, mkF, argsToLocals, Value.category]; done) | rfl
theorem rm_expected_lo (hw : o_HW Z a0) {b1 : Addr} {kx ii : Int32} (kn0 : ii < (1 : Int32)) :
    o_Met l (⟨s20, s73, s15⟩ : MethodName) B22 4 (some (.object s1)) [] (o_rm 0 0 0 0) Z #[(.ref b1), (.int kx), (.int ii)] h0 (o_R (some .null) h0) := by
  refine o_met (pN pn_15) ?_
  intro p e s m below meth c T0 hx y hml hown hret hk hnm hZ X0 e0
  refine o_ent (ef_9 m b1 kx ii) ?_
  refine o_aconst_null X0 hx (hb y d22_0) 1 rfl ?_
  refine qh X0 hx (hb y d22_1) #[.val (.ref b1), .val (.int kx), .val (.int ii), .val .null] rfl rfl 2 rfl ?_
  refine qI X0 hx (hb y d22_2) rfl 3 rfl ?_
  refine qC X0 hx (hb y d22_3) (1 : Int32) rfl 4 rfl ?_
  refine o_icmpY X0 hx (hb y d22_4) (tlt kn0).1 18 (by decide) (by decide) ?_
  refine qA X0 hx (hb y d22_18) rfl rfl 19 rfl ?_
  exact qR X0 hx hk hret rfl rfl (hb y d22_19) rfl ⟨rfl, e0, rfl⟩ (by decide) (by decide)
theorem d21_4 : decode B21 4 = .ok (.iload_n 1, 1) := by decide +kernel
theorem d21_5 : decode B21 5 = .ok (.aload_n 0, 1) := by decide +kernel
theorem d21_6 : decode B21 6 = .ok (.getfield 54, 3) := by decide +kernel
theorem d21_9 : decode B21 9 = .ok (.arraylength, 1) := by decide +kernel
theorem d21_10 : decode B21 10 = .ok (.if_icmp .ge 12, 3) := by decide +kernel
theorem d21_13 : decode B21 13 = .ok (.aload_n 0, 1) := by decide +kernel
theorem d21_14 : decode B21 14 = .ok (.getfield 54, 3) := by decide +kernel
theorem d21_17 : decode B21 17 = .ok (.iload_n 1, 1) := by decide +kernel
theorem d21_18 : decode B21 18 = .ok (.aaload, 1) := by decide +kernel
theorem d21_19 : decode B21 19 = .ok (.goto 4, 3) := by decide +kernel
theorem rm_segment_nul (hw : o_HW Z a0) {b0 b1 : Addr} {kk : ClassId} {N ii : Int32} {vs : List Value} (F_s : Fld Z h0 b0 s0 s35 s12 (.ref b1)) (V_s : Arv Z h0 b1 kk (.object s1) N vs .null) (kn0 : ¬ (ii < (0 : Int32))) (kn1 : ii < N) (hv : vs.getD ii.toNatClampNeg .null = .null) :
    o_Met l (⟨s0, s74, s25⟩ : MethodName) B21 2 (some (.object s1)) [] (o_rm 0 0 0 0) Z #[(.ref b0), (.int ii)] h0 (o_R (some .null) h0) := by
  refine o_met (pN pn_14) ?_
  intro p e s m below meth c T0 hx y hml hown hret hk hnm hZ X0 e0
  refine o_ent (ef_8 m b0 ii) ?_
  refine qI X0 hx (hb y d21_0) rfl 1 rfl ?_
  refine qN X0 hx (hb y d21_1) ((if0 _ _).trans (flt kn0).1) 4 rfl ?_
  refine qI X0 hx (hb y d21_4) rfl 5 rfl ?_
  refine qA X0 hx (hb y d21_5) rfl rfl 6 rfl ?_
  refine qF X0 hx hZ hown (host := "") (Or.inl (w hw 174 rfl)) Via.refl e0 F_s (hb y d21_6) 9 rfl fun T1 X1 e1 => ?_
  refine o_alen X1 hx hZ e1 V_s (hb y d21_9) 10 rfl ?_
  refine qn X1 hx (hb y d21_10) (tlt kn1).2.1 13 rfl ?_
  refine qA X1 hx (hb y d21_13) rfl rfl 14 rfl ?_
  refine qF X1 hx hZ hown (host := "") (Or.inl (w hw 174 rfl)) Via.refl e1 F_s (hb y d21_14) 17 rfl fun T2 X2 e2 => ?_
  refine qI X2 hx (hb y d21_17) rfl 18 rfl ?_
  refine o_aaload X2 hx hZ e2 V_s rfl .null ⟨kn0, kn1⟩ hv (hb y d21_18) 19 rfl ?_
  refine qG X2 hx (hb y d21_19) 23 (by decide) (by decide) ?_
  exact qR X2 hx hk hret rfl rfl (hb y d21_23) rfl ⟨rfl, e2, rfl⟩ (by decide) (by decide)
theorem d22_7 : decode B22 7 = .ok (.iload_n 2, 1) := by decide +kernel
theorem d22_8 : decode B22 8 = .ok (.iload_n 1, 1) := by decide +kernel
theorem d22_9 : decode B22 9 = .ok (.if_icmp .gt 9, 3) := by decide +kernel
theorem rm_expected_hi (hw : o_HW Z a0) {b1 : Addr} {kx ii : Int32} (kn0 : ¬ (ii < (1 : Int32))) (kn1 : kx < ii) :
    o_Met l (⟨s20, s73, s15⟩ : MethodName) B22 4 (some (.object s1)) [] (o_rm 0 0 0 0) Z #[(.ref b1), (.int kx), (.int ii)] h0 (o_R (some .null) h0) := by
  refine o_met (pN pn_15) ?_
  intro p e s m below meth c T0 hx y hml hown hret hk hnm hZ X0 e0
  refine o_ent (ef_9 m b1 kx ii) ?_
  refine o_aconst_null X0 hx (hb y d22_0) 1 rfl ?_
  refine qh X0 hx (hb y d22_1) #[.val (.ref b1), .val (.int kx), .val (.int ii), .val .null] rfl rfl 2 rfl ?_
  refine qI X0 hx (hb y d22_2) rfl 3 rfl ?_
  refine qC X0 hx (hb y d22_3) (1 : Int32) rfl 4 rfl ?_
  refine qn X0 hx (hb y d22_4) (flt kn0).1 7 rfl ?_
  refine qI X0 hx (hb y d22_7) rfl 8 rfl ?_
  refine qI X0 hx (hb y d22_8) rfl 9 rfl ?_
  refine o_icmpY X0 hx (hb y d22_9) (tlt kn1).2.2.1 18 (by decide) (by decide) ?_
  refine qA X0 hx (hb y d22_18) rfl rfl 19 rfl ?_
  exact qR X0 hx hk hret rfl rfl (hb y d22_19) rfl ⟨rfl, e0, rfl⟩ (by decide) (by decide)
theorem rm_segment_out (hw : o_HW Z a0) {b0 b1 : Addr} {kk : ClassId} {N ii : Int32} {vs : List Value} (F_s : Fld Z h0 b0 s0 s35 s12 (.ref b1)) (V_s : Arv Z h0 b1 kk (.object s1) N vs .null) (kn0 : ¬ (ii < (0 : Int32))) (kn1 : ¬ (ii < N)) :
    o_Met l (⟨s0, s74, s25⟩ : MethodName) B21 2 (some (.object s1)) [] (o_rm 0 0 0 0) Z #[(.ref b0), (.int ii)] h0 (o_R (some .null) h0) := by
  refine o_met (pN pn_14) ?_
  intro p e s m below meth c T0 hx y hml hown hret hk hnm hZ X0 e0
  refine o_ent (ef_8 m b0 ii) ?_
  refine qI X0 hx (hb y d21_0) rfl 1 rfl ?_
  refine qN X0 hx (hb y d21_1) ((if0 _ _).trans (flt kn0).1) 4 rfl ?_
  refine qI X0 hx (hb y d21_4) rfl 5 rfl ?_
  refine qA X0 hx (hb y d21_5) rfl rfl 6 rfl ?_
  refine qF X0 hx hZ hown (host := "") (Or.inl (w hw 174 rfl)) Via.refl e0 F_s (hb y d21_6) 9 rfl fun T1 X1 e1 => ?_
  refine o_alen X1 hx hZ e1 V_s (hb y d21_9) 10 rfl ?_
  refine o_icmpY X1 hx (hb y d21_10) (flt kn1).2.1 22 (by decide) (by decide) ?_
  refine o_aconst_null X1 hx (hb y d21_22) 23 rfl ?_
  exact qR X1 hx hk hret rfl rfl (hb y d21_23) rfl ⟨rfl, e1, rfl⟩ (by decide) (by decide)
theorem d27_0 : decode B23 0 = .ok (.iload_n 0, 1) := by decide +kernel
theorem d27_1 : decode B23 1 = .ok (.iload_n 1, 1) := by decide +kernel
theorem d27_2 : decode B23 2 = .ok (.if_icmp .lt 7, 3) := by decide +kernel
theorem d27_5 : decode B23 5 = .ok (.iload_n 0, 1) := by decide +kernel
theorem d27_6 : decode B23 6 = .ok (.goto 4, 3) := by decide +kernel
theorem d27_10 : decode B23 10 = .ok (.ireturn, 1) := by decide +kernel
theorem ef_10 (m : MethodId) (y0 : Int32) (y1 : Int32) : entryFrame m #[(.int y0), (.int y1)] 2 = mkF m 0 #[.val (.int y0), .val (.int y1)] [] := by first | (simp [entryFrame, mkF, argsToLocals, Value.category]; done) | rfl
theorem rm_max_32 (hw : o_HW Z a0) (O : Old Z n0 h0)  :
    o_Met l (⟨s69, "max", "(II)I"⟩ : MethodName) B23 2 (some .int) [] (o_rm 0 0 0 0) Z #[(.int 10), (.int 1)] h0 (o_R (some (.int 10)) h0) := by
  refine o_met (Jvm.Free.JP.mathPlain rfl (by decide +kernel)) ?_
  intro p e s m below meth c T0 hx y hml hown hret hk hnm hZ X0 e0
  refine o_ent (ef_10 m (10 : Int32) (1 : Int32)) ?_
  refine qI X0 hx (hb y d27_0) rfl 1 rfl ?_
  refine qI X0 hx (hb y d27_1) rfl 2 rfl ?_
  refine qn X0 hx (hb y d27_2) (flt (by decide : ¬ ((10 : Int32) < (1 : Int32)))).1 5 rfl ?_
  refine qI X0 hx (hb y d27_5) rfl 6 rfl ?_
  refine qG X0 hx (hb y d27_6) 10 (by decide) (by decide) ?_
  exact o_retI X0 hx hk hret (hb y d27_10) ⟨rfl, e0, rfl⟩ (by decide) (by decide)
def Q_rm_grow_31 (Z : State) (h0 : Heap) (n0 : Nat) (b0 : Addr) (v : Option Value) (h : Heap) (L : List Loc) : Prop := ∃ (y0 : Addr) (yk0 : ClassId), v = some (.ref y0) ∧ Fr n0 L ∧ Keep h0 h [b0] ∧ h0.size ≤ y0 ∧ Exa Z h b0 s6 ∧ Fld Z h b0 s24 s29 "I" (.int 1) ∧ Fld Z h b0 s6 s27 s10 (.ref y0) ∧ Fld Z h b0 s6 s26 "I" (.int 0) ∧ Arv Z h y0 yk0 (.object s8) (10 : Int32) [] .null ∧ Exa Z h y0 s10 ∧ Ovr Z yk0 s8
theorem pd_16 : parseMethodDescriptor "(II)I" = some ⟨[.int, .int], some .int⟩ := by decide +kernel
theorem d26_0 : decode B24 0 = .ok (.aload_n 0, 1) := by decide +kernel
theorem d26_1 : decode B24 1 = .ok (.getfield 9, 3) := by decide +kernel
theorem d26_4 : decode B24 4 = .ok (.arraylength, 1) := by decide +kernel
theorem d26_5 : decode B24 5 = .ok (.istore_n 2, 1) := by decide +kernel
theorem d26_6 : decode B24 6 = .ok (.iload_n 2, 1) := by decide +kernel
theorem d26_7 : decode B24 7 = .ok (.ifCond .gt 13, 3) := by decide +kernel
theorem d26_10 : decode B24 10 = .ok (.aload_n 0, 1) := by decide +kernel
theorem d26_11 : decode B24 11 = .ok (.getfield 9, 3) := by decide +kernel
theorem d26_14 : decode B24 14 = .ok (.getstatic 39, 3) := by decide +kernel
theorem d26_17 : decode B24 17 = .ok (.if_acmp .eq 28, 3) := by decide +kernel
theorem d26_45 : decode B24 45 = .ok (.aload_n 0, 1) := by decide +kernel
theorem d26_46 : decode B24 46 = .ok (.bipush 10, 2) := by decide +kernel
theorem d26_48 : decode B24 48 = .ok (.iload_n 1, 1) := by decide +kernel
theorem d26_49 : decode B24 49 = .ok (.invokestatic 79, 3) := by decide +kernel
theorem d26_52 : decode B24 52 = .ok (.anewarray 7, 3) := by decide +kernel
theorem d26_55 : decode B24 55 = .ok (.dup_x1, 1) := by decide +kernel
theorem d26_56 : decode B24 56 = .ok (.putfield 9, 3) := by decide +kernel
theorem d26_59 : decode B24 59 = .ok (.areturn, 1) := by decide +kernel
theorem ef_11 (m : MethodId) (y0 : Addr) (y1 : Int32) : entryFrame m #[(.ref y0), (.int y1)] 4 = mkF m 0 #[.val (.ref y0), .val (.int y1), .unset, .unset] [] := by first | (simp [entryFrame, mkF, argsToLocals, Value.category]; done) | rfl
theorem rm_grow_31 (hw : o_HW Z a0) (H : o_C Z Z.heap w_NW w_DC w_EL w_EA w_EM w_MO w_cacheI c_cacheI k_DC k_EA z_CS) (O : Old Z n0 h0) (b0 : Addr) (E_b0 : Exa Z h0 b0 s6) (F_b0_modCount : Fld Z h0 b0 s24 s29 "I" (.int 1)) (F_b0_elementData : Fld Z h0 b0 s6 s27 s10 (.ref w_DC)) (F_b0_size : Fld Z h0 b0 s6 s26 "I" (.int 0)) (g_b0 : n0 ≤ b0) :
    o_Met l (⟨s6, "grow", "(I)[Ljava/lang/Object;"⟩ : MethodName) B24 4 (some (.array (.object s8))) [] (o_rm 1 1 10 14) Z #[(.ref b0), (.int 1)] h0 (Q_rm_grow_31 Z h0 n0 b0) := by
  refine o_met (pN pn_4) ?_
  intro p e s m below meth c T0 hx y hml hown hret hk hnm hZ X0 e0
  obtain ⟨-, -, -, -, S_DC, -, V_DC, -, -, -, -, -, -, -, -, -, -, -, -⟩ := id H
  refine o_ent (ef_11 m b0 (1 : Int32)) ?_
  refine qA X0 hx (hb y d26_0) rfl rfl 1 rfl ?_
  refine qF X0 hx hZ hown (host := "") (Or.inl (w hw 52 rfl)) Via.refl e0 F_b0_elementData (hb y d26_1) 4 rfl fun T1 X1 e1 => ?_
  refine o_alen X1 hx hZ e1 (V_DC.ext O.2) (hb y d26_4) 5 rfl ?_
  refine qk X1 hx (hb y d26_5) #[.val (.ref b0), .val (.int 1), .val (.int 0), .unset] rfl 6 rfl ?_
  refine qI X1 hx (hb y d26_6) rfl 7 rfl ?_
  refine qN X1 hx (hb y d26_7) ((if0 _ _).trans (flt (by decide : ¬ ((0 : Int32) < (0 : Int32)))).2.2.1) 10 rfl ?_
  refine qA X1 hx (hb y d26_10) rfl rfl 11 rfl ?_
  refine qF X1 hx hZ hown (host := "") (Or.inl (w hw 52 rfl)) Via.refl e1 F_b0_elementData (hb y d26_11) 14 rfl fun T2 X2 e2 => ?_
  refine o_getS X2 hx hZ hown (host := "") (Or.inl (w hw 51 rfl)) Via.refl e2 (S_DC.ext O.2) (hb y d26_14) 17 rfl fun T3 X3 e3 => ?_
  refine qm X3 hx true (hb y d26_17) rfl rfl (decide_eq_true rfl) 45 (by decide) (by decide) ?_
  refine qA X3 hx (hb y d26_45) rfl rfl 46 rfl ?_
  refine o_bipush X3 hx (hb y d26_46) (10 : Int32) rfl 48 rfl ?_
  refine qI X3 hx (hb y d26_48) rfl 49 rfl ?_
  refine qS X3 hx hZ hown (w hw 249 rfl) (w hw 250 rfl) (w hw 251 rfl) (w hw 252 rfl) (by decide) [(.int 10), (.int 1)] [(.ref b0)] 1 (rm_max_32 l Z a0 h0 n0 hw O ) (by decide) (by decide) rfl rfl e3 (by rw [hml]; rfl) (lenOf pd_16 rfl) (Nat.le_of_eq rfl) (hb y d26_49) 52 rfl rfl (by decide) (by decide) fun T5 X5 e5 => ?_
  refine o_newR X5 hx hZ hown (w hw 253 rfl) (w hw 254 rfl) e5 (hb y d26_52) (by decide) 10 (by decide) (by decide) (by decide) (by decide) s10 (by decide) 55 rfl fun T6 a6 c6 g6 X6 E6 V6 A6 P6 => ?_
  have z_a6 : h0.size ≤ a6 := Nat.le_trans ((Keep.refl h0 [b0])).1 (Nat.le_of_eq g6)
  have K7 := Keep.ext (Keep.refl h0 [b0]) E6
  have V6 : Arv Z T6.heap a6 c6 (.object s8) (10 : Int32) [] .null := V6
  refine o_dup_x1 X6 hx (hb y d26_55) rfl rfl 56 rfl ?_
  have f9 := (F_b0_elementData.ext E6)
  have f10 := (E_b0.ext E6)
  refine qP X6 hx hZ hown (host := "") (Or.inl (w hw 52 rfl)) Via.refl rfl f9 f10 (Or.inl (w hw 53 rfl)) (w hw 31 rfl) (ty := (.array (.object s8))) (by decide) rfl rfl (hb y d26_56) 59 rfl fun T8 X8 W8 => ?_
  have G8 := Fld.same W8 f9
  have N11 := Fr.snoc X8 (Fr.nil n0) g_b0
  have K11 := Keep.wr K7 W8 (Or.inl (by simp))
  have f12 := (f10.wr W8)
  have f13 := ((F_b0_modCount.ext E6).other W8 (Or.inr (Ne.symm (sn_5 hw))))
  have f14 := ((F_b0_size.ext E6).other W8 (Or.inr (sn_7 hw)))
  have ne16 := o_nl E_b0.lt (Nat.le_refl _) (Nat.le_of_eq g6)
  have f17 := (o_vo V6 W8 ne16)
  have f18 := (A6.wr W8)
  exact qR X8 hx hk hret rfl rfl (hb y d26_59) rfl (by show Q_rm_grow_31 Z h0 n0 b0 _ T8.heap _; exact ⟨a6, c6, rfl, N11, K11, z_a6, f12, f13, G8, f14, f17, f18, P6⟩) (by decide) (by decide)
def Q_rm_grow_30 (Z : State) (h0 : Heap) (n0 : Nat) (b0 : Addr) (v : Option Value) (h : Heap) (L : List Loc) : Prop := ∃ (y0 : Addr) (yk0 : ClassId), v = some (.ref y0) ∧ Fr n0 L ∧ Keep h0 h [b0] ∧ h0.size ≤ y0 ∧ Exa Z h b0 s6 ∧ Fld Z h b0 s24 s29 "I" (.int 1) ∧ Fld Z h b0 s6 s27 s10 (.ref y0) ∧ Fld Z h b0 s6 s26 "I" (.int 0) ∧ Arv Z h y0 yk0 (.object s8) (10 : Int32) [] .null ∧ Exa Z h y0 s10 ∧ Ovr Z yk0 s8
theorem pd_17 : parseMethodDescriptor "(I)[Ljava/lang/Object;" = some ⟨[.int], some (.array (.object "java/lang/Object"))⟩ := by decide +kernel
theorem d25_0 : decode B25 0 = .ok (.aload_n 0, 1) := by decide +kernel
theorem d25_1 : decode B25 1 = .ok (.aload_n 0, 1) := by decide +kernel
theorem d25_2 : decode B25 2 = .ok (.getfield 48, 3) := by decide +kernel
theorem d25_5 : decode B25 5 = .ok (.iconst 1, 1) := by decide +kernel
theorem d25_6 : decode B25 6 = .ok (.iadd, 1) := by decide +kernel
theorem d25_7 : decode B25 7 = .ok (.invokevirtual 69, 3) := by decide +kernel
theorem d25_10 : decode B25 10 = .ok (.areturn, 1) := by decide +kernel
theorem rm_grow_30 (hw : o_HW Z a0) (H : o_C Z Z.heap w_NW w_DC w_EL w_EA w_EM w_MO w_cacheI c_cacheI k_DC k_EA z_CS) (O : Old Z n0 h0) (b0 : Addr) (E_b0 : Exa Z h0 b0 s6) (F_b0_modCount : Fld Z h0 b0 s24 s29 "I" (.int 1)) (F_b0_elementData : Fld Z h0 b0 s6 s27 s10 (.ref w_DC)) (F_b0_size : Fld Z h0 b0 s6 s26 "I" (.int 0)) (g_b0 : n0 ≤ b0) :
    o_Met l (⟨s6, "grow", "()[Ljava/lang/Object;"⟩ : MethodName) B25 1 (some (.array (.object s8))) [] (o_rm 2 1 10 29) Z #[(.ref b0)] h0 (Q_rm_grow_30 Z h0 n0 b0) := by
  refine o_met (pN pn_4) ?_
  intro p e s m below meth c T0 hx y hml hown hret hk hnm hZ X0 e0
  obtain ⟨-, -, -, -, -, -, -, -, -, -, -, -, -, -, -, -, -, -, -⟩ := id H
  refine o_ent (ef_2 m b0) ?_
  refine qA X0 hx (hb y d25_0) rfl rfl 1 rfl ?_
  refine qA X0 hx (hb y d25_1) rfl rfl 2 rfl ?_
  refine qF X0 hx hZ hown (host := "") (Or.inl (w hw 90 rfl)) Via.refl e0 F_b0_size (hb y d25_2) 5 rfl fun T1 X1 e1 => ?_
  refine qC X1 hx (hb y d25_5) (1 : Int32) rfl 6 rfl ?_
  refine o_iadd X1 hx (hb y d25_6) 7 rfl ?_
  refine o_topI (1 : Int32) (by decide) ?_
  refine o_kP X1 hx hZ hown (w hw 244 rfl) (w hw 245 rfl) (w hw 246 rfl) (w hw 31 rfl) (w hw 32 rfl) (w hw 248 rfl) (by decide) b0 [(.int 1)] [] 0 (rm_grow_31 l Z a0 h0 n0 hw H O b0 E_b0 F_b0_modCount F_b0_elementData F_b0_size g_b0) (by decide) (by decide) e1 E_b0 (by rw [hml]; rfl) (lenOf pd_17 rfl) (Nat.le_of_eq rfl) (hb y d25_7) 10 rfl (by decide) (by decide) fun v2 T2 L2 X2 hQ2 => ?_
  obtain ⟨q2_0, qk2_0, rfl, Nq2, Kq2, le_q2_0, p2_0, p2_1, p2_2, p2_3, p2_4, p2_5, p2_6⟩ := hQ2
  have z_q2_0 : h0.size ≤ q2_0 := Nat.le_trans ((Keep.refl h0 [b0])).1 le_q2_0
  have N3 := Fr.app (Fr.nil n0) Nq2
  have K3 := Keep.trans (Keep.refl h0 [b0]) Kq2 (allS (Or.inl (by simp)) all0)
  refine o_nR ?_
  exact qR X2 hx hk hret rfl rfl (hb y d25_10) rfl (by show Q_rm_grow_30 Z h0 n0 b0 _ T2.heap _; exact ⟨q2_0, qk2_0, rfl, N3, K3, z_q2_0, p2_0, p2_1, p2_2, p2_3, p2_4, p2_5, p2_6⟩) (by decide) (by decide)
def Q_rm_add_29 (Z : State) (h0 : Heap) (n0 : Nat) (b0 : Addr) (b1 : Addr) (v : Option Value) (h : Heap) (L : List Loc) : Prop := ∃ (y0 : Addr) (yk0 : ClassId), v = none ∧ Fr n0 L ∧ Keep h0 h [b0] ∧ h0.size ≤ y0 ∧ Exa Z h b0 s6 ∧ Fld Z h b0 s24 s29 "I" (.int 1) ∧ Fld Z h b0 s6 s27 s10 (.ref y0) ∧ Fld Z h b0 s6 s26 "I" (.int 1) ∧ Arv Z h y0 yk0 (.object s8) (10 : Int32) [(.ref b1)] .null ∧ Exa Z h y0 s10 ∧ Ovr Z yk0 s8
theorem pd_18 : parseMethodDescriptor "()[Ljava/lang/Object;" = some ⟨[], some (.array (.object "java/lang/Object"))⟩ := by decide +kernel
theorem d24_0 : decode B26 0 = .ok (.iload_n 3, 1) := by decide +kernel
theorem d24_1 : decode B26 1 = .ok (.aload_n 2, 1) := by decide +kernel
theorem d24_2 : decode B26 2 = .ok (.arraylength, 1) := by decide +kernel
theorem d24_3 : decode B26 3 = .ok (.if_icmp .ne 8, 3) := by decide +kernel
theorem d24_6 : decode B26 6 = .ok (.aload_n 0, 1) := by decide +kernel
theorem d24_7 : decode B26 7 = .ok (.invokevirtual 129, 3) := by decide +kernel
theorem d24_10 : decode B26 10 = .ok (.astore_n 2, 1) := by decide +kernel
theorem d24_11 : decode B26 11 = .ok (.aload_n 2, 1) := by decide +kernel
theorem d24_12 : decode B26 12 = .ok (.iload_n 3, 1) := by decide +kernel
theorem d24_13 : decode B26 13 = .ok (.aload_n 1, 1) := by decide +kernel
theorem d24_14 : decode B26 14 = .ok (.aastore, 1) := by decide +kernel
theorem d24_15 : decode B26 15 = .ok (.aload_n 0, 1) := by decide +kernel
theorem d24_16 : decode B26 16 = .ok (.iload_n 3, 1) := by decide +kernel
theorem d24_17 : decode B26 17 = .ok (.iconst 1, 1) := by decide +kernel
theorem d24_18 : decode B26 18 = .ok (.iadd, 1) := by decide +kernel
theorem d24_19 : decode B26 19 = .ok (.putfield 48, 3) := by decide +kernel
theorem d24_22 : decode B26 22 = .ok (.return_, 1) := by decide +kernel
theorem ef_12 (m : MethodId) (y0 : Addr) (y1 : Addr) (y2 : Addr) (y3 : Int32) : entryFrame m #[(.ref y0), (.ref y1), (.ref y2), (.int y3)] 4 = mkF m 0 #[.val (.ref y0), .val (.ref y1), .val (.ref y2), .val (.int y3)] [] := by first | (simp [entryFrame, mkF, argsToLocals, Value.category]; done) | rfl
theorem rm_add_29 (hw : o_HW Z a0) (H : o_C Z Z.heap w_NW w_DC w_EL w_EA w_EM w_MO w_cacheI c_cacheI k_DC k_EA z_CS) (O : Old Z n0 h0) (b0 : Addr) (b1 : Addr) (E_b0 : Exa Z h0 b0 s6) (F_b0_modCount : Fld Z h0 b0 s24 s29 "I" (.int 1)) (F_b0_elementData : Fld Z h0 b0 s6 s27 s10 (.ref w_DC)) (F_b0_size : Fld Z h0 b0 s6 s26 "I" (.int 0)) (g_b0 : n0 ≤ b0) (E_b1 : Exa Z h0 b1 s1) :
    o_Met l (⟨s6, "add", "(Ljava/lang/Object;[Ljava/lang/Object;I)V"⟩ : MethodName) B26 4 none [] (o_rm 3 1 10 41) Z #[(.ref b0), (.ref b1), (.ref w_DC), (.int 0)] h0 (Q_rm_add_29 Z h0 n0 b0 b1) := by
  refine o_met (pN pn_4) ?_
  intro p e s m below meth c T0 hx y hml hown hret hk hnm hZ X0 e0
  obtain ⟨-, -, -, -, -, -, V_DC, -, -, -, -, -, -, -, -, -, -, -, -⟩ := id H
  refine o_ent (ef_12 m b0 b1 w_DC (0 : Int32)) ?_
  refine qI X0 hx (hb y d24_0) rfl 1 rfl ?_
  refine qA X0 hx (hb y d24_1) rfl rfl 2 rfl ?_
  refine o_alen X0 hx hZ e0 (V_DC.ext O.2) (hb y d24_2) 3 rfl ?_
  refine qn X0 hx (hb y d24_3) (teq (by decide : (0 : Int32) = (0 : Int32))).2 6 rfl ?_
  refine qA X0 hx (hb y d24_6) rfl rfl 7 rfl ?_
  refine o_kP X0 hx hZ hown (w hw 239 rfl) (w hw 240 rfl) (w hw 241 rfl) (w hw 31 rfl) (w hw 32 rfl) (w hw 243 rfl) (by decide) b0 [] [] 0 (rm_grow_30 l Z a0 h0 n0 hw H O b0 E_b0 F_b0_modCount F_b0_elementData F_b0_size g_b0) (by decide) (by decide) e0 E_b0 (by rw [hml]; rfl) (lenOf pd_18 rfl) (Nat.le_of_eq rfl) (hb y d24_7) 10 rfl (by decide) (by decide) fun v1 T1 L1 X1 hQ1 => ?_
  obtain ⟨q1_0, qk1_0, rfl, Nq1, Kq1, le_q1_0, p1_0, p1_1, p1_2, p1_3, p1_4, p1_5, p1_6⟩ := hQ1
  have g_q1_0 : n0 ≤ q1_0 := Nat.le_trans (o_osz O) le_q1_0
  have z_q1_0 : h0.size ≤ q1_0 := Nat.le_trans ((Keep.refl h0 [b0])).1 le_q1_0
  have N2 := Fr.app (Fr.nil n0) Nq1
  have K2 := Keep.trans (Keep.refl h0 [b0]) Kq1 (allS (Or.inl (by simp)) all0)
  refine o_nR ?_
  refine qh X1 hx (hb y d24_10) #[.val (.ref b0), .val (.ref b1), .val (.ref q1_0), .val (.int 0)] rfl rfl 11 rfl ?_
  refine qA X1 hx (hb y d24_11) rfl rfl 12 rfl ?_
  refine qI X1 hx (hb y d24_12) rfl 13 rfl ?_
  refine qA X1 hx (hb y d24_13) rfl rfl 14 rfl ?_
  have V3 : Arv Z T1.heap q1_0 qk1_0 (.object s8) (10 : Int32) [.null] .null := p1_4.pad (pad_rep [] .null 1)
  have f5 := (E_b1.keep Kq1)
  refine o_aastore X1 hx hZ rfl V3 rfl rfl (fun _ u q => Sto.ofV u q p1_6 (Ins.of_exa f5 (w hw 255 rfl))) 0 (by decide) (by decide) (by simp) [(.ref b1)] rfl (hb y d24_14) 15 rfl fun T4 X4 W4 V4 => ?_
  have N6 := Fr.snoc X4 N2 g_q1_0
  have K6 := Keep.wr K2 W4 (Or.inr z_q1_0)
  refine qA X4 hx (hb y d24_15) rfl rfl 16 rfl ?_
  refine qI X4 hx (hb y d24_16) rfl 17 rfl ?_
  refine qC X4 hx (hb y d24_17) (1 : Int32) rfl 18 rfl ?_
  refine o_iadd X4 hx (hb y d24_18) 19 rfl ?_
  refine o_topI (1 : Int32) (by decide) ?_
  have ne8 := o_nl E_b0.lt (Nat.le_refl _) le_q1_0
  have f9 := (p1_3.other W4 (Or.inl ne8))
  have f10 := (p1_0.wr W4)
  refine qP X4 hx hZ hown (host := "") (Or.inl (w hw 90 rfl)) Via.refl rfl f9 f10 (Or.inl (w hw 91 rfl)) (w hw 31 rfl) (ty := .int) (by decide) rfl rfl (hb y d24_19) 22 rfl fun T7 X7 W7 => ?_
  have G7 := Fld.same W7 f9
  have N11 := Fr.snoc X7 N6 g_b0
  have K11 := Keep.wr K6 W7 (Or.inl (by simp))
  have f12 := (f10.wr W7)
  have f13 := ((p1_1.other W4 (Or.inl ne8)).other W7 (Or.inr (Ne.symm (sn_6 hw))))
  have f14 := ((p1_2.other W4 (Or.inl ne8)).other W7 (Or.inr (Ne.symm (sn_7 hw))))
  have f15 := (o_vo V4 W7 ne8)
  have f16 := ((p1_5.wr W4).wr W7)
  exact qv X7 hx hk hret (hb y d24_22) (by show Q_rm_add_29 Z h0 n0 b0 b1 _ T7.heap _; exact ⟨q1_0, qk1_0, rfl, N11, K11, z_q1_0, f12, f13, f14, G7, f15, f16, p1_6⟩) (by decide) (by decide)
def Q_rm_add_28 (Z : State) (h0 : Heap) (n0 : Nat) (b0 : Addr) (b1 : Addr) (v : Option Value) (h : Heap) (L : List Loc) : Prop := ∃ (y0 : Addr) (yk0 : ClassId), v = some (.int 1) ∧ Fr n0 L ∧ Keep h0 h [b0] ∧ h0.size ≤ y0 ∧ Exa Z h b0 s6 ∧ Fld Z h b0 s24 s29 "I" (.int 1) ∧ Fld Z h b0 s6 s27 s10 (.ref y0) ∧ Fld Z h b0 s6 s26 "I" (.int 1) ∧ Arv Z h y0 yk0 (.object s8) (10 : Int32) [(.ref b1)] .null ∧ Exa Z h y0 s10 ∧ Ovr Z yk0 s8
theorem pd_19 : parseMethodDescriptor "(Ljava/lang/Object;[Ljava/lang/Object;I)V" = some ⟨[(.object "java/lang/Object"), (.array (.object "java/lang/Object")), .int], none⟩ := by decide +kernel
theorem d23_0 : decode B27 0 = .ok (.aload_n 0, 1) := by decide +kernel
theorem d23_1 : decode B27 1 = .ok (.dup, 1) := by decide +kernel
theorem d23_2 : decode B27 2 = .ok (.getfield 63, 3) := by decide +kernel
theorem d23_5 : decode B27 5 = .ok (.iconst 1, 1) := by decide +kernel
theorem d23_6 : decode B27 6 = .ok (.iadd, 1) := by decide +kernel
theorem d23_7 : decode B27 7 = .ok (.putfield 63, 3) := by decide +kernel
theorem d23_10 : decode B27 10 = .ok (.aload_n 0, 1) := by decide +kernel
theorem d23_11 : decode B27 11 = .ok (.aload_n 1, 1) := by decide +kernel
theorem d23_12 : decode B27 12 = .ok (.aload_n 0, 1) := by decide +kernel
theorem d23_13 : decode B27 13 = .ok (.getfield 9, 3) := by decide +kernel
theorem d23_16 : decode B27 16 = .ok (.aload_n 0, 1) := by decide +kernel
theorem d23_17 : decode B27 17 = .ok (.getfield 48, 3) := by decide +kernel
theorem d23_20 : decode B27 20 = .ok (.invokevirtual 131, 3) := by decide +kernel
theorem d23_23 : decode B27 23 = .ok (.iconst 1, 1) := by decide +kernel
theorem d23_24 : decode B27 24 = .ok (.ireturn, 1) := by decide +kernel
theorem ef_13 (m : MethodId) (y0 : Addr) (y1 : Addr) : entryFrame m #[(.ref y0), (.ref y1)] 2 = mkF m 0 #[.val (.ref y0), .val (.ref y1)] [] := by first | (simp [entryFrame, mkF, argsToLocals, Value.category]; done) | rfl
theorem rm_add_28 (hw : o_HW Z a0) (H : o_C Z Z.heap w_NW w_DC w_EL w_EA w_EM w_MO w_cacheI c_cacheI k_DC k_EA z_CS) (O : Old Z n0 h0) (b0 : Addr) (b1 : Addr) (E_b0 : Exa Z h0 b0 s6) (F_b0_modCount : Fld Z h0 b0 s24 s29 "I" (.int 0)) (F_b0_elementData : Fld Z h0 b0 s6 s27 s10 (.ref w_DC)) (F_b0_size : Fld Z h0 b0 s6 s26 "I" (.int 0)) (g_b0 : n0 ≤ b0) (E_b1 : Exa Z h0 b1 s1) :
    o_Met l (⟨s6, "add", "(Ljava/lang/Object;)Z"⟩ : MethodName) B27 2 (some .boolean) [] (o_rm 4 1 10 56) Z #[(.ref b0), (.ref b1)] h0 (Q_rm_add_28 Z h0 n0 b0 b1) := by
  refine o_met (pN pn_4) ?_
  intro p e s m below meth c T0 hx y hml hown hret hk hnm hZ X0 e0
  obtain ⟨-, -, -, -, -, -, -, -, -, -, -, -, -, -, -, -, -, -, -⟩ := id H
  refine o_ent (ef_13 m b0 b1) ?_
  refine qA X0 hx (hb y d23_0) rfl rfl 1 rfl ?_
  refine qD X0 hx (hb y d23_1) rfl 2 rfl ?_
  refine qF X0 hx hZ hown (host := "") (Or.inl (w hw 232 rfl)) (Via.of (w hw 233 rfl)) e0 F_b0_modCount (hb y d23_2) 5 rfl fun T1 X1 e1 => ?_
  refine qC X1 hx (hb y d23_5) (1 : Int32) rfl 6 rfl ?_
  refine o_iadd X1 hx (hb y d23_6) 7 rfl ?_
  refine o_topI (1 : Int32) (by decide) ?_
  refine qP X1 hx hZ hown (host := "") (Or.inl (w hw 232 rfl)) (Via.of (w hw 233 rfl)) e1 F_b0_modCount E_b0 (Or.inl (w hw 50 rfl)) (w hw 31 rfl) (ty := .int) (by decide) rfl rfl (hb y d23_7) 10 rfl fun T2 X2 W2 => ?_
  have G2 := Fld.same W2 F_b0_modCount
  have O3 := O.wr W2 g_b0
  have N3 := Fr.snoc X2 (Fr.nil n0) g_b0
  have K3 := Keep.wr (Keep.refl h0 [b0]) W2 (Or.inl (by simp))
  refine qA X2 hx (hb y d23_10) rfl rfl 11 rfl ?_
  refine qA X2 hx (hb y d23_11) rfl rfl 12 rfl ?_
  refine qA X2 hx (hb y d23_12) rfl rfl 13 rfl ?_
  have f4 := (F_b0_elementData.other W2 (Or.inr (sn_5 hw)))
  refine qF X2 hx hZ hown (host := "") (Or.inl (w hw 52 rfl)) Via.refl rfl f4 (hb y d23_13) 16 rfl fun T5 X5 e5 => ?_
  refine qA X5 hx (hb y d23_16) rfl rfl 17 rfl ?_
  have f6 := (F_b0_size.other W2 (Or.inr (sn_6 hw)))
  refine qF X5 hx hZ hown (host := "") (Or.inl (w hw 90 rfl)) Via.refl e5 f6 (hb y d23_17) 20 rfl fun T7 X7 e7 => ?_
  have f9 := (E_b0.wr W2)
  have f10 := (E_b1.wr W2)
  refine o_kP X7 hx hZ hown (w hw 234 rfl) (w hw 235 rfl) (w hw 236 rfl) (w hw 31 rfl) (w hw 32 rfl) (w hw 238 rfl) (by decide) b0 [(.ref b1), (.ref w_DC), (.int 0)] [] 0 (rm_add_29 l Z a0 T2.heap n0 hw H O3 b0 b1 f9 G2 f4 f6 g_b0 f10) (by decide) (by decide) e7 f9 (by rw [hml]; rfl) (lenOf pd_19 rfl) (Nat.le_of_eq rfl) (hb y d23_20) 23 rfl (by decide) (by decide) fun v8 T8 L8 X8 hQ8 => ?_
  obtain ⟨q8_0, qk8_0, rfl, Nq8, Kq8, le_q8_0, p8_0, p8_1, p8_2, p8_3, p8_4, p8_5, p8_6⟩ := hQ8
  have z_q8_0 : h0.size ≤ q8_0 := Nat.le_trans (K3).1 le_q8_0
  have N11 := Fr.app N3 Nq8
  have K11 := Keep.trans K3 Kq8 (allS (Or.inl (by simp)) all0)
  refine o_nV ?_
  refine qC X8 hx (hb y d23_23) (1 : Int32) rfl 24 rfl ?_
  exact o_retZ X8 hx hk hret (hb y d23_24) rfl (by show Q_rm_add_28 Z h0 n0 b0 b1 _ T8.heap _; exact ⟨q8_0, qk8_0, rfl, N11, K11, z_q8_0, p8_0, p8_1, p8_2, p8_3, p8_4, p8_5, p8_6⟩) (by decide) (by decide)
theorem d10_11 : decode B7 11 = .ok (.iconst 0, 1) := by decide +kernel
theorem rm_isEmpty_36 (hw : o_HW Z a0) (O : Old Z n0 h0) (b0 : Addr) (F_b0_size : Fld Z h0 b0 s6 s26 "I" (.int 1)) :
    o_Met l (⟨s6, "isEmpty", "()Z"⟩ : MethodName) B7 1 (some .boolean) [] (o_rm 0 0 0 0) Z #[(.ref b0)] h0 (o_R (some (.int 0)) h0) := by
  refine o_met (pN pn_4) ?_
  intro p e s m below meth c T0 hx y hml hown hret hk hnm hZ X0 e0
  refine o_ent (ef_2 m b0) ?_
  refine qA X0 hx (hb y d10_0) rfl rfl 1 rfl ?_
  refine qF X0 hx hZ hown (host := "") (Or.inl (w hw 90 rfl)) Via.refl e0 F_b0_size (hb y d10_1) 4 rfl fun T1 X1 e1 => ?_
  refine o_ifY X1 hx (hb y d10_4) ((if0 _ _).trans (feq (by decide : ¬ ((1 : Int32) = (0 : Int32)))).2) 11 (by decide) (by decide) ?_
  refine qC X1 hx (hb y d10_11) (0 : Int32) rfl 12 rfl ?_
  exact o_retZ X1 hx hk hret (hb y d10_12) rfl ⟨rfl, e1, rfl⟩ (by decide) (by decide)
theorem d31_0 : decode B28 0 = .ok (.iload_n 0, 1) := by decide +kernel
theorem d31_1 : decode B28 1 = .ok (.iload_n 1, 1) := by decide +kernel
theorem d31_2 : decode B28 2 = .ok (.if_icmp .gt 7, 3) := by decide +kernel
theorem d31_9 : decode B28 9 = .ok (.iload_n 1, 1) := by decide +kernel
theorem d31_10 : decode B28 10 = .ok (.ireturn, 1) := by decide +kernel
theorem rm_min_40 (hw : o_HW Z a0) (O : Old Z n0 h0)  :
    o_Met l (⟨s69, "min", "(II)I"⟩ : MethodName) B28 2 (some .int) [] (o_rm 0 0 0 0) Z #[(.int 10), (.int 1)] h0 (o_R (some (.int 1)) h0) := by
  refine o_met (Jvm.Free.JP.mathPlain rfl (by decide +kernel)) ?_
  intro p e s m below meth c T0 hx y hml hown hret hk hnm hZ X0 e0
  refine o_ent (ef_10 m (10 : Int32) (1 : Int32)) ?_
  refine qI X0 hx (hb y d31_0) rfl 1 rfl ?_
  refine qI X0 hx (hb y d31_1) rfl 2 rfl ?_
  refine o_icmpY X0 hx (hb y d31_2) (tlt (by decide : (1 : Int32) < (10 : Int32))).2.2.1 9 (by decide) (by decide) ?_
  refine qI X0 hx (hb y d31_9) rfl 10 rfl ?_
  exact o_retI X0 hx hk hret (hb y d31_10) ⟨rfl, e0, rfl⟩ (by decide) (by decide)
def Q_rm_copyOf_39 (Z : State) (h0 : Heap) (n0 : Nat) (b0 : Addr) (b1 : Addr) (k_b0 : ClassId) (v : Option Value) (h : Heap) (L : List Loc) : Prop := ∃ (y0 : Addr) (yk0 : ClassId), v = some (.ref y0) ∧ Fr n0 L ∧ Keep h0 h [] ∧ h0.size ≤ y0 ∧ Arv Z h y0 yk0 (.object s8) (1 : Int32) [(.ref b1)] .null ∧ Exa Z h y0 s10 ∧ Ovr Z yk0 s8
theorem d30_0 : decode B29 0 = .ok (.aload_n 2, 1) := by decide +kernel
theorem d30_1 : decode B29 1 = .ok (.ldc 110, 2) := by decide +kernel
theorem d30_3 : decode B29 3 = .ok (.if_acmp .ne 10, 3) := by decide +kernel
theorem d30_6 : decode B29 6 = .ok (.iload_n 1, 1) := by decide +kernel
theorem d30_7 : decode B29 7 = .ok (.anewarray 2, 3) := by decide +kernel
theorem d30_10 : decode B29 10 = .ok (.goto 14, 3) := by decide +kernel
theorem d30_24 : decode B29 24 = .ok (.astore_n 3, 1) := by decide +kernel
theorem d30_25 : decode B29 25 = .ok (.aload_n 0, 1) := by decide +kernel
theorem d30_26 : decode B29 26 = .ok (.iconst 0, 1) := by decide +kernel
theorem d30_27 : decode B29 27 = .ok (.aload_n 3, 1) := by decide +kernel
theorem d30_28 : decode B29 28 = .ok (.iconst 0, 1) := by decide +kernel
theorem d30_29 : decode B29 29 = .ok (.aload_n 0, 1) := by decide +kernel
theorem d30_30 : decode B29 30 = .ok (.arraylength, 1) := by decide +kernel
theorem d30_31 : decode B29 31 = .ok (.iload_n 1, 1) := by decide +kernel
theorem d30_32 : decode B29 32 = .ok (.invokestatic 304, 3) := by decide +kernel
theorem d30_35 : decode B29 35 = .ok (.invokestatic 150, 3) := by decide +kernel
theorem d30_38 : decode B29 38 = .ok (.aload_n 3, 1) := by decide +kernel
theorem d30_39 : decode B29 39 = .ok (.areturn, 1) := by decide +kernel
theorem pn_17 : plainName "java/util/Arrays" = true := by first | (simp [plainName, overriddenIn]; done) | decide +kernel
theorem ef_14 (m : MethodId) (y0 : Addr) (y1 : Int32) (y2 : Addr) : entryFrame m #[(.ref y0), (.int y1), (.ref y2)] 4 = mkF m 0 #[.val (.ref y0), .val (.int y1), .val (.ref y2), .unset] [] := by first | (simp [entryFrame, mkF, argsToLocals, Value.category]; done) | rfl
theorem rm_copyOf_39 (hw : o_HW Z a0) (H : o_C Z Z.heap w_NW w_DC w_EL w_EA w_EM w_MO w_cacheI c_cacheI k_DC k_EA z_CS) (O : Old Z n0 h0) (b0 : Addr) (b1 : Addr) (k_b0 : ClassId) (V_b0 : Arv Z h0 b0 k_b0 (.object s8) (10 : Int32) [(.ref b1)] .null) (E_b1 : Exa Z h0 b1 s1) :
    o_Met l (⟨s51, "copyOf", s57⟩ : MethodName) B29 4 (some (.array (.object s8))) [] (o_rm 1 1 1 30) Z #[(.ref b0), (.int 1), (.ref w_MO)] h0 (Q_rm_copyOf_39 Z h0 n0 b0 b1 k_b0) := by
  refine o_met (pN pn_17) ?_
  intro p e s m below meth c T0 hx y hml hown hret hk hnm hZ X0 e0
  obtain ⟨-, -, -, -, -, -, -, -, -, -, -, -, -, -, -, M_OA, -, -, -⟩ := id H
  refine o_ent (ef_14 m b0 (1 : Int32) w_MO) ?_
  refine qA X0 hx (hb y d30_0) rfl rfl 1 rfl ?_
  refine o_ldcM X0 hx hZ hown (w hw 277 rfl) e0 M_OA (hb y d30_1) 3 rfl fun T1 X1 e1 => ?_
  refine qm X1 hx true (hb y d30_3) rfl rfl (decide_eq_true rfl) 6 (by decide) (by decide) ?_
  refine qI X1 hx (hb y d30_6) rfl 7 rfl ?_
  refine o_newR X1 hx hZ hown (w hw 278 rfl) (w hw 254 rfl) e1 (hb y d30_7) (by decide) 1 (by decide) (by decide) (by decide) (by decide) s10 (by decide) 10 rfl fun T2 a2 c2 g2 X2 E2 V2 A2 P2 => ?_
  have g_a2 : n0 ≤ a2 := Nat.le_trans (o_osz O) (Nat.le_of_eq g2)
  have z_a2 : h0.size ≤ a2 := Nat.le_trans ((Keep.refl h0 [])).1 (Nat.le_of_eq g2)
  have O3 := O.ext E2
  have K3 := Keep.ext (Keep.refl h0 []) E2
  have V2 : Arv Z T2.heap a2 c2 (.object s8) (1 : Int32) [] .null := V2
  refine qG X2 hx (hb y d30_10) 24 (by decide) (by decide) ?_
  refine qh X2 hx (hb y d30_24) #[.val (.ref b0), .val (.int 1), .val (.ref w_MO), .val (.ref a2)] rfl rfl 25 rfl ?_
  refine qA X2 hx (hb y d30_25) rfl rfl 26 rfl ?_
  refine qC X2 hx (hb y d30_26) (0 : Int32) rfl 27 rfl ?_
  refine qA X2 hx (hb y d30_27) rfl rfl 28 rfl ?_
  refine qC X2 hx (hb y d30_28) (0 : Int32) rfl 29 rfl ?_
  refine qA X2 hx (hb y d30_29) rfl rfl 30 rfl ?_
  have f4 := (V_b0.ext E2)
  refine o_alen X2 hx hZ rfl f4 (hb y d30_30) 31 rfl ?_
  refine qI X2 hx (hb y d30_31) rfl 32 rfl ?_
  refine qS X2 hx hZ hown (w hw 279 rfl) (w hw 280 rfl) (w hw 251 rfl) (w hw 281 rfl) (by decide) [(.int 10), (.int 1)] [(.int 0), (.ref a2), (.int 0), (.ref b0)] 4 (rm_min_40 l Z a0 T2.heap n0 hw O3 ) (by decide) (by decide) rfl rfl rfl (by rw [hml]; rfl) (lenOf pd_16 rfl) (Nat.le_of_eq rfl) (hb y d30_32) 35 rfl rfl (by decide) (by decide) fun T6 X6 e6 => ?_
  have V7 : Arv Z T2.heap a2 c2 (.object s8) (1 : Int32) [.null] .null := V2.pad (pad_rep [] .null 1)
  have f9 := (E_b1.ext E2)
  refine o_cpR X6 hx hZ hown (w hw 282 rfl) (w hw 285 rfl) (w hw 283 rfl) (w hw 284 rfl) e6 f4 V7 rfl rfl [(.ref b1)] (fun _ u q => ⟨Sto.ofV u q P2 (Ins.of_exa f9 (w hw 255 rfl)), trivial⟩) (by decide) (by decide) (by decide) (by decide) (by decide) rfl (Nat.le_of_ble_eq_true rfl) [(.ref b1)] rfl (Fr.nil n0) g_a2 (by rw [hml]; rfl) (hb y d30_35) (by decide) 0 (Nat.le_of_eq rfl) (by decide) 38 rfl fun T8 L8 X8 N8 K8 V8 => ?_
  have K10 := Keep.trans K3 K8 (allS (Or.inr z_a2) all0)
  refine qA X8 hx (hb y d30_38) rfl rfl 39 rfl ?_
  have f11 := (A2.keep K8)
  exact qR X8 hx hk hret rfl rfl (hb y d30_39) rfl (by show Q_rm_copyOf_39 Z h0 n0 b0 b1 k_b0 _ T8.heap _; exact ⟨a2, c2, rfl, N8, K10, z_a2, V8, f11, P2⟩) (by decide) (by decide)
def Q_rm_copyOf_38 (Z : State) (h0 : Heap) (n0 : Nat) (b0 : Addr) (b1 : Addr) (k_b0 : ClassId) (v : Option Value) (h : Heap) (L : List Loc) : Prop := ∃ (y0 : Addr) (yk0 : ClassId), v = some (.ref y0) ∧ Fr n0 L ∧ Keep h0 h [] ∧ h0.size ≤ y0 ∧ Arv Z h y0 yk0 (.object s8) (1 : Int32) [(.ref b1)] .null ∧ Exa Z h y0 s10 ∧ Ovr Z yk0 s8
theorem pd_21 : parseMethodDescriptor "([Ljava/lang/Object;ILjava/lang/Class;)[Ljava/lang/Object;" = some ⟨[(.array (.object "java/lang/Object")), .int, (.object "java/lang/Class")], some (.array (.object "java/lang/Object"))⟩ := by decide +kernel
theorem d29_0 : decode B30 0 = .ok (.aload_n 0, 1) := by decide +kernel
theorem d29_1 : decode B30 1 = .ok (.iload_n 1, 1) := by decide +kernel
theorem d29_2 : decode B30 2 = .ok (.aload_n 0, 1) := by decide +kernel
theorem d29_3 : decode B30 3 = .ok (.invokevirtual 86, 3) := by decide +kernel
theorem d29_6 : decode B30 6 = .ok (.invokestatic 300, 3) := by decide +kernel
theorem d29_9 : decode B30 9 = .ok (.areturn, 1) := by decide +kernel
theorem rm_copyOf_38 (hw : o_HW Z a0) (H : o_C Z Z.heap w_NW w_DC w_EL w_EA w_EM w_MO w_cacheI c_cacheI k_DC k_EA z_CS) (O : Old Z n0 h0) (b0 : Addr) (b1 : Addr) (k_b0 : ClassId) (V_b0 : Arv Z h0 b0 k_b0 (.object s8) (10 : Int32) [(.ref b1)] .null) (A_b0 : Exa Z h0 b0 s10) (E_b1 : Exa Z h0 b1 s1) :
    o_Met l (⟨s51, "copyOf", "([Ljava/lang/Object;I)[Ljava/lang/Object;"⟩ : MethodName) B30 2 (some (.array (.object s8))) [] (o_rm 2 1 1 45) Z #[(.ref b0), (.int 1)] h0 (Q_rm_copyOf_38 Z h0 n0 b0 b1 k_b0) := by
  refine o_met (pN pn_17) ?_
  intro p e s m below meth c T0 hx y hml hown hret hk hnm hZ X0 e0
  obtain ⟨-, -, -, -, -, -, -, -, -, -, -, -, -, -, -, M_OA, -, -, -⟩ := id H
  refine o_ent (ef_8 m b0 (1 : Int32)) ?_
  refine qA X0 hx (hb y d29_0) rfl rfl 1 rfl ?_
  refine qI X0 hx (hb y d29_1) rfl 2 rfl ?_
  refine qA X0 hx (hb y d29_2) rfl rfl 3 rfl ?_
  refine o_gcls X0 hx hZ hown (w hw 268 rfl) (w hw 269 rfl) (w hw 79 rfl) (w hw 271 rfl) (w hw 270 rfl) (w hw 272 rfl) e0 A_b0 M_OA (by rw [hml]; rfl) (hb y d29_3) (by decide) 2 (Nat.le_of_eq rfl) (by decide) 6 rfl fun T1 X1 e1 => ?_
  refine kS X1 hx hZ hown (w hw 274 rfl) (w hw 275 rfl) (w hw 266 rfl) (w hw 276 rfl) (by decide) [(.ref b0), (.int 1), (.ref w_MO)] [] 0 (rm_copyOf_39 l Z a0 h0 n0 hw H O b0 b1 k_b0 V_b0 E_b1) (by decide) (by decide) e1 (by rw [hml]; rfl) (lenOf pd_21 rfl) (Nat.le_of_eq rfl) (hb y d29_6) (by decide) (by decide) 9 rfl fun v2 T2 L2 X2 hQ2 => ?_
  obtain ⟨q2_0, qk2_0, rfl, Nq2, Kq2, le_q2_0, p2_0, p2_1, p2_2⟩ := hQ2
  have z_q2_0 : h0.size ≤ q2_0 := Nat.le_trans ((Keep.refl h0 [])).1 le_q2_0
  have N3 := Fr.app (Fr.nil n0) Nq2
  have K3 := Keep.trans (Keep.refl h0 []) Kq2 all0
  refine o_nR ?_
  exact qR X2 hx hk hret rfl rfl (hb y d29_9) rfl (by show Q_rm_copyOf_38 Z h0 n0 b0 b1 k_b0 _ T2.heap _; exact ⟨q2_0, qk2_0, rfl, N3, K3, z_q2_0, p2_0, p2_1, p2_2⟩) (by decide) (by decide)
def Q_rm_toArray_37 (Z : State) (h0 : Heap) (n0 : Nat) (b0 : Addr) (b1 : Addr) (b2 : Addr) (k_b1 : ClassId) (v : Option Value) (h : Heap) (L : List Loc) : Prop := ∃ (y0 : Addr) (yk0 : ClassId), v = some (.ref y0) ∧ Fr n0 L ∧ Keep h0 h [] ∧ h0.size ≤ y0 ∧ Arv Z h y0 yk0 (.object s8) (1 : Int32) [(.ref b2)] .null ∧ Exa Z h y0 s10 ∧ Ovr Z yk0 s8
theorem pd_22 : parseMethodDescriptor "([Ljava/lang/Object;I)[Ljava/lang/Object;" = some ⟨[(.array (.object "java/lang/Object")), .int], some (.array (.object "java/lang/Object"))⟩ := by decide +kernel
theorem d28_0 : decode B31 0 = .ok (.aload_n 0, 1) := by decide +kernel
theorem d28_1 : decode B31 1 = .ok (.getfield 9, 3) := by decide +kernel
theorem d28_4 : decode B31 4 = .ok (.aload_n 0, 1) := by decide +kernel
theorem d28_5 : decode B31 5 = .ok (.getfield 48, 3) := by decide +kernel
theorem d28_8 : decode B31 8 = .ok (.invokestatic 66, 3) := by decide +kernel
theorem d28_11 : decode B31 11 = .ok (.areturn, 1) := by decide +kernel
theorem rm_toArray_37 (hw : o_HW Z a0) (H : o_C Z Z.heap w_NW w_DC w_EL w_EA w_EM w_MO w_cacheI c_cacheI k_DC k_EA z_CS) (O : Old Z n0 h0) (b0 : Addr) (b1 : Addr) (b2 : Addr) (k_b1 : ClassId) (F_b0_elementData : Fld Z h0 b0 s6 s27 s10 (.ref b1)) (F_b0_size : Fld Z h0 b0 s6 s26 "I" (.int 1)) (V_b1 : Arv Z h0 b1 k_b1 (.object s8) (10 : Int32) [(.ref b2)] .null) (A_b1 : Exa Z h0 b1 s10) (E_b2 : Exa Z h0 b2 s1) :
    o_Met l (⟨s6, "toArray", "()[Ljava/lang/Object;"⟩ : MethodName) B31 1 (some (.array (.object s8))) [] (o_rm 3 1 1 58) Z #[(.ref b0)] h0 (Q_rm_toArray_37 Z h0 n0 b0 b1 b2 k_b1) := by
  refine o_met (pN pn_4) ?_
  intro p e s m below meth c T0 hx y hml hown hret hk hnm hZ X0 e0
  obtain ⟨-, -, -, -, -, -, -, -, -, -, -, -, -, -, -, -, -, -, -⟩ := id H
  refine o_ent (ef_2 m b0) ?_
  refine qA X0 hx (hb y d28_0) rfl rfl 1 rfl ?_
  refine qF X0 hx hZ hown (host := "") (Or.inl (w hw 52 rfl)) Via.refl e0 F_b0_elementData (hb y d28_1) 4 rfl fun T1 X1 e1 => ?_
  refine qA X1 hx (hb y d28_4) rfl rfl 5 rfl ?_
  refine qF X1 hx hZ hown (host := "") (Or.inl (w hw 90 rfl)) Via.refl e1 F_b0_size (hb y d28_5) 8 rfl fun T2 X2 e2 => ?_
  refine kS X2 hx hZ hown (w hw 264 rfl) (w hw 265 rfl) (w hw 266 rfl) (w hw 267 rfl) (by decide) [(.ref b1), (.int 1)] [] 0 (rm_copyOf_38 l Z a0 h0 n0 hw H O b1 b2 k_b1 V_b1 A_b1 E_b2) (by decide) (by decide) e2 (by rw [hml]; rfl) (lenOf pd_22 rfl) (Nat.le_of_eq rfl) (hb y d28_8) (by decide) (by decide) 11 rfl fun v3 T3 L3 X3 hQ3 => ?_
  obtain ⟨q3_0, qk3_0, rfl, Nq3, Kq3, le_q3_0, p3_0, p3_1, p3_2⟩ := hQ3
  have z_q3_0 : h0.size ≤ q3_0 := Nat.le_trans ((Keep.refl h0 [])).1 le_q3_0
  have N4 := Fr.app (Fr.nil n0) Nq3
  have K4 := Keep.trans (Keep.refl h0 []) Kq3 all0
  refine o_nR ?_
  exact qR X3 hx hk hret rfl rfl (hb y d28_11) rfl (by show Q_rm_toArray_37 Z h0 n0 b0 b1 b2 k_b1 _ T3.heap _; exact ⟨q3_0, qk3_0, rfl, N4, K4, z_q3_0, p3_0, p3_1, p3_2⟩) (by decide) (by decide)
theorem d35_0 : decode B32 0 = .ok (.aload_n 0, 1) := by decide +kernel
theorem d35_1 : decode B32 1 = .ok (.invokespecial 1, 3) := by decide +kernel
theorem d35_4 : decode B32 4 = .ok (.return_, 1) := by decide +kernel
theorem pn_18 : plainName "java/util/ImmutableCollections$AbstractImmutableCollection" = true := by first | (simp [plainName, overriddenIn]; done) | decide +kernel
theorem rm__init__44 (hw : o_HW Z a0) (O : Old Z n0 h0) (b0 : Addr) :
    o_Met l (⟨"java/util/ImmutableCollections$AbstractImmutableCollection", s50, "()V"⟩ : MethodName) B32 1 none [] (o_rm 2 0 0 24) Z #[(.ref b0)] h0 (o_R (none) h0) := by
  refine o_met (pN pn_18) ?_
  intro p e s m below meth c T0 hx y hml hown hret hk hnm hZ X0 e0
  refine o_ent (ef_2 m b0) ?_
  refine qA X0 hx (hb y d35_0) rfl rfl 1 rfl ?_
  refine vN X0 hx hZ rfl hown (w hw 313 rfl) (w hw 43 rfl) (w hw 46 rfl) (w hw 47 rfl) (by decide) b0 [] [] 0 (rm__init__7 l Z a0 h0 n0 hw O b0) (by decide) (by decide) rfl rfl e0 (by rw [hml]; rfl) (lenOf pd_4 rfl) (Nat.le_of_eq rfl) (hb y d35_1) 4 rfl rfl (by decide) (by decide) fun T2 X2 e2 => ?_
  exact qv X2 hx hk hret (hb y d35_4) ⟨rfl, e2, rfl⟩ (by decide) (by decide)
theorem d34_0 : decode B33 0 = .ok (.aload_n 0, 1) := by decide +kernel
theorem d34_1 : decode B33 1 = .ok (.invokespecial 1, 3) := by decide +kernel
theorem d34_4 : decode B33 4 = .ok (.return_, 1) := by decide +kernel
theorem rm__init__43 (hw : o_HW Z a0) (O : Old Z n0 h0) (b0 : Addr) :
    o_Met l (⟨s30, s50, "()V"⟩ : MethodName) B33 1 none [] (o_rm 3 0 0 36) Z #[(.ref b0)] h0 (o_R (none) h0) := by
  refine o_met (pN pn_13) ?_
  intro p e s m below meth c T0 hx y hml hown hret hk hnm hZ X0 e0
  refine o_ent (ef_2 m b0) ?_
  refine qA X0 hx (hb y d34_0) rfl rfl 1 rfl ?_
  refine vN X0 hx hZ rfl hown (w hw 307 rfl) (w hw 308 rfl) (w hw 311 rfl) (w hw 312 rfl) (by decide) b0 [] [] 0 (rm__init__44 l Z a0 h0 n0 hw O b0) (by decide) (by decide) rfl rfl e0 (by rw [hml]; rfl) (lenOf pd_4 rfl) (Nat.le_of_eq rfl) (hb y d34_1) 4 rfl rfl (by decide) (by decide) fun T2 X2 e2 => ?_
  exact qv X2 hx hk hret (hb y d34_4) ⟨rfl, e2, rfl⟩ (by decide) (by decide)
theorem d36_0 : decode B34 0 = .ok (.aload_n 0, 1) := by decide +kernel
theorem d36_1 : decode B34 1 = .ok (.ifnonnull 11, 3) := by decide +kernel
theorem d36_12 : decode B34 12 = .ok (.aload_n 0, 1) := by decide +kernel
theorem d36_13 : decode B34 13 = .ok (.areturn, 1) := by decide +kernel
theorem pn_19 : plainName "java/util/Objects" = true := by first | (simp [plainName, overriddenIn]; done) | decide +kernel
theorem rm_requireNonNull_45 (hw : o_HW Z a0) (O : Old Z n0 h0) (b0 : Addr) :
    o_Met l (⟨"java/util/Objects", "requireNonNull", "(Ljava/lang/Object;)Ljava/lang/Object;"⟩ : MethodName) B34 1 (some (.object s8)) [] (o_rm 0 0 0 0) Z #[(.ref b0)] h0 (o_R (some (.ref b0)) h0) := by
  refine o_met (pN pn_19) ?_
  intro p e s m below meth c T0 hx y hml hown hret hk hnm hZ X0 e0
  refine o_ent (ef_2 m b0) ?_
  refine qA X0 hx (hb y d36_0) rfl rfl 1 rfl ?_
  refine o_ifnonnullY X0 hx (hb y d36_1) 12 (by decide) (by decide) ?_
  refine qA X0 hx (hb y d36_12) rfl rfl 13 rfl ?_
  exact qR X0 hx hk hret rfl rfl (hb y d36_13) rfl ⟨rfl, e0, rfl⟩ (by decide) (by decide)
def Q_rm__init__42 (Z : State) (h0 : Heap) (n0 : Nat) (b0 : Addr) (b1 : Addr) (w_EM : Addr) (v : Option Value) (h : Heap) (L : List Loc) : Prop := v = none ∧ Fr n0 L ∧ Keep h0 h [b0] ∧ Exa Z h b0 s9 ∧ Fld Z h b0 s9 "e0" s13 (.ref b1) ∧ Fld Z h b0 s9 "e1" s13 (.ref w_EM)
theorem pd_23 : parseMethodDescriptor "(Ljava/lang/Object;)Ljava/lang/Object;" = some ⟨[(.object "java/lang/Object")], some (.object "java/lang/Object")⟩ := by decide +kernel
theorem d33_0 : decode B35 0 = .ok (.aload_n 0, 1) := by decide +kernel
theorem d33_1 : decode B35 1 = .ok (.invokespecial 1, 3) := by decide +kernel
theorem d33_4 : decode B35 4 = .ok (.aload_n 0, 1) := by decide +kernel
theorem d33_5 : decode B35 5 = .ok (.aload_n 1, 1) := by decide +kernel
theorem d33_6 : decode B35 6 = .ok (.invokestatic 7, 3) := by decide +kernel
theorem d33_9 : decode B35 9 = .ok (.putfield 13, 3) := by decide +kernel
theorem d33_12 : decode B35 12 = .ok (.aload_n 0, 1) := by decide +kernel
theorem d33_13 : decode B35 13 = .ok (.getstatic 19, 3) := by decide +kernel
theorem d33_16 : decode B35 16 = .ok (.putfield 24, 3) := by decide +kernel
theorem d33_19 : decode B35 19 = .ok (.return_, 1) := by decide +kernel
theorem pn_20 : plainName "java/util/ImmutableCollections$List12" = true := by first | (simp [plainName, overriddenIn]; done) | decide +kernel
theorem rm__init__42 (hw : o_HW Z a0) (H : o_C Z Z.heap w_NW w_DC w_EL w_EA w_EM w_MO w_cacheI c_cacheI k_DC k_EA z_CS) (O : Old Z n0 h0) (b0 : Addr) (b1 : Addr) (E_b0 : Exa Z h0 b0 s9) (F_b0_e0 : Fld Z h0 b0 s9 "e0" s13 .null) (F_b0_e1 : Fld Z h0 b0 s9 "e1" s13 .null) (g_b0 : n0 ≤ b0) :
    o_Met l (⟨s9, s50, "(Ljava/lang/Object;)V"⟩ : MethodName) B35 2 none [] (o_rm 4 0 0 48) Z #[(.ref b0), (.ref b1)] h0 (Q_rm__init__42 Z h0 n0 b0 b1 w_EM) := by
  refine o_met (pN pn_20) ?_
  intro p e s m below meth c T0 hx y hml hown hret hk hnm hZ X0 e0
  obtain ⟨-, -, -, -, -, -, -, -, -, -, -, -, -, S_EM, -, -, -, -, -⟩ := id H
  refine o_ent (ef_13 m b0 b1) ?_
  refine qA X0 hx (hb y d33_0) rfl rfl 1 rfl ?_
  refine vN X0 hx hZ rfl hown (w hw 431 rfl) (w hw 303 rfl) (w hw 183 rfl) (w hw 306 rfl) (by decide) b0 [] [] 0 (rm__init__43 l Z a0 h0 n0 hw O b0) (by decide) (by decide) rfl rfl e0 (by rw [hml]; rfl) (lenOf pd_4 rfl) (Nat.le_of_eq rfl) (hb y d33_1) 4 rfl rfl (by decide) (by decide) fun T2 X2 e2 => ?_
  refine qA X2 hx (hb y d33_4) rfl rfl 5 rfl ?_
  refine qA X2 hx (hb y d33_5) rfl rfl 6 rfl ?_
  refine qS X2 hx hZ hown (w hw 435 rfl) (w hw 294 rfl) (w hw 295 rfl) (w hw 296 rfl) (by decide) [(.ref b1)] [(.ref b0)] 1 (rm_requireNonNull_45 l Z a0 h0 n0 hw O b1) (by decide) (by decide) rfl rfl e2 (by rw [hml]; rfl) (lenOf pd_23 rfl) (Nat.le_of_eq rfl) (hb y d33_6) 9 rfl rfl (by decide) (by decide) fun T4 X4 e4 => ?_
  refine qP X4 hx hZ hown (host := "") (Or.inl (w hw 436 rfl)) Via.refl e4 F_b0_e0 E_b0 (Or.inr ⟨(w hw 437 rfl), rfl, hnm⟩) (w hw 425 rfl) (ty := (.object s8)) (by decide) rfl rfl (hb y d33_9) 12 rfl fun T5 X5 W5 => ?_
  have G5 := Fld.same W5 F_b0_e0
  have O6 := O.wr W5 g_b0
  have N6 := Fr.snoc X5 (Fr.nil n0) g_b0
  have K6 := Keep.wr (Keep.refl h0 [b0]) W5 (Or.inl (by simp))
  refine qA X5 hx (hb y d33_12) rfl rfl 13 rfl ?_
  refine o_getS X5 hx hZ hown (Or.inr (w hw 446 rfl)) Via.refl rfl (S_EM.ext O6.2) (hb y d33_13) 16 rfl fun T7 X7 e7 => ?_
  have f9 := (F_b0_e1.other W5 (Or.inr (sn_63 hw)))
  have f10 := (E_b0.wr W5)
  refine qP X7 hx hZ hown (host := "") (Or.inl (w hw 438 rfl)) Via.refl e7 f9 f10 (Or.inr ⟨(w hw 439 rfl), rfl, hnm⟩) (w hw 425 rfl) (ty := (.object s8)) (by decide) rfl rfl (hb y d33_16) 19 rfl fun T8 X8 W8 => ?_
  have G8 := Fld.same W8 f9
  have N11 := Fr.snoc X8 N6 g_b0
  have K11 := Keep.wr K6 W8 (Or.inl (by simp))
  have f12 := (f10.wr W8)
  have f13 := (G5.other W8 (Or.inr (Ne.symm (sn_63 hw))))
  exact qv X8 hx hk hret (hb y d33_19) (by show Q_rm__init__42 Z h0 n0 b0 b1 w_EM _ T8.heap _; exact ⟨rfl, N11, K11, f12, f13, G8⟩) (by decide) (by decide)
def Q_rm_of_41 (Z : State) (h0 : Heap) (n0 : Nat) (b0 : Addr) (b1 : Addr) (k_b0 : ClassId) (w_EM : Addr) (v : Option Value) (h : Heap) (L : List Loc) : Prop := ∃ (y0 : Addr), v = some (.ref y0) ∧ Fr n0 L ∧ Keep h0 h [] ∧ h0.size ≤ y0 ∧ Exa Z h y0 s9 ∧ Fld Z h y0 s9 "e0" s13 (.ref b1) ∧ Fld Z h y0 s9 "e1" s13 (.ref w_EM)
theorem pd_24 : parseMethodDescriptor "(Ljava/lang/Object;)V" = some ⟨[(.object "java/lang/Object")], none⟩ := by decide +kernel
theorem d32_0 : decode B36 0 = .ok (.aload_n 0, 1) := by decide +kernel
theorem d32_1 : decode B36 1 = .ok (.arraylength, 1) := by decide +kernel
theorem d32_2 : decode B36 2 = .ok (.tableswitch 57 0 2 #[26, 32, 43], 26) := by decide +kernel
theorem d32_34 : decode B36 34 = .ok (.new 96, 3) := by decide +kernel
theorem d32_37 : decode B36 37 = .ok (.dup, 1) := by decide +kernel
theorem d32_38 : decode B36 38 = .ok (.aload_n 0, 1) := by decide +kernel
theorem d32_39 : decode B36 39 = .ok (.iconst 0, 1) := by decide +kernel
theorem d32_40 : decode B36 40 = .ok (.aaload, 1) := by decide +kernel
theorem d32_41 : decode B36 41 = .ok (.invokespecial 98, 3) := by decide +kernel
theorem d32_44 : decode B36 44 = .ok (.areturn, 1) := by decide +kernel
theorem rm_of_41 (hw : o_HW Z a0) (H : o_C Z Z.heap w_NW w_DC w_EL w_EA w_EM w_MO w_cacheI c_cacheI k_DC k_EA z_CS) (O : Old Z n0 h0) (b0 : Addr) (b1 : Addr) (k_b0 : ClassId) (V_b0 : Arv Z h0 b0 k_b0 (.object s8) (1 : Int32) [(.ref b1)] .null) :
    o_Met l (⟨s21, "of", s63⟩ : MethodName) B36 2 (some (.object s21)) [] (o_rm 5 1 2 62) Z #[(.ref b0)] h0 (Q_rm_of_41 Z h0 n0 b0 b1 k_b0 w_EM) := by
  refine o_met (pN pn_5) ?_
  intro p e s m below meth c T0 hx y hml hown hret hk hnm hZ X0 e0
  obtain ⟨-, -, -, -, -, -, -, -, -, -, -, -, -, -, -, -, -, -, -⟩ := id H
  refine o_ent (ef_4 m b0) ?_
  refine qA X0 hx (hb y d32_0) rfl rfl 1 rfl ?_
  refine o_alen X0 hx hZ e0 V_b0 (hb y d32_1) 2 rfl ?_
  refine o_tsw X0 hx 32 (hb y d32_2) (by decide) (by decide) 34 (by decide) (by decide) ?_
  refine nO X0 hx hZ hown (w hw 424 rfl) (w hw 425 rfl) (w hw 426 rfl) e0 (hb y d32_34) 37 rfl (by decide) (by decide) fun T1 a1 g1 X1 E1 A1 D1 => ?_
  have g_a1 : n0 ≤ a1 := Nat.le_trans (o_osz O) (Nat.le_of_eq g1)
  have z_a1 : h0.size ≤ a1 := Nat.le_trans ((Keep.refl h0 [])).1 (Nat.le_of_eq g1)
  have O2 := O.ext E1
  have K2 := Keep.ext (Keep.refl h0 []) E1
  have F1_e0 : Fld Z T1.heap a1 s9 "e0" s13 .null := D1 (Or.inr (w hw 437 rfl)) (ty := (.object s8)) (by decide)
  have F1_e1 : Fld Z T1.heap a1 s9 "e1" s13 .null := D1 (Or.inr (w hw 439 rfl)) (ty := (.object s8)) (by decide)
  refine qD X1 hx (hb y d32_37) rfl 38 rfl ?_
  refine qA X1 hx (hb y d32_38) rfl rfl 39 rfl ?_
  refine qC X1 hx (hb y d32_39) (0 : Int32) rfl 40 rfl ?_
  have f3 := (V_b0.ext E1)
  refine o_aaload X1 hx hZ rfl f3 rfl (.ref b1) (by decide) rfl (hb y d32_40) 41 rfl ?_
  refine kN X1 hx hZ rfl hown (w hw 455 rfl) (w hw 456 rfl) (w hw 426 rfl) (w hw 457 rfl) (by decide) a1 [(.ref b1)] [(.ref a1)] 1 (rm__init__42 l Z a0 T1.heap n0 hw H O2 a1 b1 A1 F1_e0 F1_e1 g_a1) (by decide) (by decide) rfl (by rw [hml]; rfl) (lenOf pd_24 rfl) (Nat.le_of_eq rfl) (hb y d32_41) (by decide) (by decide) 44 rfl fun v4 T4 L4 X4 hQ4 => ?_
  obtain ⟨rfl, Nq4, Kq4, p4_0, p4_1, p4_2⟩ := hQ4
  have N5 := Fr.app (Fr.nil n0) Nq4
  have K5 := Keep.trans K2 Kq4 (allS (Or.inr z_a1) all0)
  refine o_nV ?_
  exact qR X4 hx hk hret rfl rfl (hb y d32_44) rfl (by show Q_rm_of_41 Z h0 n0 b0 b1 k_b0 w_EM _ T4.heap _; exact ⟨a1, rfl, N5, K5, z_a1, p4_0, p4_1, p4_2⟩) (by decide) (by decide)
def Q_rm_listCopy_35 (Z : State) (h0 : Heap) (n0 : Nat) (b0 : Addr) (b1 : Addr) (b2 : Addr) (k_b1 : ClassId) (w_EM : Addr) (v : Option Value) (h : Heap) (L : List Loc) : Prop := ∃ (y0 : Addr), v = some (.ref y0) ∧ Fr n0 L ∧ Keep h0 h [] ∧ h0.size ≤ y0 ∧ Exa Z h y0 s9 ∧ Fld Z h y0 s9 "e0" s13 (.ref b2) ∧ Fld Z h y0 s9 "e1" s13 (.ref w_EM)
theorem pd_25 : parseMethodDescriptor "([Ljava/lang/Object;)Ljava/util/List;" = some ⟨[(.array (.object "java/lang/Object"))], some (.object "java/util/List")⟩ := by decide +kernel
theorem d9_44 : decode B9 44 = .ok (.aload_n 0, 1) := by decide +kernel
theorem d9_45 : decode B9 45 = .ok (.invokeinterface 30 1, 5) := by decide +kernel
theorem d9_50 : decode B9 50 = .ok (.invokestatic 34, 3) := by decide +kernel
theorem d9_53 : decode B9 53 = .ok (.areturn, 1) := by decide +kernel
theorem rm_listCopy_35 (hw : o_HW Z a0) (H : o_C Z Z.heap w_NW w_DC w_EL w_EA w_EM w_MO w_cacheI c_cacheI k_DC k_EA z_CS) (O : Old Z n0 h0) (b0 : Addr) (b1 : Addr) (b2 : Addr) (k_b1 : ClassId) (E_b0 : Exa Z h0 b0 s6) (F_b0_elementData : Fld Z h0 b0 s6 s27 s10 (.ref b1)) (F_b0_size : Fld Z h0 b0 s6 s26 "I" (.int 1)) (V_b1 : Arv Z h0 b1 k_b1 (.object s8) (10 : Int32) [(.ref b2)] .null) (A_b1 : Exa Z h0 b1 s10) (E_b2 : Exa Z h0 b2 s1) :
    o_Met l (⟨s38, "listCopy", s40⟩ : MethodName) B9 2 (some (.object s21)) [] (o_rm 6 2 3 75) Z #[(.ref b0)] h0 (Q_rm_listCopy_35 Z h0 n0 b0 b1 b2 k_b1 w_EM) := by
  refine o_met (pN pn_6) ?_
  intro p e s m below meth c T0 hx y hml hown hret hk hnm hZ X0 e0
  obtain ⟨-, -, -, -, -, -, -, -, -, -, -, -, -, -, -, -, -, -, -⟩ := id H
  refine o_ent (ef_4 m b0) ?_
  refine qA X0 hx (hb y d9_0) rfl rfl 1 rfl ?_
  refine o_instNo X0 hx hZ hown (w hw 75 rfl) e0 E_b0 (o_no (w hw 76 rfl) (w hw 425 rfl) (NS.step (w hw 76 rfl) (NS.step (w hw 77 rfl) (NS.step (w hw 78 rfl) (o_root (w hw 79 rfl) (Cond.instantiable_spec (w hw 425 rfl)).choose_spec.choose_spec.1 (by decide)) (by decide)) (by decide)) (by decide)) (by decide)) (hb y d9_1) 4 rfl fun T1 X1 e1 => ?_
  refine qN X1 hx (hb y d9_4) ((if0 _ _).trans (teq (by decide : (0 : Int32) = (0 : Int32))).2) 7 rfl ?_
  refine qA X1 hx (hb y d9_7) rfl rfl 8 rfl ?_
  refine o_instNo X1 hx hZ hown (w hw 80 rfl) e1 E_b0 (o_no (w hw 76 rfl) (w hw 297 rfl) (NS.step (w hw 76 rfl) (NS.step (w hw 77 rfl) (NS.step (w hw 78 rfl) (o_root (w hw 79 rfl) (Cond.instantiable_spec (w hw 297 rfl)).choose_spec.choose_spec.1 (by decide)) (by decide)) (by decide)) (by decide)) (by decide)) (hb y d9_8) 11 rfl fun T2 X2 e2 => ?_
  refine o_ifY X2 hx (hb y d9_11) ((if0 _ _).trans (teq (by decide : (0 : Int32) = (0 : Int32))).1) 31 (by decide) (by decide) ?_
  refine qA X2 hx (hb y d9_31) rfl rfl 32 rfl ?_
  refine oC (cI X2 hx hZ hown (w hw 81 rfl) (w hw 82 rfl) (w hw 83 rfl) (w hw 84 rfl) (w hw 85 rfl) (w hw 86 rfl) (w hw 87 rfl) (w hw 88 rfl) (w hw 32 rfl) (w hw 89 rfl) (by decide) (by decide) b0 [] [] 0 (rm_isEmpty_36 l Z a0 h0 n0 hw O b0 F_b0_size) (by decide) (by decide) e2 E_b0 (by rw [hml]; rfl) (lenOf pd_5 rfl) (Nat.le_of_eq rfl) (hb y d9_32) 37 rfl (by decide) (by decide)) rfl rfl fun T4 X4 e4 => ?_
  refine o_ifY X4 hx (hb y d9_37) ((if0 _ _).trans (teq (by decide : (0 : Int32) = (0 : Int32))).1) 44 (by decide) (by decide) ?_
  refine qA X4 hx (hb y d9_44) rfl rfl 45 rfl ?_
  refine kI X4 hx hZ hown (w hw 256 rfl) (w hw 257 rfl) (w hw 258 rfl) (w hw 259 rfl) (w hw 260 rfl) (w hw 261 rfl) (w hw 262 rfl) (w hw 88 rfl) (w hw 32 rfl) (w hw 263 rfl) (by decide) (by decide) b0 [] [] 0 (rm_toArray_37 l Z a0 h0 n0 hw H O b0 b1 b2 k_b1 F_b0_elementData F_b0_size V_b1 A_b1 E_b2) (by decide) (by decide) e4 E_b0 (by rw [hml]; rfl) (lenOf pd_18 rfl) (Nat.le_of_eq rfl) (hb y d9_45) 50 rfl (by decide) (by decide) fun v5 T5 L5 X5 hQ5 => ?_
  obtain ⟨q5_0, qk5_0, rfl, Nq5, Kq5, le_q5_0, p5_0, p5_1, p5_2⟩ := hQ5
  have O6 := O.keep Kq5 all0
  have N6 := Fr.app (Fr.nil n0) Nq5
  have K6 := Keep.trans (Keep.refl h0 []) Kq5 all0
  refine o_nR ?_
  refine kS X5 hx hZ hown (w hw 286 rfl) (w hw 287 rfl) (w hw 69 rfl) (w hw 288 rfl) (by decide) [(.ref q5_0)] [] 0 (rm_of_41 l Z a0 T5.heap n0 hw H O6 q5_0 b2 qk5_0 p5_0) (by decide) (by decide) rfl (by rw [hml]; rfl) (lenOf pd_25 rfl) (Nat.le_of_eq rfl) (hb y d9_50) (by decide) (by decide) 53 rfl fun v7 T7 L7 X7 hQ7 => ?_
  obtain ⟨q7_0, rfl, Nq7, Kq7, le_q7_0, p7_0, p7_1, p7_2⟩ := hQ7
  have z_q7_0 : h0.size ≤ q7_0 := Nat.le_trans (K6).1 le_q7_0
  have N8 := Fr.app N6 Nq7
  have K8 := Keep.trans K6 Kq7 all0
  refine o_nR ?_
  exact qR X7 hx hk hret rfl rfl (hb y d9_53) rfl (by show Q_rm_listCopy_35 Z h0 n0 b0 b1 b2 k_b1 w_EM _ T7.heap _; exact ⟨q7_0, rfl, N8, K8, z_q7_0, p7_0, p7_1, p7_2⟩) (by decide) (by decide)
def Q_rm_copyOf_34 (Z : State) (h0 : Heap) (n0 : Nat) (b0 : Addr) (b1 : Addr) (b2 : Addr) (k_b1 : ClassId) (w_EM : Addr) (v : Option Value) (h : Heap) (L : List Loc) : Prop := ∃ (y0 : Addr), v = some (.ref y0) ∧ Fr n0 L ∧ Keep h0 h [] ∧ h0.size ≤ y0 ∧ Exa Z h y0 s9 ∧ Fld Z h y0 s9 "e0" s13 (.ref b2) ∧ Fld Z h y0 s9 "e1" s13 (.ref w_EM)
theorem rm_copyOf_34 (hw : o_HW Z a0) (H : o_C Z Z.heap w_NW w_DC w_EL w_EA w_EM w_MO w_cacheI c_cacheI k_DC k_EA z_CS) (O : Old Z n0 h0) (b0 : Addr) (b1 : Addr) (b2 : Addr) (k_b1 : ClassId) (E_b0 : Exa Z h0 b0 s6) (F_b0_elementData : Fld Z h0 b0 s6 s27 s10 (.ref b1)) (F_b0_size : Fld Z h0 b0 s6 s26 "I" (.int 1)) (V_b1 : Arv Z h0 b1 k_b1 (.object s8) (10 : Int32) [(.ref b2)] .null) (A_b1 : Exa Z h0 b1 s10) (E_b2 : Exa Z h0 b2 s1) :
    o_Met l (⟨s21, "copyOf", s40⟩ : MethodName) B10 1 (some (.object s21)) [] (o_rm 7 2 3 88) Z #[(.ref b0)] h0 (Q_rm_copyOf_34 Z h0 n0 b0 b1 b2 k_b1 w_EM) := by
  refine o_met (pN pn_5) ?_
  intro p e s m below meth c T0 hx y hml hown hret hk hnm hZ X0 e0
  obtain ⟨-, -, -, -, -, -, -, -, -, -, -, -, -, -, -, -, -, -, -⟩ := id H
  refine o_ent (ef_2 m b0) ?_
  refine qA X0 hx (hb y d8_0) rfl rfl 1 rfl ?_
  refine kS X0 hx hZ hown (w hw 71 rfl) (w hw 72 rfl) (w hw 73 rfl) (w hw 74 rfl) (by decide) [(.ref b0)] [] 0 (rm_listCopy_35 l Z a0 h0 n0 hw H O b0 b1 b2 k_b1 E_b0 F_b0_elementData F_b0_size V_b1 A_b1 E_b2) (by decide) (by decide) e0 (by rw [hml]; rfl) (lenOf pd_7 rfl) (Nat.le_of_eq rfl) (hb y d8_1) (by decide) (by decide) 4 rfl fun v1 T1 L1 X1 hQ1 => ?_
  obtain ⟨q1_0, rfl, Nq1, Kq1, le_q1_0, p1_0, p1_1, p1_2⟩ := hQ1
  have z_q1_0 : h0.size ≤ q1_0 := Nat.le_trans ((Keep.refl h0 [])).1 le_q1_0
  have N2 := Fr.app (Fr.nil n0) Nq1
  have K2 := Keep.trans (Keep.refl h0 []) Kq1 all0
  refine o_nR ?_
  exact qR X1 hx hk hret rfl rfl (hb y d8_4) rfl (by show Q_rm_copyOf_34 Z h0 n0 b0 b1 b2 k_b1 w_EM _ T1.heap _; exact ⟨q1_0, rfl, N2, K2, z_q1_0, p1_0, p1_1, p1_2⟩) (by decide) (by decide)
theorem d37_0 : decode B37 0 = .ok (.aload_n 0, 1) := by decide +kernel
theorem d37_1 : decode B37 1 = .ok (.getfield 24, 3) := by decide +kernel
theorem d37_4 : decode B37 4 = .ok (.getstatic 19, 3) := by decide +kernel
theorem d37_7 : decode B37 7 = .ok (.if_acmp .eq 7, 3) := by decide +kernel
theorem d37_14 : decode B37 14 = .ok (.iconst 1, 1) := by decide +kernel
theorem d37_15 : decode B37 15 = .ok (.ireturn, 1) := by decide +kernel
theorem rm_size_46 (hw : o_HW Z a0) (H : o_C Z Z.heap w_NW w_DC w_EL w_EA w_EM w_MO w_cacheI c_cacheI k_DC k_EA z_CS) (O : Old Z n0 h0) (b0 : Addr) (F_b0_e1 : Fld Z h0 b0 s9 "e1" s13 (.ref w_EM)) :
    o_Met l (⟨s9, s26, "()I"⟩ : MethodName) B37 1 (some .int) [] (o_rm 0 0 0 0) Z #[(.ref b0)] h0 (o_R (some (.int 1)) h0) := by
  refine o_met (pN pn_20) ?_
  intro p e s m below meth c T0 hx y hml hown hret hk hnm hZ X0 e0
  obtain ⟨-, -, -, -, -, -, -, -, -, -, -, -, -, S_EM, -, -, -, -, -⟩ := id H
  refine o_ent (ef_2 m b0) ?_
  refine qA X0 hx (hb y d37_0) rfl rfl 1 rfl ?_
  refine qF X0 hx hZ hown (host := "") (Or.inl (w hw 438 rfl)) Via.refl e0 F_b0_e1 (hb y d37_1) 4 rfl fun T1 X1 e1 => ?_
  refine o_getS X1 hx hZ hown (Or.inr (w hw 446 rfl)) Via.refl e1 (S_EM.ext O.2) (hb y d37_4) 7 rfl fun T2 X2 e2 => ?_
  refine qm X2 hx true (hb y d37_7) rfl rfl (decide_eq_true rfl) 14 (by decide) (by decide) ?_
  refine qC X2 hx (hb y d37_14) (1 : Int32) rfl 15 rfl ?_
  exact o_retI X2 hx hk hret (hb y d37_15) ⟨rfl, e2, rfl⟩ (by decide) (by decide)
theorem d38_0 : decode B38 0 = .ok (.iload_n 1, 1) := by decide +kernel
theorem d38_1 : decode B38 1 = .ok (.ifCond .ne 8, 3) := by decide +kernel
theorem d38_4 : decode B38 4 = .ok (.aload_n 0, 1) := by decide +kernel
theorem d38_5 : decode B38 5 = .ok (.getfield 13, 3) := by decide +kernel
theorem d38_8 : decode B38 8 = .ok (.areturn, 1) := by decide +kernel
theorem rm_get_47 (hw : o_HW Z a0) (O : Old Z n0 h0) (b0 : Addr) (b1 : Addr) (F_b0_e0 : Fld Z h0 b0 s9 "e0" s13 (.ref b1)) :
    o_Met l (⟨s9, "get", s71⟩ : MethodName) B38 2 (some (.object s8)) [] (o_rm 0 0 0 0) Z #[(.ref b0), (.int 0)] h0 (o_R (some (.ref b1)) h0) := by
  refine o_met (pN pn_20) ?_
  intro p e s m below meth c T0 hx y hml hown hret hk hnm hZ X0 e0
  refine o_ent (ef_8 m b0 (0 : Int32)) ?_
  refine qI X0 hx (hb y d38_0) rfl 1 rfl ?_
  refine qN X0 hx (hb y d38_1) ((if0 _ _).trans (teq (by decide : (0 : Int32) = (0 : Int32))).2) 4 rfl ?_
  refine qA X0 hx (hb y d38_4) rfl rfl 5 rfl ?_
  refine qF X0 hx hZ hown (host := "") (Or.inl (w hw 436 rfl)) Via.refl e0 F_b0_e0 (hb y d38_5) 8 rfl fun T1 X1 e1 => ?_
  exact qR X1 hx hk hret rfl rfl (hb y d38_8) rfl ⟨rfl, e1, rfl⟩ (by decide) (by decide)
theorem d39_0 : decode B39 0 = .ok (.aload_n 0, 1) := by decide +kernel
theorem d39_1 : decode B39 1 = .ok (.getfield 26, 3) := by decide +kernel
theorem d39_4 : decode B39 4 = .ok (.areturn, 1) := by decide +kernel
theorem rm_name_48 (hw : o_HW Z a0) (O : Old Z n0 h0) (b0 : Addr) (b1 : Addr) (F_b0_name : Fld Z h0 b0 s1 "name" s42 (.ref b1)) :
    o_Met l (⟨s1, "name", "()Ljava/lang/String;"⟩ : MethodName) B39 1 (some (.object s4)) [] (o_rm 0 0 0 0) Z #[(.ref b0)] h0 (o_R (some (.ref b1)) h0) := by
  refine o_met (pN pn_7) ?_
  intro p e s m below meth c T0 hx y hml hown hret hk hnm hZ X0 e0
  refine o_ent (ef_2 m b0) ?_
  refine qA X0 hx (hb y d39_0) rfl rfl 1 rfl ?_
  refine qF X0 hx hZ hown (host := "") (Or.inl (w hw 63 rfl)) Via.refl e0 F_b0_name (hb y d39_1) 4 rfl fun T1 X1 e1 => ?_
  exact qR X1 hx hk hret rfl rfl (hb y d39_4) rfl ⟨rfl, e1, rfl⟩ (by decide) (by decide)
def Q_rm_boxI_1 (Z : State) (h0 : Heap) (n0 : Nat) (v : Option Value) (h : Heap) (L : List Loc) : Prop := ∃ r : Addr, v = some (.ref r) ∧ Fr n0 L ∧ Keep h0 h [] ∧ Exa Z h r s39 ∧ Fld Z h r s39 s34 "I" (.int 1)
theorem d40_0 : decode B40 0 = .ok (.iload_n 0, 1) := by decide +kernel
theorem d40_1 : decode B40 1 = .ok (.bipush (-128), 2) := by decide +kernel
theorem d40_3 : decode B40 3 = .ok (.if_icmp .lt 20, 3) := by decide +kernel
theorem d40_6 : decode B40 6 = .ok (.iload_n 0, 1) := by decide +kernel
theorem d40_7 : decode B40 7 = .ok (.getstatic 191, 3) := by decide +kernel
theorem d40_10 : decode B40 10 = .ok (.if_icmp .gt 13, 3) := by decide +kernel
theorem d40_13 : decode B40 13 = .ok (.getstatic 195, 3) := by decide +kernel
theorem d40_16 : decode B40 16 = .ok (.iload_n 0, 1) := by decide +kernel
theorem d40_17 : decode B40 17 = .ok (.sipush 128, 3) := by decide +kernel
theorem d40_20 : decode B40 20 = .ok (.iadd, 1) := by decide +kernel
theorem d40_21 : decode B40 21 = .ok (.aaload, 1) := by decide +kernel
theorem d40_22 : decode B40 22 = .ok (.areturn, 1) := by decide +kernel
theorem pn_21 : plainName "java/lang/Integer" = true := by first | (simp [plainName, overriddenIn]; done) | decide +kernel
theorem rm_boxI_1 (hw : o_HW Z a0) (H : o_C Z Z.heap w_NW w_DC w_EL w_EA w_EM w_MO w_cacheI c_cacheI k_DC k_EA z_CS) (O : Old Z n0 h0) :
    o_Met l (⟨s39, "valueOf", "(I)Ljava/lang/Integer;"⟩ : MethodName) B40 1 (some (.object s39)) [] (o_rm 0 0 0 0) Z #[(.int 1)] h0 (Q_rm_boxI_1 Z h0 n0) := by
  refine o_met (pN pn_21) ?_
  intro p e s m below meth c T0 hx y hml hown hret hk hnm hZ X0 e0
  obtain ⟨-, -, -, -, -, -, -, -, -, -, -, -, -, -, -, -, S_w_cacheI, B_w_cacheI, S_high⟩ := id H
  refine o_ent (ef_0 m (1 : Int32)) ?_
  refine qI X0 hx (hb y d40_0) rfl 1 rfl ?_
  refine o_bipush X0 hx (hb y d40_1) (-128 : Int32) rfl 3 rfl ?_
  refine qn X0 hx (hb y d40_3) (flt (by decide : ¬ ((1 : Int32) < (-128 : Int32)))).1 6 rfl ?_
  refine qI X0 hx (hb y d40_6) rfl 7 rfl ?_
  refine o_getS X0 hx hZ hown (host := "") (Or.inl (w hw 335 rfl)) Via.refl e0 (S_high.ext O.2) (hb y d40_7) 10 rfl fun T1 X1 e1 => ?_
  refine qn X1 hx (hb y d40_10) (flt (by decide : ¬ ((127 : Int32) < (1 : Int32)))).2.2.1 13 rfl ?_
  refine o_getS X1 hx hZ hown (host := "") (Or.inl (w hw 337 rfl)) Via.refl e1 (S_w_cacheI.ext O.2) (hb y d40_13) 16 rfl fun T2 X2 e2 => ?_
  refine qI X2 hx (hb y d40_16) rfl 17 rfl ?_
  refine o_sipush X2 hx (hb y d40_17) (128 : Int32) rfl 20 rfl ?_
  refine o_iadd X2 hx (hb y d40_20) 21 rfl ?_
  refine o_topI (129 : Int32) (by decide) ?_
  refine o_box X2 hx hZ e2 O B_w_cacheI (by decide) (hb y d40_21) 22 rfl fun r Er Fq => ?_
  have Fr2 : Fld Z h0 r s39 s34 "I" (.int ((129 : Int32) - 128)) := Fq
  rw [show ((129 : Int32) - 128) = (1 : Int32) from by decide] at Fr2
  exact qR X2 hx hk hret rfl rfl (hb y d40_22) rfl (by show Q_rm_boxI_1 Z h0 n0 _ T2.heap _; rw [e2]; exact ⟨r, rfl, (Fr.nil n0), (Keep.refl h0 []), Er, Fr2⟩) (by decide) (by decide)
theorem d44_0 : decode B41 0 = .ok (.getstatic 38, 3) := by decide +kernel
theorem d44_3 : decode B41 3 = .ok (.ifCond .eq 14, 3) := by decide +kernel
theorem d44_6 : decode B41 6 = .ok (.aload_n 0, 1) := by decide +kernel
theorem d44_7 : decode B41 7 = .ok (.getfield 15, 3) := by decide +kernel
theorem d44_10 : decode B41 10 = .ok (.ifCond .ne 7, 3) := by decide +kernel
theorem d44_13 : decode B41 13 = .ok (.iconst 1, 1) := by decide +kernel
theorem d44_14 : decode B41 14 = .ok (.goto 4, 3) := by decide +kernel
theorem d44_18 : decode B41 18 = .ok (.ireturn, 1) := by decide +kernel
theorem rm_isLatin1_52 (hw : o_HW Z a0) (H : o_C Z Z.heap w_NW w_DC w_EL w_EA w_EM w_MO w_cacheI c_cacheI k_DC k_EA z_CS) (O : Old Z n0 h0) (b0 : Addr) (F_b0_coder : Fld Z h0 b0 s4 s43 "B" (.int 0)) :
    o_Met l (⟨s4, "isLatin1", "()Z"⟩ : MethodName) B41 1 (some .boolean) [] (o_rm 0 0 0 0) Z #[(.ref b0)] h0 (o_R (some (.int 1)) h0) := by
  refine o_met (pN pn_1) ?_
  intro p e s m below meth c T0 hx y hml hown hret hk hnm hZ X0 e0
  obtain ⟨-, -, S_CS, N_CS, -, -, -, -, -, -, -, -, -, -, -, -, -, -, -⟩ := id H
  refine o_ent (ef_2 m b0) ?_
  refine o_getS X0 hx hZ hown (host := "") (Or.inl (w hw 8 rfl)) Via.refl e0 (S_CS.ext O.2) (hb y d44_0) 3 rfl fun T1 X1 e1 => ?_
  refine qN X1 hx (hb y d44_3) ((if0 _ _).trans (feq N_CS).1) 6 rfl ?_
  refine qA X1 hx (hb y d44_6) rfl rfl 7 rfl ?_
  refine qF X1 hx hZ hown (host := "") (Or.inl (w hw 28 rfl)) Via.refl e1 F_b0_coder (hb y d44_7) 10 rfl fun T2 X2 e2 => ?_
  refine qN X2 hx (hb y d44_10) ((if0 _ _).trans (teq (by decide : (0 : Int32) = (0 : Int32))).2) 13 rfl ?_
  refine qC X2 hx (hb y d44_13) (1 : Int32) rfl 14 rfl ?_
  refine qG X2 hx (hb y d44_14) 18 (by decide) (by decide) ?_
  exact o_retZ X2 hx hk hret (hb y d44_18) rfl ⟨rfl, e2, rfl⟩ (by decide) (by decide)
theorem d45_0 : decode B42 0 = .ok (.aload_n 0, 1) := by decide +kernel
theorem d45_1 : decode B42 1 = .ok (.arraylength, 1) := by decide +kernel
theorem d45_2 : decode B42 2 = .ok (.lookupswitch 40 #[(0, 26), (1, 30)], 26) := by decide +kernel
theorem d45_32 : decode B42 32 = .ok (.aload_n 0, 1) := by decide +kernel
theorem d45_33 : decode B42 33 = .ok (.iconst 0, 1) := by decide +kernel
theorem d45_34 : decode B42 34 = .ok (.baload, 1) := by decide +kernel
theorem d45_35 : decode B42 35 = .ok (.sipush 255, 3) := by decide +kernel
theorem d45_38 : decode B42 38 = .ok (.iand, 1) := by decide +kernel
theorem d45_39 : decode B42 39 = .ok (.goto 12, 3) := by decide +kernel
theorem d45_51 : decode B42 51 = .ok (.ireturn, 1) := by decide +kernel
theorem rm_hashCode_53 (hw : o_HW Z a0) (O : Old Z n0 h0) (b0 : Addr) (k_b0 : ClassId) (V_b0 : Arv Z h0 b0 k_b0 .byte (1 : Int32) [(.int 112)] (.int 0)) :
    o_Met l (⟨s36, "hashCode", "([B)I"⟩ : MethodName) B42 1 (some .int) [] (o_rm 0 0 0 0) Z #[(.ref b0)] h0 (o_R (some (.int 112)) h0) := by
  refine o_met (pN pn_0) ?_
  intro p e s m below meth c T0 hx y hml hown hret hk hnm hZ X0 e0
  refine o_ent (ef_2 m b0) ?_
  refine qA X0 hx (hb y d45_0) rfl rfl 1 rfl ?_
  refine o_alen X0 hx hZ e0 V_b0 (hb y d45_1) 2 rfl ?_
  refine o_lsw X0 hx 30 (hb y d45_2) (by decide) (by decide) 32 (by decide) (by decide) ?_
  refine qA X0 hx (hb y d45_32) rfl rfl 33 rfl ?_
  refine qC X0 hx (hb y d45_33) (0 : Int32) rfl 34 rfl ?_
  refine o_baload X0 hx hZ e0 V_b0 (.int 112) (by decide) rfl (hb y d45_34) 35 rfl ?_
  refine o_sipush X0 hx (hb y d45_35) (255 : Int32) rfl 38 rfl ?_
  refine o_iand X0 hx (hb y d45_38) 39 rfl ?_
  refine o_topI (112 : Int32) (by decide) ?_
  refine qG X0 hx (hb y d45_39) 51 (by decide) (by decide) ?_
  exact o_retI X0 hx hk hret (hb y d45_51) ⟨rfl, e0, rfl⟩ (by decide) (by decide)
def Q_rm_hashCode_51 (Z : State) (h0 : Heap) (n0 : Nat) (b0 : Addr) (b1 : Addr) (k_b1 : ClassId) (v : Option Value) (h : Heap) (L : List Loc) : Prop := v = some (.int 112) ∧ Fr n0 L ∧ Keep h0 h [b0] ∧ Exa Z h b0 s4 ∧ Fld Z h b0 s4 s43 "B" (.int 0) ∧ Fld Z h b0 s4 s37 "I" (.int 112) ∧ Fld Z h b0 s4 s33 "Z" (.int 0) ∧ Fld Z h b0 s4 s34 "[B" (.ref b1)
theorem pd_29 : parseMethodDescriptor "([B)I" = some ⟨[(.array .byte)], some .int⟩ := by decide +kernel
theorem d43_0 : decode B43 0 = .ok (.aload_n 0, 1) := by decide +kernel
theorem d43_1 : decode B43 1 = .ok (.getfield 19, 3) := by decide +kernel
theorem d43_4 : decode B43 4 = .ok (.istore_n 1, 1) := by decide +kernel
theorem d43_5 : decode B43 5 = .ok (.iload_n 1, 1) := by decide +kernel
theorem d43_6 : decode B43 6 = .ok (.ifCond .ne 52, 3) := by decide +kernel
theorem d43_9 : decode B43 9 = .ok (.aload_n 0, 1) := by decide +kernel
theorem d43_10 : decode B43 10 = .ok (.getfield 23, 3) := by decide +kernel
theorem d43_13 : decode B43 13 = .ok (.ifCond .ne 45, 3) := by decide +kernel
theorem d43_16 : decode B43 16 = .ok (.aload_n 0, 1) := by decide +kernel
theorem d43_17 : decode B43 17 = .ok (.invokevirtual 492, 3) := by decide +kernel
theorem d43_20 : decode B43 20 = .ok (.ifCond .eq 13, 3) := by decide +kernel
theorem d43_23 : decode B43 23 = .ok (.aload_n 0, 1) := by decide +kernel
theorem d43_24 : decode B43 24 = .ok (.getfield 9, 3) := by decide +kernel
theorem d43_27 : decode B43 27 = .ok (.invokestatic 628, 3) := by decide +kernel
theorem d43_30 : decode B43 30 = .ok (.goto 10, 3) := by decide +kernel
theorem d43_40 : decode B43 40 = .ok (.istore_n 1, 1) := by decide +kernel
theorem d43_41 : decode B43 41 = .ok (.iload_n 1, 1) := by decide +kernel
theorem d43_42 : decode B43 42 = .ok (.ifCond .ne 11, 3) := by decide +kernel
theorem d43_53 : decode B43 53 = .ok (.aload_n 0, 1) := by decide +kernel
theorem d43_54 : decode B43 54 = .ok (.iload_n 1, 1) := by decide +kernel
theorem d43_55 : decode B43 55 = .ok (.putfield 19, 3) := by decide +kernel
theorem d43_58 : decode B43 58 = .ok (.iload_n 1, 1) := by decide +kernel
theorem d43_59 : decode B43 59 = .ok (.ireturn, 1) := by decide +kernel
theorem rm_hashCode_51 (hw : o_HW Z a0) (H : o_C Z Z.heap w_NW w_DC w_EL w_EA w_EM w_MO w_cacheI c_cacheI k_DC k_EA z_CS) (O : Old Z n0 h0) (b0 : Addr) (b1 : Addr) (k_b1 : ClassId) (E_b0 : Exa Z h0 b0 s4) (F_b0_coder : Fld Z h0 b0 s4 s43 "B" (.int 0)) (F_b0_hash : Fld Z h0 b0 s4 s37 "I" (.int 0)) (F_b0_hashIsZero : Fld Z h0 b0 s4 s33 "Z" (.int 0)) (F_b0_value : Fld Z h0 b0 s4 s34 "[B" (.ref b1)) (g_b0 : n0 ≤ b0) (V_b1 : Arv Z h0 b1 k_b1 .byte (1 : Int32) [(.int 112)] (.int 0)) :
    o_Met l (⟨s4, "hashCode", "()I"⟩ : MethodName) B43 2 (some .int) [] (o_rm 1 0 0 12) Z #[(.ref b0)] h0 (Q_rm_hashCode_51 Z h0 n0 b0 b1 k_b1) := by
  refine o_met (pN pn_1) ?_
  intro p e s m below meth c T0 hx y hml hown hret hk hnm hZ X0 e0
  obtain ⟨-, -, -, -, -, -, -, -, -, -, -, -, -, -, -, -, -, -, -⟩ := id H
  refine o_ent (ef_4 m b0) ?_
  refine qA X0 hx (hb y d43_0) rfl rfl 1 rfl ?_
  refine qF X0 hx hZ hown (host := "") (Or.inl (w hw 356 rfl)) Via.refl e0 F_b0_hash (hb y d43_1) 4 rfl fun T1 X1 e1 => ?_
  refine qk X1 hx (hb y d43_4) #[.val (.ref b0), .val (.int 0)] rfl 5 rfl ?_
  refine qI X1 hx (hb y d43_5) rfl 6 rfl ?_
  refine qN X1 hx (hb y d43_6) ((if0 _ _).trans (teq (by decide : (0 : Int32) = (0 : Int32))).2) 9 rfl ?_
  refine qA X1 hx (hb y d43_9) rfl rfl 10 rfl ?_
  refine qF X1 hx hZ hown (host := "") (Or.inl (w hw 358 rfl)) Via.refl e1 F_b0_hashIsZero (hb y d43_10) 13 rfl fun T2 X2 e2 => ?_
  refine qN X2 hx (hb y d43_13) ((if0 _ _).trans (teq (by decide : (0 : Int32) = (0 : Int32))).2) 16 rfl ?_
  refine qA X2 hx (hb y d43_16) rfl rfl 17 rfl ?_
  refine qV X2 hx hZ hown (w hw 360 rfl) (w hw 361 rfl) (notFace_of_selects (args := #[]) (mvT hZ (w hw 363 rfl))) (w hw 363 rfl) (w hw 362 rfl) (w hw 6 rfl) (w hw 364 rfl) (by decide) b0 [] [] 0 (rm_isLatin1_52 l Z a0 h0 n0 hw H O b0 F_b0_coder) (by decide) (by decide) rfl rfl e2 E_b0 (by rw [hml]; rfl) (lenOf pd_5 rfl) (Nat.le_of_eq rfl) (hb y d43_17) 20 rfl rfl (by decide) (by decide) fun T4 X4 e4 => ?_
  refine qN X4 hx (hb y d43_20) ((if0 _ _).trans (feq (by decide : ¬ ((1 : Int32) = (0 : Int32)))).1) 23 rfl ?_
  refine qA X4 hx (hb y d43_23) rfl rfl 24 rfl ?_
  refine qF X4 hx hZ hown (host := "") (Or.inl (w hw 26 rfl)) Via.refl e4 F_b0_value (hb y d43_24) 27 rfl fun T5 X5 e5 => ?_
  refine qS X5 hx hZ hown (w hw 365 rfl) (w hw 366 rfl) (w hw 11 rfl) (w hw 367 rfl) (by decide) [(.ref b1)] [] 0 (rm_hashCode_53 l Z a0 h0 n0 hw O b1 k_b1 V_b1) (by decide) (by decide) rfl rfl e5 (by rw [hml]; rfl) (lenOf pd_29 rfl) (Nat.le_of_eq rfl) (hb y d43_27) 30 rfl rfl (by decide) (by decide) fun T7 X7 e7 => ?_
  refine qG X7 hx (hb y d43_30) 40 (by decide) (by decide) ?_
  refine qk X7 hx (hb y d43_40) #[.val (.ref b0), .val (.int 112)] rfl 41 rfl ?_
  refine qI X7 hx (hb y d43_41) rfl 42 rfl ?_
  refine o_ifY X7 hx (hb y d43_42) ((if0 _ _).trans (feq (by decide : ¬ ((112 : Int32) = (0 : Int32)))).2) 53 (by decide) (by decide) ?_
  refine qA X7 hx (hb y d43_53) rfl rfl 54 rfl ?_
  refine qI X7 hx (hb y d43_54) rfl 55 rfl ?_
  refine qP X7 hx hZ hown (host := "") (Or.inl (w hw 356 rfl)) Via.refl e7 F_b0_hash E_b0 (Or.inl (w hw 357 rfl)) (w hw 14 rfl) (ty := .int) (by decide) rfl rfl (hb y d43_55) 58 rfl fun T8 X8 W8 => ?_
  have G8 := Fld.same W8 F_b0_hash
  have N9 := Fr.snoc X8 (Fr.nil n0) g_b0
  have K9 := Keep.wr (Keep.refl h0 [b0]) W8 (Or.inl (by simp))
  refine qI X8 hx (hb y d43_58) rfl 59 rfl ?_
  have f10 := (E_b0.wr W8)
  have f11 := (F_b0_coder.other W8 (Or.inr (Ne.symm (sn_2 hw))))
  have f12 := (F_b0_hashIsZero.other W8 (Or.inr (sn_64 hw)))
  have f13 := (F_b0_value.other W8 (Or.inr (Ne.symm (sn_1 hw))))
  exact o_retI X8 hx hk hret (hb y d43_59) (by show Q_rm_hashCode_51 Z h0 n0 b0 b1 k_b1 _ T8.heap _; exact ⟨rfl, N9, K9, f10, f11, G8, f12, f13⟩) (by decide) (by decide)
def Q_rm_hash_50 (Z : State) (h0 : Heap) (n0 : Nat) (b0 : Addr) (b1 : Addr) (k_b1 : ClassId) (v : Option Value) (h : Heap) (L : List Loc) : Prop := v = some (.int 112) ∧ Fr n0 L ∧ Keep h0 h [b0] ∧ Exa Z h b0 s4 ∧ Fld Z h b0 s4 s43 "B" (.int 0) ∧ Fld Z h b0 s4 s37 "I" (.int 112) ∧ Fld Z h b0 s4 s33 "Z" (.int 0) ∧ Fld Z h b0 s4 s34 "[B" (.ref b1)
theorem d42_0 : decode B44 0 = .ok (.aload_n 0, 1) := by decide +kernel
theorem d42_1 : decode B44 1 = .ok (.ifnonnull 7, 3) := by decide +kernel
theorem d42_8 : decode B44 8 = .ok (.aload_n 0, 1) := by decide +kernel
theorem d42_9 : decode B44 9 = .ok (.invokevirtual 1, 3) := by decide +kernel
theorem d42_12 : decode B44 12 = .ok (.dup, 1) := by decide +kernel
theorem d42_13 : decode B44 13 = .ok (.istore_n 1, 1) := by decide +kernel
theorem d42_14 : decode B44 14 = .ok (.iload_n 1, 1) := by decide +kernel
theorem d42_15 : decode B44 15 = .ok (.bipush 16, 2) := by decide +kernel
theorem d42_17 : decode B44 17 = .ok (.iushr, 1) := by decide +kernel
theorem d42_18 : decode B44 18 = .ok (.ixor, 1) := by decide +kernel
theorem d42_19 : decode B44 19 = .ok (.ireturn, 1) := by decide +kernel
theorem rm_hash_50 (hw : o_HW Z a0) (H : o_C Z Z.heap w_NW w_DC w_EL w_EA w_EM w_MO w_cacheI c_cacheI k_DC k_EA z_CS) (O : Old Z n0 h0) (b0 : Addr) (b1 : Addr) (k_b1 : ClassId) (E_b0 : Exa Z h0 b0 s4) (F_b0_coder : Fld Z h0 b0 s4 s43 "B" (.int 0)) (F_b0_hash : Fld Z h0 b0 s4 s37 "I" (.int 0)) (F_b0_hashIsZero : Fld Z h0 b0 s4 s33 "Z" (.int 0)) (F_b0_value : Fld Z h0 b0 s4 s34 "[B" (.ref b1)) (g_b0 : n0 ≤ b0) (V_b1 : Arv Z h0 b1 k_b1 .byte (1 : Int32) [(.int 112)] (.int 0)) :
    o_Met l (⟨s7, s37, "(Ljava/lang/Object;)I"⟩ : MethodName) B44 2 (some .int) [] (o_rm 2 0 0 25) Z #[(.ref b0)] h0 (Q_rm_hash_50 Z h0 n0 b0 b1 k_b1) := by
  refine o_met (pN pn_9) ?_
  intro p e s m below meth c T0 hx y hml hown hret hk hnm hZ X0 e0
  obtain ⟨-, -, -, -, -, -, -, -, -, -, -, -, -, -, -, -, -, -, -⟩ := id H
  refine o_ent (ef_4 m b0) ?_
  refine qA X0 hx (hb y d42_0) rfl rfl 1 rfl ?_
  refine o_ifnonnullY X0 hx (hb y d42_1) 8 (by decide) (by decide) ?_
  refine qA X0 hx (hb y d42_8) rfl rfl 9 rfl ?_
  refine o_kV X0 hx hZ hown (w hw 350 rfl) (w hw 351 rfl) (nf_top (args := #[]) (mvT hZ (w hw 79 rfl))) (w hw 353 rfl) (w hw 354 rfl) (w hw 6 rfl) (w hw 355 rfl) (by decide) b0 [] [] 0 (rm_hashCode_51 l Z a0 h0 n0 hw H O b0 b1 k_b1 E_b0 F_b0_coder F_b0_hash F_b0_hashIsZero F_b0_value g_b0 V_b1) (by decide) (by decide) e0 E_b0 (by rw [hml]; rfl) (lenOf pd_9 rfl) (Nat.le_of_eq rfl) (hb y d42_9) (by decide) (by decide) 12 rfl fun v1 T1 L1 X1 hQ1 => ?_
  obtain ⟨rfl, Nq1, Kq1, p1_0, p1_1, p1_2, p1_3, p1_4⟩ := hQ1
  have N2 := Fr.app (Fr.nil n0) Nq1
  have K2 := Keep.trans (Keep.refl h0 [b0]) Kq1 (allS (Or.inl (by simp)) all0)
  refine o_nR ?_
  refine qD X1 hx (hb y d42_12) rfl 13 rfl ?_
  refine qk X1 hx (hb y d42_13) #[.val (.ref b0), .val (.int 112)] rfl 14 rfl ?_
  refine qI X1 hx (hb y d42_14) rfl 15 rfl ?_
  refine o_bipush X1 hx (hb y d42_15) (16 : Int32) rfl 17 rfl ?_
  refine o_iushr X1 hx (hb y d42_17) 18 rfl ?_
  refine o_topI (0 : Int32) (by decide) ?_
  refine o_ixor X1 hx (hb y d42_18) 19 rfl ?_
  refine o_topI (112 : Int32) (by decide) ?_
  exact o_retI X1 hx hk hret (hb y d42_19) (by show Q_rm_hash_50 Z h0 n0 b0 b1 k_b1 _ T1.heap _; exact ⟨rfl, N2, K2, p1_0, p1_1, p1_2, p1_3, p1_4⟩) (by decide) (by decide)
def Q_rm_resize_55 (Z : State) (h0 : Heap) (n0 : Nat) (b0 : Addr) (v : Option Value) (h : Heap) (L : List Loc) : Prop := ∃ (y0 : Addr) (yk0 : ClassId), v = some (.ref y0) ∧ Fr n0 L ∧ Keep h0 h [b0] ∧ h0.size ≤ y0 ∧ Exa Z h b0 s7 ∧ Fld Z h b0 s7 s44 "F" (.float (1061158912 : UInt32)) ∧ Fld Z h b0 s7 s29 "I" (.int 0) ∧ Fld Z h b0 s7 s26 "I" (.int 0) ∧ Fld Z h b0 s7 s61 s23 (.ref y0) ∧ Fld Z h b0 s7 s46 "I" (.int 12) ∧ Arv Z h y0 yk0 (.object s5) (16 : Int32) [] .null ∧ Exa Z h y0 s23 ∧ Ovr Z yk0 s5
theorem d47_0 : decode B45 0 = .ok (.aload_n 0, 1) := by decide +kernel
theorem d47_1 : decode B45 1 = .ok (.getfield 105, 3) := by decide +kernel
theorem d47_4 : decode B45 4 = .ok (.astore_n 1, 1) := by decide +kernel
theorem d47_5 : decode B45 5 = .ok (.aload_n 1, 1) := by decide +kernel
theorem d47_6 : decode B45 6 = .ok (.ifnonnull 7, 3) := by decide +kernel
theorem d47_9 : decode B45 9 = .ok (.iconst 0, 1) := by decide +kernel
theorem d47_10 : decode B45 10 = .ok (.goto 5, 3) := by decide +kernel
theorem d47_15 : decode B45 15 = .ok (.istore_n 2, 1) := by decide +kernel
theorem d47_16 : decode B45 16 = .ok (.aload_n 0, 1) := by decide +kernel
theorem d47_17 : decode B45 17 = .ok (.getfield 88, 3) := by decide +kernel
theorem d47_20 : decode B45 20 = .ok (.istore_n 3, 1) := by decide +kernel
theorem d47_21 : decode B45 21 = .ok (.iconst 0, 1) := by decide +kernel
theorem d47_22 : decode B45 22 = .ok (.istore 5, 2) := by decide +kernel
theorem d47_24 : decode B45 24 = .ok (.iload_n 2, 1) := by decide +kernel
theorem d47_25 : decode B45 25 = .ok (.ifCond .le 42, 3) := by decide +kernel
theorem d47_67 : decode B45 67 = .ok (.iload_n 3, 1) := by decide +kernel
theorem d47_68 : decode B45 68 = .ok (.ifCond .le 9, 3) := by decide +kernel
theorem d47_77 : decode B45 77 = .ok (.bipush 16, 2) := by decide +kernel
theorem d47_79 : decode B45 79 = .ok (.istore 4, 2) := by decide +kernel
theorem d47_81 : decode B45 81 = .ok (.bipush 12, 2) := by decide +kernel
theorem d47_83 : decode B45 83 = .ok (.istore 5, 2) := by decide +kernel
theorem d47_85 : decode B45 85 = .ok (.iload 5, 2) := by decide +kernel
theorem d47_87 : decode B45 87 = .ok (.ifCond .ne 38, 3) := by decide +kernel
theorem d47_125 : decode B45 125 = .ok (.aload_n 0, 1) := by decide +kernel
theorem d47_126 : decode B45 126 = .ok (.iload 5, 2) := by decide +kernel
theorem d47_128 : decode B45 128 = .ok (.putfield 88, 3) := by decide +kernel
theorem d47_131 : decode B45 131 = .ok (.iload 4, 2) := by decide +kernel
theorem d47_133 : decode B45 133 = .ok (.anewarray 163, 3) := by decide +kernel
theorem d47_136 : decode B45 136 = .ok (.astore 6, 2) := by decide +kernel
theorem d47_138 : decode B45 138 = .ok (.aload_n 0, 1) := by decide +kernel
theorem d47_139 : decode B45 139 = .ok (.aload 6, 2) := by decide +kernel
theorem d47_141 : decode B45 141 = .ok (.putfield 105, 3) := by decide +kernel
theorem d47_144 : decode B45 144 = .ok (.aload_n 1, 1) := by decide +kernel
theorem d47_145 : decode B45 145 = .ok (.ifnull 208, 3) := by decide +kernel
theorem d47_353 : decode B45 353 = .ok (.aload 6, 2) := by decide +kernel
theorem d47_355 : decode B45 355 = .ok (.areturn, 1) := by decide +kernel
theorem ef_15 (m : MethodId) (y0 : Addr) : entryFrame m #[(.ref y0)] 14 = mkF m 0 #[.val (.ref y0), .unset, .unset, .unset, .unset, .unset, .unset, .unset, .unset, .unset, .unset, .unset, .unset, .unset] [] := by first | (simp [entryFrame, mkF, argsToLocals, Value.category]; done) | rfl
theorem rm_resize_55 (hw : o_HW Z a0) (O : Old Z n0 h0) (b0 : Addr) (E_b0 : Exa Z h0 b0 s7) (F_b0_loadFactor : Fld Z h0 b0 s7 s44 "F" (.float (1061158912 : UInt32))) (F_b0_modCount : Fld Z h0 b0 s7 s29 "I" (.int 0)) (F_b0_size : Fld Z h0 b0 s7 s26 "I" (.int 0)) (F_b0_table : Fld Z h0 b0 s7 s61 s23 .null) (F_b0_threshold : Fld Z h0 b0 s7 s46 "I" (.int 0)) (g_b0 : n0 ≤ b0) :
    o_Met l (⟨s7, "resize", "()[Ljava/util/HashMap$Node;"⟩ : MethodName) B45 14 (some (.array (.object s5))) [] (o_rm 0 1 16 0) Z #[(.ref b0)] h0 (Q_rm_resize_55 Z h0 n0 b0) := by
  refine o_met (pN pn_9) ?_
  intro p e s m below meth c T0 hx y hml hown hret hk hnm hZ X0 e0
  refine o_ent (ef_15 m b0) ?_
  refine qA X0 hx (hb y d47_0) rfl rfl 1 rfl ?_
  refine qF X0 hx hZ hown (host := "") (Or.inl (w hw 373 rfl)) Via.refl e0 F_b0_table (hb y d47_1) 4 rfl fun T1 X1 e1 => ?_
  refine qh X1 hx (hb y d47_4) #[.val (.ref b0), .val .null, .unset, .unset, .unset, .unset, .unset, .unset, .unset, .unset, .unset, .unset, .unset, .unset] rfl rfl 5 rfl ?_
  refine qA X1 hx (hb y d47_5) rfl rfl 6 rfl ?_
  refine o_ifnonnullN X1 hx (hb y d47_6) 9 rfl ?_
  refine qC X1 hx (hb y d47_9) (0 : Int32) rfl 10 rfl ?_
  refine qG X1 hx (hb y d47_10) 15 (by decide) (by decide) ?_
  refine qk X1 hx (hb y d47_15) #[.val (.ref b0), .val .null, .val (.int 0), .unset, .unset, .unset, .unset, .unset, .unset, .unset, .unset, .unset, .unset, .unset] rfl 16 rfl ?_
  refine qA X1 hx (hb y d47_16) rfl rfl 17 rfl ?_
  refine qF X1 hx hZ hown (host := "") (Or.inl (w hw 380 rfl)) Via.refl e1 F_b0_threshold (hb y d47_17) 20 rfl fun T2 X2 e2 => ?_
  refine qk X2 hx (hb y d47_20) #[.val (.ref b0), .val .null, .val (.int 0), .val (.int 0), .unset, .unset, .unset, .unset, .unset, .unset, .unset, .unset, .unset, .unset] rfl 21 rfl ?_
  refine qC X2 hx (hb y d47_21) (0 : Int32) rfl 22 rfl ?_
  refine qs X2 hx (hb y d47_22) #[.val (.ref b0), .val .null, .val (.int 0), .val (.int 0), .unset, .val (.int 0), .unset, .unset, .unset, .unset, .unset, .unset, .unset, .unset] rfl 24 rfl ?_
  refine qI X2 hx (hb y d47_24) rfl 25 rfl ?_
  refine o_ifY X2 hx (hb y d47_25) ((if0 _ _).trans (flt (by decide : ¬ ((0 : Int32) < (0 : Int32)))).2.2.2) 67 (by decide) (by decide) ?_
  refine qI X2 hx (hb y d47_67) rfl 68 rfl ?_
  refine o_ifY X2 hx (hb y d47_68) ((if0 _ _).trans (flt (by decide : ¬ ((0 : Int32) < (0 : Int32)))).2.2.2) 77 (by decide) (by decide) ?_
  refine o_bipush X2 hx (hb y d47_77) (16 : Int32) rfl 79 rfl ?_
  refine qs X2 hx (hb y d47_79) #[.val (.ref b0), .val .null, .val (.int 0), .val (.int 0), .val (.int 16), .val (.int 0), .unset, .unset, .unset, .unset, .unset, .unset, .unset, .unset] rfl 81 rfl ?_
  refine o_bipush X2 hx (hb y d47_81) (12 : Int32) rfl 83 rfl ?_
  refine qs X2 hx (hb y d47_83) #[.val (.ref b0), .val .null, .val (.int 0), .val (.int 0), .val (.int 16), .val (.int 12), .unset, .unset, .unset, .unset, .unset, .unset, .unset, .unset] rfl 85 rfl ?_
  refine qi X2 hx (hb y d47_85) rfl 87 rfl ?_
  refine o_ifY X2 hx (hb y d47_87) ((if0 _ _).trans (feq (by decide : ¬ ((12 : Int32) = (0 : Int32)))).2) 125 (by decide) (by decide) ?_
  refine qA X2 hx (hb y d47_125) rfl rfl 126 rfl ?_
  refine qi X2 hx (hb y d47_126) rfl 128 rfl ?_
  refine qP X2 hx hZ hown (host := "") (Or.inl (w hw 380 rfl)) Via.refl e2 F_b0_threshold E_b0 (Or.inl (w hw 381 rfl)) (w hw 108 rfl) (ty := .int) (by decide) rfl rfl (hb y d47_128) 131 rfl fun T3 X3 W3 => ?_
  have G3 := Fld.same W3 F_b0_threshold
  have N4 := Fr.snoc X3 (Fr.nil n0) g_b0
  have K4 := Keep.wr (Keep.refl h0 [b0]) W3 (Or.inl (by simp))
  refine qi X3 hx (hb y d47_131) rfl 133 rfl ?_
  refine o_newR X3 hx hZ hown (w hw 382 rfl) (w hw 383 rfl) rfl (hb y d47_133) (by decide) 16 (by decide) (by decide) (by decide) (by decide) s23 (by decide) 136 rfl fun T5 a5 c5 g5 X5 E5 V5 A5 P5 => ?_
  have z_a5 : h0.size ≤ a5 := Nat.le_trans (K4).1 (Nat.le_of_eq g5)
  have K6 := Keep.ext K4 E5
  have V5 : Arv Z T5.heap a5 c5 (.object s5) (16 : Int32) [] .null := V5
  refine qt X5 hx (hb y d47_136) #[.val (.ref b0), .val .null, .val (.int 0), .val (.int 0), .val (.int 16), .val (.int 12), .val (.ref a5), .unset, .unset, .unset, .unset, .unset, .unset, .unset] rfl rfl 138 rfl ?_
  refine qA X5 hx (hb y d47_138) rfl rfl 139 rfl ?_
  refine qa X5 hx (hb y d47_139) rfl rfl 141 rfl ?_
  have f8 := ((F_b0_table.other W3 (Or.inr (sn_65 hw))).ext E5)
  have f9 := ((E_b0.wr W3).ext E5)
  refine qP X5 hx hZ hown (host := "") (Or.inl (w hw 373 rfl)) Via.refl rfl f8 f9 (Or.inl (w hw 374 rfl)) (w hw 108 rfl) (ty := (.array (.object s5))) (by decide) rfl rfl (hb y d47_141) 144 rfl fun T7 X7 W7 => ?_
  have G7 := Fld.same W7 f8
  have N10 := Fr.snoc X7 N4 g_b0
  have K10 := Keep.wr K6 W7 (Or.inl (by simp))
  refine qA X7 hx (hb y d47_144) rfl rfl 145 rfl ?_
  refine o_ifnullY X7 hx (hb y d47_145) 353 (by decide) (by decide) ?_
  refine qa X7 hx (hb y d47_353) rfl rfl 355 rfl ?_
  have f11 := (f9.wr W7)
  have f12 := (((F_b0_loadFactor.other W3 (Or.inr (Ne.symm (sn_17 hw)))).ext E5).other W7 (Or.inr (Ne.symm (sn_16 hw))))
  have f13 := (((F_b0_modCount.other W3 (Or.inr (sn_66 hw))).ext E5).other W7 (Or.inr (sn_67 hw)))
  have f14 := (((F_b0_size.other W3 (Or.inr (sn_68 hw))).ext E5).other W7 (Or.inr (sn_69 hw)))
  have f15 := ((G3.ext E5).other W7 (Or.inr (Ne.symm (sn_65 hw))))
  have ne17 := o_nl E_b0.lt (Nat.le_of_eq (Wr.size W3).symm) (Nat.le_of_eq g5)
  have f18 := (o_vo V5 W7 ne17)
  have f19 := (A5.wr W7)
  exact qR X7 hx hk hret rfl rfl (hb y d47_355) rfl (by show Q_rm_resize_55 Z h0 n0 b0 _ T7.heap _; exact ⟨a5, c5, rfl, N10, K10, z_a5, f11, f12, f13, f14, G7, f15, f18, f19, P5⟩) (by decide) (by decide)
def Q_rm__init__57 (Z : State) (h0 : Heap) (n0 : Nat) (b0 : Addr) (b1 : Addr) (b2 : Addr) (v : Option Value) (h : Heap) (L : List Loc) : Prop := v = none ∧ Fr n0 L ∧ Keep h0 h [b0] ∧ Exa Z h b0 s5 ∧ Fld Z h b0 s5 s37 "I" (.int 112) ∧ Fld Z h b0 s5 "key" s13 (.ref b1) ∧ Fld Z h b0 s5 s62 s28 .null ∧ Fld Z h b0 s5 s34 s13 (.ref b2)
theorem d49_0 : decode B46 0 = .ok (.aload_n 0, 1) := by decide +kernel
theorem d49_1 : decode B46 1 = .ok (.invokespecial 1, 3) := by decide +kernel
theorem d49_4 : decode B46 4 = .ok (.aload_n 0, 1) := by decide +kernel
theorem d49_5 : decode B46 5 = .ok (.iload_n 1, 1) := by decide +kernel
theorem d49_6 : decode B46 6 = .ok (.putfield 7, 3) := by decide +kernel
theorem d49_9 : decode B46 9 = .ok (.aload_n 0, 1) := by decide +kernel
theorem d49_10 : decode B46 10 = .ok (.aload_n 2, 1) := by decide +kernel
theorem d49_11 : decode B46 11 = .ok (.putfield 13, 3) := by decide +kernel
theorem d49_14 : decode B46 14 = .ok (.aload_n 0, 1) := by decide +kernel
theorem d49_15 : decode B46 15 = .ok (.aload_n 3, 1) := by decide +kernel
theorem d49_16 : decode B46 16 = .ok (.putfield 17, 3) := by decide +kernel
theorem d49_19 : decode B46 19 = .ok (.aload_n 0, 1) := by decide +kernel
theorem d49_20 : decode B46 20 = .ok (.aload 4, 2) := by decide +kernel
theorem d49_22 : decode B46 22 = .ok (.putfield 20, 3) := by decide +kernel
theorem d49_25 : decode B46 25 = .ok (.return_, 1) := by decide +kernel
theorem pn_22 : plainName "java/util/HashMap$Node" = true := by first | (simp [plainName, overriddenIn]; done) | decide +kernel
theorem ef_16 (m : MethodId) (y0 : Addr) (y1 : Int32) (y2 : Addr) (y3 : Addr) : entryFrame m #[(.ref y0), (.int y1), (.ref y2), (.ref y3), .null] 5 = mkF m 0 #[.val (.ref y0), .val (.int y1), .val (.ref y2), .val (.ref y3), .val .null] [] := by first | (simp [entryFrame, mkF, argsToLocals, Value.category]; done) | rfl
theorem rm__init__57 (hw : o_HW Z a0) (O : Old Z n0 h0) (b0 : Addr) (b1 : Addr) (b2 : Addr) (E_b0 : Exa Z h0 b0 s5) (F_b0_hash : Fld Z h0 b0 s5 s37 "I" (.int 0)) (F_b0_key : Fld Z h0 b0 s5 "key" s13 .null) (F_b0_next : Fld Z h0 b0 s5 s62 s28 .null) (F_b0_value : Fld Z h0 b0 s5 s34 s13 .null) (g_b0 : n0 ≤ b0) :
    o_Met l (⟨s5, s50, s52⟩ : MethodName) B46 5 none [] (o_rm 1 0 0 12) Z #[(.ref b0), (.int 112), (.ref b1), (.ref b2), .null] h0 (Q_rm__init__57 Z h0 n0 b0 b1 b2) := by
  refine o_met (pN pn_22) ?_
  intro p e s m below meth c T0 hx y hml hown hret hk hnm hZ X0 e0
  refine o_ent (ef_16 m b0 (112 : Int32) b1 b2) ?_
  refine qA X0 hx (hb y d49_0) rfl rfl 1 rfl ?_
  refine o_initO X0 hx hZ hown (w hw 395 rfl) (w hw 24 rfl) (w hw 25 rfl) e0 (by rw [hml]; rfl) (hb y d49_1) (by decide) 0 (Nat.le_of_eq rfl) (by decide) 4 rfl fun T1 X1 e1 => ?_
  refine qA X1 hx (hb y d49_4) rfl rfl 5 rfl ?_
  refine qI X1 hx (hb y d49_5) rfl 6 rfl ?_
  refine qP X1 hx hZ hown (host := "") (Or.inl (w hw 396 rfl)) Via.refl e1 F_b0_hash E_b0 (Or.inr ⟨(w hw 397 rfl), rfl, hnm⟩) (w hw 389 rfl) (ty := .int) (by decide) rfl rfl (hb y d49_6) 9 rfl fun T2 X2 W2 => ?_
  have G2 := Fld.same W2 F_b0_hash
  have N3 := Fr.snoc X2 (Fr.nil n0) g_b0
  have K3 := Keep.wr (Keep.refl h0 [b0]) W2 (Or.inl (by simp))
  refine qA X2 hx (hb y d49_9) rfl rfl 10 rfl ?_
  refine qA X2 hx (hb y d49_10) rfl rfl 11 rfl ?_
  have f5 := (F_b0_key.other W2 (Or.inr (sn_70 hw)))
  have f6 := (E_b0.wr W2)
  refine qP X2 hx hZ hown (host := "") (Or.inl (w hw 398 rfl)) Via.refl rfl f5 f6 (Or.inr ⟨(w hw 399 rfl), rfl, hnm⟩) (w hw 389 rfl) (ty := (.object s8)) (by decide) rfl rfl (hb y d49_11) 14 rfl fun T4 X4 W4 => ?_
  have G4 := Fld.same W4 f5
  have N7 := Fr.snoc X4 N3 g_b0
  have K7 := Keep.wr K3 W4 (Or.inl (by simp))
  refine qA X4 hx (hb y d49_14) rfl rfl 15 rfl ?_
  refine qA X4 hx (hb y d49_15) rfl rfl 16 rfl ?_
  have f9 := ((F_b0_value.other W2 (Or.inr (sn_71 hw))).other W4 (Or.inr (sn_72 hw)))
  have f10 := (f6.wr W4)
  refine qP X4 hx hZ hown (host := "") (Or.inl (w hw 400 rfl)) Via.refl rfl f9 f10 (Or.inl (w hw 401 rfl)) (w hw 389 rfl) (ty := (.object s8)) (by decide) rfl rfl (hb y d49_16) 19 rfl fun T8 X8 W8 => ?_
  have G8 := Fld.same W8 f9
  have N11 := Fr.snoc X8 N7 g_b0
  have K11 := Keep.wr K7 W8 (Or.inl (by simp))
  refine qA X8 hx (hb y d49_19) rfl rfl 20 rfl ?_
  refine qa X8 hx (hb y d49_20) rfl rfl 22 rfl ?_
  have f13 := (((F_b0_next.other W2 (Or.inr (sn_73 hw))).other W4 (Or.inr (sn_74 hw))).other W8 (Or.inr (sn_75 hw)))
  have f14 := (f10.wr W8)
  refine qP X8 hx hZ hown (host := "") (Or.inl (w hw 402 rfl)) Via.refl rfl f13 f14 (Or.inl (w hw 403 rfl)) (w hw 389 rfl) (ty := (.object s5)) (by decide) rfl rfl (hb y d49_22) 25 rfl fun T12 X12 W12 => ?_
  have G12 := Fld.same W12 f13
  have N15 := Fr.snoc X12 N11 g_b0
  have K15 := Keep.wr K11 W12 (Or.inl (by simp))
  have f16 := (f14.wr W12)
  have f17 := (((G2.other W4 (Or.inr (Ne.symm (sn_70 hw)))).other W8 (Or.inr (Ne.symm (sn_71 hw)))).other W12 (Or.inr (Ne.symm (sn_73 hw))))
  have f18 := ((G4.other W8 (Or.inr (Ne.symm (sn_72 hw)))).other W12 (Or.inr (Ne.symm (sn_74 hw))))
  have f19 := (G8.other W12 (Or.inr (Ne.symm (sn_75 hw))))
  exact qv X12 hx hk hret (hb y d49_25) (by show Q_rm__init__57 Z h0 n0 b0 b1 b2 _ T12.heap _; exact ⟨rfl, N15, K15, f16, f17, f18, G12, f19⟩) (by decide) (by decide)
def Q_rm_newNode_56 (Z : State) (h0 : Heap) (n0 : Nat) (b0 : Addr) (b1 : Addr) (b2 : Addr) (v : Option Value) (h : Heap) (L : List Loc) : Prop := ∃ (y0 : Addr), v = some (.ref y0) ∧ Fr n0 L ∧ Keep h0 h [] ∧ h0.size ≤ y0 ∧ Exa Z h y0 s5 ∧ Fld Z h y0 s5 s37 "I" (.int 112) ∧ Fld Z h y0 s5 "key" s13 (.ref b1) ∧ Fld Z h y0 s5 s62 s28 .null ∧ Fld Z h y0 s5 s34 s13 (.ref b2)
theorem pd_32 : parseMethodDescriptor "(ILjava/lang/Object;Ljava/lang/Object;Ljava/util/HashMap$Node;)V" = some ⟨[.int, (.object "java/lang/Object"), (.object "java/lang/Object"), (.object "java/util/HashMap$Node")], none⟩ := by decide +kernel
theorem d48_0 : decode B47 0 = .ok (.new 163, 3) := by decide +kernel
theorem d48_3 : decode B47 3 = .ok (.dup, 1) := by decide +kernel
theorem d48_4 : decode B47 4 = .ok (.iload_n 1, 1) := by decide +kernel
theorem d48_5 : decode B47 5 = .ok (.aload_n 2, 1) := by decide +kernel
theorem d48_6 : decode B47 6 = .ok (.aload_n 3, 1) := by decide +kernel
theorem d48_7 : decode B47 7 = .ok (.aload 4, 2) := by decide +kernel
theorem d48_9 : decode B47 9 = .ok (.invokespecial 375, 3) := by decide +kernel
theorem d48_12 : decode B47 12 = .ok (.areturn, 1) := by decide +kernel
theorem rm_newNode_56 (hw : o_HW Z a0) (O : Old Z n0 h0) (b0 : Addr) (b1 : Addr) (b2 : Addr) :
    o_Met l (⟨s7, "newNode", s45⟩ : MethodName) B47 5 (some (.object s5)) [] (o_rm 2 1 4 29) Z #[(.ref b0), (.int 112), (.ref b1), (.ref b2), .null] h0 (Q_rm_newNode_56 Z h0 n0 b0 b1 b2) := by
  refine o_met (pN pn_9) ?_
  intro p e s m below meth c T0 hx y hml hown hret hk hnm hZ X0 e0
  refine o_ent (ef_16 m b0 (112 : Int32) b1 b2) ?_
  refine nO X0 hx hZ hown (w hw 382 rfl) (w hw 389 rfl) (w hw 390 rfl) e0 (hb y d48_0) 3 rfl (by decide) (by decide) fun T1 a1 g1 X1 E1 A1 D1 => ?_
  have g_a1 : n0 ≤ a1 := Nat.le_trans (o_osz O) (Nat.le_of_eq g1)
  have z_a1 : h0.size ≤ a1 := Nat.le_trans ((Keep.refl h0 [])).1 (Nat.le_of_eq g1)
  have O2 := O.ext E1
  have K2 := Keep.ext (Keep.refl h0 []) E1
  have F1_hash : Fld Z T1.heap a1 s5 s37 "I" (.int 0) := D1 (Or.inr (w hw 397 rfl)) (ty := .int) (by decide)
  have F1_key : Fld Z T1.heap a1 s5 "key" s13 .null := D1 (Or.inr (w hw 399 rfl)) (ty := (.object s8)) (by decide)
  have F1_value : Fld Z T1.heap a1 s5 s34 s13 .null := D1 (Or.inl (w hw 401 rfl)) (ty := (.object s8)) (by decide)
  have F1_next : Fld Z T1.heap a1 s5 s62 s28 .null := D1 (Or.inl (w hw 403 rfl)) (ty := (.object s5)) (by decide)
  refine qD X1 hx (hb y d48_3) rfl 4 rfl ?_
  refine qI X1 hx (hb y d48_4) rfl 5 rfl ?_
  refine qA X1 hx (hb y d48_5) rfl rfl 6 rfl ?_
  refine qA X1 hx (hb y d48_6) rfl rfl 7 rfl ?_
  refine qa X1 hx (hb y d48_7) rfl rfl 9 rfl ?_
  refine kN X1 hx hZ rfl hown (w hw 391 rfl) (w hw 392 rfl) (w hw 390 rfl) (w hw 394 rfl) (by decide) a1 [(.int 112), (.ref b1), (.ref b2), .null] [(.ref a1)] 1 (rm__init__57 l Z a0 T1.heap n0 hw O2 a1 b1 b2 A1 F1_hash F1_key F1_next F1_value g_a1) (by decide) (by decide) rfl (by rw [hml]; rfl) (lenOf pd_32 rfl) (Nat.le_of_eq rfl) (hb y d48_9) (by decide) (by decide) 12 rfl fun v3 T3 L3 X3 hQ3 => ?_
  obtain ⟨rfl, Nq3, Kq3, p3_0, p3_1, p3_2, p3_3, p3_4⟩ := hQ3
  have N4 := Fr.app (Fr.nil n0) Nq3
  have K4 := Keep.trans K2 Kq3 (allS (Or.inr z_a1) all0)
  refine o_nV ?_
  exact qR X3 hx hk hret rfl rfl (hb y d48_12) rfl (by show Q_rm_newNode_56 Z h0 n0 b0 b1 b2 _ T3.heap _; exact ⟨a1, rfl, N4, K4, z_a1, p3_0, p3_1, p3_2, p3_3, p3_4⟩) (by decide) (by decide)
theorem d50_0 : decode B48 0 = .ok (.return_, 1) := by decide +kernel
theorem rm_afterNodeInsertion_58 (hw : o_HW Z a0) (O : Old Z n0 h0) (b0 : Addr) :
    o_Met l (⟨s7, "afterNodeInsertion", "(Z)V"⟩ : MethodName) B48 2 none [] (o_rm 0 0 0 0) Z #[(.ref b0), (.int 1)] h0 (o_R (none) h0) := by
  refine o_met (pN pn_9) ?_
  intro p e s m below meth c T0 hx y hml hown hret hk hnm hZ X0 e0
  refine o_ent (ef_8 m b0 (1 : Int32)) ?_
  exact qv X0 hx hk hret (hb y d50_0) ⟨rfl, e0, rfl⟩ (by decide) (by decide)
def Q_rm_putVal_54 (Z : State) (h0 : Heap) (n0 : Nat) (b0 : Addr) (b1 : Addr) (b2 : Addr) (v : Option Value) (h : Heap) (L : List Loc) : Prop := ∃ (y0 y1 : Addr) (yk0 : ClassId), v = some .null ∧ Fr n0 L ∧ Keep h0 h [b0] ∧ h0.size ≤ y0 ∧ h0.size ≤ y1 ∧ y0 ≠ y1 ∧ Exa Z h b0 s7 ∧ Fld Z h b0 s7 s44 "F" (.float (1061158912 : UInt32)) ∧ Fld Z h b0 s7 s29 "I" (.int 1) ∧ Fld Z h b0 s7 s26 "I" (.int 1) ∧ Fld Z h b0 s7 s61 s23 (.ref y0) ∧ Fld Z h b0 s7 s46 "I" (.int 12) ∧ Arv Z h y0 yk0 (.object s5) (16 : Int32) [(.ref y1)] .null ∧ Exa Z h y0 s23 ∧ Ovr Z yk0 s5 ∧ Exa Z h y1 s5 ∧ Fld Z h y1 s5 s37 "I" (.int 112) ∧ Fld Z h y1 s5 "key" s13 (.ref b1) ∧ Fld Z h y1 s5 s62 s28 .null ∧ Fld Z h y1 s5 s34 s13 (.ref b2)
theorem pd_31 : parseMethodDescriptor "()[Ljava/util/HashMap$Node;" = some ⟨[], some (.array (.object "java/util/HashMap$Node"))⟩ := by decide +kernel
theorem pd_33 : parseMethodDescriptor "(ILjava/lang/Object;Ljava/lang/Object;Ljava/util/HashMap$Node;)Ljava/util/HashMap$Node;" = some ⟨[.int, (.object "java/lang/Object"), (.object "java/lang/Object"), (.object "java/util/HashMap$Node")], some (.object "java/util/HashMap$Node")⟩ := by decide +kernel
theorem pd_34 : parseMethodDescriptor "(Z)V" = some ⟨[.boolean], none⟩ := by decide +kernel
theorem d46_0 : decode B49 0 = .ok (.aload_n 0, 1) := by decide +kernel
theorem d46_1 : decode B49 1 = .ok (.getfield 105, 3) := by decide +kernel
theorem d46_4 : decode B49 4 = .ok (.dup, 1) := by decide +kernel
theorem d46_5 : decode B49 5 = .ok (.astore 6, 2) := by decide +kernel
theorem d46_7 : decode B49 7 = .ok (.ifnull 12, 3) := by decide +kernel
theorem d46_19 : decode B49 19 = .ok (.aload_n 0, 1) := by decide +kernel
theorem d46_20 : decode B49 20 = .ok (.invokevirtual 117, 3) := by decide +kernel
theorem d46_23 : decode B49 23 = .ok (.dup, 1) := by decide +kernel
theorem d46_24 : decode B49 24 = .ok (.astore 6, 2) := by decide +kernel
theorem d46_26 : decode B49 26 = .ok (.arraylength, 1) := by decide +kernel
theorem d46_27 : decode B49 27 = .ok (.istore 8, 2) := by decide +kernel
theorem d46_29 : decode B49 29 = .ok (.aload 6, 2) := by decide +kernel
theorem d46_31 : decode B49 31 = .ok (.iload 8, 2) := by decide +kernel
theorem d46_33 : decode B49 33 = .ok (.iconst 1, 1) := by decide +kernel
theorem d46_34 : decode B49 34 = .ok (.isub, 1) := by decide +kernel
theorem d46_35 : decode B49 35 = .ok (.iload_n 1, 1) := by decide +kernel
theorem d46_36 : decode B49 36 = .ok (.iand, 1) := by decide +kernel
theorem d46_37 : decode B49 37 = .ok (.dup, 1) := by decide +kernel
theorem d46_38 : decode B49 38 = .ok (.istore 9, 2) := by decide +kernel
theorem d46_40 : decode B49 40 = .ok (.aaload, 1) := by decide +kernel
theorem d46_41 : decode B49 41 = .ok (.dup, 1) := by decide +kernel
theorem d46_42 : decode B49 42 = .ok (.astore 7, 2) := by decide +kernel
theorem d46_44 : decode B49 44 = .ok (.ifnonnull 19, 3) := by decide +kernel
theorem d46_47 : decode B49 47 = .ok (.aload 6, 2) := by decide +kernel
theorem d46_49 : decode B49 49 = .ok (.iload 9, 2) := by decide +kernel
theorem d46_51 : decode B49 51 = .ok (.aload_n 0, 1) := by decide +kernel
theorem d46_52 : decode B49 52 = .ok (.iload_n 1, 1) := by decide +kernel
theorem d46_53 : decode B49 53 = .ok (.aload_n 2, 1) := by decide +kernel
theorem d46_54 : decode B49 54 = .ok (.aload_n 3, 1) := by decide +kernel
theorem d46_55 : decode B49 55 = .ok (.aconst_null, 1) := by decide +kernel
theorem d46_56 : decode B49 56 = .ok (.invokevirtual 186, 3) := by decide +kernel
theorem d46_59 : decode B49 59 = .ok (.aastore, 1) := by decide +kernel
theorem d46_60 : decode B49 60 = .ok (.goto 199, 3) := by decide +kernel
theorem d46_259 : decode B49 259 = .ok (.aload_n 0, 1) := by decide +kernel
theorem d46_260 : decode B49 260 = .ok (.dup, 1) := by decide +kernel
theorem d46_261 : decode B49 261 = .ok (.getfield 202, 3) := by decide +kernel
theorem d46_264 : decode B49 264 = .ok (.iconst 1, 1) := by decide +kernel
theorem d46_265 : decode B49 265 = .ok (.iadd, 1) := by decide +kernel
theorem d46_266 : decode B49 266 = .ok (.putfield 202, 3) := by decide +kernel
theorem d46_269 : decode B49 269 = .ok (.aload_n 0, 1) := by decide +kernel
theorem d46_270 : decode B49 270 = .ok (.dup, 1) := by decide +kernel
theorem d46_271 : decode B49 271 = .ok (.getfield 156, 3) := by decide +kernel
theorem d46_274 : decode B49 274 = .ok (.iconst 1, 1) := by decide +kernel
theorem d46_275 : decode B49 275 = .ok (.iadd, 1) := by decide +kernel
theorem d46_276 : decode B49 276 = .ok (.dup_x1, 1) := by decide +kernel
theorem d46_277 : decode B49 277 = .ok (.putfield 156, 3) := by decide +kernel
theorem d46_280 : decode B49 280 = .ok (.aload_n 0, 1) := by decide +kernel
theorem d46_281 : decode B49 281 = .ok (.getfield 88, 3) := by decide +kernel
theorem d46_284 : decode B49 284 = .ok (.if_icmp .le 8, 3) := by decide +kernel
theorem d46_292 : decode B49 292 = .ok (.aload_n 0, 1) := by decide +kernel
theorem d46_293 : decode B49 293 = .ok (.iload 5, 2) := by decide +kernel
theorem d46_295 : decode B49 295 = .ok (.invokevirtual 205, 3) := by decide +kernel
theorem d46_298 : decode B49 298 = .ok (.aconst_null, 1) := by decide +kernel
theorem d46_299 : decode B49 299 = .ok (.areturn, 1) := by decide +kernel
theorem ef_17 (m : MethodId) (y0 : Addr) (y1 : Int32) (y2 : Addr) (y3 : Addr) (y4 : Int32) (y5 : Int32) : entryFrame m #[(.ref y0), (.int y1), (.ref y2), (.ref y3), (.int y4), (.int y5)] 13 = mkF m 0 #[.val (.ref y0), .val (.int y1), .val (.ref y2), .val (.ref y3), .val (.int y4), .val (.int y5), .unset, .unset, .unset, .unset, .unset, .unset, .unset] [] := by first | (simp [entryFrame, mkF, argsToLocals, Value.category]; done) | rfl
theorem rm_putVal_54 (hw : o_HW Z a0) (O : Old Z n0 h0) (b0 : Addr) (b1 : Addr) (b2 : Addr) (E_b0 : Exa Z h0 b0 s7) (F_b0_loadFactor : Fld Z h0 b0 s7 s44 "F" (.float (1061158912 : UInt32))) (F_b0_modCount : Fld Z h0 b0 s7 s29 "I" (.int 0)) (F_b0_size : Fld Z h0 b0 s7 s26 "I" (.int 0)) (F_b0_table : Fld Z h0 b0 s7 s61 s23 .null) (F_b0_threshold : Fld Z h0 b0 s7 s46 "I" (.int 0)) (g_b0 : n0 ≤ b0) :
    o_Met l (⟨s7, "putVal", s56⟩ : MethodName) B49 13 (some (.object s8)) [] (o_rm 3 2 20 47) Z #[(.ref b0), (.int 112), (.ref b1), (.ref b2), (.int 0), (.int 1)] h0 (Q_rm_putVal_54 Z h0 n0 b0 b1 b2) := by
  refine o_met (pN pn_9) ?_
  intro p e s m below meth c T0 hx y hml hown hret hk hnm hZ X0 e0
  refine o_ent (ef_17 m b0 (112 : Int32) b1 b2 (0 : Int32) (1 : Int32)) ?_
  refine qA X0 hx (hb y d46_0) rfl rfl 1 rfl ?_
  refine qF X0 hx hZ hown (host := "") (Or.inl (w hw 373 rfl)) Via.refl e0 F_b0_table (hb y d46_1) 4 rfl fun T1 X1 e1 => ?_
  refine qD X1 hx (hb y d46_4) rfl 5 rfl ?_
  refine qt X1 hx (hb y d46_5) #[.val (.ref b0), .val (.int 112), .val (.ref b1), .val (.ref b2), .val (.int 0), .val (.int 1), .val .null, .unset, .unset, .unset, .unset, .unset, .unset] rfl rfl 7 rfl ?_
  refine o_ifnullY X1 hx (hb y d46_7) 19 (by decide) (by decide) ?_
  refine qA X1 hx (hb y d46_19) rfl rfl 20 rfl ?_
  refine o_kV X1 hx hZ hown (w hw 375 rfl) (w hw 376 rfl) (notFace_of_selects (args := #[]) (mvT hZ (w hw 378 rfl))) (w hw 378 rfl) (w hw 377 rfl) (w hw 109 rfl) (w hw 379 rfl) (by decide) b0 [] [] 0 (rm_resize_55 l Z a0 h0 n0 hw O b0 E_b0 F_b0_loadFactor F_b0_modCount F_b0_size F_b0_table F_b0_threshold g_b0) (by decide) (by decide) e1 E_b0 (by rw [hml]; rfl) (lenOf pd_31 rfl) (Nat.le_of_eq rfl) (hb y d46_20) (by decide) (by decide) 23 rfl fun v2 T2 L2 X2 hQ2 => ?_
  obtain ⟨q2_0, qk2_0, rfl, Nq2, Kq2, le_q2_0, p2_0, p2_1, p2_2, p2_3, p2_4, p2_5, p2_6, p2_7, p2_8⟩ := hQ2
  have g_q2_0 : n0 ≤ q2_0 := Nat.le_trans (o_osz O) le_q2_0
  have z_q2_0 : h0.size ≤ q2_0 := Nat.le_trans ((Keep.refl h0 [b0])).1 le_q2_0
  have O3 := O.keep Kq2 (allS g_b0 all0)
  have N3 := Fr.app (Fr.nil n0) Nq2
  have K3 := Keep.trans (Keep.refl h0 [b0]) Kq2 (allS (Or.inl (by simp)) all0)
  refine o_nR ?_
  refine qD X2 hx (hb y d46_23) rfl 24 rfl ?_
  refine qt X2 hx (hb y d46_24) #[.val (.ref b0), .val (.int 112), .val (.ref b1), .val (.ref b2), .val (.int 0), .val (.int 1), .val (.ref q2_0), .unset, .unset, .unset, .unset, .unset, .unset] rfl rfl 26 rfl ?_
  refine o_alen X2 hx hZ rfl p2_6 (hb y d46_26) 27 rfl ?_
  refine qs X2 hx (hb y d46_27) #[.val (.ref b0), .val (.int 112), .val (.ref b1), .val (.ref b2), .val (.int 0), .val (.int 1), .val (.ref q2_0), .unset, .val (.int 16), .unset, .unset, .unset, .unset] rfl 29 rfl ?_
  refine qa X2 hx (hb y d46_29) rfl rfl 31 rfl ?_
  refine qi X2 hx (hb y d46_31) rfl 33 rfl ?_
  refine qC X2 hx (hb y d46_33) (1 : Int32) rfl 34 rfl ?_
  refine o_isub X2 hx (hb y d46_34) 35 rfl ?_
  refine o_topI (15 : Int32) (by decide) ?_
  refine qI X2 hx (hb y d46_35) rfl 36 rfl ?_
  refine o_iand X2 hx (hb y d46_36) 37 rfl ?_
  refine o_topI (0 : Int32) (by decide) ?_
  refine qD X2 hx (hb y d46_37) rfl 38 rfl ?_
  refine qs X2 hx (hb y d46_38) #[.val (.ref b0), .val (.int 112), .val (.ref b1), .val (.ref b2), .val (.int 0), .val (.int 1), .val (.ref q2_0), .unset, .val (.int 16), .val (.int 0), .unset, .unset, .unset] rfl 40 rfl ?_
  refine o_aaload X2 hx hZ rfl p2_6 rfl .null (by decide) rfl (hb y d46_40) 41 rfl ?_
  refine qD X2 hx (hb y d46_41) rfl 42 rfl ?_
  refine qt X2 hx (hb y d46_42) #[.val (.ref b0), .val (.int 112), .val (.ref b1), .val (.ref b2), .val (.int 0), .val (.int 1), .val (.ref q2_0), .val .null, .val (.int 16), .val (.int 0), .unset, .unset, .unset] rfl rfl 44 rfl ?_
  refine o_ifnonnullN X2 hx (hb y d46_44) 47 rfl ?_
  refine qa X2 hx (hb y d46_47) rfl rfl 49 rfl ?_
  refine qi X2 hx (hb y d46_49) rfl 51 rfl ?_
  refine qA X2 hx (hb y d46_51) rfl rfl 52 rfl ?_
  refine qI X2 hx (hb y d46_52) rfl 53 rfl ?_
  refine qA X2 hx (hb y d46_53) rfl rfl 54 rfl ?_
  refine qA X2 hx (hb y d46_54) rfl rfl 55 rfl ?_
  refine o_aconst_null X2 hx (hb y d46_55) 56 rfl ?_
  refine o_kV X2 hx hZ hown (w hw 384 rfl) (w hw 385 rfl) (notFace_of_selects (args := #[]) (mvT hZ (w hw 387 rfl))) (w hw 387 rfl) (w hw 386 rfl) (w hw 109 rfl) (w hw 388 rfl) (by decide) b0 [(.int 112), (.ref b1), (.ref b2), .null] [(.int 0), (.ref q2_0)] 2 (rm_newNode_56 l Z a0 T2.heap n0 hw O3 b0 b1 b2) (by decide) (by decide) rfl p2_0 (by rw [hml]; rfl) (lenOf pd_33 rfl) (Nat.le_of_eq rfl) (hb y d46_56) (by decide) (by decide) 59 rfl fun v4 T4 L4 X4 hQ4 => ?_
  obtain ⟨q4_0, rfl, Nq4, Kq4, le_q4_0, p4_0, p4_1, p4_2, p4_3, p4_4⟩ := hQ4
  have z_q4_0 : h0.size ≤ q4_0 := Nat.le_trans (K3).1 le_q4_0
  have O5 := O3.keep Kq4 all0
  have N5 := Fr.app N3 Nq4
  have K5 := Keep.trans K3 Kq4 all0
  refine o_nR ?_
  have f6 := (p2_6.keep Kq4 nin0)
  have V7 : Arv Z T4.heap q2_0 qk2_0 (.object s5) (16 : Int32) [.null] .null := f6.pad (pad_rep [] .null 1)
  refine o_aastore X4 hx hZ rfl V7 rfl rfl (fun _ u q => Sto.ofV u q p2_8 (Ins.self p4_0)) 0 (by decide) (by decide) (by simp) [(.ref q4_0)] rfl (hb y d46_59) 60 rfl fun T8 X8 W8 V8 => ?_
  have O9 := O5.wr W8 g_q2_0
  have N9 := Fr.snoc X8 N5 g_q2_0
  have K9 := Keep.wr K5 W8 (Or.inr z_q2_0)
  refine qG X8 hx (hb y d46_60) 259 (by decide) (by decide) ?_
  refine qA X8 hx (hb y d46_259) rfl rfl 260 rfl ?_
  refine qD X8 hx (hb y d46_260) rfl 261 rfl ?_
  have ne10 := o_nl E_b0.lt (Nat.le_refl _) le_q2_0
  have f11 := ((p2_2.keep Kq4 nin0).other W8 (Or.inl ne10))
  refine qF X8 hx hZ hown (host := "") (Or.inl (w hw 404 rfl)) Via.refl rfl f11 (hb y d46_261) 264 rfl fun T12 X12 e12 => ?_
  refine qC X12 hx (hb y d46_264) (1 : Int32) rfl 265 rfl ?_
  refine o_iadd X12 hx (hb y d46_265) 266 rfl ?_
  refine o_topI (1 : Int32) (by decide) ?_
  have f14 := ((p2_0.keep Kq4).wr W8)
  refine qP X12 hx hZ hown (host := "") (Or.inl (w hw 404 rfl)) Via.refl e12 f11 f14 (Or.inl (w hw 405 rfl)) (w hw 108 rfl) (ty := .int) (by decide) rfl rfl (hb y d46_266) 269 rfl fun T13 X13 W13 => ?_
  have G13 := Fld.same W13 f11
  have O15 := O9.wr W13 g_b0
  have N15 := Fr.snoc X13 N9 g_b0
  have K15 := Keep.wr K9 W13 (Or.inl (by simp))
  refine qA X13 hx (hb y d46_269) rfl rfl 270 rfl ?_
  refine qD X13 hx (hb y d46_270) rfl 271 rfl ?_
  have f16 := (((p2_3.keep Kq4 nin0).other W8 (Or.inl ne10)).other W13 (Or.inr (sn_76 hw)))
  refine qF X13 hx hZ hown (host := "") (Or.inl (w hw 406 rfl)) Via.refl rfl f16 (hb y d46_271) 274 rfl fun T17 X17 e17 => ?_
  refine qC X17 hx (hb y d46_274) (1 : Int32) rfl 275 rfl ?_
  refine o_iadd X17 hx (hb y d46_275) 276 rfl ?_
  refine o_topI (1 : Int32) (by decide) ?_
  refine o_dup_x1 X17 hx (hb y d46_276) rfl rfl 277 rfl ?_
  have f19 := (f14.wr W13)
  refine qP X17 hx hZ hown (host := "") (Or.inl (w hw 406 rfl)) Via.refl e17 f16 f19 (Or.inl (w hw 407 rfl)) (w hw 108 rfl) (ty := .int) (by decide) rfl rfl (hb y d46_277) 280 rfl fun T18 X18 W18 => ?_
  have G18 := Fld.same W18 f16
  have O20 := O15.wr W18 g_b0
  have N20 := Fr.snoc X18 N15 g_b0
  have K20 := Keep.wr K15 W18 (Or.inl (by simp))
  refine qA X18 hx (hb y d46_280) rfl rfl 281 rfl ?_
  have f21 := ((((p2_5.keep Kq4 nin0).other W8 (Or.inl ne10)).other W13 (Or.inr (Ne.symm (sn_66 hw)))).other W18 (Or.inr (Ne.symm (sn_68 hw))))
  refine qF X18 hx hZ hown (host := "") (Or.inl (w hw 380 rfl)) Via.refl rfl f21 (hb y d46_281) 284 rfl fun T22 X22 e22 => ?_
  refine o_icmpY X22 hx (hb y d46_284) (flt (by decide : ¬ ((12 : Int32) < (1 : Int32)))).2.2.2 292 (by decide) (by decide) ?_
  refine qA X22 hx (hb y d46_292) rfl rfl 293 rfl ?_
  refine qi X22 hx (hb y d46_293) rfl 295 rfl ?_
  have f24 := (f19.wr W18)
  refine o_voidV X22 hx hZ hown (w hw 408 rfl) (w hw 409 rfl) (notFace_of_selects (args := #[]) (mvT hZ (w hw 411 rfl))) (w hw 411 rfl) (w hw 410 rfl) (w hw 109 rfl) (w hw 412 rfl) (by decide) b0 [(.int 1)] [] 0 (rm_afterNodeInsertion_58 l Z a0 T18.heap n0 hw O20 b0) (by decide) (by decide) rfl rfl e22 f24 (by rw [hml]; rfl) (lenOf pd_34 rfl) (Nat.le_of_eq rfl) (hb y d46_295) 298 rfl rfl (by decide) (by decide) fun T25 X25 e25 => ?_
  refine o_aconst_null X25 hx (hb y d46_298) 299 rfl ?_
  have f26 := ((((p2_1.keep Kq4 nin0).other W8 (Or.inl ne10)).other W13 (Or.inr (Ne.symm (sn_14 hw)))).other W18 (Or.inr (Ne.symm (sn_15 hw))))
  have f27 := (G13.other W18 (Or.inr (Ne.symm (sn_76 hw))))
  have f28 := ((((p2_4.keep Kq4 nin0).other W8 (Or.inl ne10)).other W13 (Or.inr (Ne.symm (sn_67 hw)))).other W18 (Or.inr (Ne.symm (sn_69 hw))))
  have f29 := (o_vo (o_vo V8 W13 ne10) W18 ne10)
  have f30 := ((((p2_7.keep Kq4).wr W8).wr W13).wr W18)
  have f31 := (((p4_0.wr W8).wr W13).wr W18)
  have ne33 := o_nl p2_7.lt (Nat.le_refl _) le_q4_0
  have ne35 := o_nl E_b0.lt Kq2.1 le_q4_0
  have f36 := (o_fo (o_fo (o_fo p4_1 W8 ne33) W13 ne35) W18 ne35)
  have f37 := (o_fo (o_fo (o_fo p4_2 W8 ne33) W13 ne35) W18 ne35)
  have f38 := (o_fo (o_fo (o_fo p4_3 W8 ne33) W13 ne35) W18 ne35)
  have f39 := (o_fo (o_fo (o_fo p4_4 W8 ne33) W13 ne35) W18 ne35)
  exact qR X25 hx hk hret rfl rfl (hb y d46_299) rfl (by show Q_rm_putVal_54 Z h0 n0 b0 b1 b2 _ T25.heap _; rw [e25]; exact ⟨q2_0, q4_0, qk2_0, rfl, N20, K20, z_q2_0, z_q4_0, ne33, f24, f26, f27, G18, f28, f21, f29, f30, p2_8, f31, f36, f37, f38, f39⟩) (by decide) (by decide)
def Q_rm_put_49 (Z : State) (h0 : Heap) (n0 : Nat) (b0 : Addr) (b1 : Addr) (b2 : Addr) (b3 : Addr) (k_b3 : ClassId) (v : Option Value) (h : Heap) (L : List Loc) : Prop := ∃ (y0 y1 : Addr) (yk0 : ClassId), v = some .null ∧ Fr n0 L ∧ Keep h0 h [b1, b0] ∧ h0.size ≤ y0 ∧ h0.size ≤ y1 ∧ y0 ≠ y1 ∧ Exa Z h b0 s7 ∧ Fld Z h b0 s7 s44 "F" (.float (1061158912 : UInt32)) ∧ Fld Z h b0 s7 s29 "I" (.int 1) ∧ Fld Z h b0 s7 s26 "I" (.int 1) ∧ Fld Z h b0 s7 s61 s23 (.ref y0) ∧ Fld Z h b0 s7 s46 "I" (.int 12) ∧ Exa Z h b1 s4 ∧ Fld Z h b1 s4 s43 "B" (.int 0) ∧ Fld Z h b1 s4 s37 "I" (.int 112) ∧ Fld Z h b1 s4 s33 "Z" (.int 0) ∧ Fld Z h b1 s4 s34 "[B" (.ref b3) ∧ Arv Z h y0 yk0 (.object s5) (16 : Int32) [(.ref y1)] .null ∧ Exa Z h y0 s23 ∧ Ovr Z yk0 s5 ∧ Exa Z h y1 s5 ∧ Fld Z h y1 s5 s37 "I" (.int 112) ∧ Fld Z h y1 s5 "key" s13 (.ref b1) ∧ Fld Z h y1 s5 s62 s28 .null ∧ Fld Z h y1 s5 s34 s13 (.ref b2)
theorem pd_30 : parseMethodDescriptor "(Ljava/lang/Object;)I" = some ⟨[(.object "java/lang/Object")], some .int⟩ := by decide +kernel
theorem pd_35 : parseMethodDescriptor "(ILjava/lang/Object;Ljava/lang/Object;ZZ)Ljava/lang/Object;" = some ⟨[.int, (.object "java/lang/Object"), (.object "java/lang/Object"), .boolean, .boolean], some (.object "java/lang/Object")⟩ := by decide +kernel
theorem d41_0 : decode B50 0 = .ok (.aload_n 0, 1) := by decide +kernel
theorem d41_1 : decode B50 1 = .ok (.aload_n 1, 1) := by decide +kernel
theorem d41_2 : decode B50 2 = .ok (.invokestatic 149, 3) := by decide +kernel
theorem d41_5 : decode B50 5 = .ok (.aload_n 1, 1) := by decide +kernel
theorem d41_6 : decode B50 6 = .ok (.aload_n 2, 1) := by decide +kernel
theorem d41_7 : decode B50 7 = .ok (.iconst 0, 1) := by decide +kernel
theorem d41_8 : decode B50 8 = .ok (.iconst 1, 1) := by decide +kernel
theorem d41_9 : decode B50 9 = .ok (.invokevirtual 152, 3) := by decide +kernel
theorem d41_12 : decode B50 12 = .ok (.areturn, 1) := by decide +kernel
theorem ef_18 (m : MethodId) (y0 : Addr) (y1 : Addr) (y2 : Addr) : entryFrame m #[(.ref y0), (.ref y1), (.ref y2)] 3 = mkF m 0 #[.val (.ref y0), .val (.ref y1), .val (.ref y2)] [] := by first | (simp [entryFrame, mkF, argsToLocals, Value.category]; done) | rfl
theorem rm_put_49 (hw : o_HW Z a0) (H : o_C Z Z.heap w_NW w_DC w_EL w_EA w_EM w_MO w_cacheI c_cacheI k_DC k_EA z_CS) (O : Old Z n0 h0) (b0 : Addr) (b1 : Addr) (b2 : Addr) (b3 : Addr) (k_b3 : ClassId) (E_b0 : Exa Z h0 b0 s7) (F_b0_loadFactor : Fld Z h0 b0 s7 s44 "F" (.float (1061158912 : UInt32))) (F_b0_modCount : Fld Z h0 b0 s7 s29 "I" (.int 0)) (F_b0_size : Fld Z h0 b0 s7 s26 "I" (.int 0)) (F_b0_table : Fld Z h0 b0 s7 s61 s23 .null) (F_b0_threshold : Fld Z h0 b0 s7 s46 "I" (.int 0)) (g_b0 : n0 ≤ b0) (E_b1 : Exa Z h0 b1 s4) (F_b1_coder : Fld Z h0 b1 s4 s43 "B" (.int 0)) (F_b1_hash : Fld Z h0 b1 s4 s37 "I" (.int 0)) (F_b1_hashIsZero : Fld Z h0 b1 s4 s33 "Z" (.int 0)) (F_b1_value : Fld Z h0 b1 s4 s34 "[B" (.ref b3)) (g_b1 : n0 ≤ b1) (V_b3 : Arv Z h0 b3 k_b3 .byte (1 : Int32) [(.int 112)] (.int 0)) (ne_b0_b1 : b0 ≠ b1) :
    o_Met l (⟨s7, "put", s58⟩ : MethodName) B50 3 (some (.object s8)) [] (o_rm 4 2 20 71) Z #[(.ref b0), (.ref b1), (.ref b2)] h0 (Q_rm_put_49 Z h0 n0 b0 b1 b2 b3 k_b3) := by
  refine o_met (pN pn_9) ?_
  intro p e s m below meth c T0 hx y hml hown hret hk hnm hZ X0 e0
  obtain ⟨-, -, -, -, -, -, -, -, -, -, -, -, -, -, -, -, -, -, -⟩ := id H
  refine o_ent (ef_18 m b0 b1 b2) ?_
  refine qA X0 hx (hb y d41_0) rfl rfl 1 rfl ?_
  refine qA X0 hx (hb y d41_1) rfl rfl 2 rfl ?_
  refine kS X0 hx hZ hown (w hw 347 rfl) (w hw 348 rfl) (w hw 109 rfl) (w hw 349 rfl) (by decide) [(.ref b1)] [(.ref b0)] 1 (rm_hash_50 l Z a0 h0 n0 hw H O b1 b3 k_b3 E_b1 F_b1_coder F_b1_hash F_b1_hashIsZero F_b1_value g_b1 V_b3) (by decide) (by decide) e0 (by rw [hml]; rfl) (lenOf pd_30 rfl) (Nat.le_of_eq rfl) (hb y d41_2) (by decide) (by decide) 5 rfl fun v1 T1 L1 X1 hQ1 => ?_
  obtain ⟨rfl, Nq1, Kq1, p1_0, p1_1, p1_2, p1_3, p1_4⟩ := hQ1
  have O2 := O.keep Kq1 (allS g_b1 all0)
  have N2 := Fr.app (Fr.nil n0) Nq1
  have K2 := Keep.trans (Keep.refl h0 [b1, b0]) Kq1 (allS (Or.inl (by simp)) all0)
  refine o_nR ?_
  refine qA X1 hx (hb y d41_5) rfl rfl 6 rfl ?_
  refine qA X1 hx (hb y d41_6) rfl rfl 7 rfl ?_
  refine qC X1 hx (hb y d41_7) (0 : Int32) rfl 8 rfl ?_
  refine qC X1 hx (hb y d41_8) (1 : Int32) rfl 9 rfl ?_
  have f4 := (E_b0.keep Kq1)
  have f5 := (F_b0_loadFactor.keep Kq1 (ninS ne_b0_b1 nin0))
  have f6 := (F_b0_modCount.keep Kq1 (ninS ne_b0_b1 nin0))
  have f7 := (F_b0_size.keep Kq1 (ninS ne_b0_b1 nin0))
  have f8 := (F_b0_table.keep Kq1 (ninS ne_b0_b1 nin0))
  have f9 := (F_b0_threshold.keep Kq1 (ninS ne_b0_b1 nin0))
  refine o_kV X1 hx hZ hown (w hw 368 rfl) (w hw 369 rfl) (notFace_of_selects (args := #[]) (mvT hZ (w hw 371 rfl))) (w hw 371 rfl) (w hw 370 rfl) (w hw 109 rfl) (w hw 372 rfl) (by decide) b0 [(.int 112), (.ref b1), (.ref b2), (.int 0), (.int 1)] [] 0 (rm_putVal_54 l Z a0 T1.heap n0 hw O2 b0 b1 b2 f4 f5 f6 f7 f8 f9 g_b0) (by decide) (by decide) rfl f4 (by rw [hml]; rfl) (lenOf pd_35 rfl) (Nat.le_of_eq rfl) (hb y d41_9) (by decide) (by decide) 12 rfl fun v3 T3 L3 X3 hQ3 => ?_
  obtain ⟨q3_0, q3_1, qk3_0, rfl, Nq3, Kq3, le_q3_0, le_q3_1, ne_q3_0_q3_1, p3_0, p3_1, p3_2, p3_3, p3_4, p3_5, p3_6, p3_7, p3_8, p3_9, p3_10, p3_11, p3_12, p3_13⟩ := hQ3
  have z_q3_0 : h0.size ≤ q3_0 := Nat.le_trans (K2).1 le_q3_0
  have z_q3_1 : h0.size ≤ q3_1 := Nat.le_trans (K2).1 le_q3_1
  have N10 := Fr.app N2 Nq3
  have K10 := Keep.trans K2 Kq3 (allS (Or.inl (by simp)) all0)
  refine o_nR ?_
  have f11 := (p1_0.keep Kq3)
  have f12 := (p1_1.keep Kq3 (ninS (Ne.symm ne_b0_b1) nin0))
  have f13 := (p1_2.keep Kq3 (ninS (Ne.symm ne_b0_b1) nin0))
  have f14 := (p1_3.keep Kq3 (ninS (Ne.symm ne_b0_b1) nin0))
  have f15 := (p1_4.keep Kq3 (ninS (Ne.symm ne_b0_b1) nin0))
  exact qR X3 hx hk hret rfl rfl (hb y d41_12) rfl (by show Q_rm_put_49 Z h0 n0 b0 b1 b2 b3 k_b3 _ T3.heap _; exact ⟨q3_0, q3_1, qk3_0, rfl, N10, K10, z_q3_0, z_q3_1, ne_q3_0_q3_1, p3_0, p3_1, p3_2, p3_3, p3_4, p3_5, f11, f12, f13, f14, f15, p3_6, p3_7, p3_8, p3_9, p3_10, p3_11, p3_12, p3_13⟩) (by decide) (by decide)
def Q_rm__init__33 (Z : State) (h0 : Heap) (n0 : Nat) (b0 : Addr) (b1 : Addr) (b2 : Addr) (b3 : Addr) (b4 : Addr) (b5 : Addr) (b6 : Addr) (k_b3 : ClassId) (k_b6 : ClassId) (w_EM : Addr) (v : Option Value) (h : Heap) (L : List Loc) : Prop := ∃ (y0 : Addr), v = none ∧ Fr n0 L ∧ Keep h0 h [b0, b5] ∧ h0.size ≤ y0 ∧ Exa Z h b0 s3 ∧ Fld Z h b0 s3 s35 s17 (.ref y0) ∧ Exa Z h b5 s4 ∧ Fld Z h b5 s4 s43 "B" (.int 0) ∧ Fld Z h b5 s4 s37 "I" (.int 112) ∧ Fld Z h b5 s4 s33 "Z" (.int 0) ∧ Fld Z h b5 s4 s34 "[B" (.ref b6) ∧ Exa Z h y0 s9 ∧ Fld Z h y0 s9 "e0" s13 (.ref b4) ∧ Fld Z h y0 s9 "e1" s13 (.ref w_EM)
theorem pd_26 : parseMethodDescriptor "(I)Ljava/lang/Object;" = some ⟨[.int], some (.object "java/lang/Object")⟩ := by decide +kernel
theorem pd_27 : parseMethodDescriptor "()Ljava/lang/String;" = some ⟨[], some (.object "java/lang/String")⟩ := by decide +kernel
theorem pd_28 : parseMethodDescriptor "(I)Ljava/lang/Integer;" = some ⟨[.int], some (.object "java/lang/Integer")⟩ := by decide +kernel
theorem pd_36 : parseMethodDescriptor "(Ljava/lang/Object;Ljava/lang/Object;)Ljava/lang/Object;" = some ⟨[(.object "java/lang/Object"), (.object "java/lang/Object")], some (.object "java/lang/Object")⟩ := by decide +kernel
theorem d12_46 : decode B15 46 = .ok (.aload_n 0, 1) := by decide +kernel
theorem d12_47 : decode B15 47 = .ok (.getfield 10, 3) := by decide +kernel
theorem d12_50 : decode B15 50 = .ok (.aload_n 0, 1) := by decide +kernel
theorem d12_51 : decode B15 51 = .ok (.getfield 26, 3) := by decide +kernel
theorem d12_54 : decode B15 54 = .ok (.iload_n 3, 1) := by decide +kernel
theorem d12_55 : decode B15 55 = .ok (.invokeinterface 33 2, 5) := by decide +kernel
theorem d12_60 : decode B15 60 = .ok (.checkcast 37, 3) := by decide +kernel
theorem d12_63 : decode B15 63 = .ok (.invokevirtual 39, 3) := by decide +kernel
theorem d12_66 : decode B15 66 = .ok (.iload_n 3, 1) := by decide +kernel
theorem d12_67 : decode B15 67 = .ok (.iconst 1, 1) := by decide +kernel
theorem d12_68 : decode B15 68 = .ok (.iadd, 1) := by decide +kernel
theorem d12_69 : decode B15 69 = .ok (.invokestatic 43, 3) := by decide +kernel
theorem d12_72 : decode B15 72 = .ok (.invokeinterface 49 3, 5) := by decide +kernel
theorem d12_77 : decode B15 77 = .ok (.pop, 1) := by decide +kernel
theorem d12_78 : decode B15 78 = .ok (.iinc 3 1, 3) := by decide +kernel
theorem d12_81 : decode B15 81 = .ok (.goto (-48), 3) := by decide +kernel
theorem rm__init__33 (hw : o_HW Z a0) (H : o_C Z Z.heap w_NW w_DC w_EL w_EA w_EM w_MO w_cacheI c_cacheI k_DC k_EA z_CS) (O : Old Z n0 h0) (b0 : Addr) (b1 : Addr) (b2 : Addr) (b3 : Addr) (b4 : Addr) (b5 : Addr) (b6 : Addr) (k_b3 : ClassId) (k_b6 : ClassId) (E_b0 : Exa Z h0 b0 s3) (F_b0_numbers : Fld Z h0 b0 s3 "numbers" s59 .null) (F_b0_processes : Fld Z h0 b0 s3 s72 s17 .null) (F_b0_segments : Fld Z h0 b0 s3 s35 s17 .null) (g_b0 : n0 ≤ b0) (E_b1 : Exa Z h0 b1 s6) (F_b1_size : Fld Z h0 b1 s6 s26 "I" (.int 0)) (E_b2 : Exa Z h0 b2 s6) (F_b2_elementData : Fld Z h0 b2 s6 s27 s10 (.ref b3)) (F_b2_size : Fld Z h0 b2 s6 s26 "I" (.int 1)) (V_b3 : Arv Z h0 b3 k_b3 (.object s8) (10 : Int32) [(.ref b4)] .null) (A_b3 : Exa Z h0 b3 s10) (E_b4 : Exa Z h0 b4 s1) (F_b4_name : Fld Z h0 b4 s1 "name" s42 (.ref b5)) (E_b5 : Exa Z h0 b5 s4) (F_b5_coder : Fld Z h0 b5 s4 s43 "B" (.int 0)) (F_b5_hash : Fld Z h0 b5 s4 s37 "I" (.int 0)) (F_b5_hashIsZero : Fld Z h0 b5 s4 s33 "Z" (.int 0)) (F_b5_value : Fld Z h0 b5 s4 s34 "[B" (.ref b6)) (g_b5 : n0 ≤ b5) (V_b6 : Arv Z h0 b6 k_b6 .byte (1 : Int32) [(.int 112)] (.int 0)) (A_b6 : Exa Z h0 b6 "[B") (ne_b0_b1 : b0 ≠ b1) (ne_b0_b2 : b0 ≠ b2) (ne_b0_b3 : b0 ≠ b3) (ne_b0_b4 : b0 ≠ b4) (ne_b0_b5 : b0 ≠ b5) (ne_b0_b6 : b0 ≠ b6) :
    o_Met l (⟨s3, s50, s65⟩ : MethodName) B15 4 none [] (o_rm 8 5 31 101) Z #[(.ref b0), (.ref b1), (.ref b2)] h0 (Q_rm__init__33 Z h0 n0 b0 b1 b2 b3 b4 b5 b6 k_b3 k_b6 w_EM) := by
  refine o_met (pN pn_11) ?_
  intro p e s m below meth c T0 hx y hml hown hret hk hnm hZ X0 e0
  obtain ⟨-, -, -, -, -, -, -, -, -, -, -, -, -, -, -, -, -, -, -⟩ := id H
  refine o_ent (ef_6 m b0 b1 b2) ?_
  refine qA X0 hx (hb y d12_0) rfl rfl 1 rfl ?_
  refine o_initO X0 hx hZ hown (w hw 106 rfl) (w hw 24 rfl) (w hw 25 rfl) e0 (by rw [hml]; rfl) (hb y d12_1) (by decide) 0 (Nat.le_of_eq rfl) (by decide) 4 rfl fun T1 X1 e1 => ?_
  refine qA X1 hx (hb y d12_4) rfl rfl 5 rfl ?_
  refine nO X1 hx hZ hown (w hw 107 rfl) (w hw 108 rfl) (w hw 109 rfl) e1 (hb y d12_5) 8 rfl (by decide) (by decide) fun T2 a2 g2 X2 E2 A2 D2 => ?_
  have g_a2 : n0 ≤ a2 := Nat.le_trans (o_osz O) (Nat.le_of_eq g2)
  have z_a2 : h0.size ≤ a2 := Nat.le_trans ((Keep.refl h0 [b0, b5])).1 (Nat.le_of_eq g2)
  have O3 := O.ext E2
  have K3 := Keep.ext (Keep.refl h0 [b0, b5]) E2
  have F2_loadFactor : Fld Z T2.heap a2 s7 s44 "F" (defaultValue .float) := D2 (Or.inr (w hw 122 rfl)) (ty := .float) (by decide)
  have F2_table : Fld Z T2.heap a2 s7 s61 s23 .null := D2 (Or.inl (w hw 374 rfl)) (ty := (.array (.object s5))) (by decide)
  have F2_threshold : Fld Z T2.heap a2 s7 s46 "I" (.int 0) := D2 (Or.inl (w hw 381 rfl)) (ty := .int) (by decide)
  have F2_modCount : Fld Z T2.heap a2 s7 s29 "I" (.int 0) := D2 (Or.inl (w hw 405 rfl)) (ty := .int) (by decide)
  have F2_size : Fld Z T2.heap a2 s7 s26 "I" (.int 0) := D2 (Or.inl (w hw 407 rfl)) (ty := .int) (by decide)
  refine qD X2 hx (hb y d12_8) rfl 9 rfl ?_
  refine kN X2 hx hZ rfl hown (w hw 110 rfl) (w hw 111 rfl) (w hw 109 rfl) (w hw 112 rfl) (by decide) a2 [] [(.ref a2), (.ref b0)] 2 (rm__init__20 l Z a0 T2.heap n0 hw O3 a2 A2 F2_loadFactor F2_modCount F2_size F2_table F2_threshold g_a2) (by decide) (by decide) rfl (by rw [hml]; rfl) (lenOf pd_4 rfl) (Nat.le_of_eq rfl) (hb y d12_9) (by decide) (by decide) 12 rfl fun v4 T4 L4 X4 hQ4 => ?_
  obtain ⟨rfl, Nq4, Kq4, p4_0, p4_1, p4_2, p4_3, p4_4, p4_5⟩ := hQ4
  have O5 := O3.keep Kq4 (allS g_a2 all0)
  have N5 := Fr.app (Fr.nil n0) Nq4
  have K5 := Keep.trans K3 Kq4 (allS (Or.inr z_a2) all0)
  refine o_nV ?_
  have ne7 := o_nl E_b0.lt (Nat.le_refl _) (Nat.le_of_eq g2)
  have f8 := ((F_b0_numbers.ext E2).keep Kq4 (ninS ne7 nin0))
  have f9 := ((E_b0.ext E2).keep Kq4)
  refine qP X4 hx hZ hown (host := "") (Or.inl (w hw 123 rfl)) Via.refl rfl f8 f9 (Or.inr ⟨(w hw 124 rfl), rfl, hnm⟩) (w hw 101 rfl) (ty := (.object s64)) (by decide) rfl rfl (hb y d12_12) 15 rfl fun T6 X6 W6 => ?_
  have G6 := Fld.same W6 f8
  have O10 := O5.wr W6 g_b0
  have N10 := Fr.snoc X6 N5 g_b0
  have K10 := Keep.wr K5 W6 (Or.inl (by simp))
  refine qA X6 hx (hb y d12_15) rfl rfl 16 rfl ?_
  refine qA X6 hx (hb y d12_16) rfl rfl 17 rfl ?_
  have f12 := (((E_b1.ext E2).keep Kq4).wr W6)
  have ne13 := o_nl E_b1.lt (Nat.le_refl _) (Nat.le_of_eq g2)
  have f14 := (o_fo ((F_b1_size.ext E2).keep Kq4 (ninS ne13 nin0)) W6 ne_b0_b1)
  refine qS X6 hx hZ hown (w hw 125 rfl) (w hw 68 rfl) (w hw 69 rfl) (w hw 70 rfl) (by decide) [(.ref b1)] [(.ref b0)] 1 (rm_copyOf_9 l Z a0 T6.heap n0 hw H O10 b1 f12 f14) (by decide) (by decide) rfl rfl rfl (by rw [hml]; rfl) (lenOf pd_7 rfl) (Nat.le_of_eq rfl) (hb y d12_17) 20 rfl rfl (by decide) (by decide) fun T15 X15 e15 => ?_
  have f17 := (((F_b0_processes.ext E2).keep Kq4 (ninS ne7 nin0)).other W6 (Or.inr (sn_18 hw)))
  have f18 := (f9.wr W6)
  refine qP X15 hx hZ hown (host := "") (Or.inl (w hw 126 rfl)) Via.refl e15 f17 f18 (Or.inr ⟨(w hw 127 rfl), rfl, hnm⟩) (w hw 101 rfl) (ty := (.object s21)) (by decide) rfl rfl (hb y d12_20) 23 rfl fun T16 X16 W16 => ?_
  have O19 := O10.wr W16 g_b0
  have N19 := Fr.snoc X16 N10 g_b0
  have K19 := Keep.wr K10 W16 (Or.inl (by simp))
  refine qA X16 hx (hb y d12_23) rfl rfl 24 rfl ?_
  refine qA X16 hx (hb y d12_24) rfl rfl 25 rfl ?_
  have f21 := ((((E_b2.ext E2).keep Kq4).wr W6).wr W16)
  have ne22 := o_nl E_b2.lt (Nat.le_refl _) (Nat.le_of_eq g2)
  have f23 := (o_fo (o_fo ((F_b2_elementData.ext E2).keep Kq4 (ninS ne22 nin0)) W6 ne_b0_b2) W16 ne_b0_b2)
  have f24 := (o_fo (o_fo ((F_b2_size.ext E2).keep Kq4 (ninS ne22 nin0)) W6 ne_b0_b2) W16 ne_b0_b2)
  have ne25 := o_nl A_b3.lt (Nat.le_refl _) (Nat.le_of_eq g2)
  have f26 := (o_vo (o_vo ((V_b3.ext E2).keep Kq4 (ninS ne25 nin0)) W6 ne_b0_b3) W16 ne_b0_b3)
  have f27 := ((((A_b3.ext E2).keep Kq4).wr W6).wr W16)
  have f28 := ((((E_b4.ext E2).keep Kq4).wr W6).wr W16)
  refine kS X16 hx hZ hown (w hw 125 rfl) (w hw 68 rfl) (w hw 69 rfl) (w hw 70 rfl) (by decide) [(.ref b2)] [(.ref b0)] 1 (rm_copyOf_34 l Z a0 T16.heap n0 hw H O19 b2 b3 b4 k_b3 f21 f23 f24 f26 f27 f28) (by decide) (by decide) rfl (by rw [hml]; rfl) (lenOf pd_7 rfl) (Nat.le_of_eq rfl) (hb y d12_25) (by decide) (by decide) 28 rfl fun v20 T20 L20 X20 hQ20 => ?_
  obtain ⟨q20_0, rfl, Nq20, Kq20, le_q20_0, p20_0, p20_1, p20_2⟩ := hQ20
  have z_q20_0 : h0.size ≤ q20_0 := Nat.le_trans (K19).1 le_q20_0
  have O29 := O19.keep Kq20 all0
  have N29 := Fr.app N19 Nq20
  have K29 := Keep.trans K19 Kq20 all0
  refine o_nR ?_
  have f31 := (((((F_b0_segments.ext E2).keep Kq4 (ninS ne7 nin0)).other W6 (Or.inr (sn_19 hw))).other W16 (Or.inr (sn_20 hw))).keep Kq20 nin0)
  have f32 := ((f18.wr W16).keep Kq20)
  refine qP X20 hx hZ hown (host := "") (Or.inl (w hw 128 rfl)) Via.refl rfl f31 f32 (Or.inr ⟨(w hw 129 rfl), rfl, hnm⟩) (w hw 101 rfl) (ty := (.object s21)) (by decide) rfl rfl (hb y d12_28) 31 rfl fun T30 X30 W30 => ?_
  have G30 := Fld.same W30 f31
  have O33 := O29.wr W30 g_b0
  have N33 := Fr.snoc X30 N29 g_b0
  have K33 := Keep.wr K29 W30 (Or.inl (by simp))
  refine qC X30 hx (hb y d12_31) (0 : Int32) rfl 32 rfl ?_
  refine qk X30 hx (hb y d12_32) #[.val (.ref b0), .val (.ref b1), .val (.ref b2), .val (.int 0)] rfl 33 rfl ?_
  refine qI X30 hx (hb y d12_33) rfl 34 rfl ?_
  refine qA X30 hx (hb y d12_34) rfl rfl 35 rfl ?_
  refine qF X30 hx hZ hown (host := "") (Or.inl (w hw 128 rfl)) Via.refl rfl G30 (hb y d12_35) 38 rfl fun T34 X34 e34 => ?_
  have f36 := (p20_0.wr W30)
  have l39 := (Nat.le_trans (Nat.le_trans (Nat.le_trans E2.1 Kq4.1) (Nat.le_of_eq (Wr.size W6).symm)) (Nat.le_of_eq (Wr.size W16).symm))
  have ne38 := o_nl E_b0.lt l39 le_q20_0
  have f40 := (o_fo p20_2 W30 ne38)
  refine oC (cI X34 hx hZ hown (w hw 130 rfl) (w hw 131 rfl) (w hw 132 rfl) (w hw 440 rfl) (w hw 441 rfl) (w hw 442 rfl) (w hw 443 rfl) (w hw 444 rfl) (w hw 426 rfl) (w hw 445 rfl) (by decide) (by decide) q20_0 [] [(.int 0)] 1 (rm_size_46 l Z a0 T30.heap n0 hw H O33 q20_0 f40) (by decide) (by decide) e34 f36 (by rw [hml]; rfl) (lenOf pd_9 rfl) (Nat.le_of_eq rfl) (hb y d12_38) 43 rfl (by decide) (by decide)) rfl rfl fun T41 X41 e41 => ?_
  refine qn X41 hx (hb y d12_43) (tlt (by decide : (0 : Int32) < (1 : Int32))).2.1 46 rfl ?_
  refine qA X41 hx (hb y d12_46) rfl rfl 47 rfl ?_
  have f42 := (((G6.other W16 (Or.inr (Ne.symm (sn_18 hw)))).keep Kq20 nin0).other W30 (Or.inr (Ne.symm (sn_19 hw))))
  refine qF X41 hx hZ hown (host := "") (Or.inl (w hw 123 rfl)) Via.refl e41 f42 (hb y d12_47) 50 rfl fun T43 X43 e43 => ?_
  refine qA X43 hx (hb y d12_50) rfl rfl 51 rfl ?_
  refine qF X43 hx hZ hown (host := "") (Or.inl (w hw 128 rfl)) Via.refl e43 G30 (hb y d12_51) 54 rfl fun T44 X44 e44 => ?_
  refine qI X44 hx (hb y d12_54) rfl 55 rfl ?_
  have f46 := (o_fo p20_1 W30 ne38)
  refine oC (cI X44 hx hZ hown (w hw 317 rfl) (w hw 318 rfl) (w hw 319 rfl) (w hw 447 rfl) (w hw 448 rfl) (w hw 449 rfl) (w hw 450 rfl) (w hw 444 rfl) (w hw 426 rfl) (w hw 451 rfl) (by decide) (by decide) q20_0 [(.int 0)] [(.ref a2)] 1 (rm_get_47 l Z a0 T30.heap n0 hw O33 q20_0 b4 f46) (by decide) (by decide) e44 f36 (by rw [hml]; rfl) (lenOf pd_26 rfl) (Nat.le_of_eq rfl) (hb y d12_55) 60 rfl (by decide) (by decide)) rfl rfl fun T47 X47 e47 => ?_
  have f48 := ((f28.keep Kq20).wr W30)
  refine o_cast X47 hx hZ hown (w hw 325 rfl) e47 (Ins.self f48) (hb y d12_60) 63 rfl fun T49 X49 e49 => ?_
  have ne51 := o_nl E_b4.lt (Nat.le_refl _) (Nat.le_of_eq g2)
  have f52 := (o_fo ((o_fo (o_fo ((F_b4_name.ext E2).keep Kq4 (ninS ne51 nin0)) W6 ne_b0_b4) W16 ne_b0_b4).keep Kq20 nin0) W30 ne_b0_b4)
  refine qV X49 hx hZ hown (w hw 326 rfl) (w hw 327 rfl) (notFace_of_selects (args := #[]) (mvT hZ (w hw 329 rfl))) (w hw 329 rfl) (w hw 328 rfl) (w hw 3 rfl) (w hw 330 rfl) (by decide) b4 [] [(.ref a2)] 1 (rm_name_48 l Z a0 T30.heap n0 hw O33 b4 b5 f52) (by decide) (by decide) rfl rfl e49 f48 (by rw [hml]; rfl) (lenOf pd_27 rfl) (Nat.le_of_eq rfl) (hb y d12_63) 66 rfl rfl (by decide) (by decide) fun T53 X53 e53 => ?_
  refine qI X53 hx (hb y d12_66) rfl 67 rfl ?_
  refine qC X53 hx (hb y d12_67) (1 : Int32) rfl 68 rfl ?_
  refine o_iadd X53 hx (hb y d12_68) 69 rfl ?_
  refine o_topI (1 : Int32) (by decide) ?_
  refine kS X53 hx hZ hown (w hw 331 rfl) (w hw 332 rfl) (w hw 333 rfl) (w hw 334 rfl) (by decide) [(.int 1)] [(.ref b5), (.ref a2)] 2 (rm_boxI_1 l Z a0 T30.heap n0 hw H O33) (by decide) (by decide) e53 (by rw [hml]; rfl) (lenOf pd_28 rfl) (Nat.le_of_eq rfl) (hb y d12_69) (by decide) (by decide) 72 rfl fun v54 T54 L54 X54 hQ54 => ?_
  obtain ⟨r54, rfl, Nq54, Kq54, p54_0, p54_1⟩ := hQ54
  have O55 := O33.keep Kq54 all0
  have N55 := Fr.app N33 Nq54
  have K55 := Keep.trans K33 Kq54 all0
  refine o_nR ?_
  have f57 := (((((p4_0.wr W6).wr W16).keep Kq20).wr W30).keep Kq54)
  have f58 := ((o_fo ((o_fo (o_fo p4_1 W6 ne7) W16 ne7).keep Kq20 nin0) W30 ne7).keep Kq54 nin0)
  have f59 := ((o_fo ((o_fo (o_fo p4_2 W6 ne7) W16 ne7).keep Kq20 nin0) W30 ne7).keep Kq54 nin0)
  have f60 := ((o_fo ((o_fo (o_fo p4_3 W6 ne7) W16 ne7).keep Kq20 nin0) W30 ne7).keep Kq54 nin0)
  have f61 := ((o_fo ((o_fo (o_fo p4_4 W6 ne7) W16 ne7).keep Kq20 nin0) W30 ne7).keep Kq54 nin0)
  have f62 := ((o_fo ((o_fo (o_fo p4_5 W6 ne7) W16 ne7).keep Kq20 nin0) W30 ne7).keep Kq54 nin0)
  have f63 := (((((((E_b5.ext E2).keep Kq4).wr W6).wr W16).keep Kq20).wr W30).keep Kq54)
  have ne64 := o_nl E_b5.lt (Nat.le_refl _) (Nat.le_of_eq g2)
  have f65 := ((o_fo ((o_fo (o_fo ((F_b5_coder.ext E2).keep Kq4 (ninS ne64 nin0)) W6 ne_b0_b5) W16 ne_b0_b5).keep Kq20 nin0) W30 ne_b0_b5).keep Kq54 nin0)
  have f66 := ((o_fo ((o_fo (o_fo ((F_b5_hash.ext E2).keep Kq4 (ninS ne64 nin0)) W6 ne_b0_b5) W16 ne_b0_b5).keep Kq20 nin0) W30 ne_b0_b5).keep Kq54 nin0)
  have f67 := ((o_fo ((o_fo (o_fo ((F_b5_hashIsZero.ext E2).keep Kq4 (ninS ne64 nin0)) W6 ne_b0_b5) W16 ne_b0_b5).keep Kq20 nin0) W30 ne_b0_b5).keep Kq54 nin0)
  have f68 := ((o_fo ((o_fo (o_fo ((F_b5_value.ext E2).keep Kq4 (ninS ne64 nin0)) W6 ne_b0_b5) W16 ne_b0_b5).keep Kq20 nin0) W30 ne_b0_b5).keep Kq54 nin0)
  have ne69 := o_nl A_b6.lt (Nat.le_refl _) (Nat.le_of_eq g2)
  have f70 := ((o_vo ((o_vo (o_vo ((V_b6.ext E2).keep Kq4 (ninS ne69 nin0)) W6 ne_b0_b6) W16 ne_b0_b6).keep Kq20 nin0) W30 ne_b0_b6).keep Kq54 nin0)
  refine kI X54 hx hZ hown (w hw 338 rfl) (w hw 339 rfl) (w hw 340 rfl) (w hw 341 rfl) (w hw 342 rfl) (w hw 343 rfl) (w hw 344 rfl) (w hw 345 rfl) (w hw 109 rfl) (w hw 346 rfl) (by decide) (by decide) a2 [(.ref b5), (.ref r54)] [] 0 (rm_put_49 l Z a0 T54.heap n0 hw H O55 a2 b5 r54 b6 k_b6 f57 f58 f59 f60 f61 f62 g_a2 f63 f65 f66 f67 f68 g_b5 f70 (Ne.symm ne64)) (by decide) (by decide) rfl f57 (by rw [hml]; rfl) (lenOf pd_36 rfl) (Nat.le_of_eq rfl) (hb y d12_72) 77 rfl (by decide) (by decide) fun v56 T56 L56 X56 hQ56 => ?_
  obtain ⟨q56_0, q56_1, qk56_0, rfl, Nq56, Kq56, le_q56_0, le_q56_1, ne_q56_0_q56_1, p56_0, p56_1, p56_2, p56_3, p56_4, p56_5, p56_6, p56_7, p56_8, p56_9, p56_10, p56_11, p56_12, p56_13, p56_14, p56_15, p56_16, p56_17, p56_18⟩ := hQ56
  have O71 := O55.keep Kq56 (allS g_b5 (allS g_a2 all0))
  have N71 := Fr.app N55 Nq56
  have K71 := Keep.trans K55 Kq56 (allS (Or.inl (by simp)) (allS (Or.inr z_a2) all0))
  refine o_nR ?_
  refine o_pop X56 hx (hb y d12_77) rfl 78 rfl ?_
  refine o_iincC X56 hx (hb y d12_78) #[.val (.ref b0), .val (.ref b1), .val (.ref b2), .val (.int 1)] rfl (1 : Int32) (by decide) rfl 81 rfl ?_
  refine qG X56 hx (hb y d12_81) 33 (by decide) (by decide) ?_
  refine qI X56 hx (hb y d12_33) rfl 34 rfl ?_
  refine qA X56 hx (hb y d12_34) rfl rfl 35 rfl ?_
  have f72 := ((G30.keep Kq54 nin0).keep Kq56 (ninS ne_b0_b5 (ninS ne7 nin0)))
  refine qF X56 hx hZ hown (host := "") (Or.inl (w hw 128 rfl)) Via.refl rfl f72 (hb y d12_35) 38 rfl fun T73 X73 e73 => ?_
  have f75 := ((f36.keep Kq54).keep Kq56)
  have l78 := (Nat.le_trans (Nat.le_trans Kq4.1 (Nat.le_of_eq (Wr.size W6).symm)) (Nat.le_of_eq (Wr.size W16).symm))
  have ne77 := o_nl A2.lt l78 le_q20_0
  have ne80 := o_nl E_b5.lt l39 le_q20_0
  have f81 := ((f40.keep Kq54 nin0).keep Kq56 (ninS (Ne.symm ne80) (ninS (Ne.symm ne77) nin0)))
  refine oC (cI X73 hx hZ hown (w hw 130 rfl) (w hw 131 rfl) (w hw 132 rfl) (w hw 440 rfl) (w hw 441 rfl) (w hw 442 rfl) (w hw 443 rfl) (w hw 444 rfl) (w hw 426 rfl) (w hw 445 rfl) (by decide) (by decide) q20_0 [] [(.int 1)] 1 (rm_size_46 l Z a0 T56.heap n0 hw H O71 q20_0 f81) (by decide) (by decide) e73 f75 (by rw [hml]; rfl) (lenOf pd_9 rfl) (Nat.le_of_eq rfl) (hb y d12_38) 43 rfl (by decide) (by decide)) rfl rfl fun T82 X82 e82 => ?_
  refine o_icmpY X82 hx (hb y d12_43) (flt (by decide : ¬ ((1 : Int32) < (1 : Int32)))).2.1 84 (by decide) (by decide) ?_
  have f83 := (((f32.wr W30).keep Kq54).keep Kq56)
  have f84 := ((f46.keep Kq54 nin0).keep Kq56 (ninS (Ne.symm ne80) (ninS (Ne.symm ne77) nin0)))
  exact qv X82 hx hk hret (hb y d12_84) (by show Q_rm__init__33 Z h0 n0 b0 b1 b2 b3 b4 b5 b6 k_b3 k_b6 w_EM _ T82.heap _; rw [e82]; exact ⟨q20_0, rfl, N71, K71, z_q20_0, f83, f72, p56_6, p56_7, p56_8, p56_9, p56_10, f75, f84, f81⟩) (by decide) (by decide)
theorem rm_segments_60 (hw : o_HW Z a0) (O : Old Z n0 h0) (b0 : Addr) (b1 : Addr) (F_b0_segments : Fld Z h0 b0 s3 s35 s17 (.ref b1)) :
    o_Met l (⟨s3, s35, "()Ljava/util/List;"⟩ : MethodName) B16 1 (some (.object s21)) [] (o_rm 0 0 0 0) Z #[(.ref b0)] h0 (o_R (some (.ref b1)) h0) := by
  refine o_met (pN pn_11) ?_
  intro p e s m below meth c T0 hx y hml hown hret hk hnm hZ X0 e0
  refine o_ent (ef_2 m b0) ?_
  refine qA X0 hx (hb y d17_0) rfl rfl 1 rfl ?_
  refine qF X0 hx hZ hown (host := "") (Or.inl (w hw 128 rfl)) Via.refl e0 F_b0_segments (hb y d17_1) 4 rfl fun T1 X1 e1 => ?_
  exact qR X1 hx hk hret rfl rfl (hb y d17_4) rfl ⟨rfl, e1, rfl⟩ (by decide) (by decide)
def Q_rm__init__62 (Z : State) (h0 : Heap) (n0 : Nat) (b0 : Addr) (b1 : Addr) (v : Option Value) (h : Heap) (L : List Loc) : Prop := v = none ∧ Fr n0 L ∧ Keep h0 h [b0] ∧ Exa Z h b0 s2 ∧ Fld Z h b0 s2 s41 "I" (.int 0) ∧ Fld Z h b0 s2 s32 "Z" (.int 0) ∧ Fld Z h b0 s2 s55 s17 (.ref b1) ∧ Fld Z h b0 s2 s26 "I" (.int 1)
theorem rm__init__62 (hw : o_HW Z a0) (O : Old Z n0 h0) (b0 : Addr) (b1 : Addr) (E_b0 : Exa Z h0 b0 s2) (F_b0_cursor : Fld Z h0 b0 s2 s41 "I" (.int 0)) (F_b0_isListIterator : Fld Z h0 b0 s2 s32 "Z" (.int 0)) (F_b0_list : Fld Z h0 b0 s2 s55 s17 .null) (F_b0_size : Fld Z h0 b0 s2 s26 "I" (.int 0)) (g_b0 : n0 ≤ b0) :
    o_Met l (⟨s2, s50, "(Ljava/util/List;I)V"⟩ : MethodName) B17 3 none [] (o_rm 1 0 0 12) Z #[(.ref b0), (.ref b1), (.int 1)] h0 (Q_rm__init__62 Z h0 n0 b0 b1) := by
  refine o_met (pN pn_12) ?_
  intro p e s m below meth c T0 hx y hml hown hret hk hnm hZ X0 e0
  refine o_ent (ef_1 m b0 b1 (1 : Int32)) ?_
  refine qA X0 hx (hb y d19_0) rfl rfl 1 rfl ?_
  refine o_initO X0 hx hZ hown (w hw 196 rfl) (w hw 24 rfl) (w hw 25 rfl) e0 (by rw [hml]; rfl) (hb y d19_1) (by decide) 0 (Nat.le_of_eq rfl) (by decide) 4 rfl fun T1 X1 e1 => ?_
  refine qA X1 hx (hb y d19_4) rfl rfl 5 rfl ?_
  refine qA X1 hx (hb y d19_5) rfl rfl 6 rfl ?_
  refine qP X1 hx hZ hown (host := "") (Or.inl (w hw 197 rfl)) Via.refl e1 F_b0_list E_b0 (Or.inr ⟨(w hw 198 rfl), rfl, hnm⟩) (w hw 186 rfl) (ty := (.object s21)) (by decide) rfl rfl (hb y d19_6) 9 rfl fun T2 X2 W2 => ?_
  have G2 := Fld.same W2 F_b0_list
  have N3 := Fr.snoc X2 (Fr.nil n0) g_b0
  have K3 := Keep.wr (Keep.refl h0 [b0]) W2 (Or.inl (by simp))
  refine qA X2 hx (hb y d19_9) rfl rfl 10 rfl ?_
  refine qI X2 hx (hb y d19_10) rfl 11 rfl ?_
  have f5 := (F_b0_size.other W2 (Or.inr (sn_49 hw)))
  have f6 := (E_b0.wr W2)
  refine qP X2 hx hZ hown (host := "") (Or.inl (w hw 199 rfl)) Via.refl rfl f5 f6 (Or.inr ⟨(w hw 200 rfl), rfl, hnm⟩) (w hw 186 rfl) (ty := .int) (by decide) rfl rfl (hb y d19_11) 14 rfl fun T4 X4 W4 => ?_
  have G4 := Fld.same W4 f5
  have N7 := Fr.snoc X4 N3 g_b0
  have K7 := Keep.wr K3 W4 (Or.inl (by simp))
  refine qA X4 hx (hb y d19_14) rfl rfl 15 rfl ?_
  refine qC X4 hx (hb y d19_15) (0 : Int32) rfl 16 rfl ?_
  have f9 := ((F_b0_cursor.other W2 (Or.inr (sn_50 hw))).other W4 (Or.inr (sn_51 hw)))
  have f10 := (f6.wr W4)
  refine qP X4 hx hZ hown (host := "") (Or.inl (w hw 201 rfl)) Via.refl rfl f9 f10 (Or.inl (w hw 202 rfl)) (w hw 186 rfl) (ty := .int) (by decide) rfl rfl (hb y d19_16) 19 rfl fun T8 X8 W8 => ?_
  have G8 := Fld.same W8 f9
  have N11 := Fr.snoc X8 N7 g_b0
  have K11 := Keep.wr K7 W8 (Or.inl (by simp))
  refine qA X8 hx (hb y d19_19) rfl rfl 20 rfl ?_
  refine qC X8 hx (hb y d19_20) (0 : Int32) rfl 21 rfl ?_
  have f13 := (((F_b0_isListIterator.other W2 (Or.inr (sn_52 hw))).other W4 (Or.inr (sn_53 hw))).other W8 (Or.inr (sn_54 hw)))
  have f14 := (f10.wr W8)
  refine o_putFN X8 hx hZ hown (w hw 203 rfl) Via.refl rfl ((.int 0)) f13 f14 (Or.inr ⟨(w hw 204 rfl), rfl, hnm⟩) (w hw 186 rfl) (ty := .boolean) (by decide) rfl rfl (hb y d19_21) 24 rfl fun T12 X12 W12 => ?_
  have G12 := Fld.same W12 f13
  have N15 := Fr.snoc X12 N11 g_b0
  have K15 := Keep.wr K11 W12 (Or.inl (by simp))
  have f16 := (f14.wr W12)
  have f17 := (G8.other W12 (Or.inr (Ne.symm (sn_54 hw))))
  have f18 := (((G2.other W4 (Or.inr (Ne.symm (sn_49 hw)))).other W8 (Or.inr (Ne.symm (sn_50 hw)))).other W12 (Or.inr (Ne.symm (sn_52 hw))))
  have f19 := ((G4.other W8 (Or.inr (Ne.symm (sn_51 hw)))).other W12 (Or.inr (Ne.symm (sn_53 hw))))
  exact qv X12 hx hk hret (hb y d19_24) (by show Q_rm__init__62 Z h0 n0 b0 b1 _ T12.heap _; exact ⟨rfl, N15, K15, f16, f17, G12, f18, f19⟩) (by decide) (by decide)
def Q_rm_iterator_61 (Z : State) (h0 : Heap) (n0 : Nat) (b0 : Addr) (v : Option Value) (h : Heap) (L : List Loc) : Prop := ∃ (y0 : Addr), v = some (.ref y0) ∧ Fr n0 L ∧ Keep h0 h [] ∧ h0.size ≤ y0 ∧ Exa Z h y0 s2 ∧ Fld Z h y0 s2 s41 "I" (.int 0) ∧ Fld Z h y0 s2 s32 "Z" (.int 0) ∧ Fld Z h y0 s2 s55 s17 (.ref b0) ∧ Fld Z h y0 s2 s26 "I" (.int 1)
theorem rm_iterator_61 (hw : o_HW Z a0) (H : o_C Z Z.heap w_NW w_DC w_EL w_EA w_EM w_MO w_cacheI c_cacheI k_DC k_EA z_CS) (O : Old Z n0 h0) (b0 : Addr) (E_b0 : Exa Z h0 b0 s9) (F_b0_e1 : Fld Z h0 b0 s9 "e1" s13 (.ref w_EM)) :
    o_Met l (⟨s30, "iterator", "()Ljava/util/Iterator;"⟩ : MethodName) B18 1 (some (.object "java/util/Iterator")) [] (o_rm 2 1 4 27) Z #[(.ref b0)] h0 (Q_rm_iterator_61 Z h0 n0 b0) := by
  refine o_met (pN pn_13) ?_
  intro p e s m below meth c T0 hx y hml hown hret hk hnm hZ X0 e0
  obtain ⟨-, -, -, -, -, -, -, -, -, -, -, -, -, -, -, -, -, -, -⟩ := id H
  refine o_ent (ef_2 m b0) ?_
  refine nO X0 hx hZ hown (w hw 185 rfl) (w hw 186 rfl) (w hw 187 rfl) e0 (hb y d18_0) 3 rfl (by decide) (by decide) fun T1 a1 g1 X1 E1 A1 D1 => ?_
  have g_a1 : n0 ≤ a1 := Nat.le_trans (o_osz O) (Nat.le_of_eq g1)
  have z_a1 : h0.size ≤ a1 := Nat.le_trans ((Keep.refl h0 [])).1 (Nat.le_of_eq g1)
  have O2 := O.ext E1
  have K2 := Keep.ext (Keep.refl h0 []) E1
  have F1_list : Fld Z T1.heap a1 s2 s55 s17 .null := D1 (Or.inr (w hw 198 rfl)) (ty := (.object s21)) (by decide)
  have F1_size : Fld Z T1.heap a1 s2 s26 "I" (.int 0) := D1 (Or.inr (w hw 200 rfl)) (ty := .int) (by decide)
  have F1_cursor : Fld Z T1.heap a1 s2 s41 "I" (.int 0) := D1 (Or.inl (w hw 202 rfl)) (ty := .int) (by decide)
  have F1_isListIterator : Fld Z T1.heap a1 s2 s32 "Z" (.int 0) := D1 (Or.inr (w hw 204 rfl)) (ty := .boolean) (by decide)
  refine qD X1 hx (hb y d18_3) rfl 4 rfl ?_
  refine qA X1 hx (hb y d18_4) rfl rfl 5 rfl ?_
  refine qA X1 hx (hb y d18_5) rfl rfl 6 rfl ?_
  have f4 := (E_b0.ext E1)
  have f5 := (F_b0_e1.ext E1)
  refine o_pureU X1 hx hZ hown (w hw 188 rfl) (w hw 189 rfl) (w hw 190 rfl) (by decide) (w hw 454 rfl) (w hw 441 rfl) (w hw 426 rfl) (w hw 445 rfl) b0 [] [(.ref b0), (.ref a1), (.ref a1)] 3 (rm_size_46 l Z a0 T1.heap n0 hw H O2 b0 f5) (by decide) (by decide) rfl rfl rfl f4 (by rw [hml]; rfl) (lenOf pd_9 rfl) (Nat.le_of_eq rfl) (hb y d18_6) 9 rfl rfl (by decide) (by decide) fun T6 X6 e6 => ?_
  refine kN X6 hx hZ rfl hown (w hw 192 rfl) (w hw 193 rfl) (w hw 187 rfl) (w hw 195 rfl) (by decide) a1 [(.ref b0), (.int 1)] [(.ref a1)] 1 (rm__init__62 l Z a0 T1.heap n0 hw O2 a1 b0 A1 F1_cursor F1_isListIterator F1_list F1_size g_a1) (by decide) (by decide) e6 (by rw [hml]; rfl) (lenOf pd_11 rfl) (Nat.le_of_eq rfl) (hb y d18_9) (by decide) (by decide) 12 rfl fun v7 T7 L7 X7 hQ7 => ?_
  obtain ⟨rfl, Nq7, Kq7, p7_0, p7_1, p7_2, p7_3, p7_4⟩ := hQ7
  have N8 := Fr.app (Fr.nil n0) Nq7
  have K8 := Keep.trans K2 Kq7 (allS (Or.inr z_a1) all0)
  refine o_nV ?_
  exact qR X7 hx hk hret rfl rfl (hb y d18_12) rfl (by show Q_rm_iterator_61 Z h0 n0 b0 _ T7.heap _; exact ⟨a1, rfl, N8, K8, z_a1, p7_0, p7_1, p7_2, p7_3, p7_4⟩) (by decide) (by decide)
theorem d20_11 : decode B19 11 = .ok (.iconst 1, 1) := by decide +kernel
theorem d20_12 : decode B19 12 = .ok (.goto 4, 3) := by decide +kernel
theorem rm_hasNext_63 (hw : o_HW Z a0) (O : Old Z n0 h0) (b0 : Addr) (F_b0_cursor : Fld Z h0 b0 s2 s41 "I" (.int 0)) (F_b0_size : Fld Z h0 b0 s2 s26 "I" (.int 1)) :
    o_Met l (⟨s2, "hasNext", "()Z"⟩ : MethodName) B19 1 (some .boolean) [] (o_rm 0 0 0 0) Z #[(.ref b0)] h0 (o_R (some (.int 1)) h0) := by
  refine o_met (pN pn_12) ?_
  intro p e s m below meth c T0 hx y hml hown hret hk hnm hZ X0 e0
  refine o_ent (ef_2 m b0) ?_
  refine qA X0 hx (hb y d20_0) rfl rfl 1 rfl ?_
  refine qF X0 hx hZ hown (host := "") (Or.inl (w hw 201 rfl)) Via.refl e0 F_b0_cursor (hb y d20_1) 4 rfl fun T1 X1 e1 => ?_
  refine qA X1 hx (hb y d20_4) rfl rfl 5 rfl ?_
  refine qF X1 hx hZ hown (host := "") (Or.inl (w hw 199 rfl)) Via.refl e1 F_b0_size (hb y d20_5) 8 rfl fun T2 X2 e2 => ?_
  refine qn X2 hx (hb y d20_8) (feq (by decide : ¬ ((0 : Int32) = (1 : Int32)))).1 11 rfl ?_
  refine qC X2 hx (hb y d20_11) (1 : Int32) rfl 12 rfl ?_
  refine qG X2 hx (hb y d20_12) 16 (by decide) (by decide) ?_
  exact o_retZ X2 hx hk hret (hb y d20_16) rfl ⟨rfl, e2, rfl⟩ (by decide) (by decide)
def Q_rm_next_64 (Z : State) (h0 : Heap) (n0 : Nat) (b0 : Addr) (b1 : Addr) (b2 : Addr) (v : Option Value) (h : Heap) (L : List Loc) : Prop := v = some (.ref b2) ∧ Fr n0 L ∧ Keep h0 h [b0] ∧ Exa Z h b0 s2 ∧ Fld Z h b0 s2 s41 "I" (.int 1) ∧ Fld Z h b0 s2 s32 "Z" (.int 0) ∧ Fld Z h b0 s2 s55 s17 (.ref b1) ∧ Fld Z h b0 s2 s26 "I" (.int 1)
theorem d51_0 : decode B51 0 = .ok (.aload_n 0, 1) := by decide +kernel
theorem d51_1 : decode B51 1 = .ok (.getfield 17, 3) := by decide +kernel
theorem d51_4 : decode B51 4 = .ok (.istore_n 1, 1) := by decide +kernel
theorem d51_5 : decode B51 5 = .ok (.aload_n 0, 1) := by decide +kernel
theorem d51_6 : decode B51 6 = .ok (.getfield 7, 3) := by decide +kernel
theorem d51_9 : decode B51 9 = .ok (.iload_n 1, 1) := by decide +kernel
theorem d51_10 : decode B51 10 = .ok (.invokeinterface 24 2, 5) := by decide +kernel
theorem d51_15 : decode B51 15 = .ok (.astore_n 2, 1) := by decide +kernel
theorem d51_16 : decode B51 16 = .ok (.aload_n 0, 1) := by decide +kernel
theorem d51_17 : decode B51 17 = .ok (.iload_n 1, 1) := by decide +kernel
theorem d51_18 : decode B51 18 = .ok (.iconst 1, 1) := by decide +kernel
theorem d51_19 : decode B51 19 = .ok (.iadd, 1) := by decide +kernel
theorem d51_20 : decode B51 20 = .ok (.putfield 17, 3) := by decide +kernel
theorem d51_23 : decode B51 23 = .ok (.aload_n 2, 1) := by decide +kernel
theorem d51_24 : decode B51 24 = .ok (.areturn, 1) := by decide +kernel
theorem ef_19 (m : MethodId) (y0 : Addr) : entryFrame m #[(.ref y0)] 3 = mkF m 0 #[.val (.ref y0), .unset, .unset] [] := by first | (simp [entryFrame, mkF, argsToLocals, Value.category]; done) | rfl
theorem rm_next_64 (hw : o_HW Z a0) (O : Old Z n0 h0) (b0 : Addr) (b1 : Addr) (b2 : Addr) (E_b0 : Exa Z h0 b0 s2) (F_b0_cursor : Fld Z h0 b0 s2 s41 "I" (.int 0)) (F_b0_isListIterator : Fld Z h0 b0 s2 s32 "Z" (.int 0)) (F_b0_list : Fld Z h0 b0 s2 s55 s17 (.ref b1)) (F_b0_size : Fld Z h0 b0 s2 s26 "I" (.int 1)) (g_b0 : n0 ≤ b0) (E_b1 : Exa Z h0 b1 s9) (F_b1_e0 : Fld Z h0 b1 s9 "e0" s13 (.ref b2)) :
    o_MetW l (⟨s2, s62, s68⟩ : MethodName) B51 3 (some (.object s8)) [((0 : Nat), (24 : Nat), (25 : Nat), (30 : Nat))] [] (o_rm 1 0 0 13) Z #[(.ref b0)] h0 (Q_rm_next_64 Z h0 n0 b0 b1 b2) := by
  refine o_metW (plainFor_of_name pn_12) ?_
  intro p e s m below meth c T0 hx y hml hown hret hk hnm hZ X0 e0
  refine o_ent (ef_19 m b0) ?_
  refine qA X0 hx (hb y d51_0) rfl rfl 1 rfl ?_
  refine qF X0 hx hZ hown (host := "") (Or.inl (w hw 201 rfl)) Via.refl e0 F_b0_cursor (hb y d51_1) 4 rfl fun T1 X1 e1 => ?_
  refine qk X1 hx (hb y d51_4) #[.val (.ref b0), .val (.int 0), .unset] rfl 5 rfl ?_
  refine qA X1 hx (hb y d51_5) rfl rfl 6 rfl ?_
  refine qF X1 hx hZ hown (host := "") (Or.inl (w hw 197 rfl)) Via.refl e1 F_b0_list (hb y d51_6) 9 rfl fun T2 X2 e2 => ?_
  refine qI X2 hx (hb y d51_9) rfl 10 rfl ?_
  refine oC (cI X2 hx hZ hown (w hw 421 rfl) (w hw 318 rfl) (w hw 319 rfl) (w hw 447 rfl) (w hw 448 rfl) (w hw 449 rfl) (w hw 450 rfl) (w hw 444 rfl) (w hw 426 rfl) (w hw 451 rfl) (by decide) (by decide) b1 [(.int 0)] [] 0 (rm_get_47 l Z a0 h0 n0 hw O b1 b2 F_b1_e0) (by decide) (by decide) e2 E_b1 (by rw [hml]; rfl) (lenOf pd_26 rfl) (Nat.le_of_eq rfl) (hb y d51_10) 15 rfl (by decide) (by decide)) rfl rfl fun T4 X4 e4 => ?_
  refine qh X4 hx (hb y d51_15) #[.val (.ref b0), .val (.int 0), .val (.ref b2)] rfl rfl 16 rfl ?_
  refine qA X4 hx (hb y d51_16) rfl rfl 17 rfl ?_
  refine qI X4 hx (hb y d51_17) rfl 18 rfl ?_
  refine qC X4 hx (hb y d51_18) (1 : Int32) rfl 19 rfl ?_
  refine o_iadd X4 hx (hb y d51_19) 20 rfl ?_
  refine o_topI (1 : Int32) (by decide) ?_
  refine qP X4 hx hZ hown (host := "") (Or.inl (w hw 201 rfl)) Via.refl e4 F_b0_cursor E_b0 (Or.inl (w hw 202 rfl)) (w hw 186 rfl) (ty := .int) (by decide) rfl rfl (hb y d51_20) 23 rfl fun T5 X5 W5 => ?_
  have G5 := Fld.same W5 F_b0_cursor
  have N6 := Fr.snoc X5 (Fr.nil n0) g_b0
  have K6 := Keep.wr (Keep.refl h0 [b0]) W5 (Or.inl (by simp))
  refine qA X5 hx (hb y d51_23) rfl rfl 24 rfl ?_
  have f7 := (E_b0.wr W5)
  have f8 := (F_b0_isListIterator.other W5 (Or.inr (sn_54 hw)))
  have f9 := (F_b0_list.other W5 (Or.inr (Ne.symm (sn_50 hw))))
  have f10 := (F_b0_size.other W5 (Or.inr (Ne.symm (sn_51 hw))))
  exact qR X5 hx hk hret rfl rfl (hb y d51_24) rfl (by show Q_rm_next_64 Z h0 n0 b0 b1 b2 _ T5.heap _; exact ⟨rfl, N6, K6, f7, G5, f8, f9, f10⟩) (by decide) (by decide)
theorem rm_hasNext_65 (hw : o_HW Z a0) (O : Old Z n0 h0) (b0 : Addr) (F_b0_cursor : Fld Z h0 b0 s2 s41 "I" (.int 1)) (F_b0_size : Fld Z h0 b0 s2 s26 "I" (.int 1)) :
    o_Met l (⟨s2, "hasNext", "()Z"⟩ : MethodName) B19 1 (some .boolean) [] (o_rm 0 0 0 0) Z #[(.ref b0)] h0 (o_R (some (.int 0)) h0) := by
  refine o_met (pN pn_12) ?_
  intro p e s m below meth c T0 hx y hml hown hret hk hnm hZ X0 e0
  refine o_ent (ef_2 m b0) ?_
  refine qA X0 hx (hb y d20_0) rfl rfl 1 rfl ?_
  refine qF X0 hx hZ hown (host := "") (Or.inl (w hw 201 rfl)) Via.refl e0 F_b0_cursor (hb y d20_1) 4 rfl fun T1 X1 e1 => ?_
  refine qA X1 hx (hb y d20_4) rfl rfl 5 rfl ?_
  refine qF X1 hx hZ hown (host := "") (Or.inl (w hw 199 rfl)) Via.refl e1 F_b0_size (hb y d20_5) 8 rfl fun T2 X2 e2 => ?_
  refine o_icmpY X2 hx (hb y d20_8) (teq (by decide : (1 : Int32) = (1 : Int32))).1 15 (by decide) (by decide) ?_
  refine qC X2 hx (hb y d20_15) (0 : Int32) rfl 16 rfl ?_
  exact o_retZ X2 hx hk hret (hb y d20_16) rfl ⟨rfl, e2, rfl⟩ (by decide) (by decide)
def Q_rm__init__59 (Z : State) (h0 : Heap) (n0 : Nat) (b0 : Addr) (b1 : Addr) (b2 : Addr) (b3 : Addr) (v : Option Value) (h : Heap) (L : List Loc) : Prop := ∃ (y0 : Addr) (yk0 : ClassId), v = none ∧ Fr n0 L ∧ Keep h0 h [b0] ∧ h0.size ≤ y0 ∧ Exa Z h b0 s0 ∧ Fld Z h b0 s0 s35 s12 (.ref y0) ∧ Arv Z h y0 yk0 (.object s1) (67 : Int32) [.null, (.ref b3)] .null ∧ Exa Z h y0 s12 ∧ Ovr Z yk0 s1
theorem pd_37 : parseMethodDescriptor "()Ljava/lang/Object;" = some ⟨[], some (.object "java/lang/Object")⟩ := by decide +kernel
theorem d16_94 : decode B20 94 = .ok (.aload_n 3, 1) := by decide +kernel
theorem d16_95 : decode B20 95 = .ok (.invokeinterface 67 1, 5) := by decide +kernel
theorem d16_100 : decode B20 100 = .ok (.checkcast 52, 3) := by decide +kernel
theorem d16_103 : decode B20 103 = .ok (.astore 4, 2) := by decide +kernel
theorem d16_105 : decode B20 105 = .ok (.aload_n 0, 1) := by decide +kernel
theorem d16_106 : decode B20 106 = .ok (.getfield 54, 3) := by decide +kernel
theorem d16_109 : decode B20 109 = .ok (.aload_n 0, 1) := by decide +kernel
theorem d16_110 : decode B20 110 = .ok (.dup, 1) := by decide +kernel
theorem d16_111 : decode B20 111 = .ok (.getfield 71, 3) := by decide +kernel
theorem d16_114 : decode B20 114 = .ok (.iconst 1, 1) := by decide +kernel
theorem d16_115 : decode B20 115 = .ok (.iadd, 1) := by decide +kernel
theorem d16_116 : decode B20 116 = .ok (.dup_x1, 1) := by decide +kernel
theorem d16_117 : decode B20 117 = .ok (.putfield 71, 3) := by decide +kernel
theorem d16_120 : decode B20 120 = .ok (.aload 4, 2) := by decide +kernel
theorem d16_122 : decode B20 122 = .ok (.aastore, 1) := by decide +kernel
theorem d16_123 : decode B20 123 = .ok (.goto (-38), 3) := by decide +kernel
theorem rm__init__59 (hw : o_HW Z a0) (H : o_C Z Z.heap w_NW w_DC w_EL w_EA w_EM w_MO w_cacheI c_cacheI k_DC k_EA z_CS) (O : Old Z n0 h0) (b0 : Addr) (b1 : Addr) (b2 : Addr) (b3 : Addr) (E_b0 : Exa Z h0 b0 s0) (F_b0_access : Fld Z h0 b0 s0 s67 s14 .null) (F_b0_declaration : Fld Z h0 b0 s0 s49 s18 .null) (F_b0_image : Fld Z h0 b0 s0 "image" s22 .null) (F_b0_imageSegments : Fld Z h0 b0 s0 s48 "I" (.int 0)) (F_b0_lastSegment : Fld Z h0 b0 s0 s53 "I" (.int 0)) (F_b0_pointers : Fld Z h0 b0 s0 s60 "[J" .null) (F_b0_registerWords : Fld Z h0 b0 s0 s47 "[J" .null) (F_b0_segments : Fld Z h0 b0 s0 s35 s12 .null) (F_b0_stacks : Fld Z h0 b0 s0 s66 "[I" .null) (F_b0_x : Fld Z h0 b0 s0 "x" "[I" .null) (g_b0 : n0 ≤ b0) (E_b1 : Exa Z h0 b1 s3) (F_b1_segments : Fld Z h0 b1 s3 s35 s17 (.ref b2)) (E_b2 : Exa Z h0 b2 s9) (F_b2_e0 : Fld Z h0 b2 s9 "e0" s13 (.ref b3)) (F_b2_e1 : Fld Z h0 b2 s9 "e1" s13 (.ref w_EM)) (E_b3 : Exa Z h0 b3 s1) (ne_b0_b1 : b0 ≠ b1) (ne_b0_b2 : b0 ≠ b2) :
    o_Met l (⟨s0, s50, s31⟩ : MethodName) B20 5 none [] (o_rm 3 7 222 39) Z #[(.ref b0), .null, (.ref b1)] h0 (Q_rm__init__59 Z h0 n0 b0 b1 b2 b3) := by
  refine o_met (pN pn_14) ?_
  intro p e s m below meth c T0 hx y hml hown hret hk hnm hZ X0 e0
  obtain ⟨-, S_PW, -, -, -, -, -, -, -, -, -, -, -, -, -, -, -, -, -⟩ := id H
  refine o_ent (ef_7 m b0 b1) ?_
  refine qA X0 hx (hb y d16_0) rfl rfl 1 rfl ?_
  refine o_initO X0 hx hZ hown (w hw 148 rfl) (w hw 24 rfl) (w hw 25 rfl) e0 (by rw [hml]; rfl) (hb y d16_1) (by decide) 0 (Nat.le_of_eq rfl) (by decide) 4 rfl fun T1 X1 e1 => ?_
  refine qA X1 hx (hb y d16_4) rfl rfl 5 rfl ?_
  refine o_bipush X1 hx (hb y d16_5) (64 : Int32) rfl 7 rfl ?_
  refine o_newP X1 hx hZ (w hw 149 rfl) e1 (hb y d16_7) (by decide) 64 (by decide) (by decide) (by decide) (by decide) "[I" (by decide) 9 rfl fun T2 a2 c2 g2 X2 E2 V2 A2 => ?_
  have O3 := O.ext E2
  have K3 := Keep.ext (Keep.refl h0 [b0]) E2
  have V2 : Arv Z T2.heap a2 c2 .int (64 : Int32) [] (.int 0) := V2
  have f5 := (F_b0_stacks.ext E2)
  have f6 := (E_b0.ext E2)
  refine qP X2 hx hZ hown (host := "") (Or.inl (w hw 150 rfl)) Via.refl rfl f5 f6 (Or.inr ⟨(w hw 151 rfl), rfl, hnm⟩) (w hw 143 rfl) (ty := (.array .int)) (by decide) rfl rfl (hb y d16_9) 12 rfl fun T4 X4 W4 => ?_
  have O7 := O3.wr W4 g_b0
  have N7 := Fr.snoc X4 (Fr.nil n0) g_b0
  have K7 := Keep.wr K3 W4 (Or.inl (by simp))
  refine qA X4 hx (hb y d16_12) rfl rfl 13 rfl ?_
  refine qC X4 hx (hb y d16_13) (4 : Int32) rfl 14 rfl ?_
  refine o_newP X4 hx hZ (w hw 149 rfl) rfl (hb y d16_14) (by decide) 4 (by decide) (by decide) (by decide) (by decide) "[I" (by decide) 16 rfl fun T8 a8 c8 g8 X8 E8 V8 A8 => ?_
  have O9 := O7.ext E8
  have K9 := Keep.ext K7 E8
  have V8 : Arv Z T8.heap a8 c8 .int (4 : Int32) [] (.int 0) := V8
  have f11 := (((F_b0_x.ext E2).other W4 (Or.inr (sn_21 hw))).ext E8)
  have f12 := ((f6.wr W4).ext E8)
  refine qP X8 hx hZ hown (host := "") (Or.inl (w hw 152 rfl)) Via.refl rfl f11 f12 (Or.inr ⟨(w hw 153 rfl), rfl, hnm⟩) (w hw 143 rfl) (ty := (.array .int)) (by decide) rfl rfl (hb y d16_16) 19 rfl fun T10 X10 W10 => ?_
  have O13 := O9.wr W10 g_b0
  have N13 := Fr.snoc X10 N7 g_b0
  have K13 := Keep.wr K9 W10 (Or.inl (by simp))
  refine qA X10 hx (hb y d16_19) rfl rfl 20 rfl ?_
  refine o_getS X10 hx hZ hown (host := "") (Or.inl (w hw 154 rfl)) Via.refl rfl (S_PW.ext O13.2) (hb y d16_20) 23 rfl fun T14 X14 e14 => ?_
  refine o_newP X14 hx hZ (w hw 156 rfl) e14 (hb y d16_23) (by decide) 8 (by decide) (by decide) (by decide) (by decide) "[J" (by decide) 25 rfl fun T15 a15 c15 g15 X15 E15 V15 A15 => ?_
  have O16 := O13.ext E15
  have K16 := Keep.ext K13 E15
  have V15 : Arv Z T15.heap a15 c15 .long (8 : Int32) [] (.long (0 : Int64)) := V15
  have f18 := (((((F_b0_pointers.ext E2).other W4 (Or.inr (sn_22 hw))).ext E8).other W10 (Or.inr (sn_23 hw))).ext E15)
  have f19 := ((f12.wr W10).ext E15)
  refine qP X15 hx hZ hown (host := "") (Or.inl (w hw 157 rfl)) Via.refl rfl f18 f19 (Or.inr ⟨(w hw 158 rfl), rfl, hnm⟩) (w hw 143 rfl) (ty := (.array .long)) (by decide) rfl rfl (hb y d16_25) 28 rfl fun T17 X17 W17 => ?_
  have O20 := O16.wr W17 g_b0
  have N20 := Fr.snoc X17 N13 g_b0
  have K20 := Keep.wr K16 W17 (Or.inl (by simp))
  refine qA X17 hx (hb y d16_28) rfl rfl 29 rfl ?_
  refine o_bipush X17 hx (hb y d16_29) (8 : Int32) rfl 31 rfl ?_
  refine o_newP X17 hx hZ (w hw 156 rfl) rfl (hb y d16_31) (by decide) 8 (by decide) (by decide) (by decide) (by decide) "[J" (by decide) 33 rfl fun T21 a21 c21 g21 X21 E21 V21 A21 => ?_
  have O22 := O20.ext E21
  have K22 := Keep.ext K20 E21
  have V21 : Arv Z T21.heap a21 c21 .long (8 : Int32) [] (.long (0 : Int64)) := V21
  have f24 := (((((((F_b0_registerWords.ext E2).other W4 (Or.inr (sn_24 hw))).ext E8).other W10 (Or.inr (sn_25 hw))).ext E15).other W17 (Or.inr (sn_26 hw))).ext E21)
  have f25 := ((f19.wr W17).ext E21)
  refine qP X21 hx hZ hown (host := "") (Or.inl (w hw 159 rfl)) Via.refl rfl f24 f25 (Or.inr ⟨(w hw 160 rfl), rfl, hnm⟩) (w hw 143 rfl) (ty := (.array .long)) (by decide) rfl rfl (hb y d16_33) 36 rfl fun T23 X23 W23 => ?_
  have O26 := O22.wr W23 g_b0
  have N26 := Fr.snoc X23 N20 g_b0
  have K26 := Keep.wr K22 W23 (Or.inl (by simp))
  refine qA X23 hx (hb y d16_36) rfl rfl 37 rfl ?_
  refine qA X23 hx (hb y d16_37) rfl rfl 38 rfl ?_
  have f28 := ((((((((F_b0_declaration.ext E2).other W4 (Or.inr (sn_27 hw))).ext E8).other W10 (Or.inr (sn_28 hw))).ext E15).other W17 (Or.inr (sn_29 hw))).ext E21).other W23 (Or.inr (sn_30 hw)))
  have f29 := (f25.wr W23)
  refine qP X23 hx hZ hown (host := "") (Or.inl (w hw 161 rfl)) Via.refl rfl f28 f29 (Or.inr ⟨(w hw 162 rfl), rfl, hnm⟩) (w hw 143 rfl) (ty := (.object s19)) (by decide) rfl rfl (hb y d16_38) 41 rfl fun T27 X27 W27 => ?_
  have O30 := O26.wr W27 g_b0
  have N30 := Fr.snoc X27 N26 g_b0
  have K30 := Keep.wr K26 W27 (Or.inl (by simp))
  refine qA X27 hx (hb y d16_41) rfl rfl 42 rfl ?_
  refine qA X27 hx (hb y d16_42) rfl rfl 43 rfl ?_
  have f32 := (((((((((F_b0_image.ext E2).other W4 (Or.inr (sn_31 hw))).ext E8).other W10 (Or.inr (sn_32 hw))).ext E15).other W17 (Or.inr (sn_33 hw))).ext E21).other W23 (Or.inr (sn_34 hw))).other W27 (Or.inr (sn_35 hw)))
  have f33 := (f29.wr W27)
  refine qP X27 hx hZ hown (host := "") (Or.inl (w hw 163 rfl)) Via.refl rfl f32 f33 (Or.inr ⟨(w hw 164 rfl), rfl, hnm⟩) (w hw 143 rfl) (ty := (.object s3)) (by decide) rfl rfl (hb y d16_43) 46 rfl fun T31 X31 W31 => ?_
  have O34 := O30.wr W31 g_b0
  have N34 := Fr.snoc X31 N30 g_b0
  have K34 := Keep.wr K30 W31 (Or.inl (by simp))
  refine qA X31 hx (hb y d16_46) rfl rfl 47 rfl ?_
  refine qA X31 hx (hb y d16_47) rfl rfl 48 rfl ?_
  have f36 := ((((((((((E_b1.ext E2).wr W4).ext E8).wr W10).ext E15).wr W17).ext E21).wr W23).wr W27).wr W31)
  have f37 := (o_fo (o_fo (o_fo ((o_fo ((o_fo ((o_fo (F_b1_segments.ext E2) W4 ne_b0_b1).ext E8) W10 ne_b0_b1).ext E15) W17 ne_b0_b1).ext E21) W23 ne_b0_b1) W27 ne_b0_b1) W31 ne_b0_b1)
  refine qV X31 hx hZ hown (w hw 165 rfl) (w hw 166 rfl) (notFace_of_selects (args := #[]) (mvT hZ (w hw 168 rfl))) (w hw 168 rfl) (w hw 167 rfl) (w hw 102 rfl) (w hw 169 rfl) (by decide) b1 [] [(.ref b0)] 1 (rm_segments_60 l Z a0 T31.heap n0 hw O34 b1 b2 f37) (by decide) (by decide) rfl rfl rfl f36 (by rw [hml]; rfl) (lenOf pd_6 rfl) (Nat.le_of_eq rfl) (hb y d16_48) 51 rfl rfl (by decide) (by decide) fun T38 X38 e38 => ?_
  have f40 := ((((((((((E_b2.ext E2).wr W4).ext E8).wr W10).ext E15).wr W17).ext E21).wr W23).wr W27).wr W31)
  have f41 := (o_fo (o_fo (o_fo ((o_fo ((o_fo ((o_fo (F_b2_e1.ext E2) W4 ne_b0_b2).ext E8) W10 ne_b0_b2).ext E15) W17 ne_b0_b2).ext E21) W23 ne_b0_b2) W27 ne_b0_b2) W31 ne_b0_b2)
  refine oC (cI X38 hx hZ hown (w hw 170 rfl) (w hw 131 rfl) (w hw 132 rfl) (w hw 440 rfl) (w hw 441 rfl) (w hw 442 rfl) (w hw 443 rfl) (w hw 444 rfl) (w hw 426 rfl) (w hw 445 rfl) (by decide) (by decide) b2 [] [(.ref b0)] 1 (rm_size_46 l Z a0 T31.heap n0 hw H O34 b2 f41) (by decide) (by decide) e38 f40 (by rw [hml]; rfl) (lenOf pd_9 rfl) (Nat.le_of_eq rfl) (hb y d16_51) 56 rfl (by decide) (by decide)) rfl rfl fun T42 X42 e42 => ?_
  have f44 := ((((((((((F_b0_imageSegments.ext E2).other W4 (Or.inr (sn_36 hw))).ext E8).other W10 (Or.inr (sn_37 hw))).ext E15).other W17 (Or.inr (sn_38 hw))).ext E21).other W23 (Or.inr (sn_39 hw))).other W27 (Or.inr (sn_40 hw))).other W31 (Or.inr (sn_41 hw)))
  have f45 := (f33.wr W31)
  refine qP X42 hx hZ hown (host := "") (Or.inl (w hw 171 rfl)) Via.refl e42 f44 f45 (Or.inr ⟨(w hw 172 rfl), rfl, hnm⟩) (w hw 143 rfl) (ty := .int) (by decide) rfl rfl (hb y d16_56) 59 rfl fun T43 X43 W43 => ?_
  have G43 := Fld.same W43 f44
  have O46 := O34.wr W43 g_b0
  have N46 := Fr.snoc X43 N34 g_b0
  have K46 := Keep.wr K34 W43 (Or.inl (by simp))
  refine qA X43 hx (hb y d16_59) rfl rfl 60 rfl ?_
  refine qA X43 hx (hb y d16_60) rfl rfl 61 rfl ?_
  refine qF X43 hx hZ hown (host := "") (Or.inl (w hw 171 rfl)) Via.refl rfl G43 (hb y d16_61) 64 rfl fun T47 X47 e47 => ?_
  refine qC X47 hx (hb y d16_64) (1 : Int32) rfl 65 rfl ?_
  refine o_iadd X47 hx (hb y d16_65) 66 rfl ?_
  refine o_topI (2 : Int32) (by decide) ?_
  refine o_bipush X47 hx (hb y d16_66) (65 : Int32) rfl 68 rfl ?_
  refine o_iadd X47 hx (hb y d16_68) 69 rfl ?_
  refine o_topI (67 : Int32) (by decide) ?_
  refine o_newR X47 hx hZ hown (w hw 173 rfl) (w hw 98 rfl) e47 (hb y d16_69) (by decide) 67 (by decide) (by decide) (by decide) (by decide) s12 (by decide) 72 rfl fun T48 a48 c48 g48 X48 E48 V48 A48 P48 => ?_
  have g_a48 : n0 ≤ a48 := Nat.le_trans (o_osz O46) (Nat.le_of_eq g48)
  have z_a48 : h0.size ≤ a48 := Nat.le_trans (K46).1 (Nat.le_of_eq g48)
  have O49 := O46.ext E48
  have K49 := Keep.ext K46 E48
  have V48 : Arv Z T48.heap a48 c48 (.object s1) (67 : Int32) [] .null := V48
  have f51 := ((((((((((((F_b0_segments.ext E2).other W4 (Or.inr (sn_42 hw))).ext E8).other W10 (Or.inr (sn_43 hw))).ext E15).other W17 (Or.inr (sn_44 hw))).ext E21).other W23 (Or.inr (sn_45 hw))).other W27 (Or.inr (sn_46 hw))).other W31 (Or.inr (sn_47 hw))).other W43 (Or.inr (sn_48 hw))).ext E48)
  have f52 := ((f45.wr W43).ext E48)
  refine qP X48 hx hZ hown (host := "") (Or.inl (w hw 174 rfl)) Via.refl rfl f51 f52 (Or.inr ⟨(w hw 175 rfl), rfl, hnm⟩) (w hw 143 rfl) (ty := (.array (.object s1))) (by decide) rfl rfl (hb y d16_72) 75 rfl fun T50 X50 W50 => ?_
  have G50 := Fld.same W50 f51
  have O53 := O49.wr W50 g_b0
  have N53 := Fr.snoc X50 N46 g_b0
  have K53 := Keep.wr K49 W50 (Or.inl (by simp))
  refine qA X50 hx (hb y d16_75) rfl rfl 76 rfl ?_
  have f55 := (((f36.wr W43).ext E48).wr W50)
  have f56 := (o_fo ((o_fo f37 W43 ne_b0_b1).ext E48) W50 ne_b0_b1)
  refine qV X50 hx hZ hown (w hw 165 rfl) (w hw 166 rfl) (notFace_of_selects (args := #[]) (mvT hZ (w hw 168 rfl))) (w hw 168 rfl) (w hw 167 rfl) (w hw 102 rfl) (w hw 169 rfl) (by decide) b1 [] [] 0 (rm_segments_60 l Z a0 T50.heap n0 hw O53 b1 b2 f56) (by decide) (by decide) rfl rfl rfl f55 (by rw [hml]; rfl) (lenOf pd_6 rfl) (Nat.le_of_eq rfl) (hb y d16_76) 79 rfl rfl (by decide) (by decide) fun T57 X57 e57 => ?_
  have f59 := (((f40.wr W43).ext E48).wr W50)
  have f60 := (o_fo ((o_fo f41 W43 ne_b0_b2).ext E48) W50 ne_b0_b2)
  refine kI X57 hx hZ hown (w hw 176 rfl) (w hw 177 rfl) (w hw 178 rfl) (w hw 452 rfl) (w hw 180 rfl) (w hw 181 rfl) (w hw 453 rfl) (w hw 444 rfl) (w hw 183 rfl) (w hw 184 rfl) (by decide) (by decide) b2 [] [] 0 (rm_iterator_61 l Z a0 T50.heap n0 hw H O53 b2 f59 f60) (by decide) (by decide) e57 f59 (by rw [hml]; rfl) (lenOf pd_12 rfl) (Nat.le_of_eq rfl) (hb y d16_79) 84 rfl (by decide) (by decide) fun v58 T58 L58 X58 hQ58 => ?_
  obtain ⟨q58_0, rfl, Nq58, Kq58, le_q58_0, p58_0, p58_1, p58_2, p58_3, p58_4⟩ := hQ58
  have g_q58_0 : n0 ≤ q58_0 := Nat.le_trans (o_osz O53) le_q58_0
  have z_q58_0 : h0.size ≤ q58_0 := Nat.le_trans (K53).1 le_q58_0
  have O61 := O53.keep Kq58 all0
  have N61 := Fr.app N53 Nq58
  have K61 := Keep.trans K53 Kq58 all0
  refine o_nR ?_
  refine qh X58 hx (hb y d16_84) #[.val (.ref b0), .val .null, .val (.ref b1), .val (.ref q58_0), .unset] rfl rfl 85 rfl ?_
  refine qA X58 hx (hb y d16_85) rfl rfl 86 rfl ?_
  refine oC (cI X58 hx hZ hown (w hw 205 rfl) (w hw 206 rfl) (w hw 207 rfl) (w hw 208 rfl) (w hw 209 rfl) (w hw 210 rfl) (w hw 211 rfl) (w hw 212 rfl) (w hw 187 rfl) (w hw 213 rfl) (by decide) (by decide) q58_0 [] [] 0 (rm_hasNext_63 l Z a0 T58.heap n0 hw O61 q58_0 p58_1 p58_4) (by decide) (by decide) rfl p58_0 (by rw [hml]; rfl) (lenOf pd_5 rfl) (Nat.le_of_eq rfl) (hb y d16_86) 91 rfl (by decide) (by decide)) rfl rfl fun T63 X63 e63 => ?_
  refine qN X63 hx (hb y d16_91) ((if0 _ _).trans (feq (by decide : ¬ ((1 : Int32) = (0 : Int32)))).1) 94 rfl ?_
  refine qA X63 hx (hb y d16_94) rfl rfl 95 rfl ?_
  have f65 := (f59.keep Kq58)
  have f66 := ((o_fo ((o_fo (o_fo (o_fo (o_fo ((o_fo ((o_fo ((o_fo (F_b2_e0.ext E2) W4 ne_b0_b2).ext E8) W10 ne_b0_b2).ext E15) W17 ne_b0_b2).ext E21) W23 ne_b0_b2) W27 ne_b0_b2) W31 ne_b0_b2) W43 ne_b0_b2).ext E48) W50 ne_b0_b2).keep Kq58 nin0)
  refine o_kIW X63 hx hZ hown (w hw 413 rfl) (w hw 414 rfl) (w hw 415 rfl) (w hw 416 rfl) (w hw 417 rfl) (w hw 418 rfl) (w hw 419 rfl) (w hw 212 rfl) (w hw 187 rfl) (w hw 420 rfl) (by decide) (by decide) q58_0 [] [] 0 (rm_next_64 l Z a0 T58.heap n0 hw O61 q58_0 b2 b3 p58_0 p58_1 p58_2 p58_3 p58_4 g_q58_0 f65 f66) (by decide) (by decide) e63 p58_0 (by rw [hml]; rfl) (lenOf pd_37 rfl) (Nat.le_of_eq rfl) (hb y d16_95) 100 rfl (by decide) (by decide) fun v64 T64 L64 X64 hQ64 => ?_
  obtain ⟨rfl, Nq64, Kq64, p64_0, p64_1, p64_2, p64_3, p64_4⟩ := hQ64
  have O67 := O61.keep Kq64 (allS g_q58_0 all0)
  have N67 := Fr.app N61 Nq64
  have K67 := Keep.trans K61 Kq64 (allS (Or.inr z_q58_0) all0)
  refine o_nR ?_
  have f68 := (((((((((((((((E_b3.ext E2).wr W4).ext E8).wr W10).ext E15).wr W17).ext E21).wr W23).wr W27).wr W31).wr W43).ext E48).wr W50).keep Kq58).keep Kq64)
  refine o_cast X64 hx hZ hown (w hw 173 rfl) rfl (Ins.self f68) (hb y d16_100) 103 rfl fun T69 X69 e69 => ?_
  refine qt X69 hx (hb y d16_103) #[.val (.ref b0), .val .null, .val (.ref b1), .val (.ref q58_0), .val (.ref b3)] rfl rfl 105 rfl ?_
  refine qA X69 hx (hb y d16_105) rfl rfl 106 rfl ?_
  have l71 := (Nat.le_trans (Nat.le_trans (Nat.le_trans (Nat.le_trans (Nat.le_trans (Nat.le_trans (Nat.le_trans (Nat.le_trans (Nat.le_trans (Nat.le_trans (Nat.le_trans (Nat.le_trans E2.1 (Nat.le_of_eq (Wr.size W4).symm)) E8.1) (Nat.le_of_eq (Wr.size W10).symm)) E15.1) (Nat.le_of_eq (Wr.size W17).symm)) E21.1) (Nat.le_of_eq (Wr.size W23).symm)) (Nat.le_of_eq (Wr.size W27).symm)) (Nat.le_of_eq (Wr.size W31).symm)) (Nat.le_of_eq (Wr.size W43).symm)) E48.1) (Nat.le_of_eq (Wr.size W50).symm))
  have ne70 := o_nl E_b0.lt l71 le_q58_0
  have f72 := ((G50.keep Kq58 nin0).keep Kq64 (ninS ne70 nin0))
  refine qF X69 hx hZ hown (host := "") (Or.inl (w hw 174 rfl)) Via.refl e69 f72 (hb y d16_106) 109 rfl fun T73 X73 e73 => ?_
  refine qA X73 hx (hb y d16_109) rfl rfl 110 rfl ?_
  refine qD X73 hx (hb y d16_110) rfl 111 rfl ?_
  have f74 := (((((((((((((((F_b0_lastSegment.ext E2).other W4 (Or.inr (sn_77 hw))).ext E8).other W10 (Or.inr (sn_78 hw))).ext E15).other W17 (Or.inr (sn_79 hw))).ext E21).other W23 (Or.inr (sn_80 hw))).other W27 (Or.inr (sn_81 hw))).other W31 (Or.inr (sn_82 hw))).other W43 (Or.inr (sn_83 hw))).ext E48).other W50 (Or.inr (sn_84 hw))).keep Kq58 nin0).keep Kq64 (ninS ne70 nin0))
  refine qF X73 hx hZ hown (host := "") (Or.inl (w hw 422 rfl)) Via.refl e73 f74 (hb y d16_111) 114 rfl fun T75 X75 e75 => ?_
  refine qC X75 hx (hb y d16_114) (1 : Int32) rfl 115 rfl ?_
  refine o_iadd X75 hx (hb y d16_115) 116 rfl ?_
  refine o_topI (1 : Int32) (by decide) ?_
  refine o_dup_x1 X75 hx (hb y d16_116) rfl rfl 117 rfl ?_
  have f77 := (((f52.wr W50).keep Kq58).keep Kq64)
  refine qP X75 hx hZ hown (host := "") (Or.inl (w hw 422 rfl)) Via.refl e75 f74 f77 (Or.inl (w hw 423 rfl)) (w hw 143 rfl) (ty := .int) (by decide) rfl rfl (hb y d16_117) 120 rfl fun T76 X76 W76 => ?_
  have O78 := O67.wr W76 g_b0
  have N78 := Fr.snoc X76 N67 g_b0
  have K78 := Keep.wr K67 W76 (Or.inl (by simp))
  refine qa X76 hx (hb y d16_120) rfl rfl 122 rfl ?_
  have l81 := (Nat.le_trans (Nat.le_trans (Nat.le_trans (Nat.le_trans (Nat.le_trans (Nat.le_trans (Nat.le_trans (Nat.le_trans (Nat.le_trans (Nat.le_trans E2.1 (Nat.le_of_eq (Wr.size W4).symm)) E8.1) (Nat.le_of_eq (Wr.size W10).symm)) E15.1) (Nat.le_of_eq (Wr.size W17).symm)) E21.1) (Nat.le_of_eq (Wr.size W23).symm)) (Nat.le_of_eq (Wr.size W27).symm)) (Nat.le_of_eq (Wr.size W31).symm)) (Nat.le_of_eq (Wr.size W43).symm))
  have ne80 := o_nl E_b0.lt l81 (Nat.le_of_eq g48)
  have ne82 := o_nl A48.lt (Nat.le_of_eq (Wr.size W50).symm) le_q58_0
  have f83 := (o_vo (((o_vo V48 W50 ne80).keep Kq58 nin0).keep Kq64 (ninS ne82 nin0)) W76 ne80)
  have V84 : Arv Z T76.heap a48 c48 (.object s1) (67 : Int32) [.null, .null] .null := f83.pad (pad_rep [] .null 2)
  have f86 := (f68.wr W76)
  refine o_aastore X76 hx hZ rfl V84 rfl rfl (fun _ u q => Sto.ofV u q P48 (Ins.self f86)) 1 (by decide) (by decide) (by simp) [.null, (.ref b3)] rfl (hb y d16_122) 123 rfl fun T85 X85 W85 V85 => ?_
  have O87 := O78.wr W85 g_a48
  have N87 := Fr.snoc X85 N78 g_a48
  have K87 := Keep.wr K78 W85 (Or.inr z_a48)
  refine qG X85 hx (hb y d16_123) 85 (by decide) (by decide) ?_
  refine qA X85 hx (hb y d16_85) rfl rfl 86 rfl ?_
  have f89 := ((p64_0.wr W76).wr W85)
  have f90 := (o_fo (o_fo p64_1 W76 ne70) W85 ne82)
  have f91 := (o_fo (o_fo p64_4 W76 ne70) W85 ne82)
  refine oC (cI X85 hx hZ hown (w hw 205 rfl) (w hw 206 rfl) (w hw 207 rfl) (w hw 208 rfl) (w hw 209 rfl) (w hw 210 rfl) (w hw 211 rfl) (w hw 212 rfl) (w hw 187 rfl) (w hw 213 rfl) (by decide) (by decide) q58_0 [] [] 0 (rm_hasNext_65 l Z a0 T85.heap n0 hw O87 q58_0 f90 f91) (by decide) (by decide) rfl f89 (by rw [hml]; rfl) (lenOf pd_5 rfl) (Nat.le_of_eq rfl) (hb y d16_86) 91 rfl (by decide) (by decide)) rfl rfl fun T92 X92 e92 => ?_
  refine o_ifY X92 hx (hb y d16_91) ((if0 _ _).trans (teq (by decide : (0 : Int32) = (0 : Int32))).1) 126 (by decide) (by decide) ?_
  refine qA X92 hx (hb y d16_126) rfl rfl 127 rfl ?_
  refine qA X92 hx (hb y d16_127) rfl rfl 128 rfl ?_
  have f93 := ((f72.other W76 (Or.inr (Ne.symm (sn_84 hw)))).other W85 (Or.inl ne80))
  refine qF X92 hx hZ hown (host := "") (Or.inl (w hw 174 rfl)) Via.refl e92 f93 (hb y d16_128) 131 rfl fun T94 X94 e94 => ?_
  refine o_alen X94 hx hZ e94 V85 (hb y d16_131) 132 rfl ?_
  refine o_newRA X94 hx hZ hown (by decide) (w hw 214 rfl) (w hw 215 rfl) e94 (hb y d16_132) (by decide) 67 (by decide) (by decide) (by decide) (by decide) s14 (by decide) 135 rfl fun T95 a95 c95 g95 X95 E95 V95 A95 P95 => ?_
  have K96 := Keep.ext K87 E95
  have V95 : Arv Z T95.heap a95 c95 (.array (.object s16)) (67 : Int32) [] .null := V95
  have f98 := ((((((((((((((((((F_b0_access.ext E2).other W4 (Or.inr (sn_55 hw))).ext E8).other W10 (Or.inr (sn_56 hw))).ext E15).other W17 (Or.inr (sn_57 hw))).ext E21).other W23 (Or.inr (sn_58 hw))).other W27 (Or.inr (sn_59 hw))).other W31 (Or.inr (sn_60 hw))).other W43 (Or.inr (sn_61 hw))).ext E48).other W50 (Or.inr (sn_62 hw))).keep Kq58 nin0).keep Kq64 (ninS ne70 nin0)).other W76 (Or.inr (sn_85 hw))).other W85 (Or.inl ne80)).ext E95)
  have f99 := (((f77.wr W76).wr W85).ext E95)
  refine qP X95 hx hZ hown (host := "") (Or.inl (w hw 216 rfl)) Via.refl rfl f98 f99 (Or.inr ⟨(w hw 217 rfl), rfl, hnm⟩) (w hw 143 rfl) (ty := (.array (.array (.object s16)))) (by decide) rfl rfl (hb y d16_135) 138 rfl fun T97 X97 W97 => ?_
  have N100 := Fr.snoc X97 N87 g_b0
  have K100 := Keep.wr K96 W97 (Or.inl (by simp))
  have f101 := (f99.wr W97)
  have f102 := ((f93.ext E95).other W97 (Or.inr (Ne.symm (sn_62 hw))))
  have f103 := (o_vo (V85.ext E95) W97 ne80)
  have f104 := (((((((A48.wr W50).keep Kq58).keep Kq64).wr W76).wr W85).ext E95).wr W97)
  exact qv X97 hx hk hret (hb y d16_138) (by show Q_rm__init__59 Z h0 n0 b0 b1 b2 b3 _ T97.heap _; exact ⟨a48, c48, rfl, N100, K100, z_a48, f101, f102, f103, f104, P48⟩) (by decide) (by decide)
theorem rm_segment_ref (hw : o_HW Z a0) {b0 b1 b2 : Addr} {kk : ClassId} {N ii : Int32} {vs : List Value} (F_s : Fld Z h0 b0 s0 s35 s12 (.ref b1)) (V_s : Arv Z h0 b1 kk (.object s1) N vs .null) (kn0 : ¬ (ii < (0 : Int32))) (kn1 : ii < N) (hv : vs.getD ii.toNatClampNeg .null = .ref b2) :
    o_Met l (⟨s0, s74, s25⟩ : MethodName) B21 2 (some (.object s1)) [] (o_rm 0 0 0 0) Z #[(.ref b0), (.int ii)] h0 (o_R (some (.ref b2)) h0) := by
  refine o_met (pN pn_14) ?_
  intro p e s m below meth c T0 hx y hml hown hret hk hnm hZ X0 e0
  refine o_ent (ef_8 m b0 ii) ?_
  refine qI X0 hx (hb y d21_0) rfl 1 rfl ?_
  refine qN X0 hx (hb y d21_1) ((if0 _ _).trans (flt kn0).1) 4 rfl ?_
  refine qI X0 hx (hb y d21_4) rfl 5 rfl ?_
  refine qA X0 hx (hb y d21_5) rfl rfl 6 rfl ?_
  refine qF X0 hx hZ hown (host := "") (Or.inl (w hw 174 rfl)) Via.refl e0 F_s (hb y d21_6) 9 rfl fun T1 X1 e1 => ?_
  refine o_alen X1 hx hZ e1 V_s (hb y d21_9) 10 rfl ?_
  refine qn X1 hx (hb y d21_10) (tlt kn1).2.1 13 rfl ?_
  refine qA X1 hx (hb y d21_13) rfl rfl 14 rfl ?_
  refine qF X1 hx hZ hown (host := "") (Or.inl (w hw 174 rfl)) Via.refl e1 F_s (hb y d21_14) 17 rfl fun T2 X2 e2 => ?_
  refine qI X2 hx (hb y d21_17) rfl 18 rfl ?_
  refine o_aaload X2 hx hZ e2 V_s rfl (.ref b2) ⟨kn0, kn1⟩ hv (hb y d21_18) 19 rfl ?_
  refine qG X2 hx (hb y d21_19) 23 (by decide) (by decide) ?_
  exact qR X2 hx hk hret rfl rfl (hb y d21_23) rfl ⟨rfl, e2, rfl⟩ (by decide) (by decide)
theorem d22_12 : decode B22 12 = .ok (.aload_n 0, 1) := by decide +kernel
theorem d22_13 : decode B22 13 = .ok (.iload_n 2, 1) := by decide +kernel
theorem d22_14 : decode B22 14 = .ok (.iconst 1, 1) := by decide +kernel
theorem d22_15 : decode B22 15 = .ok (.isub, 1) := by decide +kernel
theorem d22_16 : decode B22 16 = .ok (.aaload, 1) := by decide +kernel
theorem d22_17 : decode B22 17 = .ok (.astore_n 3, 1) := by decide +kernel
theorem rm_expected_in (hw : o_HW Z a0) {b1 b2 : Addr} {kk : ClassId} {N kx ii : Int32} {vs : List Value} (V_s : Arv Z h0 b1 kk (.object s1) N vs .null) (kn0 : ¬ (ii < (1 : Int32))) (kn1 : ¬ (kx < ii)) (hbd : ¬ (ii - (1 : Int32)) < 0 ∧ (ii - (1 : Int32)) < N) (hv : vs.getD (ii - (1 : Int32)).toNatClampNeg .null = .ref b2) :
    o_Met l (⟨s20, s73, s15⟩ : MethodName) B22 4 (some (.object s1)) [] (o_rm 0 0 0 0) Z #[(.ref b1), (.int kx), (.int ii)] h0 (o_R (some (.ref b2)) h0) := by
  refine o_met (pN pn_15) ?_
  intro p e s m below meth c T0 hx y hml hown hret hk hnm hZ X0 e0
  refine o_ent (ef_9 m b1 kx ii) ?_
  refine o_aconst_null X0 hx (hb y d22_0) 1 rfl ?_
  refine qh X0 hx (hb y d22_1) #[.val (.ref b1), .val (.int kx), .val (.int ii), .val .null] rfl rfl 2 rfl ?_
  refine qI X0 hx (hb y d22_2) rfl 3 rfl ?_
  refine qC X0 hx (hb y d22_3) (1 : Int32) rfl 4 rfl ?_
  refine qn X0 hx (hb y d22_4) (flt kn0).1 7 rfl ?_
  refine qI X0 hx (hb y d22_7) rfl 8 rfl ?_
  refine qI X0 hx (hb y d22_8) rfl 9 rfl ?_
  refine qn X0 hx (hb y d22_9) (flt kn1).2.2.1 12 rfl ?_
  refine qA X0 hx (hb y d22_12) rfl rfl 13 rfl ?_
  refine qI X0 hx (hb y d22_13) rfl 14 rfl ?_
  refine qC X0 hx (hb y d22_14) (1 : Int32) rfl 15 rfl ?_
  refine o_isub X0 hx (hb y d22_15) 16 rfl ?_
  refine o_aaload X0 hx hZ e0 V_s rfl (.ref b2) hbd hv (hb y d22_16) 17 rfl ?_
  refine qh X0 hx (hb y d22_17) #[.val (.ref b1), .val (.int kx), .val (.int ii), .val (.ref b2)] rfl rfl 18 rfl ?_
  refine qA X0 hx (hb y d22_18) rfl rfl 19 rfl ?_
  exact qR X0 hx hk hret rfl rfl (hb y d22_19) rfl ⟨rfl, e0, rfl⟩ (by decide) (by decide)
def Q_rm_add_67 (Z : State) (h0 : Heap) (n0 : Nat) (b0 : Addr) (b1 : Addr) (b2 : Addr) (b4 : Addr) (k_b2 : ClassId) (v : Option Value) (h : Heap) (L : List Loc) : Prop := v = none ∧ Fr n0 L ∧ Keep h0 h [b2, b0] ∧ Exa Z h b0 s6 ∧ Fld Z h b0 s24 s29 "I" (.int 2) ∧ Fld Z h b0 s6 s27 s10 (.ref b2) ∧ Fld Z h b0 s6 s26 "I" (.int 2) ∧ Arv Z h b2 k_b2 (.object s8) (10 : Int32) [(.ref b4), (.ref b1)] .null ∧ Exa Z h b2 s10
theorem rm_add_67 (hw : o_HW Z a0) (O : Old Z n0 h0) (b0 : Addr) (b1 : Addr) (b2 : Addr) (b4 : Addr) (k_b2 : ClassId) (E_b0 : Exa Z h0 b0 s6) (F_b0_modCount : Fld Z h0 b0 s24 s29 "I" (.int 2)) (F_b0_elementData : Fld Z h0 b0 s6 s27 s10 (.ref b2)) (F_b0_size : Fld Z h0 b0 s6 s26 "I" (.int 1)) (g_b0 : n0 ≤ b0) (E_b1 : Exa Z h0 b1 s1) (V_b2 : Arv Z h0 b2 k_b2 (.object s8) (10 : Int32) [(.ref b4)] .null) (A_b2 : Exa Z h0 b2 s10) (P_b2 : Ovr Z k_b2 s8) (g_b2 : n0 ≤ b2) (ne_b0_b2 : b0 ≠ b2) :
    o_Met l (⟨s6, "add", "(Ljava/lang/Object;[Ljava/lang/Object;I)V"⟩ : MethodName) B26 4 none [] (o_rm 0 0 0 0) Z #[(.ref b0), (.ref b1), (.ref b2), (.int 1)] h0 (Q_rm_add_67 Z h0 n0 b0 b1 b2 b4 k_b2) := by
  refine o_met (pN pn_4) ?_
  intro p e s m below meth c T0 hx y hml hown hret hk hnm hZ X0 e0
  refine o_ent (ef_12 m b0 b1 b2 (1 : Int32)) ?_
  refine qI X0 hx (hb y d24_0) rfl 1 rfl ?_
  refine qA X0 hx (hb y d24_1) rfl rfl 2 rfl ?_
  refine o_alen X0 hx hZ e0 V_b2 (hb y d24_2) 3 rfl ?_
  refine o_icmpY X0 hx (hb y d24_3) (feq (by decide : ¬ ((1 : Int32) = (10 : Int32)))).2 11 (by decide) (by decide) ?_
  refine qA X0 hx (hb y d24_11) rfl rfl 12 rfl ?_
  refine qI X0 hx (hb y d24_12) rfl 13 rfl ?_
  refine qA X0 hx (hb y d24_13) rfl rfl 14 rfl ?_
  have V1 : Arv Z h0 b2 k_b2 (.object s8) (10 : Int32) [(.ref b4), .null] .null := V_b2.pad (pad_rep [(.ref b4)] .null 1)
  refine o_aastore X0 hx hZ e0 V1 rfl rfl (fun _ u q => Sto.ofV u q P_b2 (Ins.of_exa E_b1 (w hw 255 rfl))) 1 (by decide) (by decide) (by simp) [(.ref b4), (.ref b1)] rfl (hb y d24_14) 15 rfl fun T2 X2 W2 V2 => ?_
  have N3 := Fr.snoc X2 (Fr.nil n0) g_b2
  have K3 := Keep.wr (Keep.refl h0 [b2, b0]) W2 (Or.inl (by simp))
  refine qA X2 hx (hb y d24_15) rfl rfl 16 rfl ?_
  refine qI X2 hx (hb y d24_16) rfl 17 rfl ?_
  refine qC X2 hx (hb y d24_17) (1 : Int32) rfl 18 rfl ?_
  refine o_iadd X2 hx (hb y d24_18) 19 rfl ?_
  refine o_topI (2 : Int32) (by decide) ?_
  have f5 := (F_b0_size.other W2 (Or.inl ne_b0_b2))
  have f6 := (E_b0.wr W2)
  refine qP X2 hx hZ hown (host := "") (Or.inl (w hw 90 rfl)) Via.refl rfl f5 f6 (Or.inl (w hw 91 rfl)) (w hw 31 rfl) (ty := .int) (by decide) rfl rfl (hb y d24_19) 22 rfl fun T4 X4 W4 => ?_
  have G4 := Fld.same W4 f5
  have N7 := Fr.snoc X4 N3 g_b0
  have K7 := Keep.wr K3 W4 (Or.inl (by simp))
  have f8 := (f6.wr W4)
  have f9 := ((F_b0_modCount.other W2 (Or.inl ne_b0_b2)).other W4 (Or.inr (Ne.symm (sn_6 hw))))
  have f10 := ((F_b0_elementData.other W2 (Or.inl ne_b0_b2)).other W4 (Or.inr (Ne.symm (sn_7 hw))))
  have f11 := (o_vo V2 W4 ne_b0_b2)
  have f12 := ((A_b2.wr W2).wr W4)
  exact qv X4 hx hk hret (hb y d24_22) (by show Q_rm_add_67 Z h0 n0 b0 b1 b2 b4 k_b2 _ T4.heap _; exact ⟨rfl, N7, K7, f8, f9, f10, G4, f11, f12⟩) (by decide) (by decide)
def Q_rm_add_66 (Z : State) (h0 : Heap) (n0 : Nat) (b0 : Addr) (b1 : Addr) (b2 : Addr) (b4 : Addr) (k_b2 : ClassId) (v : Option Value) (h : Heap) (L : List Loc) : Prop := v = some (.int 1) ∧ Fr n0 L ∧ Keep h0 h [b0, b2] ∧ Exa Z h b0 s6 ∧ Fld Z h b0 s24 s29 "I" (.int 2) ∧ Fld Z h b0 s6 s27 s10 (.ref b2) ∧ Fld Z h b0 s6 s26 "I" (.int 2) ∧ Arv Z h b2 k_b2 (.object s8) (10 : Int32) [(.ref b4), (.ref b1)] .null ∧ Exa Z h b2 s10
theorem rm_add_66 (hw : o_HW Z a0) (O : Old Z n0 h0) (b0 : Addr) (b1 : Addr) (b2 : Addr) (b4 : Addr) (k_b2 : ClassId) (E_b0 : Exa Z h0 b0 s6) (F_b0_modCount : Fld Z h0 b0 s24 s29 "I" (.int 1)) (F_b0_elementData : Fld Z h0 b0 s6 s27 s10 (.ref b2)) (F_b0_size : Fld Z h0 b0 s6 s26 "I" (.int 1)) (g_b0 : n0 ≤ b0) (E_b1 : Exa Z h0 b1 s1) (V_b2 : Arv Z h0 b2 k_b2 (.object s8) (10 : Int32) [(.ref b4)] .null) (A_b2 : Exa Z h0 b2 s10) (P_b2 : Ovr Z k_b2 s8) (g_b2 : n0 ≤ b2) (ne_b0_b2 : b0 ≠ b2) :
    o_Met l (⟨s6, "add", "(Ljava/lang/Object;)Z"⟩ : MethodName) B27 2 (some .boolean) [] (o_rm 1 0 0 15) Z #[(.ref b0), (.ref b1)] h0 (Q_rm_add_66 Z h0 n0 b0 b1 b2 b4 k_b2) := by
  refine o_met (pN pn_4) ?_
  intro p e s m below meth c T0 hx y hml hown hret hk hnm hZ X0 e0
  refine o_ent (ef_13 m b0 b1) ?_
  refine qA X0 hx (hb y d23_0) rfl rfl 1 rfl ?_
  refine qD X0 hx (hb y d23_1) rfl 2 rfl ?_
  refine qF X0 hx hZ hown (host := "") (Or.inl (w hw 232 rfl)) (Via.of (w hw 233 rfl)) e0 F_b0_modCount (hb y d23_2) 5 rfl fun T1 X1 e1 => ?_
  refine qC X1 hx (hb y d23_5) (1 : Int32) rfl 6 rfl ?_
  refine o_iadd X1 hx (hb y d23_6) 7 rfl ?_
  refine o_topI (2 : Int32) (by decide) ?_
  refine qP X1 hx hZ hown (host := "") (Or.inl (w hw 232 rfl)) (Via.of (w hw 233 rfl)) e1 F_b0_modCount E_b0 (Or.inl (w hw 50 rfl)) (w hw 31 rfl) (ty := .int) (by decide) rfl rfl (hb y d23_7) 10 rfl fun T2 X2 W2 => ?_
  have G2 := Fld.same W2 F_b0_modCount
  have O3 := O.wr W2 g_b0
  have N3 := Fr.snoc X2 (Fr.nil n0) g_b0
  have K3 := Keep.wr (Keep.refl h0 [b0, b2]) W2 (Or.inl (by simp))
  refine qA X2 hx (hb y d23_10) rfl rfl 11 rfl ?_
  refine qA X2 hx (hb y d23_11) rfl rfl 12 rfl ?_
  refine qA X2 hx (hb y d23_12) rfl rfl 13 rfl ?_
  have f4 := (F_b0_elementData.other W2 (Or.inr (sn_5 hw)))
  refine qF X2 hx hZ hown (host := "") (Or.inl (w hw 52 rfl)) Via.refl rfl f4 (hb y d23_13) 16 rfl fun T5 X5 e5 => ?_
  refine qA X5 hx (hb y d23_16) rfl rfl 17 rfl ?_
  have f6 := (F_b0_size.other W2 (Or.inr (sn_6 hw)))
  refine qF X5 hx hZ hown (host := "") (Or.inl (w hw 90 rfl)) Via.refl e5 f6 (hb y d23_17) 20 rfl fun T7 X7 e7 => ?_
  have f9 := (E_b0.wr W2)
  have f10 := (E_b1.wr W2)
  have f11 := (o_vo V_b2 W2 ne_b0_b2)
  have f12 := (A_b2.wr W2)
  refine o_kP X7 hx hZ hown (w hw 234 rfl) (w hw 235 rfl) (w hw 236 rfl) (w hw 31 rfl) (w hw 32 rfl) (w hw 238 rfl) (by decide) b0 [(.ref b1), (.ref b2), (.int 1)] [] 0 (rm_add_67 l Z a0 T2.heap n0 hw O3 b0 b1 b2 b4 k_b2 f9 G2 f4 f6 g_b0 f10 f11 f12 P_b2 g_b2 ne_b0_b2) (by decide) (by decide) e7 f9 (by rw [hml]; rfl) (lenOf pd_19 rfl) (Nat.le_of_eq rfl) (hb y d23_20) 23 rfl (by decide) (by decide) fun v8 T8 L8 X8 hQ8 => ?_
  obtain ⟨rfl, Nq8, Kq8, p8_0, p8_1, p8_2, p8_3, p8_4, p8_5⟩ := hQ8
  have N13 := Fr.app N3 Nq8
  have K13 := Keep.trans K3 Kq8 (allS (Or.inl (by simp)) (allS (Or.inl (by simp)) all0))
  refine o_nV ?_
  refine qC X8 hx (hb y d23_23) (1 : Int32) rfl 24 rfl ?_
  exact o_retZ X8 hx hk hret (hb y d23_24) rfl (by show Q_rm_add_66 Z h0 n0 b0 b1 b2 b4 k_b2 _ T8.heap _; exact ⟨rfl, N13, K13, p8_0, p8_1, p8_2, p8_3, p8_4, p8_5⟩) (by decide) (by decide)
theorem rm_isEmpty_71 (hw : o_HW Z a0) (O : Old Z n0 h0) (b0 : Addr) (F_b0_size : Fld Z h0 b0 s6 s26 "I" (.int 2)) :
    o_Met l (⟨s6, "isEmpty", "()Z"⟩ : MethodName) B7 1 (some .boolean) [] (o_rm 0 0 0 0) Z #[(.ref b0)] h0 (o_R (some (.int 0)) h0) := by
  refine o_met (pN pn_4) ?_
  intro p e s m below meth c T0 hx y hml hown hret hk hnm hZ X0 e0
  refine o_ent (ef_2 m b0) ?_
  refine qA X0 hx (hb y d10_0) rfl rfl 1 rfl ?_
  refine qF X0 hx hZ hown (host := "") (Or.inl (w hw 90 rfl)) Via.refl e0 F_b0_size (hb y d10_1) 4 rfl fun T1 X1 e1 => ?_
  refine o_ifY X1 hx (hb y d10_4) ((if0 _ _).trans (feq (by decide : ¬ ((2 : Int32) = (0 : Int32)))).2) 11 (by decide) (by decide) ?_
  refine qC X1 hx (hb y d10_11) (0 : Int32) rfl 12 rfl ?_
  exact o_retZ X1 hx hk hret (hb y d10_12) rfl ⟨rfl, e1, rfl⟩ (by decide) (by decide)
theorem rm_min_75 (hw : o_HW Z a0) (O : Old Z n0 h0)  :
    o_Met l (⟨s69, "min", "(II)I"⟩ : MethodName) B28 2 (some .int) [] (o_rm 0 0 0 0) Z #[(.int 10), (.int 2)] h0 (o_R (some (.int 2)) h0) := by
  refine o_met (Jvm.Free.JP.mathPlain rfl (by decide +kernel)) ?_
  intro p e s m below meth c T0 hx y hml hown hret hk hnm hZ X0 e0
  refine o_ent (ef_10 m (10 : Int32) (2 : Int32)) ?_
  refine qI X0 hx (hb y d31_0) rfl 1 rfl ?_
  refine qI X0 hx (hb y d31_1) rfl 2 rfl ?_
  refine o_icmpY X0 hx (hb y d31_2) (tlt (by decide : (2 : Int32) < (10 : Int32))).2.2.1 9 (by decide) (by decide) ?_
  refine qI X0 hx (hb y d31_9) rfl 10 rfl ?_
  exact o_retI X0 hx hk hret (hb y d31_10) ⟨rfl, e0, rfl⟩ (by decide) (by decide)
def Q_rm_copyOf_74 (Z : State) (h0 : Heap) (n0 : Nat) (b0 : Addr) (b1 : Addr) (b2 : Addr) (k_b0 : ClassId) (v : Option Value) (h : Heap) (L : List Loc) : Prop := ∃ (y0 : Addr) (yk0 : ClassId), v = some (.ref y0) ∧ Fr n0 L ∧ Keep h0 h [] ∧ h0.size ≤ y0 ∧ Arv Z h y0 yk0 (.object s8) (2 : Int32) [(.ref b1), (.ref b2)] .null ∧ Exa Z h y0 s10 ∧ Ovr Z yk0 s8
theorem rm_copyOf_74 (hw : o_HW Z a0) (H : o_C Z Z.heap w_NW w_DC w_EL w_EA w_EM w_MO w_cacheI c_cacheI k_DC k_EA z_CS) (O : Old Z n0 h0) (b0 : Addr) (b1 : Addr) (b2 : Addr) (k_b0 : ClassId) (V_b0 : Arv Z h0 b0 k_b0 (.object s8) (10 : Int32) [(.ref b1), (.ref b2)] .null) (E_b1 : Exa Z h0 b1 s1) (E_b2 : Exa Z h0 b2 s1) :
    o_Met l (⟨s51, "copyOf", s57⟩ : MethodName) B29 4 (some (.array (.object s8))) [] (o_rm 1 1 2 30) Z #[(.ref b0), (.int 2), (.ref w_MO)] h0 (Q_rm_copyOf_74 Z h0 n0 b0 b1 b2 k_b0) := by
  refine o_met (pN pn_17) ?_
  intro p e s m below meth c T0 hx y hml hown hret hk hnm hZ X0 e0
  obtain ⟨-, -, -, -, -, -, -, -, -, -, -, -, -, -, -, M_OA, -, -, -⟩ := id H
  refine o_ent (ef_14 m b0 (2 : Int32) w_MO) ?_
  refine qA X0 hx (hb y d30_0) rfl rfl 1 rfl ?_
  refine o_ldcM X0 hx hZ hown (w hw 277 rfl) e0 M_OA (hb y d30_1) 3 rfl fun T1 X1 e1 => ?_
  refine qm X1 hx true (hb y d30_3) rfl rfl (decide_eq_true rfl) 6 (by decide) (by decide) ?_
  refine qI X1 hx (hb y d30_6) rfl 7 rfl ?_
  refine o_newR X1 hx hZ hown (w hw 278 rfl) (w hw 254 rfl) e1 (hb y d30_7) (by decide) 2 (by decide) (by decide) (by decide) (by decide) s10 (by decide) 10 rfl fun T2 a2 c2 g2 X2 E2 V2 A2 P2 => ?_
  have g_a2 : n0 ≤ a2 := Nat.le_trans (o_osz O) (Nat.le_of_eq g2)
  have z_a2 : h0.size ≤ a2 := Nat.le_trans ((Keep.refl h0 [])).1 (Nat.le_of_eq g2)
  have O3 := O.ext E2
  have K3 := Keep.ext (Keep.refl h0 []) E2
  have V2 : Arv Z T2.heap a2 c2 (.object s8) (2 : Int32) [] .null := V2
  refine qG X2 hx (hb y d30_10) 24 (by decide) (by decide) ?_
  refine qh X2 hx (hb y d30_24) #[.val (.ref b0), .val (.int 2), .val (.ref w_MO), .val (.ref a2)] rfl rfl 25 rfl ?_
  refine qA X2 hx (hb y d30_25) rfl rfl 26 rfl ?_
  refine qC X2 hx (hb y d30_26) (0 : Int32) rfl 27 rfl ?_
  refine qA X2 hx (hb y d30_27) rfl rfl 28 rfl ?_
  refine qC X2 hx (hb y d30_28) (0 : Int32) rfl 29 rfl ?_
  refine qA X2 hx (hb y d30_29) rfl rfl 30 rfl ?_
  have f4 := (V_b0.ext E2)
  refine o_alen X2 hx hZ rfl f4 (hb y d30_30) 31 rfl ?_
  refine qI X2 hx (hb y d30_31) rfl 32 rfl ?_
  refine qS X2 hx hZ hown (w hw 279 rfl) (w hw 280 rfl) (w hw 251 rfl) (w hw 281 rfl) (by decide) [(.int 10), (.int 2)] [(.int 0), (.ref a2), (.int 0), (.ref b0)] 4 (rm_min_75 l Z a0 T2.heap n0 hw O3 ) (by decide) (by decide) rfl rfl rfl (by rw [hml]; rfl) (lenOf pd_16 rfl) (Nat.le_of_eq rfl) (hb y d30_32) 35 rfl rfl (by decide) (by decide) fun T6 X6 e6 => ?_
  have V7 : Arv Z T2.heap a2 c2 (.object s8) (2 : Int32) [.null, .null] .null := V2.pad (pad_rep [] .null 2)
  have f9 := (E_b1.ext E2)
  have f10 := (E_b2.ext E2)
  refine o_cpR X6 hx hZ hown (w hw 282 rfl) (w hw 285 rfl) (w hw 283 rfl) (w hw 284 rfl) e6 f4 V7 rfl rfl [(.ref b1), (.ref b2)] (fun _ u q => ⟨Sto.ofV u q P2 (Ins.of_exa f9 (w hw 255 rfl)), Sto.ofV u q P2 (Ins.of_exa f10 (w hw 255 rfl)), trivial⟩) (by decide) (by decide) (by decide) (by decide) (by decide) rfl (Nat.le_of_ble_eq_true rfl) [(.ref b1), (.ref b2)] rfl (Fr.nil n0) g_a2 (by rw [hml]; rfl) (hb y d30_35) (by decide) 0 (Nat.le_of_eq rfl) (by decide) 38 rfl fun T8 L8 X8 N8 K8 V8 => ?_
  have K11 := Keep.trans K3 K8 (allS (Or.inr z_a2) all0)
  refine qA X8 hx (hb y d30_38) rfl rfl 39 rfl ?_
  have f12 := (A2.keep K8)
  exact qR X8 hx hk hret rfl rfl (hb y d30_39) rfl (by show Q_rm_copyOf_74 Z h0 n0 b0 b1 b2 k_b0 _ T8.heap _; exact ⟨a2, c2, rfl, N8, K11, z_a2, V8, f12, P2⟩) (by decide) (by decide)
def Q_rm_copyOf_73 (Z : State) (h0 : Heap) (n0 : Nat) (b0 : Addr) (b1 : Addr) (b2 : Addr) (k_b0 : ClassId) (v : Option Value) (h : Heap) (L : List Loc) : Prop := ∃ (y0 : Addr) (yk0 : ClassId), v = some (.ref y0) ∧ Fr n0 L ∧ Keep h0 h [] ∧ h0.size ≤ y0 ∧ Arv Z h y0 yk0 (.object s8) (2 : Int32) [(.ref b1), (.ref b2)] .null ∧ Exa Z h y0 s10 ∧ Ovr Z yk0 s8
theorem rm_copyOf_73 (hw : o_HW Z a0) (H : o_C Z Z.heap w_NW w_DC w_EL w_EA w_EM w_MO w_cacheI c_cacheI k_DC k_EA z_CS) (O : Old Z n0 h0) (b0 : Addr) (b1 : Addr) (b2 : Addr) (k_b0 : ClassId) (V_b0 : Arv Z h0 b0 k_b0 (.object s8) (10 : Int32) [(.ref b1), (.ref b2)] .null) (A_b0 : Exa Z h0 b0 s10) (E_b1 : Exa Z h0 b1 s1) (E_b2 : Exa Z h0 b2 s1) :
    o_Met l (⟨s51, "copyOf", "([Ljava/lang/Object;I)[Ljava/lang/Object;"⟩ : MethodName) B30 2 (some (.array (.object s8))) [] (o_rm 2 1 2 45) Z #[(.ref b0), (.int 2)] h0 (Q_rm_copyOf_73 Z h0 n0 b0 b1 b2 k_b0) := by
  refine o_met (pN pn_17) ?_
  intro p e s m below meth c T0 hx y hml hown hret hk hnm hZ X0 e0
  obtain ⟨-, -, -, -, -, -, -, -, -, -, -, -, -, -, -, M_OA, -, -, -⟩ := id H
  refine o_ent (ef_8 m b0 (2 : Int32)) ?_
  refine qA X0 hx (hb y d29_0) rfl rfl 1 rfl ?_
  refine qI X0 hx (hb y d29_1) rfl 2 rfl ?_
  refine qA X0 hx (hb y d29_2) rfl rfl 3 rfl ?_
  refine o_gcls X0 hx hZ hown (w hw 268 rfl) (w hw 269 rfl) (w hw 79 rfl) (w hw 271 rfl) (w hw 270 rfl) (w hw 272 rfl) e0 A_b0 M_OA (by rw [hml]; rfl) (hb y d29_3) (by decide) 2 (Nat.le_of_eq rfl) (by decide) 6 rfl fun T1 X1 e1 => ?_
  refine kS X1 hx hZ hown (w hw 274 rfl) (w hw 275 rfl) (w hw 266 rfl) (w hw 276 rfl) (by decide) [(.ref b0), (.int 2), (.ref w_MO)] [] 0 (rm_copyOf_74 l Z a0 h0 n0 hw H O b0 b1 b2 k_b0 V_b0 E_b1 E_b2) (by decide) (by decide) e1 (by rw [hml]; rfl) (lenOf pd_21 rfl) (Nat.le_of_eq rfl) (hb y d29_6) (by decide) (by decide) 9 rfl fun v2 T2 L2 X2 hQ2 => ?_
  obtain ⟨q2_0, qk2_0, rfl, Nq2, Kq2, le_q2_0, p2_0, p2_1, p2_2⟩ := hQ2
  have z_q2_0 : h0.size ≤ q2_0 := Nat.le_trans ((Keep.refl h0 [])).1 le_q2_0
  have N3 := Fr.app (Fr.nil n0) Nq2
  have K3 := Keep.trans (Keep.refl h0 []) Kq2 all0
  refine o_nR ?_
  exact qR X2 hx hk hret rfl rfl (hb y d29_9) rfl (by show Q_rm_copyOf_73 Z h0 n0 b0 b1 b2 k_b0 _ T2.heap _; exact ⟨q2_0, qk2_0, rfl, N3, K3, z_q2_0, p2_0, p2_1, p2_2⟩) (by decide) (by decide)
def Q_rm_toArray_72 (Z : State) (h0 : Heap) (n0 : Nat) (b0 : Addr) (b1 : Addr) (b2 : Addr) (b3 : Addr) (k_b1 : ClassId) (v : Option Value) (h : Heap) (L : List Loc) : Prop := ∃ (y0 : Addr) (yk0 : ClassId), v = some (.ref y0) ∧ Fr n0 L ∧ Keep h0 h [] ∧ h0.size ≤ y0 ∧ Arv Z h y0 yk0 (.object s8) (2 : Int32) [(.ref b2), (.ref b3)] .null ∧ Exa Z h y0 s10 ∧ Ovr Z yk0 s8
theorem rm_toArray_72 (hw : o_HW Z a0) (H : o_C Z Z.heap w_NW w_DC w_EL w_EA w_EM w_MO w_cacheI c_cacheI k_DC k_EA z_CS) (O : Old Z n0 h0) (b0 : Addr) (b1 : Addr) (b2 : Addr) (b3 : Addr) (k_b1 : ClassId) (F_b0_elementData : Fld Z h0 b0 s6 s27 s10 (.ref b1)) (F_b0_size : Fld Z h0 b0 s6 s26 "I" (.int 2)) (V_b1 : Arv Z h0 b1 k_b1 (.object s8) (10 : Int32) [(.ref b2), (.ref b3)] .null) (A_b1 : Exa Z h0 b1 s10) (E_b2 : Exa Z h0 b2 s1) (E_b3 : Exa Z h0 b3 s1) :
    o_Met l (⟨s6, "toArray", "()[Ljava/lang/Object;"⟩ : MethodName) B31 1 (some (.array (.object s8))) [] (o_rm 3 1 2 58) Z #[(.ref b0)] h0 (Q_rm_toArray_72 Z h0 n0 b0 b1 b2 b3 k_b1) := by
  refine o_met (pN pn_4) ?_
  intro p e s m below meth c T0 hx y hml hown hret hk hnm hZ X0 e0
  obtain ⟨-, -, -, -, -, -, -, -, -, -, -, -, -, -, -, -, -, -, -⟩ := id H
  refine o_ent (ef_2 m b0) ?_
  refine qA X0 hx (hb y d28_0) rfl rfl 1 rfl ?_
  refine qF X0 hx hZ hown (host := "") (Or.inl (w hw 52 rfl)) Via.refl e0 F_b0_elementData (hb y d28_1) 4 rfl fun T1 X1 e1 => ?_
  refine qA X1 hx (hb y d28_4) rfl rfl 5 rfl ?_
  refine qF X1 hx hZ hown (host := "") (Or.inl (w hw 90 rfl)) Via.refl e1 F_b0_size (hb y d28_5) 8 rfl fun T2 X2 e2 => ?_
  refine kS X2 hx hZ hown (w hw 264 rfl) (w hw 265 rfl) (w hw 266 rfl) (w hw 267 rfl) (by decide) [(.ref b1), (.int 2)] [] 0 (rm_copyOf_73 l Z a0 h0 n0 hw H O b1 b2 b3 k_b1 V_b1 A_b1 E_b2 E_b3) (by decide) (by decide) e2 (by rw [hml]; rfl) (lenOf pd_22 rfl) (Nat.le_of_eq rfl) (hb y d28_8) (by decide) (by decide) 11 rfl fun v3 T3 L3 X3 hQ3 => ?_
  obtain ⟨q3_0, qk3_0, rfl, Nq3, Kq3, le_q3_0, p3_0, p3_1, p3_2⟩ := hQ3
  have z_q3_0 : h0.size ≤ q3_0 := Nat.le_trans ((Keep.refl h0 [])).1 le_q3_0
  have N4 := Fr.app (Fr.nil n0) Nq3
  have K4 := Keep.trans (Keep.refl h0 []) Kq3 all0
  refine o_nR ?_
  exact qR X3 hx hk hret rfl rfl (hb y d28_11) rfl (by show Q_rm_toArray_72 Z h0 n0 b0 b1 b2 b3 k_b1 _ T3.heap _; exact ⟨q3_0, qk3_0, rfl, N4, K4, z_q3_0, p3_0, p3_1, p3_2⟩) (by decide) (by decide)
def Q_rm__init__77 (Z : State) (h0 : Heap) (n0 : Nat) (b0 : Addr) (b1 : Addr) (b2 : Addr) (v : Option Value) (h : Heap) (L : List Loc) : Prop := v = none ∧ Fr n0 L ∧ Keep h0 h [b0] ∧ Exa Z h b0 s9 ∧ Fld Z h b0 s9 "e0" s13 (.ref b1) ∧ Fld Z h b0 s9 "e1" s13 (.ref b2)
theorem d52_0 : decode B52 0 = .ok (.aload_n 0, 1) := by decide +kernel
theorem d52_1 : decode B52 1 = .ok (.invokespecial 1, 3) := by decide +kernel
theorem d52_4 : decode B52 4 = .ok (.aload_n 0, 1) := by decide +kernel
theorem d52_5 : decode B52 5 = .ok (.aload_n 1, 1) := by decide +kernel
theorem d52_6 : decode B52 6 = .ok (.invokestatic 7, 3) := by decide +kernel
theorem d52_9 : decode B52 9 = .ok (.putfield 13, 3) := by decide +kernel
theorem d52_12 : decode B52 12 = .ok (.aload_n 0, 1) := by decide +kernel
theorem d52_13 : decode B52 13 = .ok (.aload_n 2, 1) := by decide +kernel
theorem d52_14 : decode B52 14 = .ok (.invokestatic 7, 3) := by decide +kernel
theorem d52_17 : decode B52 17 = .ok (.putfield 24, 3) := by decide +kernel
theorem d52_20 : decode B52 20 = .ok (.return_, 1) := by decide +kernel
theorem rm__init__77 (hw : o_HW Z a0) (O : Old Z n0 h0) (b0 : Addr) (b1 : Addr) (b2 : Addr) (E_b0 : Exa Z h0 b0 s9) (F_b0_e0 : Fld Z h0 b0 s9 "e0" s13 .null) (F_b0_e1 : Fld Z h0 b0 s9 "e1" s13 .null) (g_b0 : n0 ≤ b0) :
    o_Met l (⟨s9, s50, "(Ljava/lang/Object;Ljava/lang/Object;)V"⟩ : MethodName) B52 3 none [] (o_rm 4 0 0 48) Z #[(.ref b0), (.ref b1), (.ref b2)] h0 (Q_rm__init__77 Z h0 n0 b0 b1 b2) := by
  refine o_met (pN pn_20) ?_
  intro p e s m below meth c T0 hx y hml hown hret hk hnm hZ X0 e0
  refine o_ent (ef_18 m b0 b1 b2) ?_
  refine qA X0 hx (hb y d52_0) rfl rfl 1 rfl ?_
  refine vN X0 hx hZ rfl hown (w hw 431 rfl) (w hw 303 rfl) (w hw 183 rfl) (w hw 306 rfl) (by decide) b0 [] [] 0 (rm__init__43 l Z a0 h0 n0 hw O b0) (by decide) (by decide) rfl rfl e0 (by rw [hml]; rfl) (lenOf pd_4 rfl) (Nat.le_of_eq rfl) (hb y d52_1) 4 rfl rfl (by decide) (by decide) fun T2 X2 e2 => ?_
  refine qA X2 hx (hb y d52_4) rfl rfl 5 rfl ?_
  refine qA X2 hx (hb y d52_5) rfl rfl 6 rfl ?_
  refine qS X2 hx hZ hown (w hw 435 rfl) (w hw 294 rfl) (w hw 295 rfl) (w hw 296 rfl) (by decide) [(.ref b1)] [(.ref b0)] 1 (rm_requireNonNull_45 l Z a0 h0 n0 hw O b1) (by decide) (by decide) rfl rfl e2 (by rw [hml]; rfl) (lenOf pd_23 rfl) (Nat.le_of_eq rfl) (hb y d52_6) 9 rfl rfl (by decide) (by decide) fun T4 X4 e4 => ?_
  refine qP X4 hx hZ hown (host := "") (Or.inl (w hw 436 rfl)) Via.refl e4 F_b0_e0 E_b0 (Or.inr ⟨(w hw 437 rfl), rfl, hnm⟩) (w hw 425 rfl) (ty := (.object s8)) (by decide) rfl rfl (hb y d52_9) 12 rfl fun T5 X5 W5 => ?_
  have G5 := Fld.same W5 F_b0_e0
  have O6 := O.wr W5 g_b0
  have N6 := Fr.snoc X5 (Fr.nil n0) g_b0
  have K6 := Keep.wr (Keep.refl h0 [b0]) W5 (Or.inl (by simp))
  refine qA X5 hx (hb y d52_12) rfl rfl 13 rfl ?_
  refine qA X5 hx (hb y d52_13) rfl rfl 14 rfl ?_
  refine qS X5 hx hZ hown (w hw 435 rfl) (w hw 294 rfl) (w hw 295 rfl) (w hw 296 rfl) (by decide) [(.ref b2)] [(.ref b0)] 1 (rm_requireNonNull_45 l Z a0 T5.heap n0 hw O6 b2) (by decide) (by decide) rfl rfl rfl (by rw [hml]; rfl) (lenOf pd_23 rfl) (Nat.le_of_eq rfl) (hb y d52_14) 17 rfl rfl (by decide) (by decide) fun T8 X8 e8 => ?_
  have f10 := (F_b0_e1.other W5 (Or.inr (sn_63 hw)))
  have f11 := (E_b0.wr W5)
  refine qP X8 hx hZ hown (host := "") (Or.inl (w hw 438 rfl)) Via.refl e8 f10 f11 (Or.inr ⟨(w hw 439 rfl), rfl, hnm⟩) (w hw 425 rfl) (ty := (.object s8)) (by decide) rfl rfl (hb y d52_17) 20 rfl fun T9 X9 W9 => ?_
  have G9 := Fld.same W9 f10
  have N12 := Fr.snoc X9 N6 g_b0
  have K12 := Keep.wr K6 W9 (Or.inl (by simp))
  have f13 := (f11.wr W9)
  have f14 := (G5.other W9 (Or.inr (Ne.symm (sn_63 hw))))
  exact qv X9 hx hk hret (hb y d52_20) (by show Q_rm__init__77 Z h0 n0 b0 b1 b2 _ T9.heap _; exact ⟨rfl, N12, K12, f13, f14, G9⟩) (by decide) (by decide)
def Q_rm_of_76 (Z : State) (h0 : Heap) (n0 : Nat) (b0 : Addr) (b1 : Addr) (b2 : Addr) (k_b0 : ClassId) (v : Option Value) (h : Heap) (L : List Loc) : Prop := ∃ (y0 : Addr), v = some (.ref y0) ∧ Fr n0 L ∧ Keep h0 h [] ∧ h0.size ≤ y0 ∧ Exa Z h y0 s9 ∧ Fld Z h y0 s9 "e0" s13 (.ref b1) ∧ Fld Z h y0 s9 "e1" s13 (.ref b2)
theorem pd_38 : parseMethodDescriptor "(Ljava/lang/Object;Ljava/lang/Object;)V" = some ⟨[(.object "java/lang/Object"), (.object "java/lang/Object")], none⟩ := by decide +kernel
theorem d32_45 : decode B36 45 = .ok (.new 96, 3) := by decide +kernel
theorem d32_48 : decode B36 48 = .ok (.dup, 1) := by decide +kernel
theorem d32_49 : decode B36 49 = .ok (.aload_n 0, 1) := by decide +kernel
theorem d32_50 : decode B36 50 = .ok (.iconst 0, 1) := by decide +kernel
theorem d32_51 : decode B36 51 = .ok (.aaload, 1) := by decide +kernel
theorem d32_52 : decode B36 52 = .ok (.aload_n 0, 1) := by decide +kernel
theorem d32_53 : decode B36 53 = .ok (.iconst 1, 1) := by decide +kernel
theorem d32_54 : decode B36 54 = .ok (.aaload, 1) := by decide +kernel
theorem d32_55 : decode B36 55 = .ok (.invokespecial 100, 3) := by decide +kernel
theorem d32_58 : decode B36 58 = .ok (.areturn, 1) := by decide +kernel
theorem rm_of_76 (hw : o_HW Z a0) (O : Old Z n0 h0) (b0 : Addr) (b1 : Addr) (b2 : Addr) (k_b0 : ClassId) (V_b0 : Arv Z h0 b0 k_b0 (.object s8) (2 : Int32) [(.ref b1), (.ref b2)] .null) :
    o_Met l (⟨s21, "of", s63⟩ : MethodName) B36 2 (some (.object s21)) [] (o_rm 5 1 2 63) Z #[(.ref b0)] h0 (Q_rm_of_76 Z h0 n0 b0 b1 b2 k_b0) := by
  refine o_met (pN pn_5) ?_
  intro p e s m below meth c T0 hx y hml hown hret hk hnm hZ X0 e0
  refine o_ent (ef_4 m b0) ?_
  refine qA X0 hx (hb y d32_0) rfl rfl 1 rfl ?_
  refine o_alen X0 hx hZ e0 V_b0 (hb y d32_1) 2 rfl ?_
  refine o_tsw X0 hx 43 (hb y d32_2) (by decide) (by decide) 45 (by decide) (by decide) ?_
  refine nO X0 hx hZ hown (w hw 424 rfl) (w hw 425 rfl) (w hw 426 rfl) e0 (hb y d32_45) 48 rfl (by decide) (by decide) fun T1 a1 g1 X1 E1 A1 D1 => ?_
  have g_a1 : n0 ≤ a1 := Nat.le_trans (o_osz O) (Nat.le_of_eq g1)
  have z_a1 : h0.size ≤ a1 := Nat.le_trans ((Keep.refl h0 [])).1 (Nat.le_of_eq g1)
  have O2 := O.ext E1
  have K2 := Keep.ext (Keep.refl h0 []) E1
  have F1_e0 : Fld Z T1.heap a1 s9 "e0" s13 .null := D1 (Or.inr (w hw 437 rfl)) (ty := (.object s8)) (by decide)
  have F1_e1 : Fld Z T1.heap a1 s9 "e1" s13 .null := D1 (Or.inr (w hw 439 rfl)) (ty := (.object s8)) (by decide)
  refine qD X1 hx (hb y d32_48) rfl 49 rfl ?_
  refine qA X1 hx (hb y d32_49) rfl rfl 50 rfl ?_
  refine qC X1 hx (hb y d32_50) (0 : Int32) rfl 51 rfl ?_
  have f3 := (V_b0.ext E1)
  refine o_aaload X1 hx hZ rfl f3 rfl (.ref b1) (by decide) rfl (hb y d32_51) 52 rfl ?_
  refine qA X1 hx (hb y d32_52) rfl rfl 53 rfl ?_
  refine qC X1 hx (hb y d32_53) (1 : Int32) rfl 54 rfl ?_
  refine o_aaload X1 hx hZ rfl f3 rfl (.ref b2) (by decide) rfl (hb y d32_54) 55 rfl ?_
  refine kN X1 hx hZ rfl hown (w hw 427 rfl) (w hw 428 rfl) (w hw 426 rfl) (w hw 430 rfl) (by decide) a1 [(.ref b1), (.ref b2)] [(.ref a1)] 1 (rm__init__77 l Z a0 T1.heap n0 hw O2 a1 b1 b2 A1 F1_e0 F1_e1 g_a1) (by decide) (by decide) rfl (by rw [hml]; rfl) (lenOf pd_38 rfl) (Nat.le_of_eq rfl) (hb y d32_55) (by decide) (by decide) 58 rfl fun v4 T4 L4 X4 hQ4 => ?_
  obtain ⟨rfl, Nq4, Kq4, p4_0, p4_1, p4_2⟩ := hQ4
  have N5 := Fr.app (Fr.nil n0) Nq4
  have K5 := Keep.trans K2 Kq4 (allS (Or.inr z_a1) all0)
  refine o_nV ?_
  exact qR X4 hx hk hret rfl rfl (hb y d32_58) rfl (by show Q_rm_of_76 Z h0 n0 b0 b1 b2 k_b0 _ T4.heap _; exact ⟨a1, rfl, N5, K5, z_a1, p4_0, p4_1, p4_2⟩) (by decide) (by decide)
def Q_rm_listCopy_70 (Z : State) (h0 : Heap) (n0 : Nat) (b0 : Addr) (b1 : Addr) (b2 : Addr) (b3 : Addr) (k_b1 : ClassId) (v : Option Value) (h : Heap) (L : List Loc) : Prop := ∃ (y0 : Addr), v = some (.ref y0) ∧ Fr n0 L ∧ Keep h0 h [] ∧ h0.size ≤ y0 ∧ Exa Z h y0 s9 ∧ Fld Z h y0 s9 "e0" s13 (.ref b2) ∧ Fld Z h y0 s9 "e1" s13 (.ref b3)
theorem rm_listCopy_70 (hw : o_HW Z a0) (H : o_C Z Z.heap w_NW w_DC w_EL w_EA w_EM w_MO w_cacheI c_cacheI k_DC k_EA z_CS) (O : Old Z n0 h0) (b0 : Addr) (b1 : Addr) (b2 : Addr) (b3 : Addr) (k_b1 : ClassId) (E_b0 : Exa Z h0 b0 s6) (F_b0_elementData : Fld Z h0 b0 s6 s27 s10 (.ref b1)) (F_b0_size : Fld Z h0 b0 s6 s26 "I" (.int 2)) (V_b1 : Arv Z h0 b1 k_b1 (.object s8) (10 : Int32) [(.ref b2), (.ref b3)] .null) (A_b1 : Exa Z h0 b1 s10) (E_b2 : Exa Z h0 b2 s1) (E_b3 : Exa Z h0 b3 s1) :
    o_Met l (⟨s38, "listCopy", s40⟩ : MethodName) B9 2 (some (.object s21)) [] (o_rm 6 2 4 76) Z #[(.ref b0)] h0 (Q_rm_listCopy_70 Z h0 n0 b0 b1 b2 b3 k_b1) := by
  refine o_met (pN pn_6) ?_
  intro p e s m below meth c T0 hx y hml hown hret hk hnm hZ X0 e0
  obtain ⟨-, -, -, -, -, -, -, -, -, -, -, -, -, -, -, -, -, -, -⟩ := id H
  refine o_ent (ef_4 m b0) ?_
  refine qA X0 hx (hb y d9_0) rfl rfl 1 rfl ?_
  refine o_instNo X0 hx hZ hown (w hw 75 rfl) e0 E_b0 (o_no (w hw 76 rfl) (w hw 425 rfl) (NS.step (w hw 76 rfl) (NS.step (w hw 77 rfl) (NS.step (w hw 78 rfl) (o_root (w hw 79 rfl) (Cond.instantiable_spec (w hw 425 rfl)).choose_spec.choose_spec.1 (by decide)) (by decide)) (by decide)) (by decide)) (by decide)) (hb y d9_1) 4 rfl fun T1 X1 e1 => ?_
  refine qN X1 hx (hb y d9_4) ((if0 _ _).trans (teq (by decide : (0 : Int32) = (0 : Int32))).2) 7 rfl ?_
  refine qA X1 hx (hb y d9_7) rfl rfl 8 rfl ?_
  refine o_instNo X1 hx hZ hown (w hw 80 rfl) e1 E_b0 (o_no (w hw 76 rfl) (w hw 297 rfl) (NS.step (w hw 76 rfl) (NS.step (w hw 77 rfl) (NS.step (w hw 78 rfl) (o_root (w hw 79 rfl) (Cond.instantiable_spec (w hw 297 rfl)).choose_spec.choose_spec.1 (by decide)) (by decide)) (by decide)) (by decide)) (by decide)) (hb y d9_8) 11 rfl fun T2 X2 e2 => ?_
  refine o_ifY X2 hx (hb y d9_11) ((if0 _ _).trans (teq (by decide : (0 : Int32) = (0 : Int32))).1) 31 (by decide) (by decide) ?_
  refine qA X2 hx (hb y d9_31) rfl rfl 32 rfl ?_
  refine oC (cI X2 hx hZ hown (w hw 81 rfl) (w hw 82 rfl) (w hw 83 rfl) (w hw 84 rfl) (w hw 85 rfl) (w hw 86 rfl) (w hw 87 rfl) (w hw 88 rfl) (w hw 32 rfl) (w hw 89 rfl) (by decide) (by decide) b0 [] [] 0 (rm_isEmpty_71 l Z a0 h0 n0 hw O b0 F_b0_size) (by decide) (by decide) e2 E_b0 (by rw [hml]; rfl) (lenOf pd_5 rfl) (Nat.le_of_eq rfl) (hb y d9_32) 37 rfl (by decide) (by decide)) rfl rfl fun T4 X4 e4 => ?_
  refine o_ifY X4 hx (hb y d9_37) ((if0 _ _).trans (teq (by decide : (0 : Int32) = (0 : Int32))).1) 44 (by decide) (by decide) ?_
  refine qA X4 hx (hb y d9_44) rfl rfl 45 rfl ?_
  refine kI X4 hx hZ hown (w hw 256 rfl) (w hw 257 rfl) (w hw 258 rfl) (w hw 259 rfl) (w hw 260 rfl) (w hw 261 rfl) (w hw 262 rfl) (w hw 88 rfl) (w hw 32 rfl) (w hw 263 rfl) (by decide) (by decide) b0 [] [] 0 (rm_toArray_72 l Z a0 h0 n0 hw H O b0 b1 b2 b3 k_b1 F_b0_elementData F_b0_size V_b1 A_b1 E_b2 E_b3) (by decide) (by decide) e4 E_b0 (by rw [hml]; rfl) (lenOf pd_18 rfl) (Nat.le_of_eq rfl) (hb y d9_45) 50 rfl (by decide) (by decide) fun v5 T5 L5 X5 hQ5 => ?_
  obtain ⟨q5_0, qk5_0, rfl, Nq5, Kq5, le_q5_0, p5_0, p5_1, p5_2⟩ := hQ5
  have O6 := O.keep Kq5 all0
  have N6 := Fr.app (Fr.nil n0) Nq5
  have K6 := Keep.trans (Keep.refl h0 []) Kq5 all0
  refine o_nR ?_
  refine kS X5 hx hZ hown (w hw 286 rfl) (w hw 287 rfl) (w hw 69 rfl) (w hw 288 rfl) (by decide) [(.ref q5_0)] [] 0 (rm_of_76 l Z a0 T5.heap n0 hw O6 q5_0 b2 b3 qk5_0 p5_0) (by decide) (by decide) rfl (by rw [hml]; rfl) (lenOf pd_25 rfl) (Nat.le_of_eq rfl) (hb y d9_50) (by decide) (by decide) 53 rfl fun v7 T7 L7 X7 hQ7 => ?_
  obtain ⟨q7_0, rfl, Nq7, Kq7, le_q7_0, p7_0, p7_1, p7_2⟩ := hQ7
  have z_q7_0 : h0.size ≤ q7_0 := Nat.le_trans (K6).1 le_q7_0
  have N8 := Fr.app N6 Nq7
  have K8 := Keep.trans K6 Kq7 all0
  refine o_nR ?_
  exact qR X7 hx hk hret rfl rfl (hb y d9_53) rfl (by show Q_rm_listCopy_70 Z h0 n0 b0 b1 b2 b3 k_b1 _ T7.heap _; exact ⟨q7_0, rfl, N8, K8, z_q7_0, p7_0, p7_1, p7_2⟩) (by decide) (by decide)
def Q_rm_copyOf_69 (Z : State) (h0 : Heap) (n0 : Nat) (b0 : Addr) (b1 : Addr) (b2 : Addr) (b3 : Addr) (k_b1 : ClassId) (v : Option Value) (h : Heap) (L : List Loc) : Prop := ∃ (y0 : Addr), v = some (.ref y0) ∧ Fr n0 L ∧ Keep h0 h [] ∧ h0.size ≤ y0 ∧ Exa Z h y0 s9 ∧ Fld Z h y0 s9 "e0" s13 (.ref b2) ∧ Fld Z h y0 s9 "e1" s13 (.ref b3)
theorem rm_copyOf_69 (hw : o_HW Z a0) (H : o_C Z Z.heap w_NW w_DC w_EL w_EA w_EM w_MO w_cacheI c_cacheI k_DC k_EA z_CS) (O : Old Z n0 h0) (b0 : Addr) (b1 : Addr) (b2 : Addr) (b3 : Addr) (k_b1 : ClassId) (E_b0 : Exa Z h0 b0 s6) (F_b0_elementData : Fld Z h0 b0 s6 s27 s10 (.ref b1)) (F_b0_size : Fld Z h0 b0 s6 s26 "I" (.int 2)) (V_b1 : Arv Z h0 b1 k_b1 (.object s8) (10 : Int32) [(.ref b2), (.ref b3)] .null) (A_b1 : Exa Z h0 b1 s10) (E_b2 : Exa Z h0 b2 s1) (E_b3 : Exa Z h0 b3 s1) :
    o_Met l (⟨s21, "copyOf", s40⟩ : MethodName) B10 1 (some (.object s21)) [] (o_rm 7 2 4 89) Z #[(.ref b0)] h0 (Q_rm_copyOf_69 Z h0 n0 b0 b1 b2 b3 k_b1) := by
  refine o_met (pN pn_5) ?_
  intro p e s m below meth c T0 hx y hml hown hret hk hnm hZ X0 e0
  obtain ⟨-, -, -, -, -, -, -, -, -, -, -, -, -, -, -, -, -, -, -⟩ := id H
  refine o_ent (ef_2 m b0) ?_
  refine qA X0 hx (hb y d8_0) rfl rfl 1 rfl ?_
  refine kS X0 hx hZ hown (w hw 71 rfl) (w hw 72 rfl) (w hw 73 rfl) (w hw 74 rfl) (by decide) [(.ref b0)] [] 0 (rm_listCopy_70 l Z a0 h0 n0 hw H O b0 b1 b2 b3 k_b1 E_b0 F_b0_elementData F_b0_size V_b1 A_b1 E_b2 E_b3) (by decide) (by decide) e0 (by rw [hml]; rfl) (lenOf pd_7 rfl) (Nat.le_of_eq rfl) (hb y d8_1) (by decide) (by decide) 4 rfl fun v1 T1 L1 X1 hQ1 => ?_
  obtain ⟨q1_0, rfl, Nq1, Kq1, le_q1_0, p1_0, p1_1, p1_2⟩ := hQ1
  have z_q1_0 : h0.size ≤ q1_0 := Nat.le_trans ((Keep.refl h0 [])).1 le_q1_0
  have N2 := Fr.app (Fr.nil n0) Nq1
  have K2 := Keep.trans (Keep.refl h0 []) Kq1 all0
  refine o_nR ?_
  exact qR X1 hx hk hret rfl rfl (hb y d8_4) rfl (by show Q_rm_copyOf_69 Z h0 n0 b0 b1 b2 b3 k_b1 _ T1.heap _; exact ⟨q1_0, rfl, N2, K2, z_q1_0, p1_0, p1_1, p1_2⟩) (by decide) (by decide)
theorem d37_10 : decode B37 10 = .ok (.iconst 2, 1) := by decide +kernel
theorem d37_11 : decode B37 11 = .ok (.goto 4, 3) := by decide +kernel
theorem rm_size_78 (hw : o_HW Z a0) (H : o_C Z Z.heap w_NW w_DC w_EL w_EA w_EM w_MO w_cacheI c_cacheI k_DC k_EA z_CS) (O : Old Z n0 h0) (b0 : Addr) (b2 : Addr) (F_b0_e1 : Fld Z h0 b0 s9 "e1" s13 (.ref b2)) (g_b2 : n0 ≤ b2) :
    o_Met l (⟨s9, s26, "()I"⟩ : MethodName) B37 1 (some .int) [] (o_rm 0 0 0 0) Z #[(.ref b0)] h0 (o_R (some (.int 2)) h0) := by
  refine o_met (pN pn_20) ?_
  intro p e s m below meth c T0 hx y hml hown hret hk hnm hZ X0 e0
  obtain ⟨-, -, -, -, -, -, -, -, -, -, -, -, -, S_EM, E_EM, -, -, -, -⟩ := id H
  refine o_ent (ef_2 m b0) ?_
  refine qA X0 hx (hb y d37_0) rfl rfl 1 rfl ?_
  refine qF X0 hx hZ hown (host := "") (Or.inl (w hw 438 rfl)) Via.refl e0 F_b0_e1 (hb y d37_1) 4 rfl fun T1 X1 e1 => ?_
  refine o_getS X1 hx hZ hown (Or.inr (w hw 446 rfl)) Via.refl e1 (S_EM.ext O.2) (hb y d37_4) 7 rfl fun T2 X2 e2 => ?_
  have ne4 : w_EM ≠ b2 := O.ne E_EM.lt g_b2
  refine qm X2 hx false (hb y d37_7) rfl rfl (decide_eq_false fun q => (Ne.symm ne4) (Value.ref.inj q)) 10 (by decide) (by decide) ?_
  refine qC X2 hx (hb y d37_10) (2 : Int32) rfl 11 rfl ?_
  refine qG X2 hx (hb y d37_11) 15 (by decide) (by decide) ?_
  exact o_retI X2 hx hk hret (hb y d37_15) ⟨rfl, e2, rfl⟩ (by decide) (by decide)
theorem d38_9 : decode B38 9 = .ok (.iload_n 1, 1) := by decide +kernel
theorem d38_10 : decode B38 10 = .ok (.iconst 1, 1) := by decide +kernel
theorem d38_11 : decode B38 11 = .ok (.if_icmp .ne 18, 3) := by decide +kernel
theorem d38_14 : decode B38 14 = .ok (.aload_n 0, 1) := by decide +kernel
theorem d38_15 : decode B38 15 = .ok (.getfield 24, 3) := by decide +kernel
theorem d38_18 : decode B38 18 = .ok (.getstatic 19, 3) := by decide +kernel
theorem d38_21 : decode B38 21 = .ok (.if_acmp .eq 8, 3) := by decide +kernel
theorem d38_24 : decode B38 24 = .ok (.aload_n 0, 1) := by decide +kernel
theorem d38_25 : decode B38 25 = .ok (.getfield 24, 3) := by decide +kernel
theorem d38_28 : decode B38 28 = .ok (.areturn, 1) := by decide +kernel
theorem rm_get_79 (hw : o_HW Z a0) (H : o_C Z Z.heap w_NW w_DC w_EL w_EA w_EM w_MO w_cacheI c_cacheI k_DC k_EA z_CS) (O : Old Z n0 h0) (b0 : Addr) (b2 : Addr) (F_b0_e1 : Fld Z h0 b0 s9 "e1" s13 (.ref b2)) (g_b2 : n0 ≤ b2) :
    o_Met l (⟨s9, "get", s71⟩ : MethodName) B38 2 (some (.object s8)) [] (o_rm 0 0 0 0) Z #[(.ref b0), (.int 1)] h0 (o_R (some (.ref b2)) h0) := by
  refine o_met (pN pn_20) ?_
  intro p e s m below meth c T0 hx y hml hown hret hk hnm hZ X0 e0
  obtain ⟨-, -, -, -, -, -, -, -, -, -, -, -, -, S_EM, E_EM, -, -, -, -⟩ := id H
  refine o_ent (ef_8 m b0 (1 : Int32)) ?_
  refine qI X0 hx (hb y d38_0) rfl 1 rfl ?_
  refine o_ifY X0 hx (hb y d38_1) ((if0 _ _).trans (feq (by decide : ¬ ((1 : Int32) = (0 : Int32)))).2) 9 (by decide) (by decide) ?_
  refine qI X0 hx (hb y d38_9) rfl 10 rfl ?_
  refine qC X0 hx (hb y d38_10) (1 : Int32) rfl 11 rfl ?_
  refine qn X0 hx (hb y d38_11) (teq (by decide : (1 : Int32) = (1 : Int32))).2 14 rfl ?_
  refine qA X0 hx (hb y d38_14) rfl rfl 15 rfl ?_
  refine qF X0 hx hZ hown (host := "") (Or.inl (w hw 438 rfl)) Via.refl e0 F_b0_e1 (hb y d38_15) 18 rfl fun T1 X1 e1 => ?_
  refine o_getS X1 hx hZ hown (Or.inr (w hw 446 rfl)) Via.refl e1 (S_EM.ext O.2) (hb y d38_18) 21 rfl fun T2 X2 e2 => ?_
  have ne4 : w_EM ≠ b2 := O.ne E_EM.lt g_b2
  refine qm X2 hx false (hb y d38_21) rfl rfl (decide_eq_false fun q => (Ne.symm ne4) (Value.ref.inj q)) 24 (by decide) (by decide) ?_
  refine qA X2 hx (hb y d38_24) rfl rfl 25 rfl ?_
  refine qF X2 hx hZ hown (host := "") (Or.inl (w hw 438 rfl)) Via.refl e2 F_b0_e1 (hb y d38_25) 28 rfl fun T5 X5 e5 => ?_
  exact qR X5 hx hk hret rfl rfl (hb y d38_28) rfl ⟨rfl, e5, rfl⟩ (by decide) (by decide)
def Q_rm_boxI_2 (Z : State) (h0 : Heap) (n0 : Nat) (v : Option Value) (h : Heap) (L : List Loc) : Prop := ∃ r : Addr, v = some (.ref r) ∧ Fr n0 L ∧ Keep h0 h [] ∧ Exa Z h r s39 ∧ Fld Z h r s39 s34 "I" (.int 2)
theorem rm_boxI_2 (hw : o_HW Z a0) (H : o_C Z Z.heap w_NW w_DC w_EL w_EA w_EM w_MO w_cacheI c_cacheI k_DC k_EA z_CS) (O : Old Z n0 h0) :
    o_Met l (⟨s39, "valueOf", "(I)Ljava/lang/Integer;"⟩ : MethodName) B40 1 (some (.object s39)) [] (o_rm 0 0 0 0) Z #[(.int 2)] h0 (Q_rm_boxI_2 Z h0 n0) := by
  refine o_met (pN pn_21) ?_
  intro p e s m below meth c T0 hx y hml hown hret hk hnm hZ X0 e0
  obtain ⟨-, -, -, -, -, -, -, -, -, -, -, -, -, -, -, -, S_w_cacheI, B_w_cacheI, S_high⟩ := id H
  refine o_ent (ef_0 m (2 : Int32)) ?_
  refine qI X0 hx (hb y d40_0) rfl 1 rfl ?_
  refine o_bipush X0 hx (hb y d40_1) (-128 : Int32) rfl 3 rfl ?_
  refine qn X0 hx (hb y d40_3) (flt (by decide : ¬ ((2 : Int32) < (-128 : Int32)))).1 6 rfl ?_
  refine qI X0 hx (hb y d40_6) rfl 7 rfl ?_
  refine o_getS X0 hx hZ hown (host := "") (Or.inl (w hw 335 rfl)) Via.refl e0 (S_high.ext O.2) (hb y d40_7) 10 rfl fun T1 X1 e1 => ?_
  refine qn X1 hx (hb y d40_10) (flt (by decide : ¬ ((127 : Int32) < (2 : Int32)))).2.2.1 13 rfl ?_
  refine o_getS X1 hx hZ hown (host := "") (Or.inl (w hw 337 rfl)) Via.refl e1 (S_w_cacheI.ext O.2) (hb y d40_13) 16 rfl fun T2 X2 e2 => ?_
  refine qI X2 hx (hb y d40_16) rfl 17 rfl ?_
  refine o_sipush X2 hx (hb y d40_17) (128 : Int32) rfl 20 rfl ?_
  refine o_iadd X2 hx (hb y d40_20) 21 rfl ?_
  refine o_topI (130 : Int32) (by decide) ?_
  refine o_box X2 hx hZ e2 O B_w_cacheI (by decide) (hb y d40_21) 22 rfl fun r Er Fq => ?_
  have Fr2 : Fld Z h0 r s39 s34 "I" (.int ((130 : Int32) - 128)) := Fq
  rw [show ((130 : Int32) - 128) = (2 : Int32) from by decide] at Fr2
  exact qR X2 hx hk hret rfl rfl (hb y d40_22) rfl (by show Q_rm_boxI_2 Z h0 n0 _ T2.heap _; rw [e2]; exact ⟨r, rfl, (Fr.nil n0), (Keep.refl h0 []), Er, Fr2⟩) (by decide) (by decide)
theorem rm_hashCode_83 (hw : o_HW Z a0) (O : Old Z n0 h0) (b0 : Addr) (k_b0 : ClassId) (V_b0 : Arv Z h0 b0 k_b0 .byte (1 : Int32) [(.int 113)] (.int 0)) :
    o_Met l (⟨s36, "hashCode", "([B)I"⟩ : MethodName) B42 1 (some .int) [] (o_rm 0 0 0 0) Z #[(.ref b0)] h0 (o_R (some (.int 113)) h0) := by
  refine o_met (pN pn_0) ?_
  intro p e s m below meth c T0 hx y hml hown hret hk hnm hZ X0 e0
  refine o_ent (ef_2 m b0) ?_
  refine qA X0 hx (hb y d45_0) rfl rfl 1 rfl ?_
  refine o_alen X0 hx hZ e0 V_b0 (hb y d45_1) 2 rfl ?_
  refine o_lsw X0 hx 30 (hb y d45_2) (by decide) (by decide) 32 (by decide) (by decide) ?_
  refine qA X0 hx (hb y d45_32) rfl rfl 33 rfl ?_
  refine qC X0 hx (hb y d45_33) (0 : Int32) rfl 34 rfl ?_
  refine o_baload X0 hx hZ e0 V_b0 (.int 113) (by decide) rfl (hb y d45_34) 35 rfl ?_
  refine o_sipush X0 hx (hb y d45_35) (255 : Int32) rfl 38 rfl ?_
  refine o_iand X0 hx (hb y d45_38) 39 rfl ?_
  refine o_topI (113 : Int32) (by decide) ?_
  refine qG X0 hx (hb y d45_39) 51 (by decide) (by decide) ?_
  exact o_retI X0 hx hk hret (hb y d45_51) ⟨rfl, e0, rfl⟩ (by decide) (by decide)
def Q_rm_hashCode_82 (Z : State) (h0 : Heap) (n0 : Nat) (b0 : Addr) (b1 : Addr) (k_b1 : ClassId) (v : Option Value) (h : Heap) (L : List Loc) : Prop := v = some (.int 113) ∧ Fr n0 L ∧ Keep h0 h [b0] ∧ Exa Z h b0 s4 ∧ Fld Z h b0 s4 s43 "B" (.int 0) ∧ Fld Z h b0 s4 s37 "I" (.int 113) ∧ Fld Z h b0 s4 s33 "Z" (.int 0) ∧ Fld Z h b0 s4 s34 "[B" (.ref b1)
theorem rm_hashCode_82 (hw : o_HW Z a0) (H : o_C Z Z.heap w_NW w_DC w_EL w_EA w_EM w_MO w_cacheI c_cacheI k_DC k_EA z_CS) (O : Old Z n0 h0) (b0 : Addr) (b1 : Addr) (k_b1 : ClassId) (E_b0 : Exa Z h0 b0 s4) (F_b0_coder : Fld Z h0 b0 s4 s43 "B" (.int 0)) (F_b0_hash : Fld Z h0 b0 s4 s37 "I" (.int 0)) (F_b0_hashIsZero : Fld Z h0 b0 s4 s33 "Z" (.int 0)) (F_b0_value : Fld Z h0 b0 s4 s34 "[B" (.ref b1)) (g_b0 : n0 ≤ b0) (V_b1 : Arv Z h0 b1 k_b1 .byte (1 : Int32) [(.int 113)] (.int 0)) :
    o_Met l (⟨s4, "hashCode", "()I"⟩ : MethodName) B43 2 (some .int) [] (o_rm 1 0 0 12) Z #[(.ref b0)] h0 (Q_rm_hashCode_82 Z h0 n0 b0 b1 k_b1) := by
  refine o_met (pN pn_1) ?_
  intro p e s m below meth c T0 hx y hml hown hret hk hnm hZ X0 e0
  obtain ⟨-, -, -, -, -, -, -, -, -, -, -, -, -, -, -, -, -, -, -⟩ := id H
  refine o_ent (ef_4 m b0) ?_
  refine qA X0 hx (hb y d43_0) rfl rfl 1 rfl ?_
  refine qF X0 hx hZ hown (host := "") (Or.inl (w hw 356 rfl)) Via.refl e0 F_b0_hash (hb y d43_1) 4 rfl fun T1 X1 e1 => ?_
  refine qk X1 hx (hb y d43_4) #[.val (.ref b0), .val (.int 0)] rfl 5 rfl ?_
  refine qI X1 hx (hb y d43_5) rfl 6 rfl ?_
  refine qN X1 hx (hb y d43_6) ((if0 _ _).trans (teq (by decide : (0 : Int32) = (0 : Int32))).2) 9 rfl ?_
  refine qA X1 hx (hb y d43_9) rfl rfl 10 rfl ?_
  refine qF X1 hx hZ hown (host := "") (Or.inl (w hw 358 rfl)) Via.refl e1 F_b0_hashIsZero (hb y d43_10) 13 rfl fun T2 X2 e2 => ?_
  refine qN X2 hx (hb y d43_13) ((if0 _ _).trans (teq (by decide : (0 : Int32) = (0 : Int32))).2) 16 rfl ?_
  refine qA X2 hx (hb y d43_16) rfl rfl 17 rfl ?_
  refine qV X2 hx hZ hown (w hw 360 rfl) (w hw 361 rfl) (notFace_of_selects (args := #[]) (mvT hZ (w hw 363 rfl))) (w hw 363 rfl) (w hw 362 rfl) (w hw 6 rfl) (w hw 364 rfl) (by decide) b0 [] [] 0 (rm_isLatin1_52 l Z a0 h0 n0 hw H O b0 F_b0_coder) (by decide) (by decide) rfl rfl e2 E_b0 (by rw [hml]; rfl) (lenOf pd_5 rfl) (Nat.le_of_eq rfl) (hb y d43_17) 20 rfl rfl (by decide) (by decide) fun T4 X4 e4 => ?_
  refine qN X4 hx (hb y d43_20) ((if0 _ _).trans (feq (by decide : ¬ ((1 : Int32) = (0 : Int32)))).1) 23 rfl ?_
  refine qA X4 hx (hb y d43_23) rfl rfl 24 rfl ?_
  refine qF X4 hx hZ hown (host := "") (Or.inl (w hw 26 rfl)) Via.refl e4 F_b0_value (hb y d43_24) 27 rfl fun T5 X5 e5 => ?_
  refine qS X5 hx hZ hown (w hw 365 rfl) (w hw 366 rfl) (w hw 11 rfl) (w hw 367 rfl) (by decide) [(.ref b1)] [] 0 (rm_hashCode_83 l Z a0 h0 n0 hw O b1 k_b1 V_b1) (by decide) (by decide) rfl rfl e5 (by rw [hml]; rfl) (lenOf pd_29 rfl) (Nat.le_of_eq rfl) (hb y d43_27) 30 rfl rfl (by decide) (by decide) fun T7 X7 e7 => ?_
  refine qG X7 hx (hb y d43_30) 40 (by decide) (by decide) ?_
  refine qk X7 hx (hb y d43_40) #[.val (.ref b0), .val (.int 113)] rfl 41 rfl ?_
  refine qI X7 hx (hb y d43_41) rfl 42 rfl ?_
  refine o_ifY X7 hx (hb y d43_42) ((if0 _ _).trans (feq (by decide : ¬ ((113 : Int32) = (0 : Int32)))).2) 53 (by decide) (by decide) ?_
  refine qA X7 hx (hb y d43_53) rfl rfl 54 rfl ?_
  refine qI X7 hx (hb y d43_54) rfl 55 rfl ?_
  refine qP X7 hx hZ hown (host := "") (Or.inl (w hw 356 rfl)) Via.refl e7 F_b0_hash E_b0 (Or.inl (w hw 357 rfl)) (w hw 14 rfl) (ty := .int) (by decide) rfl rfl (hb y d43_55) 58 rfl fun T8 X8 W8 => ?_
  have G8 := Fld.same W8 F_b0_hash
  have N9 := Fr.snoc X8 (Fr.nil n0) g_b0
  have K9 := Keep.wr (Keep.refl h0 [b0]) W8 (Or.inl (by simp))
  refine qI X8 hx (hb y d43_58) rfl 59 rfl ?_
  have f10 := (E_b0.wr W8)
  have f11 := (F_b0_coder.other W8 (Or.inr (Ne.symm (sn_2 hw))))
  have f12 := (F_b0_hashIsZero.other W8 (Or.inr (sn_64 hw)))
  have f13 := (F_b0_value.other W8 (Or.inr (Ne.symm (sn_1 hw))))
  exact o_retI X8 hx hk hret (hb y d43_59) (by show Q_rm_hashCode_82 Z h0 n0 b0 b1 k_b1 _ T8.heap _; exact ⟨rfl, N9, K9, f10, f11, G8, f12, f13⟩) (by decide) (by decide)
def Q_rm_hash_81 (Z : State) (h0 : Heap) (n0 : Nat) (b0 : Addr) (b1 : Addr) (k_b1 : ClassId) (v : Option Value) (h : Heap) (L : List Loc) : Prop := v = some (.int 113) ∧ Fr n0 L ∧ Keep h0 h [b0] ∧ Exa Z h b0 s4 ∧ Fld Z h b0 s4 s43 "B" (.int 0) ∧ Fld Z h b0 s4 s37 "I" (.int 113) ∧ Fld Z h b0 s4 s33 "Z" (.int 0) ∧ Fld Z h b0 s4 s34 "[B" (.ref b1)
theorem rm_hash_81 (hw : o_HW Z a0) (H : o_C Z Z.heap w_NW w_DC w_EL w_EA w_EM w_MO w_cacheI c_cacheI k_DC k_EA z_CS) (O : Old Z n0 h0) (b0 : Addr) (b1 : Addr) (k_b1 : ClassId) (E_b0 : Exa Z h0 b0 s4) (F_b0_coder : Fld Z h0 b0 s4 s43 "B" (.int 0)) (F_b0_hash : Fld Z h0 b0 s4 s37 "I" (.int 0)) (F_b0_hashIsZero : Fld Z h0 b0 s4 s33 "Z" (.int 0)) (F_b0_value : Fld Z h0 b0 s4 s34 "[B" (.ref b1)) (g_b0 : n0 ≤ b0) (V_b1 : Arv Z h0 b1 k_b1 .byte (1 : Int32) [(.int 113)] (.int 0)) :
    o_Met l (⟨s7, s37, "(Ljava/lang/Object;)I"⟩ : MethodName) B44 2 (some .int) [] (o_rm 2 0 0 25) Z #[(.ref b0)] h0 (Q_rm_hash_81 Z h0 n0 b0 b1 k_b1) := by
  refine o_met (pN pn_9) ?_
  intro p e s m below meth c T0 hx y hml hown hret hk hnm hZ X0 e0
  obtain ⟨-, -, -, -, -, -, -, -, -, -, -, -, -, -, -, -, -, -, -⟩ := id H
  refine o_ent (ef_4 m b0) ?_
  refine qA X0 hx (hb y d42_0) rfl rfl 1 rfl ?_
  refine o_ifnonnullY X0 hx (hb y d42_1) 8 (by decide) (by decide) ?_
  refine qA X0 hx (hb y d42_8) rfl rfl 9 rfl ?_
  refine o_kV X0 hx hZ hown (w hw 350 rfl) (w hw 351 rfl) (nf_top (args := #[]) (mvT hZ (w hw 79 rfl))) (w hw 353 rfl) (w hw 354 rfl) (w hw 6 rfl) (w hw 355 rfl) (by decide) b0 [] [] 0 (rm_hashCode_82 l Z a0 h0 n0 hw H O b0 b1 k_b1 E_b0 F_b0_coder F_b0_hash F_b0_hashIsZero F_b0_value g_b0 V_b1) (by decide) (by decide) e0 E_b0 (by rw [hml]; rfl) (lenOf pd_9 rfl) (Nat.le_of_eq rfl) (hb y d42_9) (by decide) (by decide) 12 rfl fun v1 T1 L1 X1 hQ1 => ?_
  obtain ⟨rfl, Nq1, Kq1, p1_0, p1_1, p1_2, p1_3, p1_4⟩ := hQ1
  have N2 := Fr.app (Fr.nil n0) Nq1
  have K2 := Keep.trans (Keep.refl h0 [b0]) Kq1 (allS (Or.inl (by simp)) all0)
  refine o_nR ?_
  refine qD X1 hx (hb y d42_12) rfl 13 rfl ?_
  refine qk X1 hx (hb y d42_13) #[.val (.ref b0), .val (.int 113)] rfl 14 rfl ?_
  refine qI X1 hx (hb y d42_14) rfl 15 rfl ?_
  refine o_bipush X1 hx (hb y d42_15) (16 : Int32) rfl 17 rfl ?_
  refine o_iushr X1 hx (hb y d42_17) 18 rfl ?_
  refine o_topI (0 : Int32) (by decide) ?_
  refine o_ixor X1 hx (hb y d42_18) 19 rfl ?_
  refine o_topI (113 : Int32) (by decide) ?_
  exact o_retI X1 hx hk hret (hb y d42_19) (by show Q_rm_hash_81 Z h0 n0 b0 b1 k_b1 _ T1.heap _; exact ⟨rfl, N2, K2, p1_0, p1_1, p1_2, p1_3, p1_4⟩) (by decide) (by decide)
def Q_rm__init__86 (Z : State) (h0 : Heap) (n0 : Nat) (b0 : Addr) (b1 : Addr) (b2 : Addr) (v : Option Value) (h : Heap) (L : List Loc) : Prop := v = none ∧ Fr n0 L ∧ Keep h0 h [b0] ∧ Exa Z h b0 s5 ∧ Fld Z h b0 s5 s37 "I" (.int 113) ∧ Fld Z h b0 s5 "key" s13 (.ref b1) ∧ Fld Z h b0 s5 s62 s28 .null ∧ Fld Z h b0 s5 s34 s13 (.ref b2)
theorem rm__init__86 (hw : o_HW Z a0) (O : Old Z n0 h0) (b0 : Addr) (b1 : Addr) (b2 : Addr) (E_b0 : Exa Z h0 b0 s5) (F_b0_hash : Fld Z h0 b0 s5 s37 "I" (.int 0)) (F_b0_key : Fld Z h0 b0 s5 "key" s13 .null) (F_b0_next : Fld Z h0 b0 s5 s62 s28 .null) (F_b0_value : Fld Z h0 b0 s5 s34 s13 .null) (g_b0 : n0 ≤ b0) :
    o_Met l (⟨s5, s50, s52⟩ : MethodName) B46 5 none [] (o_rm 1 0 0 12) Z #[(.ref b0), (.int 113), (.ref b1), (.ref b2), .null] h0 (Q_rm__init__86 Z h0 n0 b0 b1 b2) := by
  refine o_met (pN pn_22) ?_
  intro p e s m below meth c T0 hx y hml hown hret hk hnm hZ X0 e0
  refine o_ent (ef_16 m b0 (113 : Int32) b1 b2) ?_
  refine qA X0 hx (hb y d49_0) rfl rfl 1 rfl ?_
  refine o_initO X0 hx hZ hown (w hw 395 rfl) (w hw 24 rfl) (w hw 25 rfl) e0 (by rw [hml]; rfl) (hb y d49_1) (by decide) 0 (Nat.le_of_eq rfl) (by decide) 4 rfl fun T1 X1 e1 => ?_
  refine qA X1 hx (hb y d49_4) rfl rfl 5 rfl ?_
  refine qI X1 hx (hb y d49_5) rfl 6 rfl ?_
  refine qP X1 hx hZ hown (host := "") (Or.inl (w hw 396 rfl)) Via.refl e1 F_b0_hash E_b0 (Or.inr ⟨(w hw 397 rfl), rfl, hnm⟩) (w hw 389 rfl) (ty := .int) (by decide) rfl rfl (hb y d49_6) 9 rfl fun T2 X2 W2 => ?_
  have G2 := Fld.same W2 F_b0_hash
  have N3 := Fr.snoc X2 (Fr.nil n0) g_b0
  have K3 := Keep.wr (Keep.refl h0 [b0]) W2 (Or.inl (by simp))
  refine qA X2 hx (hb y d49_9) rfl rfl 10 rfl ?_
  refine qA X2 hx (hb y d49_10) rfl rfl 11 rfl ?_
  have f5 := (F_b0_key.other W2 (Or.inr (sn_70 hw)))
  have f6 := (E_b0.wr W2)
  refine qP X2 hx hZ hown (host := "") (Or.inl (w hw 398 rfl)) Via.refl rfl f5 f6 (Or.inr ⟨(w hw 399 rfl), rfl, hnm⟩) (w hw 389 rfl) (ty := (.object s8)) (by decide) rfl rfl (hb y d49_11) 14 rfl fun T4 X4 W4 => ?_
  have G4 := Fld.same W4 f5
  have N7 := Fr.snoc X4 N3 g_b0
  have K7 := Keep.wr K3 W4 (Or.inl (by simp))
  refine qA X4 hx (hb y d49_14) rfl rfl 15 rfl ?_
  refine qA X4 hx (hb y d49_15) rfl rfl 16 rfl ?_
  have f9 := ((F_b0_value.other W2 (Or.inr (sn_71 hw))).other W4 (Or.inr (sn_72 hw)))
  have f10 := (f6.wr W4)
  refine qP X4 hx hZ hown (host := "") (Or.inl (w hw 400 rfl)) Via.refl rfl f9 f10 (Or.inl (w hw 401 rfl)) (w hw 389 rfl) (ty := (.object s8)) (by decide) rfl rfl (hb y d49_16) 19 rfl fun T8 X8 W8 => ?_
  have G8 := Fld.same W8 f9
  have N11 := Fr.snoc X8 N7 g_b0
  have K11 := Keep.wr K7 W8 (Or.inl (by simp))
  refine qA X8 hx (hb y d49_19) rfl rfl 20 rfl ?_
  refine qa X8 hx (hb y d49_20) rfl rfl 22 rfl ?_
  have f13 := (((F_b0_next.other W2 (Or.inr (sn_73 hw))).other W4 (Or.inr (sn_74 hw))).other W8 (Or.inr (sn_75 hw)))
  have f14 := (f10.wr W8)
  refine qP X8 hx hZ hown (host := "") (Or.inl (w hw 402 rfl)) Via.refl rfl f13 f14 (Or.inl (w hw 403 rfl)) (w hw 389 rfl) (ty := (.object s5)) (by decide) rfl rfl (hb y d49_22) 25 rfl fun T12 X12 W12 => ?_
  have G12 := Fld.same W12 f13
  have N15 := Fr.snoc X12 N11 g_b0
  have K15 := Keep.wr K11 W12 (Or.inl (by simp))
  have f16 := (f14.wr W12)
  have f17 := (((G2.other W4 (Or.inr (Ne.symm (sn_70 hw)))).other W8 (Or.inr (Ne.symm (sn_71 hw)))).other W12 (Or.inr (Ne.symm (sn_73 hw))))
  have f18 := ((G4.other W8 (Or.inr (Ne.symm (sn_72 hw)))).other W12 (Or.inr (Ne.symm (sn_74 hw))))
  have f19 := (G8.other W12 (Or.inr (Ne.symm (sn_75 hw))))
  exact qv X12 hx hk hret (hb y d49_25) (by show Q_rm__init__86 Z h0 n0 b0 b1 b2 _ T12.heap _; exact ⟨rfl, N15, K15, f16, f17, f18, G12, f19⟩) (by decide) (by decide)
def Q_rm_newNode_85 (Z : State) (h0 : Heap) (n0 : Nat) (b0 : Addr) (b1 : Addr) (b2 : Addr) (v : Option Value) (h : Heap) (L : List Loc) : Prop := ∃ (y0 : Addr), v = some (.ref y0) ∧ Fr n0 L ∧ Keep h0 h [] ∧ h0.size ≤ y0 ∧ Exa Z h y0 s5 ∧ Fld Z h y0 s5 s37 "I" (.int 113) ∧ Fld Z h y0 s5 "key" s13 (.ref b1) ∧ Fld Z h y0 s5 s62 s28 .null ∧ Fld Z h y0 s5 s34 s13 (.ref b2)
theorem rm_newNode_85 (hw : o_HW Z a0) (O : Old Z n0 h0) (b0 : Addr) (b1 : Addr) (b2 : Addr) :
    o_Met l (⟨s7, "newNode", s45⟩ : MethodName) B47 5 (some (.object s5)) [] (o_rm 2 1 4 29) Z #[(.ref b0), (.int 113), (.ref b1), (.ref b2), .null] h0 (Q_rm_newNode_85 Z h0 n0 b0 b1 b2) := by
  refine o_met (pN pn_9) ?_
  intro p e s m below meth c T0 hx y hml hown hret hk hnm hZ X0 e0
  refine o_ent (ef_16 m b0 (113 : Int32) b1 b2) ?_
  refine nO X0 hx hZ hown (w hw 382 rfl) (w hw 389 rfl) (w hw 390 rfl) e0 (hb y d48_0) 3 rfl (by decide) (by decide) fun T1 a1 g1 X1 E1 A1 D1 => ?_
  have g_a1 : n0 ≤ a1 := Nat.le_trans (o_osz O) (Nat.le_of_eq g1)
  have z_a1 : h0.size ≤ a1 := Nat.le_trans ((Keep.refl h0 [])).1 (Nat.le_of_eq g1)
  have O2 := O.ext E1
  have K2 := Keep.ext (Keep.refl h0 []) E1
  have F1_hash : Fld Z T1.heap a1 s5 s37 "I" (.int 0) := D1 (Or.inr (w hw 397 rfl)) (ty := .int) (by decide)
  have F1_key : Fld Z T1.heap a1 s5 "key" s13 .null := D1 (Or.inr (w hw 399 rfl)) (ty := (.object s8)) (by decide)
  have F1_value : Fld Z T1.heap a1 s5 s34 s13 .null := D1 (Or.inl (w hw 401 rfl)) (ty := (.object s8)) (by decide)
  have F1_next : Fld Z T1.heap a1 s5 s62 s28 .null := D1 (Or.inl (w hw 403 rfl)) (ty := (.object s5)) (by decide)
  refine qD X1 hx (hb y d48_3) rfl 4 rfl ?_
  refine qI X1 hx (hb y d48_4) rfl 5 rfl ?_
  refine qA X1 hx (hb y d48_5) rfl rfl 6 rfl ?_
  refine qA X1 hx (hb y d48_6) rfl rfl 7 rfl ?_
  refine qa X1 hx (hb y d48_7) rfl rfl 9 rfl ?_
  refine kN X1 hx hZ rfl hown (w hw 391 rfl) (w hw 392 rfl) (w hw 390 rfl) (w hw 394 rfl) (by decide) a1 [(.int 113), (.ref b1), (.ref b2), .null] [(.ref a1)] 1 (rm__init__86 l Z a0 T1.heap n0 hw O2 a1 b1 b2 A1 F1_hash F1_key F1_next F1_value g_a1) (by decide) (by decide) rfl (by rw [hml]; rfl) (lenOf pd_32 rfl) (Nat.le_of_eq rfl) (hb y d48_9) (by decide) (by decide) 12 rfl fun v3 T3 L3 X3 hQ3 => ?_
  obtain ⟨rfl, Nq3, Kq3, p3_0, p3_1, p3_2, p3_3, p3_4⟩ := hQ3
  have N4 := Fr.app (Fr.nil n0) Nq3
  have K4 := Keep.trans K2 Kq3 (allS (Or.inr z_a1) all0)
  refine o_nV ?_
  exact qR X3 hx hk hret rfl rfl (hb y d48_12) rfl (by show Q_rm_newNode_85 Z h0 n0 b0 b1 b2 _ T3.heap _; exact ⟨a1, rfl, N4, K4, z_a1, p3_0, p3_1, p3_2, p3_3, p3_4⟩) (by decide) (by decide)
def Q_rm_putVal_84 (Z : State) (h0 : Heap) (n0 : Nat) (b0 : Addr) (b1 : Addr) (b2 : Addr) (b3 : Addr) (b5 : Addr) (k_b3 : ClassId) (v : Option Value) (h : Heap) (L : List Loc) : Prop := ∃ (y0 : Addr), v = some .null ∧ Fr n0 L ∧ Keep h0 h [b3, b0] ∧ h0.size ≤ y0 ∧ Exa Z h b0 s7 ∧ Fld Z h b0 s7 s44 "F" (.float (1061158912 : UInt32)) ∧ Fld Z h b0 s7 s29 "I" (.int 2) ∧ Fld Z h b0 s7 s26 "I" (.int 2) ∧ Fld Z h b0 s7 s61 s23 (.ref b3) ∧ Fld Z h b0 s7 s46 "I" (.int 12) ∧ Arv Z h b3 k_b3 (.object s5) (16 : Int32) [(.ref b5), (.ref y0)] .null ∧ Exa Z h b3 s23 ∧ Exa Z h y0 s5 ∧ Fld Z h y0 s5 s37 "I" (.int 113) ∧ Fld Z h y0 s5 "key" s13 (.ref b1) ∧ Fld Z h y0 s5 s62 s28 .null ∧ Fld Z h y0 s5 s34 s13 (.ref b2)
theorem d46_10 : decode B49 10 = .ok (.aload 6, 2) := by decide +kernel
theorem d46_12 : decode B49 12 = .ok (.arraylength, 1) := by decide +kernel
theorem d46_13 : decode B49 13 = .ok (.dup, 1) := by decide +kernel
theorem d46_14 : decode B49 14 = .ok (.istore 8, 2) := by decide +kernel
theorem d46_16 : decode B49 16 = .ok (.ifCond .ne 13, 3) := by decide +kernel
theorem rm_putVal_84 (hw : o_HW Z a0) (O : Old Z n0 h0) (b0 : Addr) (b1 : Addr) (b2 : Addr) (b3 : Addr) (b5 : Addr) (k_b3 : ClassId) (E_b0 : Exa Z h0 b0 s7) (F_b0_loadFactor : Fld Z h0 b0 s7 s44 "F" (.float (1061158912 : UInt32))) (F_b0_modCount : Fld Z h0 b0 s7 s29 "I" (.int 1)) (F_b0_size : Fld Z h0 b0 s7 s26 "I" (.int 1)) (F_b0_table : Fld Z h0 b0 s7 s61 s23 (.ref b3)) (F_b0_threshold : Fld Z h0 b0 s7 s46 "I" (.int 12)) (g_b0 : n0 ≤ b0) (V_b3 : Arv Z h0 b3 k_b3 (.object s5) (16 : Int32) [(.ref b5)] .null) (A_b3 : Exa Z h0 b3 s23) (P_b3 : Ovr Z k_b3 s5) (g_b3 : n0 ≤ b3) (ne_b0_b3 : b0 ≠ b3) :
    o_Met l (⟨s7, "putVal", s56⟩ : MethodName) B49 13 (some (.object s8)) [] (o_rm 3 1 4 47) Z #[(.ref b0), (.int 113), (.ref b1), (.ref b2), (.int 0), (.int 1)] h0 (Q_rm_putVal_84 Z h0 n0 b0 b1 b2 b3 b5 k_b3) := by
  refine o_met (pN pn_9) ?_
  intro p e s m below meth c T0 hx y hml hown hret hk hnm hZ X0 e0
  refine o_ent (ef_17 m b0 (113 : Int32) b1 b2 (0 : Int32) (1 : Int32)) ?_
  refine qA X0 hx (hb y d46_0) rfl rfl 1 rfl ?_
  refine qF X0 hx hZ hown (host := "") (Or.inl (w hw 373 rfl)) Via.refl e0 F_b0_table (hb y d46_1) 4 rfl fun T1 X1 e1 => ?_
  refine qD X1 hx (hb y d46_4) rfl 5 rfl ?_
  refine qt X1 hx (hb y d46_5) #[.val (.ref b0), .val (.int 113), .val (.ref b1), .val (.ref b2), .val (.int 0), .val (.int 1), .val (.ref b3), .unset, .unset, .unset, .unset, .unset, .unset] rfl rfl 7 rfl ?_
  refine o_ifnullN X1 hx (hb y d46_7) 10 rfl ?_
  refine qa X1 hx (hb y d46_10) rfl rfl 12 rfl ?_
  refine o_alen X1 hx hZ e1 V_b3 (hb y d46_12) 13 rfl ?_
  refine qD X1 hx (hb y d46_13) rfl 14 rfl ?_
  refine qs X1 hx (hb y d46_14) #[.val (.ref b0), .val (.int 113), .val (.ref b1), .val (.ref b2), .val (.int 0), .val (.int 1), .val (.ref b3), .unset, .val (.int 16), .unset, .unset, .unset, .unset] rfl 16 rfl ?_
  refine o_ifY X1 hx (hb y d46_16) ((if0 _ _).trans (feq (by decide : ¬ ((16 : Int32) = (0 : Int32)))).2) 29 (by decide) (by decide) ?_
  refine qa X1 hx (hb y d46_29) rfl rfl 31 rfl ?_
  refine qi X1 hx (hb y d46_31) rfl 33 rfl ?_
  refine qC X1 hx (hb y d46_33) (1 : Int32) rfl 34 rfl ?_
  refine o_isub X1 hx (hb y d46_34) 35 rfl ?_
  refine o_topI (15 : Int32) (by decide) ?_
  refine qI X1 hx (hb y d46_35) rfl 36 rfl ?_
  refine o_iand X1 hx (hb y d46_36) 37 rfl ?_
  refine o_topI (1 : Int32) (by decide) ?_
  refine qD X1 hx (hb y d46_37) rfl 38 rfl ?_
  refine qs X1 hx (hb y d46_38) #[.val (.ref b0), .val (.int 113), .val (.ref b1), .val (.ref b2), .val (.int 0), .val (.int 1), .val (.ref b3), .unset, .val (.int 16), .val (.int 1), .unset, .unset, .unset] rfl 40 rfl ?_
  refine o_aaload X1 hx hZ e1 V_b3 rfl .null (by decide) rfl (hb y d46_40) 41 rfl ?_
  refine qD X1 hx (hb y d46_41) rfl 42 rfl ?_
  refine qt X1 hx (hb y d46_42) #[.val (.ref b0), .val (.int 113), .val (.ref b1), .val (.ref b2), .val (.int 0), .val (.int 1), .val (.ref b3), .val .null, .val (.int 16), .val (.int 1), .unset, .unset, .unset] rfl rfl 44 rfl ?_
  refine o_ifnonnullN X1 hx (hb y d46_44) 47 rfl ?_
  refine qa X1 hx (hb y d46_47) rfl rfl 49 rfl ?_
  refine qi X1 hx (hb y d46_49) rfl 51 rfl ?_
  refine qA X1 hx (hb y d46_51) rfl rfl 52 rfl ?_
  refine qI X1 hx (hb y d46_52) rfl 53 rfl ?_
  refine qA X1 hx (hb y d46_53) rfl rfl 54 rfl ?_
  refine qA X1 hx (hb y d46_54) rfl rfl 55 rfl ?_
  refine o_aconst_null X1 hx (hb y d46_55) 56 rfl ?_
  refine o_kV X1 hx hZ hown (w hw 384 rfl) (w hw 385 rfl) (notFace_of_selects (args := #[]) (mvT hZ (w hw 387 rfl))) (w hw 387 rfl) (w hw 386 rfl) (w hw 109 rfl) (w hw 388 rfl) (by decide) b0 [(.int 113), (.ref b1), (.ref b2), .null] [(.int 1), (.ref b3)] 2 (rm_newNode_85 l Z a0 h0 n0 hw O b0 b1 b2) (by decide) (by decide) e1 E_b0 (by rw [hml]; rfl) (lenOf pd_33 rfl) (Nat.le_of_eq rfl) (hb y d46_56) (by decide) (by decide) 59 rfl fun v2 T2 L2 X2 hQ2 => ?_
  obtain ⟨q2_0, rfl, Nq2, Kq2, le_q2_0, p2_0, p2_1, p2_2, p2_3, p2_4⟩ := hQ2
  have z_q2_0 : h0.size ≤ q2_0 := Nat.le_trans ((Keep.refl h0 [b3, b0])).1 le_q2_0
  have O3 := O.keep Kq2 all0
  have N3 := Fr.app (Fr.nil n0) Nq2
  have K3 := Keep.trans (Keep.refl h0 [b3, b0]) Kq2 all0
  refine o_nR ?_
  have f4 := (V_b3.keep Kq2 nin0)
  have V5 : Arv Z T2.heap b3 k_b3 (.object s5) (16 : Int32) [(.ref b5), .null] .null := f4.pad (pad_rep [(.ref b5)] .null 1)
  refine o_aastore X2 hx hZ rfl V5 rfl rfl (fun _ u q => Sto.ofV u q P_b3 (Ins.self p2_0)) 1 (by decide) (by decide) (by simp) [(.ref b5), (.ref q2_0)] rfl (hb y d46_59) 60 rfl fun T6 X6 W6 V6 => ?_
  have O7 := O3.wr W6 g_b3
  have N7 := Fr.snoc X6 N3 g_b3
  have K7 := Keep.wr K3 W6 (Or.inl (by simp))
  refine qG X6 hx (hb y d46_60) 259 (by decide) (by decide) ?_
  refine qA X6 hx (hb y d46_259) rfl rfl 260 rfl ?_
  refine qD X6 hx (hb y d46_260) rfl 261 rfl ?_
  have f8 := ((F_b0_modCount.keep Kq2 nin0).other W6 (Or.inl ne_b0_b3))
  refine qF X6 hx hZ hown (host := "") (Or.inl (w hw 404 rfl)) Via.refl rfl f8 (hb y d46_261) 264 rfl fun T9 X9 e9 => ?_
  refine qC X9 hx (hb y d46_264) (1 : Int32) rfl 265 rfl ?_
  refine o_iadd X9 hx (hb y d46_265) 266 rfl ?_
  refine o_topI (2 : Int32) (by decide) ?_
  have f11 := ((E_b0.keep Kq2).wr W6)
  refine qP X9 hx hZ hown (host := "") (Or.inl (w hw 404 rfl)) Via.refl e9 f8 f11 (Or.inl (w hw 405 rfl)) (w hw 108 rfl) (ty := .int) (by decide) rfl rfl (hb y d46_266) 269 rfl fun T10 X10 W10 => ?_
  have G10 := Fld.same W10 f8
  have O12 := O7.wr W10 g_b0
  have N12 := Fr.snoc X10 N7 g_b0
  have K12 := Keep.wr K7 W10 (Or.inl (by simp))
  refine qA X10 hx (hb y d46_269) rfl rfl 270 rfl ?_
  refine qD X10 hx (hb y d46_270) rfl 271 rfl ?_
  have f13 := (((F_b0_size.keep Kq2 nin0).other W6 (Or.inl ne_b0_b3)).other W10 (Or.inr (sn_76 hw)))
  refine qF X10 hx hZ hown (host := "") (Or.inl (w hw 406 rfl)) Via.refl rfl f13 (hb y d46_271) 274 rfl fun T14 X14 e14 => ?_
  refine qC X14 hx (hb y d46_274) (1 : Int32) rfl 275 rfl ?_
  refine o_iadd X14 hx (hb y d46_275) 276 rfl ?_
  refine o_topI (2 : Int32) (by decide) ?_
  refine o_dup_x1 X14 hx (hb y d46_276) rfl rfl 277 rfl ?_
  have f16 := (f11.wr W10)
  refine qP X14 hx hZ hown (host := "") (Or.inl (w hw 406 rfl)) Via.refl e14 f13 f16 (Or.inl (w hw 407 rfl)) (w hw 108 rfl) (ty := .int) (by decide) rfl rfl (hb y d46_277) 280 rfl fun T15 X15 W15 => ?_
  have G15 := Fld.same W15 f13
  have O17 := O12.wr W15 g_b0
  have N17 := Fr.snoc X15 N12 g_b0
  have K17 := Keep.wr K12 W15 (Or.inl (by simp))
  refine qA X15 hx (hb y d46_280) rfl rfl 281 rfl ?_
  have f18 := ((((F_b0_threshold.keep Kq2 nin0).other W6 (Or.inl ne_b0_b3)).other W10 (Or.inr (Ne.symm (sn_66 hw)))).other W15 (Or.inr (Ne.symm (sn_68 hw))))
  refine qF X15 hx hZ hown (host := "") (Or.inl (w hw 380 rfl)) Via.refl rfl f18 (hb y d46_281) 284 rfl fun T19 X19 e19 => ?_
  refine o_icmpY X19 hx (hb y d46_284) (flt (by decide : ¬ ((12 : Int32) < (2 : Int32)))).2.2.2 292 (by decide) (by decide) ?_
  refine qA X19 hx (hb y d46_292) rfl rfl 293 rfl ?_
  refine qi X19 hx (hb y d46_293) rfl 295 rfl ?_
  have f21 := (f16.wr W15)
  refine o_voidV X19 hx hZ hown (w hw 408 rfl) (w hw 409 rfl) (notFace_of_selects (args := #[]) (mvT hZ (w hw 411 rfl))) (w hw 411 rfl) (w hw 410 rfl) (w hw 109 rfl) (w hw 412 rfl) (by decide) b0 [(.int 1)] [] 0 (rm_afterNodeInsertion_58 l Z a0 T15.heap n0 hw O17 b0) (by decide) (by decide) rfl rfl e19 f21 (by rw [hml]; rfl) (lenOf pd_34 rfl) (Nat.le_of_eq rfl) (hb y d46_295) 298 rfl rfl (by decide) (by decide) fun T22 X22 e22 => ?_
  refine o_aconst_null X22 hx (hb y d46_298) 299 rfl ?_
  have f23 := ((((F_b0_loadFactor.keep Kq2 nin0).other W6 (Or.inl ne_b0_b3)).other W10 (Or.inr (Ne.symm (sn_14 hw)))).other W15 (Or.inr (Ne.symm (sn_15 hw))))
  have f24 := (G10.other W15 (Or.inr (Ne.symm (sn_76 hw))))
  have f25 := ((((F_b0_table.keep Kq2 nin0).other W6 (Or.inl ne_b0_b3)).other W10 (Or.inr (Ne.symm (sn_67 hw)))).other W15 (Or.inr (Ne.symm (sn_69 hw))))
  have f26 := (o_vo (o_vo V6 W10 ne_b0_b3) W15 ne_b0_b3)
  have f27 := ((((A_b3.keep Kq2).wr W6).wr W10).wr W15)
  have f28 := (((p2_0.wr W6).wr W10).wr W15)
  have ne30 := o_nl A_b3.lt (Nat.le_refl _) le_q2_0
  have ne32 := o_nl E_b0.lt (Nat.le_refl _) le_q2_0
  have f33 := (o_fo (o_fo (o_fo p2_1 W6 ne30) W10 ne32) W15 ne32)
  have f34 := (o_fo (o_fo (o_fo p2_2 W6 ne30) W10 ne32) W15 ne32)
  have f35 := (o_fo (o_fo (o_fo p2_3 W6 ne30) W10 ne32) W15 ne32)
  have f36 := (o_fo (o_fo (o_fo p2_4 W6 ne30) W10 ne32) W15 ne32)
  exact qR X22 hx hk hret rfl rfl (hb y d46_299) rfl (by show Q_rm_putVal_84 Z h0 n0 b0 b1 b2 b3 b5 k_b3 _ T22.heap _; rw [e22]; exact ⟨q2_0, rfl, N17, K17, z_q2_0, f21, f23, f24, G15, f25, f18, f26, f27, f28, f33, f34, f35, f36⟩) (by decide) (by decide)
def Q_rm_put_80 (Z : State) (h0 : Heap) (n0 : Nat) (b0 : Addr) (b1 : Addr) (b2 : Addr) (b3 : Addr) (b4 : Addr) (b5 : Addr) (k_b3 : ClassId) (k_b4 : ClassId) (v : Option Value) (h : Heap) (L : List Loc) : Prop := ∃ (y0 : Addr), v = some .null ∧ Fr n0 L ∧ Keep h0 h [b1, b0, b3] ∧ h0.size ≤ y0 ∧ Exa Z h b0 s7 ∧ Fld Z h b0 s7 s44 "F" (.float (1061158912 : UInt32)) ∧ Fld Z h b0 s7 s29 "I" (.int 2) ∧ Fld Z h b0 s7 s26 "I" (.int 2) ∧ Fld Z h b0 s7 s61 s23 (.ref b3) ∧ Fld Z h b0 s7 s46 "I" (.int 12) ∧ Exa Z h b1 s4 ∧ Fld Z h b1 s4 s43 "B" (.int 0) ∧ Fld Z h b1 s4 s37 "I" (.int 113) ∧ Fld Z h b1 s4 s33 "Z" (.int 0) ∧ Fld Z h b1 s4 s34 "[B" (.ref b4) ∧ Arv Z h b3 k_b3 (.object s5) (16 : Int32) [(.ref b5), (.ref y0)] .null ∧ Exa Z h b3 s23 ∧ Exa Z h y0 s5 ∧ Fld Z h y0 s5 s37 "I" (.int 113) ∧ Fld Z h y0 s5 "key" s13 (.ref b1) ∧ Fld Z h y0 s5 s62 s28 .null ∧ Fld Z h y0 s5 s34 s13 (.ref b2)
theorem rm_put_80 (hw : o_HW Z a0) (H : o_C Z Z.heap w_NW w_DC w_EL w_EA w_EM w_MO w_cacheI c_cacheI k_DC k_EA z_CS) (O : Old Z n0 h0) (b0 : Addr) (b1 : Addr) (b2 : Addr) (b3 : Addr) (b4 : Addr) (b5 : Addr) (k_b3 : ClassId) (k_b4 : ClassId) (E_b0 : Exa Z h0 b0 s7) (F_b0_loadFactor : Fld Z h0 b0 s7 s44 "F" (.float (1061158912 : UInt32))) (F_b0_modCount : Fld Z h0 b0 s7 s29 "I" (.int 1)) (F_b0_size : Fld Z h0 b0 s7 s26 "I" (.int 1)) (F_b0_table : Fld Z h0 b0 s7 s61 s23 (.ref b3)) (F_b0_threshold : Fld Z h0 b0 s7 s46 "I" (.int 12)) (g_b0 : n0 ≤ b0) (E_b1 : Exa Z h0 b1 s4) (F_b1_coder : Fld Z h0 b1 s4 s43 "B" (.int 0)) (F_b1_hash : Fld Z h0 b1 s4 s37 "I" (.int 0)) (F_b1_hashIsZero : Fld Z h0 b1 s4 s33 "Z" (.int 0)) (F_b1_value : Fld Z h0 b1 s4 s34 "[B" (.ref b4)) (g_b1 : n0 ≤ b1) (V_b3 : Arv Z h0 b3 k_b3 (.object s5) (16 : Int32) [(.ref b5)] .null) (A_b3 : Exa Z h0 b3 s23) (P_b3 : Ovr Z k_b3 s5) (g_b3 : n0 ≤ b3) (V_b4 : Arv Z h0 b4 k_b4 .byte (1 : Int32) [(.int 113)] (.int 0)) (ne_b0_b1 : b0 ≠ b1) (ne_b0_b3 : b0 ≠ b3) (ne_b1_b3 : b1 ≠ b3) :
    o_Met l (⟨s7, "put", s58⟩ : MethodName) B50 3 (some (.object s8)) [] (o_rm 4 1 4 71) Z #[(.ref b0), (.ref b1), (.ref b2)] h0 (Q_rm_put_80 Z h0 n0 b0 b1 b2 b3 b4 b5 k_b3 k_b4) := by
  refine o_met (pN pn_9) ?_
  intro p e s m below meth c T0 hx y hml hown hret hk hnm hZ X0 e0
  obtain ⟨-, -, -, -, -, -, -, -, -, -, -, -, -, -, -, -, -, -, -⟩ := id H
  refine o_ent (ef_18 m b0 b1 b2) ?_
  refine qA X0 hx (hb y d41_0) rfl rfl 1 rfl ?_
  refine qA X0 hx (hb y d41_1) rfl rfl 2 rfl ?_
  refine kS X0 hx hZ hown (w hw 347 rfl) (w hw 348 rfl) (w hw 109 rfl) (w hw 349 rfl) (by decide) [(.ref b1)] [(.ref b0)] 1 (rm_hash_81 l Z a0 h0 n0 hw H O b1 b4 k_b4 E_b1 F_b1_coder F_b1_hash F_b1_hashIsZero F_b1_value g_b1 V_b4) (by decide) (by decide) e0 (by rw [hml]; rfl) (lenOf pd_30 rfl) (Nat.le_of_eq rfl) (hb y d41_2) (by decide) (by decide) 5 rfl fun v1 T1 L1 X1 hQ1 => ?_
  obtain ⟨rfl, Nq1, Kq1, p1_0, p1_1, p1_2, p1_3, p1_4⟩ := hQ1
  have O2 := O.keep Kq1 (allS g_b1 all0)
  have N2 := Fr.app (Fr.nil n0) Nq1
  have K2 := Keep.trans (Keep.refl h0 [b1, b0, b3]) Kq1 (allS (Or.inl (by simp)) all0)
  refine o_nR ?_
  refine qA X1 hx (hb y d41_5) rfl rfl 6 rfl ?_
  refine qA X1 hx (hb y d41_6) rfl rfl 7 rfl ?_
  refine qC X1 hx (hb y d41_7) (0 : Int32) rfl 8 rfl ?_
  refine qC X1 hx (hb y d41_8) (1 : Int32) rfl 9 rfl ?_
  have f4 := (E_b0.keep Kq1)
  have f5 := (F_b0_loadFactor.keep Kq1 (ninS ne_b0_b1 nin0))
  have f6 := (F_b0_modCount.keep Kq1 (ninS ne_b0_b1 nin0))
  have f7 := (F_b0_size.keep Kq1 (ninS ne_b0_b1 nin0))
  have f8 := (F_b0_table.keep Kq1 (ninS ne_b0_b1 nin0))
  have f9 := (F_b0_threshold.keep Kq1 (ninS ne_b0_b1 nin0))
  have f10 := (V_b3.keep Kq1 (ninS (Ne.symm ne_b1_b3) nin0))
  have f11 := (A_b3.keep Kq1)
  refine o_kV X1 hx hZ hown (w hw 368 rfl) (w hw 369 rfl) (notFace_of_selects (args := #[]) (mvT hZ (w hw 371 rfl))) (w hw 371 rfl) (w hw 370 rfl) (w hw 109 rfl) (w hw 372 rfl) (by decide) b0 [(.int 113), (.ref b1), (.ref b2), (.int 0), (.int 1)] [] 0 (rm_putVal_84 l Z a0 T1.heap n0 hw O2 b0 b1 b2 b3 b5 k_b3 f4 f5 f6 f7 f8 f9 g_b0 f10 f11 P_b3 g_b3 ne_b0_b3) (by decide) (by decide) rfl f4 (by rw [hml]; rfl) (lenOf pd_35 rfl) (Nat.le_of_eq rfl) (hb y d41_9) (by decide) (by decide) 12 rfl fun v3 T3 L3 X3 hQ3 => ?_
  obtain ⟨q3_0, rfl, Nq3, Kq3, le_q3_0, p3_0, p3_1, p3_2, p3_3, p3_4, p3_5, p3_6, p3_7, p3_8, p3_9, p3_10, p3_11, p3_12⟩ := hQ3
  have z_q3_0 : h0.size ≤ q3_0 := Nat.le_trans (K2).1 le_q3_0
  have N12 := Fr.app N2 Nq3
  have K12 := Keep.trans K2 Kq3 (allS (Or.inl (by simp)) (allS (Or.inl (by simp)) all0))
  refine o_nR ?_
  have f13 := (p1_0.keep Kq3)
  have f14 := (p1_1.keep Kq3 (ninS ne_b1_b3 (ninS (Ne.symm ne_b0_b1) nin0)))
  have f15 := (p1_2.keep Kq3 (ninS ne_b1_b3 (ninS (Ne.symm ne_b0_b1) nin0)))
  have f16 := (p1_3.keep Kq3 (ninS ne_b1_b3 (ninS (Ne.symm ne_b0_b1) nin0)))
  have f17 := (p1_4.keep Kq3 (ninS ne_b1_b3 (ninS (Ne.symm ne_b0_b1) nin0)))
  exact qR X3 hx hk hret rfl rfl (hb y d41_12) rfl (by show Q_rm_put_80 Z h0 n0 b0 b1 b2 b3 b4 b5 k_b3 k_b4 _ T3.heap _; exact ⟨q3_0, rfl, N12, K12, z_q3_0, p3_0, p3_1, p3_2, p3_3, p3_4, p3_5, f13, f14, f15, f16, f17, p3_6, p3_7, p3_8, p3_9, p3_10, p3_11, p3_12⟩) (by decide) (by decide)
def Q_rm__init__68 (Z : State) (h0 : Heap) (n0 : Nat) (b0 : Addr) (b1 : Addr) (b2 : Addr) (b3 : Addr) (b4 : Addr) (b5 : Addr) (b6 : Addr) (b7 : Addr) (b8 : Addr) (b9 : Addr) (k_b3 : ClassId) (k_b8 : ClassId) (k_b9 : ClassId) (v : Option Value) (h : Heap) (L : List Loc) : Prop := ∃ (y0 : Addr), v = none ∧ Fr n0 L ∧ Keep h0 h [b0, b6, b7] ∧ h0.size ≤ y0 ∧ Exa Z h b0 s3 ∧ Fld Z h b0 s3 s35 s17 (.ref y0) ∧ Exa Z h b6 s4 ∧ Fld Z h b6 s4 s43 "B" (.int 0) ∧ Fld Z h b6 s4 s37 "I" (.int 112) ∧ Fld Z h b6 s4 s33 "Z" (.int 0) ∧ Fld Z h b6 s4 s34 "[B" (.ref b8) ∧ Exa Z h b7 s4 ∧ Fld Z h b7 s4 s43 "B" (.int 0) ∧ Fld Z h b7 s4 s37 "I" (.int 113) ∧ Fld Z h b7 s4 s33 "Z" (.int 0) ∧ Fld Z h b7 s4 s34 "[B" (.ref b9) ∧ Exa Z h y0 s9 ∧ Fld Z h y0 s9 "e0" s13 (.ref b4) ∧ Fld Z h y0 s9 "e1" s13 (.ref b5)
theorem rm__init__68 (hw : o_HW Z a0) (H : o_C Z Z.heap w_NW w_DC w_EL w_EA w_EM w_MO w_cacheI c_cacheI k_DC k_EA z_CS) (O : Old Z n0 h0) (b0 : Addr) (b1 : Addr) (b2 : Addr) (b3 : Addr) (b4 : Addr) (b5 : Addr) (b6 : Addr) (b7 : Addr) (b8 : Addr) (b9 : Addr) (k_b3 : ClassId) (k_b8 : ClassId) (k_b9 : ClassId) (E_b0 : Exa Z h0 b0 s3) (F_b0_numbers : Fld Z h0 b0 s3 "numbers" s59 .null) (F_b0_processes : Fld Z h0 b0 s3 s72 s17 .null) (F_b0_segments : Fld Z h0 b0 s3 s35 s17 .null) (g_b0 : n0 ≤ b0) (E_b1 : Exa Z h0 b1 s6) (F_b1_size : Fld Z h0 b1 s6 s26 "I" (.int 0)) (E_b2 : Exa Z h0 b2 s6) (F_b2_elementData : Fld Z h0 b2 s6 s27 s10 (.ref b3)) (F_b2_size : Fld Z h0 b2 s6 s26 "I" (.int 2)) (V_b3 : Arv Z h0 b3 k_b3 (.object s8) (10 : Int32) [(.ref b4), (.ref b5)] .null) (A_b3 : Exa Z h0 b3 s10) (E_b4 : Exa Z h0 b4 s1) (F_b4_name : Fld Z h0 b4 s1 "name" s42 (.ref b6)) (E_b5 : Exa Z h0 b5 s1) (F_b5_name : Fld Z h0 b5 s1 "name" s42 (.ref b7)) (g_b5 : n0 ≤ b5) (E_b6 : Exa Z h0 b6 s4) (F_b6_coder : Fld Z h0 b6 s4 s43 "B" (.int 0)) (F_b6_hash : Fld Z h0 b6 s4 s37 "I" (.int 0)) (F_b6_hashIsZero : Fld Z h0 b6 s4 s33 "Z" (.int 0)) (F_b6_value : Fld Z h0 b6 s4 s34 "[B" (.ref b8)) (g_b6 : n0 ≤ b6) (E_b7 : Exa Z h0 b7 s4) (F_b7_coder : Fld Z h0 b7 s4 s43 "B" (.int 0)) (F_b7_hash : Fld Z h0 b7 s4 s37 "I" (.int 0)) (F_b7_hashIsZero : Fld Z h0 b7 s4 s33 "Z" (.int 0)) (F_b7_value : Fld Z h0 b7 s4 s34 "[B" (.ref b9)) (g_b7 : n0 ≤ b7) (V_b8 : Arv Z h0 b8 k_b8 .byte (1 : Int32) [(.int 112)] (.int 0)) (A_b8 : Exa Z h0 b8 "[B") (V_b9 : Arv Z h0 b9 k_b9 .byte (1 : Int32) [(.int 113)] (.int 0)) (A_b9 : Exa Z h0 b9 "[B") (ne_b0_b1 : b0 ≠ b1) (ne_b0_b2 : b0 ≠ b2) (ne_b0_b3 : b0 ≠ b3) (ne_b0_b4 : b0 ≠ b4) (ne_b0_b5 : b0 ≠ b5) (ne_b0_b6 : b0 ≠ b6) (ne_b0_b7 : b0 ≠ b7) (ne_b0_b8 : b0 ≠ b8) (ne_b0_b9 : b0 ≠ b9) (ne_b5_b6 : b5 ≠ b6) (ne_b6_b7 : b6 ≠ b7) (ne_b6_b9 : b6 ≠ b9) :
    o_Met l (⟨s3, s50, s65⟩ : MethodName) B15 4 none [] (o_rm 8 6 36 102) Z #[(.ref b0), (.ref b1), (.ref b2)] h0 (Q_rm__init__68 Z h0 n0 b0 b1 b2 b3 b4 b5 b6 b7 b8 b9 k_b3 k_b8 k_b9) := by
  refine o_met (pN pn_11) ?_
  intro p e s m below meth c T0 hx y hml hown hret hk hnm hZ X0 e0
  obtain ⟨-, -, -, -, -, -, -, -, -, -, -, -, -, -, -, -, -, -, -⟩ := id H
  refine o_ent (ef_6 m b0 b1 b2) ?_
  refine qA X0 hx (hb y d12_0) rfl rfl 1 rfl ?_
  refine o_initO X0 hx hZ hown (w hw 106 rfl) (w hw 24 rfl) (w hw 25 rfl) e0 (by rw [hml]; rfl) (hb y d12_1) (by decide) 0 (Nat.le_of_eq rfl) (by decide) 4 rfl fun T1 X1 e1 => ?_
  refine qA X1 hx (hb y d12_4) rfl rfl 5 rfl ?_
  refine nO X1 hx hZ hown (w hw 107 rfl) (w hw 108 rfl) (w hw 109 rfl) e1 (hb y d12_5) 8 rfl (by decide) (by decide) fun T2 a2 g2 X2 E2 A2 D2 => ?_
  have g_a2 : n0 ≤ a2 := Nat.le_trans (o_osz O) (Nat.le_of_eq g2)
  have z_a2 : h0.size ≤ a2 := Nat.le_trans ((Keep.refl h0 [b0, b6, b7])).1 (Nat.le_of_eq g2)
  have O3 := O.ext E2
  have K3 := Keep.ext (Keep.refl h0 [b0, b6, b7]) E2
  have F2_loadFactor : Fld Z T2.heap a2 s7 s44 "F" (defaultValue .float) := D2 (Or.inr (w hw 122 rfl)) (ty := .float) (by decide)
  have F2_table : Fld Z T2.heap a2 s7 s61 s23 .null := D2 (Or.inl (w hw 374 rfl)) (ty := (.array (.object s5))) (by decide)
  have F2_threshold : Fld Z T2.heap a2 s7 s46 "I" (.int 0) := D2 (Or.inl (w hw 381 rfl)) (ty := .int) (by decide)
  have F2_modCount : Fld Z T2.heap a2 s7 s29 "I" (.int 0) := D2 (Or.inl (w hw 405 rfl)) (ty := .int) (by decide)
  have F2_size : Fld Z T2.heap a2 s7 s26 "I" (.int 0) := D2 (Or.inl (w hw 407 rfl)) (ty := .int) (by decide)
  refine qD X2 hx (hb y d12_8) rfl 9 rfl ?_
  refine kN X2 hx hZ rfl hown (w hw 110 rfl) (w hw 111 rfl) (w hw 109 rfl) (w hw 112 rfl) (by decide) a2 [] [(.ref a2), (.ref b0)] 2 (rm__init__20 l Z a0 T2.heap n0 hw O3 a2 A2 F2_loadFactor F2_modCount F2_size F2_table F2_threshold g_a2) (by decide) (by decide) rfl (by rw [hml]; rfl) (lenOf pd_4 rfl) (Nat.le_of_eq rfl) (hb y d12_9) (by decide) (by decide) 12 rfl fun v4 T4 L4 X4 hQ4 => ?_
  obtain ⟨rfl, Nq4, Kq4, p4_0, p4_1, p4_2, p4_3, p4_4, p4_5⟩ := hQ4
  have O5 := O3.keep Kq4 (allS g_a2 all0)
  have N5 := Fr.app (Fr.nil n0) Nq4
  have K5 := Keep.trans K3 Kq4 (allS (Or.inr z_a2) all0)
  refine o_nV ?_
  have ne7 := o_nl E_b0.lt (Nat.le_refl _) (Nat.le_of_eq g2)
  have f8 := ((F_b0_numbers.ext E2).keep Kq4 (ninS ne7 nin0))
  have f9 := ((E_b0.ext E2).keep Kq4)
  refine qP X4 hx hZ hown (host := "") (Or.inl (w hw 123 rfl)) Via.refl rfl f8 f9 (Or.inr ⟨(w hw 124 rfl), rfl, hnm⟩) (w hw 101 rfl) (ty := (.object s64)) (by decide) rfl rfl (hb y d12_12) 15 rfl fun T6 X6 W6 => ?_
  have G6 := Fld.same W6 f8
  have O10 := O5.wr W6 g_b0
  have N10 := Fr.snoc X6 N5 g_b0
  have K10 := Keep.wr K5 W6 (Or.inl (by simp))
  refine qA X6 hx (hb y d12_15) rfl rfl 16 rfl ?_
  refine qA X6 hx (hb y d12_16) rfl rfl 17 rfl ?_
  have f12 := (((E_b1.ext E2).keep Kq4).wr W6)
  have ne13 := o_nl E_b1.lt (Nat.le_refl _) (Nat.le_of_eq g2)
  have f14 := (o_fo ((F_b1_size.ext E2).keep Kq4 (ninS ne13 nin0)) W6 ne_b0_b1)
  refine qS X6 hx hZ hown (w hw 125 rfl) (w hw 68 rfl) (w hw 69 rfl) (w hw 70 rfl) (by decide) [(.ref b1)] [(.ref b0)] 1 (rm_copyOf_9 l Z a0 T6.heap n0 hw H O10 b1 f12 f14) (by decide) (by decide) rfl rfl rfl (by rw [hml]; rfl) (lenOf pd_7 rfl) (Nat.le_of_eq rfl) (hb y d12_17) 20 rfl rfl (by decide) (by decide) fun T15 X15 e15 => ?_
  have f17 := (((F_b0_processes.ext E2).keep Kq4 (ninS ne7 nin0)).other W6 (Or.inr (sn_18 hw)))
  have f18 := (f9.wr W6)
  refine qP X15 hx hZ hown (host := "") (Or.inl (w hw 126 rfl)) Via.refl e15 f17 f18 (Or.inr ⟨(w hw 127 rfl), rfl, hnm⟩) (w hw 101 rfl) (ty := (.object s21)) (by decide) rfl rfl (hb y d12_20) 23 rfl fun T16 X16 W16 => ?_
  have O19 := O10.wr W16 g_b0
  have N19 := Fr.snoc X16 N10 g_b0
  have K19 := Keep.wr K10 W16 (Or.inl (by simp))
  refine qA X16 hx (hb y d12_23) rfl rfl 24 rfl ?_
  refine qA X16 hx (hb y d12_24) rfl rfl 25 rfl ?_
  have f21 := ((((E_b2.ext E2).keep Kq4).wr W6).wr W16)
  have ne22 := o_nl E_b2.lt (Nat.le_refl _) (Nat.le_of_eq g2)
  have f23 := (o_fo (o_fo ((F_b2_elementData.ext E2).keep Kq4 (ninS ne22 nin0)) W6 ne_b0_b2) W16 ne_b0_b2)
  have f24 := (o_fo (o_fo ((F_b2_size.ext E2).keep Kq4 (ninS ne22 nin0)) W6 ne_b0_b2) W16 ne_b0_b2)
  have ne25 := o_nl A_b3.lt (Nat.le_refl _) (Nat.le_of_eq g2)
  have f26 := (o_vo (o_vo ((V_b3.ext E2).keep Kq4 (ninS ne25 nin0)) W6 ne_b0_b3) W16 ne_b0_b3)
  have f27 := ((((A_b3.ext E2).keep Kq4).wr W6).wr W16)
  have f28 := ((((E_b4.ext E2).keep Kq4).wr W6).wr W16)
  have f29 := ((((E_b5.ext E2).keep Kq4).wr W6).wr W16)
  refine kS X16 hx hZ hown (w hw 125 rfl) (w hw 68 rfl) (w hw 69 rfl) (w hw 70 rfl) (by decide) [(.ref b2)] [(.ref b0)] 1 (rm_copyOf_69 l Z a0 T16.heap n0 hw H O19 b2 b3 b4 b5 k_b3 f21 f23 f24 f26 f27 f28 f29) (by decide) (by decide) rfl (by rw [hml]; rfl) (lenOf pd_7 rfl) (Nat.le_of_eq rfl) (hb y d12_25) (by decide) (by decide) 28 rfl fun v20 T20 L20 X20 hQ20 => ?_
  obtain ⟨q20_0, rfl, Nq20, Kq20, le_q20_0, p20_0, p20_1, p20_2⟩ := hQ20
  have z_q20_0 : h0.size ≤ q20_0 := Nat.le_trans (K19).1 le_q20_0
  have O30 := O19.keep Kq20 all0
  have N30 := Fr.app N19 Nq20
  have K30 := Keep.trans K19 Kq20 all0
  refine o_nR ?_
  have f32 := (((((F_b0_segments.ext E2).keep Kq4 (ninS ne7 nin0)).other W6 (Or.inr (sn_19 hw))).other W16 (Or.inr (sn_20 hw))).keep Kq20 nin0)
  have f33 := ((f18.wr W16).keep Kq20)
  refine qP X20 hx hZ hown (host := "") (Or.inl (w hw 128 rfl)) Via.refl rfl f32 f33 (Or.inr ⟨(w hw 129 rfl), rfl, hnm⟩) (w hw 101 rfl) (ty := (.object s21)) (by decide) rfl rfl (hb y d12_28) 31 rfl fun T31 X31 W31 => ?_
  have G31 := Fld.same W31 f32
  have O34 := O30.wr W31 g_b0
  have N34 := Fr.snoc X31 N30 g_b0
  have K34 := Keep.wr K30 W31 (Or.inl (by simp))
  refine qC X31 hx (hb y d12_31) (0 : Int32) rfl 32 rfl ?_
  refine qk X31 hx (hb y d12_32) #[.val (.ref b0), .val (.ref b1), .val (.ref b2), .val (.int 0)] rfl 33 rfl ?_
  refine qI X31 hx (hb y d12_33) rfl 34 rfl ?_
  refine qA X31 hx (hb y d12_34) rfl rfl 35 rfl ?_
  refine qF X31 hx hZ hown (host := "") (Or.inl (w hw 128 rfl)) Via.refl rfl G31 (hb y d12_35) 38 rfl fun T35 X35 e35 => ?_
  have f37 := (p20_0.wr W31)
  have l40 := (Nat.le_trans (Nat.le_trans (Nat.le_trans E2.1 Kq4.1) (Nat.le_of_eq (Wr.size W6).symm)) (Nat.le_of_eq (Wr.size W16).symm))
  have ne39 := o_nl E_b0.lt l40 le_q20_0
  have f41 := (o_fo p20_2 W31 ne39)
  refine oC (cI X35 hx hZ hown (w hw 130 rfl) (w hw 131 rfl) (w hw 132 rfl) (w hw 440 rfl) (w hw 441 rfl) (w hw 442 rfl) (w hw 443 rfl) (w hw 444 rfl) (w hw 426 rfl) (w hw 445 rfl) (by decide) (by decide) q20_0 [] [(.int 0)] 1 (rm_size_78 l Z a0 T31.heap n0 hw H O34 q20_0 b5 f41 g_b5) (by decide) (by decide) e35 f37 (by rw [hml]; rfl) (lenOf pd_9 rfl) (Nat.le_of_eq rfl) (hb y d12_38) 43 rfl (by decide) (by decide)) rfl rfl fun T42 X42 e42 => ?_
  refine qn X42 hx (hb y d12_43) (tlt (by decide : (0 : Int32) < (2 : Int32))).2.1 46 rfl ?_
  refine qA X42 hx (hb y d12_46) rfl rfl 47 rfl ?_
  have f43 := (((G6.other W16 (Or.inr (Ne.symm (sn_18 hw)))).keep Kq20 nin0).other W31 (Or.inr (Ne.symm (sn_19 hw))))
  refine qF X42 hx hZ hown (host := "") (Or.inl (w hw 123 rfl)) Via.refl e42 f43 (hb y d12_47) 50 rfl fun T44 X44 e44 => ?_
  refine qA X44 hx (hb y d12_50) rfl rfl 51 rfl ?_
  refine qF X44 hx hZ hown (host := "") (Or.inl (w hw 128 rfl)) Via.refl e44 G31 (hb y d12_51) 54 rfl fun T45 X45 e45 => ?_
  refine qI X45 hx (hb y d12_54) rfl 55 rfl ?_
  have f47 := (o_fo p20_1 W31 ne39)
  refine oC (cI X45 hx hZ hown (w hw 317 rfl) (w hw 318 rfl) (w hw 319 rfl) (w hw 447 rfl) (w hw 448 rfl) (w hw 449 rfl) (w hw 450 rfl) (w hw 444 rfl) (w hw 426 rfl) (w hw 451 rfl) (by decide) (by decide) q20_0 [(.int 0)] [(.ref a2)] 1 (rm_get_47 l Z a0 T31.heap n0 hw O34 q20_0 b4 f47) (by decide) (by decide) e45 f37 (by rw [hml]; rfl) (lenOf pd_26 rfl) (Nat.le_of_eq rfl) (hb y d12_55) 60 rfl (by decide) (by decide)) rfl rfl fun T48 X48 e48 => ?_
  have f49 := ((f28.keep Kq20).wr W31)
  refine o_cast X48 hx hZ hown (w hw 325 rfl) e48 (Ins.self f49) (hb y d12_60) 63 rfl fun T50 X50 e50 => ?_
  have ne52 := o_nl E_b4.lt (Nat.le_refl _) (Nat.le_of_eq g2)
  have f53 := (o_fo ((o_fo (o_fo ((F_b4_name.ext E2).keep Kq4 (ninS ne52 nin0)) W6 ne_b0_b4) W16 ne_b0_b4).keep Kq20 nin0) W31 ne_b0_b4)
  refine qV X50 hx hZ hown (w hw 326 rfl) (w hw 327 rfl) (notFace_of_selects (args := #[]) (mvT hZ (w hw 329 rfl))) (w hw 329 rfl) (w hw 328 rfl) (w hw 3 rfl) (w hw 330 rfl) (by decide) b4 [] [(.ref a2)] 1 (rm_name_48 l Z a0 T31.heap n0 hw O34 b4 b6 f53) (by decide) (by decide) rfl rfl e50 f49 (by rw [hml]; rfl) (lenOf pd_27 rfl) (Nat.le_of_eq rfl) (hb y d12_63) 66 rfl rfl (by decide) (by decide) fun T54 X54 e54 => ?_
  refine qI X54 hx (hb y d12_66) rfl 67 rfl ?_
  refine qC X54 hx (hb y d12_67) (1 : Int32) rfl 68 rfl ?_
  refine o_iadd X54 hx (hb y d12_68) 69 rfl ?_
  refine o_topI (1 : Int32) (by decide) ?_
  refine kS X54 hx hZ hown (w hw 331 rfl) (w hw 332 rfl) (w hw 333 rfl) (w hw 334 rfl) (by decide) [(.int 1)] [(.ref b6), (.ref a2)] 2 (rm_boxI_1 l Z a0 T31.heap n0 hw H O34) (by decide) (by decide) e54 (by rw [hml]; rfl) (lenOf pd_28 rfl) (Nat.le_of_eq rfl) (hb y d12_69) (by decide) (by decide) 72 rfl fun v55 T55 L55 X55 hQ55 => ?_
  obtain ⟨r55, rfl, Nq55, Kq55, p55_0, p55_1⟩ := hQ55
  have O56 := O34.keep Kq55 all0
  have N56 := Fr.app N34 Nq55
  have K56 := Keep.trans K34 Kq55 all0
  refine o_nR ?_
  have f58 := (((((p4_0.wr W6).wr W16).keep Kq20).wr W31).keep Kq55)
  have f59 := ((o_fo ((o_fo (o_fo p4_1 W6 ne7) W16 ne7).keep Kq20 nin0) W31 ne7).keep Kq55 nin0)
  have f60 := ((o_fo ((o_fo (o_fo p4_2 W6 ne7) W16 ne7).keep Kq20 nin0) W31 ne7).keep Kq55 nin0)
  have f61 := ((o_fo ((o_fo (o_fo p4_3 W6 ne7) W16 ne7).keep Kq20 nin0) W31 ne7).keep Kq55 nin0)
  have f62 := ((o_fo ((o_fo (o_fo p4_4 W6 ne7) W16 ne7).keep Kq20 nin0) W31 ne7).keep Kq55 nin0)
  have f63 := ((o_fo ((o_fo (o_fo p4_5 W6 ne7) W16 ne7).keep Kq20 nin0) W31 ne7).keep Kq55 nin0)
  have f64 := (((((((E_b6.ext E2).keep Kq4).wr W6).wr W16).keep Kq20).wr W31).keep Kq55)
  have ne65 := o_nl E_b6.lt (Nat.le_refl _) (Nat.le_of_eq g2)
  have f66 := ((o_fo ((o_fo (o_fo ((F_b6_coder.ext E2).keep Kq4 (ninS ne65 nin0)) W6 ne_b0_b6) W16 ne_b0_b6).keep Kq20 nin0) W31 ne_b0_b6).keep Kq55 nin0)
  have f67 := ((o_fo ((o_fo (o_fo ((F_b6_hash.ext E2).keep Kq4 (ninS ne65 nin0)) W6 ne_b0_b6) W16 ne_b0_b6).keep Kq20 nin0) W31 ne_b0_b6).keep Kq55 nin0)
  have f68 := ((o_fo ((o_fo (o_fo ((F_b6_hashIsZero.ext E2).keep Kq4 (ninS ne65 nin0)) W6 ne_b0_b6) W16 ne_b0_b6).keep Kq20 nin0) W31 ne_b0_b6).keep Kq55 nin0)
  have f69 := ((o_fo ((o_fo (o_fo ((F_b6_value.ext E2).keep Kq4 (ninS ne65 nin0)) W6 ne_b0_b6) W16 ne_b0_b6).keep Kq20 nin0) W31 ne_b0_b6).keep Kq55 nin0)
  have ne70 := o_nl A_b8.lt (Nat.le_refl _) (Nat.le_of_eq g2)
  have f71 := ((o_vo ((o_vo (o_vo ((V_b8.ext E2).keep Kq4 (ninS ne70 nin0)) W6 ne_b0_b8) W16 ne_b0_b8).keep Kq20 nin0) W31 ne_b0_b8).keep Kq55 nin0)
  refine kI X55 hx hZ hown (w hw 338 rfl) (w hw 339 rfl) (w hw 340 rfl) (w hw 341 rfl) (w hw 342 rfl) (w hw 343 rfl) (w hw 344 rfl) (w hw 345 rfl) (w hw 109 rfl) (w hw 346 rfl) (by decide) (by decide) a2 [(.ref b6), (.ref r55)] [] 0 (rm_put_49 l Z a0 T55.heap n0 hw H O56 a2 b6 r55 b8 k_b8 f58 f59 f60 f61 f62 f63 g_a2 f64 f66 f67 f68 f69 g_b6 f71 (Ne.symm ne65)) (by decide) (by decide) rfl f58 (by rw [hml]; rfl) (lenOf pd_36 rfl) (Nat.le_of_eq rfl) (hb y d12_72) 77 rfl (by decide) (by decide) fun v57 T57 L57 X57 hQ57 => ?_
  obtain ⟨q57_0, q57_1, qk57_0, rfl, Nq57, Kq57, le_q57_0, le_q57_1, ne_q57_0_q57_1, p57_0, p57_1, p57_2, p57_3, p57_4, p57_5, p57_6, p57_7, p57_8, p57_9, p57_10, p57_11, p57_12, p57_13, p57_14, p57_15, p57_16, p57_17, p57_18⟩ := hQ57
  have g_q57_0 : n0 ≤ q57_0 := Nat.le_trans (o_osz O56) le_q57_0
  have z_q57_0 : h0.size ≤ q57_0 := Nat.le_trans (K56).1 le_q57_0
  have O72 := O56.keep Kq57 (allS g_b6 (allS g_a2 all0))
  have N72 := Fr.app N56 Nq57
  have K72 := Keep.trans K56 Kq57 (allS (Or.inl (by simp)) (allS (Or.inr z_a2) all0))
  refine o_nR ?_
  refine o_pop X57 hx (hb y d12_77) rfl 78 rfl ?_
  refine o_iincC X57 hx (hb y d12_78) #[.val (.ref b0), .val (.ref b1), .val (.ref b2), .val (.int 1)] rfl (1 : Int32) (by decide) rfl 81 rfl ?_
  refine qG X57 hx (hb y d12_81) 33 (by decide) (by decide) ?_
  refine qI X57 hx (hb y d12_33) rfl 34 rfl ?_
  refine qA X57 hx (hb y d12_34) rfl rfl 35 rfl ?_
  have f73 := ((G31.keep Kq55 nin0).keep Kq57 (ninS ne_b0_b6 (ninS ne7 nin0)))
  refine qF X57 hx hZ hown (host := "") (Or.inl (w hw 128 rfl)) Via.refl rfl f73 (hb y d12_35) 38 rfl fun T74 X74 e74 => ?_
  have f76 := ((f37.keep Kq55).keep Kq57)
  have l79 := (Nat.le_trans (Nat.le_trans Kq4.1 (Nat.le_of_eq (Wr.size W6).symm)) (Nat.le_of_eq (Wr.size W16).symm))
  have ne78 := o_nl A2.lt l79 le_q20_0
  have ne81 := o_nl E_b6.lt l40 le_q20_0
  have f82 := ((f41.keep Kq55 nin0).keep Kq57 (ninS (Ne.symm ne81) (ninS (Ne.symm ne78) nin0)))
  refine oC (cI X74 hx hZ hown (w hw 130 rfl) (w hw 131 rfl) (w hw 132 rfl) (w hw 440 rfl) (w hw 441 rfl) (w hw 442 rfl) (w hw 443 rfl) (w hw 444 rfl) (w hw 426 rfl) (w hw 445 rfl) (by decide) (by decide) q20_0 [] [(.int 1)] 1 (rm_size_78 l Z a0 T57.heap n0 hw H O72 q20_0 b5 f82 g_b5) (by decide) (by decide) e74 f76 (by rw [hml]; rfl) (lenOf pd_9 rfl) (Nat.le_of_eq rfl) (hb y d12_38) 43 rfl (by decide) (by decide)) rfl rfl fun T83 X83 e83 => ?_
  refine qn X83 hx (hb y d12_43) (tlt (by decide : (1 : Int32) < (2 : Int32))).2.1 46 rfl ?_
  refine qA X83 hx (hb y d12_46) rfl rfl 47 rfl ?_
  have f84 := ((f43.keep Kq55 nin0).keep Kq57 (ninS ne_b0_b6 (ninS ne7 nin0)))
  refine qF X83 hx hZ hown (host := "") (Or.inl (w hw 123 rfl)) Via.refl e83 f84 (hb y d12_47) 50 rfl fun T85 X85 e85 => ?_
  refine qA X85 hx (hb y d12_50) rfl rfl 51 rfl ?_
  refine qF X85 hx hZ hown (host := "") (Or.inl (w hw 128 rfl)) Via.refl e85 f73 (hb y d12_51) 54 rfl fun T86 X86 e86 => ?_
  refine qI X86 hx (hb y d12_54) rfl 55 rfl ?_
  refine oC (cI X86 hx hZ hown (w hw 317 rfl) (w hw 318 rfl) (w hw 319 rfl) (w hw 447 rfl) (w hw 448 rfl) (w hw 449 rfl) (w hw 450 rfl) (w hw 444 rfl) (w hw 426 rfl) (w hw 451 rfl) (by decide) (by decide) q20_0 [(.int 1)] [(.ref a2)] 1 (rm_get_79 l Z a0 T57.heap n0 hw H O72 q20_0 b5 f82 g_b5) (by decide) (by decide) e86 f76 (by rw [hml]; rfl) (lenOf pd_26 rfl) (Nat.le_of_eq rfl) (hb y d12_55) 60 rfl (by decide) (by decide)) rfl rfl fun T88 X88 e88 => ?_
  have f89 := ((((f29.keep Kq20).wr W31).keep Kq55).keep Kq57)
  refine o_cast X88 hx hZ hown (w hw 325 rfl) e88 (Ins.self f89) (hb y d12_60) 63 rfl fun T90 X90 e90 => ?_
  have ne92 := o_nl E_b5.lt (Nat.le_refl _) (Nat.le_of_eq g2)
  have f93 := (((o_fo ((o_fo (o_fo ((F_b5_name.ext E2).keep Kq4 (ninS ne92 nin0)) W6 ne_b0_b5) W16 ne_b0_b5).keep Kq20 nin0) W31 ne_b0_b5).keep Kq55 nin0).keep Kq57 (ninS ne_b5_b6 (ninS ne92 nin0)))
  refine qV X90 hx hZ hown (w hw 326 rfl) (w hw 327 rfl) (notFace_of_selects (args := #[]) (mvT hZ (w hw 329 rfl))) (w hw 329 rfl) (w hw 328 rfl) (w hw 3 rfl) (w hw 330 rfl) (by decide) b5 [] [(.ref a2)] 1 (rm_name_48 l Z a0 T57.heap n0 hw O72 b5 b7 f93) (by decide) (by decide) rfl rfl e90 f89 (by rw [hml]; rfl) (lenOf pd_27 rfl) (Nat.le_of_eq rfl) (hb y d12_63) 66 rfl rfl (by decide) (by decide) fun T94 X94 e94 => ?_
  refine qI X94 hx (hb y d12_66) rfl 67 rfl ?_
  refine qC X94 hx (hb y d12_67) (1 : Int32) rfl 68 rfl ?_
  refine o_iadd X94 hx (hb y d12_68) 69 rfl ?_
  refine o_topI (2 : Int32) (by decide) ?_
  refine kS X94 hx hZ hown (w hw 331 rfl) (w hw 332 rfl) (w hw 333 rfl) (w hw 334 rfl) (by decide) [(.int 2)] [(.ref b7), (.ref a2)] 2 (rm_boxI_2 l Z a0 T57.heap n0 hw H O72) (by decide) (by decide) e94 (by rw [hml]; rfl) (lenOf pd_28 rfl) (Nat.le_of_eq rfl) (hb y d12_69) (by decide) (by decide) 72 rfl fun v95 T95 L95 X95 hQ95 => ?_
  obtain ⟨r95, rfl, Nq95, Kq95, p95_0, p95_1⟩ := hQ95
  have O96 := O72.keep Kq95 all0
  have N96 := Fr.app N72 Nq95
  have K96 := Keep.trans K72 Kq95 all0
  refine o_nR ?_
  have f98 := (p57_0.keep Kq95)
  have f99 := (p57_1.keep Kq95 nin0)
  have f100 := (p57_2.keep Kq95 nin0)
  have f101 := (p57_3.keep Kq95 nin0)
  have f102 := (p57_4.keep Kq95 nin0)
  have f103 := (p57_5.keep Kq95 nin0)
  have f104 := (((((((((E_b7.ext E2).keep Kq4).wr W6).wr W16).keep Kq20).wr W31).keep Kq55).keep Kq57).keep Kq95)
  have ne105 := o_nl E_b7.lt (Nat.le_refl _) (Nat.le_of_eq g2)
  have f106 := ((((o_fo ((o_fo (o_fo ((F_b7_coder.ext E2).keep Kq4 (ninS ne105 nin0)) W6 ne_b0_b7) W16 ne_b0_b7).keep Kq20 nin0) W31 ne_b0_b7).keep Kq55 nin0).keep Kq57 (ninS (Ne.symm ne_b6_b7) (ninS ne105 nin0))).keep Kq95 nin0)
  have f107 := ((((o_fo ((o_fo (o_fo ((F_b7_hash.ext E2).keep Kq4 (ninS ne105 nin0)) W6 ne_b0_b7) W16 ne_b0_b7).keep Kq20 nin0) W31 ne_b0_b7).keep Kq55 nin0).keep Kq57 (ninS (Ne.symm ne_b6_b7) (ninS ne105 nin0))).keep Kq95 nin0)
  have f108 := ((((o_fo ((o_fo (o_fo ((F_b7_hashIsZero.ext E2).keep Kq4 (ninS ne105 nin0)) W6 ne_b0_b7) W16 ne_b0_b7).keep Kq20 nin0) W31 ne_b0_b7).keep Kq55 nin0).keep Kq57 (ninS (Ne.symm ne_b6_b7) (ninS ne105 nin0))).keep Kq95 nin0)
  have f109 := ((((o_fo ((o_fo (o_fo ((F_b7_value.ext E2).keep Kq4 (ninS ne105 nin0)) W6 ne_b0_b7) W16 ne_b0_b7).keep Kq20 nin0) W31 ne_b0_b7).keep Kq55 nin0).keep Kq57 (ninS (Ne.symm ne_b6_b7) (ninS ne105 nin0))).keep Kq95 nin0)
  have f110 := (p57_11.keep Kq95 nin0)
  have f111 := (p57_12.keep Kq95)
  have ne112 := o_nl A_b9.lt (Nat.le_refl _) (Nat.le_of_eq g2)
  have f113 := ((((o_vo ((o_vo (o_vo ((V_b9.ext E2).keep Kq4 (ninS ne112 nin0)) W6 ne_b0_b9) W16 ne_b0_b9).keep Kq20 nin0) W31 ne_b0_b9).keep Kq55 nin0).keep Kq57 (ninS (Ne.symm ne_b6_b9) (ninS ne112 nin0))).keep Kq95 nin0)
  have l115 := (Nat.le_trans (Nat.le_trans (Nat.le_trans l79 Kq20.1) (Nat.le_of_eq (Wr.size W31).symm)) Kq55.1)
  have ne114 := o_nl A2.lt l115 le_q57_0
  have l117 := (Nat.le_trans (Nat.le_trans (Nat.le_trans l40 Kq20.1) (Nat.le_of_eq (Wr.size W31).symm)) Kq55.1)
  have ne116 := o_nl E_b7.lt l117 le_q57_0
  refine kI X95 hx hZ hown (w hw 338 rfl) (w hw 339 rfl) (w hw 340 rfl) (w hw 341 rfl) (w hw 342 rfl) (w hw 343 rfl) (w hw 344 rfl) (w hw 345 rfl) (w hw 109 rfl) (w hw 346 rfl) (by decide) (by decide) a2 [(.ref b7), (.ref r95)] [] 0 (rm_put_80 l Z a0 T95.heap n0 hw H O96 a2 b7 r95 q57_0 b9 q57_1 qk57_0 k_b9 f98 f99 f100 f101 f102 f103 g_a2 f104 f106 f107 f108 f109 g_b7 f110 f111 p57_13 g_q57_0 f113 (Ne.symm ne105) ne114 ne116) (by decide) (by decide) rfl f98 (by rw [hml]; rfl) (lenOf pd_36 rfl) (Nat.le_of_eq rfl) (hb y d12_72) 77 rfl (by decide) (by decide) fun v97 T97 L97 X97 hQ97 => ?_
  obtain ⟨q97_0, rfl, Nq97, Kq97, le_q97_0, p97_0, p97_1, p97_2, p97_3, p97_4, p97_5, p97_6, p97_7, p97_8, p97_9, p97_10, p97_11, p97_12, p97_13, p97_14, p97_15, p97_16, p97_17⟩ := hQ97
  have O118 := O96.keep Kq97 (allS g_b7 (allS g_a2 (allS g_q57_0 all0)))
  have N118 := Fr.app N96 Nq97
  have K118 := Keep.trans K96 Kq97 (allS (Or.inl (by simp)) (allS (Or.inr z_a2) (allS (Or.inr z_q57_0) all0)))
  refine o_nR ?_
  refine o_pop X97 hx (hb y d12_77) rfl 78 rfl ?_
  refine o_iincC X97 hx (hb y d12_78) #[.val (.ref b0), .val (.ref b1), .val (.ref b2), .val (.int 2)] rfl (2 : Int32) (by decide) rfl 81 rfl ?_
  refine qG X97 hx (hb y d12_81) 33 (by decide) (by decide) ?_
  refine qI X97 hx (hb y d12_33) rfl 34 rfl ?_
  refine qA X97 hx (hb y d12_34) rfl rfl 35 rfl ?_
  have ne119 := o_nl E_b0.lt l117 le_q57_0
  have f120 := ((f73.keep Kq95 nin0).keep Kq97 (ninS ne_b0_b7 (ninS ne7 (ninS ne119 nin0))))
  refine qF X97 hx hZ hown (host := "") (Or.inl (w hw 128 rfl)) Via.refl rfl f120 (hb y d12_35) 38 rfl fun T121 X121 e121 => ?_
  have f123 := ((f76.keep Kq95).keep Kq97)
  have l125 := (Nat.le_trans (Nat.le_of_eq (Wr.size W31).symm) Kq55.1)
  have ne124 := o_nl p20_0.lt l125 le_q57_0
  have ne127 := o_nl E_b7.lt l40 le_q20_0
  have f128 := ((f82.keep Kq95 nin0).keep Kq97 (ninS (Ne.symm ne127) (ninS (Ne.symm ne78) (ninS ne124 nin0))))
  refine oC (cI X121 hx hZ hown (w hw 130 rfl) (w hw 131 rfl) (w hw 132 rfl) (w hw 440 rfl) (w hw 441 rfl) (w hw 442 rfl) (w hw 443 rfl) (w hw 444 rfl) (w hw 426 rfl) (w hw 445 rfl) (by decide) (by decide) q20_0 [] [(.int 2)] 1 (rm_size_78 l Z a0 T97.heap n0 hw H O118 q20_0 b5 f128 g_b5) (by decide) (by decide) e121 f123 (by rw [hml]; rfl) (lenOf pd_9 rfl) (Nat.le_of_eq rfl) (hb y d12_38) 43 rfl (by decide) (by decide)) rfl rfl fun T129 X129 e129 => ?_
  refine o_icmpY X129 hx (hb y d12_43) (flt (by decide : ¬ ((2 : Int32) < (2 : Int32)))).2.1 84 (by decide) (by decide) ?_
  have f130 := (((((f33.wr W31).keep Kq55).keep Kq57).keep Kq95).keep Kq97)
  have f131 := ((p57_6.keep Kq95).keep Kq97)
  have ne132 := o_nl E_b6.lt l117 le_q57_0
  have f133 := ((p57_7.keep Kq95 nin0).keep Kq97 (ninS ne_b6_b7 (ninS ne65 (ninS ne132 nin0))))
  have f134 := ((p57_8.keep Kq95 nin0).keep Kq97 (ninS ne_b6_b7 (ninS ne65 (ninS ne132 nin0))))
  have f135 := ((p57_9.keep Kq95 nin0).keep Kq97 (ninS ne_b6_b7 (ninS ne65 (ninS ne132 nin0))))
  have f136 := ((p57_10.keep Kq95 nin0).keep Kq97 (ninS ne_b6_b7 (ninS ne65 (ninS ne132 nin0))))
  have f137 := ((((f47.keep Kq55 nin0).keep Kq57 (ninS (Ne.symm ne81) (ninS (Ne.symm ne78) nin0))).keep Kq95 nin0).keep Kq97 (ninS (Ne.symm ne127) (ninS (Ne.symm ne78) (ninS ne124 nin0))))
  exact qv X129 hx hk hret (hb y d12_84) (by show Q_rm__init__68 Z h0 n0 b0 b1 b2 b3 b4 b5 b6 b7 b8 b9 k_b3 k_b8 k_b9 _ T129.heap _; rw [e129]; exact ⟨q20_0, rfl, N118, K118, z_q20_0, f130, f120, f131, f133, f134, f135, f136, p97_6, p97_7, p97_8, p97_9, p97_10, f123, f137, f128⟩) (by decide) (by decide)
def Q_rm__init__89 (Z : State) (h0 : Heap) (n0 : Nat) (b0 : Addr) (b1 : Addr) (v : Option Value) (h : Heap) (L : List Loc) : Prop := v = none ∧ Fr n0 L ∧ Keep h0 h [b0] ∧ Exa Z h b0 s2 ∧ Fld Z h b0 s2 s41 "I" (.int 0) ∧ Fld Z h b0 s2 s32 "Z" (.int 0) ∧ Fld Z h b0 s2 s55 s17 (.ref b1) ∧ Fld Z h b0 s2 s26 "I" (.int 2)
theorem rm__init__89 (hw : o_HW Z a0) (O : Old Z n0 h0) (b0 : Addr) (b1 : Addr) (E_b0 : Exa Z h0 b0 s2) (F_b0_cursor : Fld Z h0 b0 s2 s41 "I" (.int 0)) (F_b0_isListIterator : Fld Z h0 b0 s2 s32 "Z" (.int 0)) (F_b0_list : Fld Z h0 b0 s2 s55 s17 .null) (F_b0_size : Fld Z h0 b0 s2 s26 "I" (.int 0)) (g_b0 : n0 ≤ b0) :
    o_Met l (⟨s2, s50, "(Ljava/util/List;I)V"⟩ : MethodName) B17 3 none [] (o_rm 1 0 0 12) Z #[(.ref b0), (.ref b1), (.int 2)] h0 (Q_rm__init__89 Z h0 n0 b0 b1) := by
  refine o_met (pN pn_12) ?_
  intro p e s m below meth c T0 hx y hml hown hret hk hnm hZ X0 e0
  refine o_ent (ef_1 m b0 b1 (2 : Int32)) ?_
  refine qA X0 hx (hb y d19_0) rfl rfl 1 rfl ?_
  refine o_initO X0 hx hZ hown (w hw 196 rfl) (w hw 24 rfl) (w hw 25 rfl) e0 (by rw [hml]; rfl) (hb y d19_1) (by decide) 0 (Nat.le_of_eq rfl) (by decide) 4 rfl fun T1 X1 e1 => ?_
  refine qA X1 hx (hb y d19_4) rfl rfl 5 rfl ?_
  refine qA X1 hx (hb y d19_5) rfl rfl 6 rfl ?_
  refine qP X1 hx hZ hown (host := "") (Or.inl (w hw 197 rfl)) Via.refl e1 F_b0_list E_b0 (Or.inr ⟨(w hw 198 rfl), rfl, hnm⟩) (w hw 186 rfl) (ty := (.object s21)) (by decide) rfl rfl (hb y d19_6) 9 rfl fun T2 X2 W2 => ?_
  have G2 := Fld.same W2 F_b0_list
  have N3 := Fr.snoc X2 (Fr.nil n0) g_b0
  have K3 := Keep.wr (Keep.refl h0 [b0]) W2 (Or.inl (by simp))
  refine qA X2 hx (hb y d19_9) rfl rfl 10 rfl ?_
  refine qI X2 hx (hb y d19_10) rfl 11 rfl ?_
  have f5 := (F_b0_size.other W2 (Or.inr (sn_49 hw)))
  have f6 := (E_b0.wr W2)
  refine qP X2 hx hZ hown (host := "") (Or.inl (w hw 199 rfl)) Via.refl rfl f5 f6 (Or.inr ⟨(w hw 200 rfl), rfl, hnm⟩) (w hw 186 rfl) (ty := .int) (by decide) rfl rfl (hb y d19_11) 14 rfl fun T4 X4 W4 => ?_
  have G4 := Fld.same W4 f5
  have N7 := Fr.snoc X4 N3 g_b0
  have K7 := Keep.wr K3 W4 (Or.inl (by simp))
  refine qA X4 hx (hb y d19_14) rfl rfl 15 rfl ?_
  refine qC X4 hx (hb y d19_15) (0 : Int32) rfl 16 rfl ?_
  have f9 := ((F_b0_cursor.other W2 (Or.inr (sn_50 hw))).other W4 (Or.inr (sn_51 hw)))
  have f10 := (f6.wr W4)
  refine qP X4 hx hZ hown (host := "") (Or.inl (w hw 201 rfl)) Via.refl rfl f9 f10 (Or.inl (w hw 202 rfl)) (w hw 186 rfl) (ty := .int) (by decide) rfl rfl (hb y d19_16) 19 rfl fun T8 X8 W8 => ?_
  have G8 := Fld.same W8 f9
  have N11 := Fr.snoc X8 N7 g_b0
  have K11 := Keep.wr K7 W8 (Or.inl (by simp))
  refine qA X8 hx (hb y d19_19) rfl rfl 20 rfl ?_
  refine qC X8 hx (hb y d19_20) (0 : Int32) rfl 21 rfl ?_
  have f13 := (((F_b0_isListIterator.other W2 (Or.inr (sn_52 hw))).other W4 (Or.inr (sn_53 hw))).other W8 (Or.inr (sn_54 hw)))
  have f14 := (f10.wr W8)
  refine o_putFN X8 hx hZ hown (w hw 203 rfl) Via.refl rfl ((.int 0)) f13 f14 (Or.inr ⟨(w hw 204 rfl), rfl, hnm⟩) (w hw 186 rfl) (ty := .boolean) (by decide) rfl rfl (hb y d19_21) 24 rfl fun T12 X12 W12 => ?_
  have G12 := Fld.same W12 f13
  have N15 := Fr.snoc X12 N11 g_b0
  have K15 := Keep.wr K11 W12 (Or.inl (by simp))
  have f16 := (f14.wr W12)
  have f17 := (G8.other W12 (Or.inr (Ne.symm (sn_54 hw))))
  have f18 := (((G2.other W4 (Or.inr (Ne.symm (sn_49 hw)))).other W8 (Or.inr (Ne.symm (sn_50 hw)))).other W12 (Or.inr (Ne.symm (sn_52 hw))))
  have f19 := ((G4.other W8 (Or.inr (Ne.symm (sn_51 hw)))).other W12 (Or.inr (Ne.symm (sn_53 hw))))
  exact qv X12 hx hk hret (hb y d19_24) (by show Q_rm__init__89 Z h0 n0 b0 b1 _ T12.heap _; exact ⟨rfl, N15, K15, f16, f17, G12, f18, f19⟩) (by decide) (by decide)
def Q_rm_iterator_88 (Z : State) (h0 : Heap) (n0 : Nat) (b0 : Addr) (b2 : Addr) (v : Option Value) (h : Heap) (L : List Loc) : Prop := ∃ (y0 : Addr), v = some (.ref y0) ∧ Fr n0 L ∧ Keep h0 h [] ∧ h0.size ≤ y0 ∧ Exa Z h y0 s2 ∧ Fld Z h y0 s2 s41 "I" (.int 0) ∧ Fld Z h y0 s2 s32 "Z" (.int 0) ∧ Fld Z h y0 s2 s55 s17 (.ref b0) ∧ Fld Z h y0 s2 s26 "I" (.int 2)
theorem rm_iterator_88 (hw : o_HW Z a0) (H : o_C Z Z.heap w_NW w_DC w_EL w_EA w_EM w_MO w_cacheI c_cacheI k_DC k_EA z_CS) (O : Old Z n0 h0) (b0 : Addr) (b2 : Addr) (E_b0 : Exa Z h0 b0 s9) (F_b0_e1 : Fld Z h0 b0 s9 "e1" s13 (.ref b2)) (g_b2 : n0 ≤ b2) :
    o_Met l (⟨s30, "iterator", "()Ljava/util/Iterator;"⟩ : MethodName) B18 1 (some (.object "java/util/Iterator")) [] (o_rm 2 1 4 27) Z #[(.ref b0)] h0 (Q_rm_iterator_88 Z h0 n0 b0 b2) := by
  refine o_met (pN pn_13) ?_
  intro p e s m below meth c T0 hx y hml hown hret hk hnm hZ X0 e0
  obtain ⟨-, -, -, -, -, -, -, -, -, -, -, -, -, -, -, -, -, -, -⟩ := id H
  refine o_ent (ef_2 m b0) ?_
  refine nO X0 hx hZ hown (w hw 185 rfl) (w hw 186 rfl) (w hw 187 rfl) e0 (hb y d18_0) 3 rfl (by decide) (by decide) fun T1 a1 g1 X1 E1 A1 D1 => ?_
  have g_a1 : n0 ≤ a1 := Nat.le_trans (o_osz O) (Nat.le_of_eq g1)
  have z_a1 : h0.size ≤ a1 := Nat.le_trans ((Keep.refl h0 [])).1 (Nat.le_of_eq g1)
  have O2 := O.ext E1
  have K2 := Keep.ext (Keep.refl h0 []) E1
  have F1_list : Fld Z T1.heap a1 s2 s55 s17 .null := D1 (Or.inr (w hw 198 rfl)) (ty := (.object s21)) (by decide)
  have F1_size : Fld Z T1.heap a1 s2 s26 "I" (.int 0) := D1 (Or.inr (w hw 200 rfl)) (ty := .int) (by decide)
  have F1_cursor : Fld Z T1.heap a1 s2 s41 "I" (.int 0) := D1 (Or.inl (w hw 202 rfl)) (ty := .int) (by decide)
  have F1_isListIterator : Fld Z T1.heap a1 s2 s32 "Z" (.int 0) := D1 (Or.inr (w hw 204 rfl)) (ty := .boolean) (by decide)
  refine qD X1 hx (hb y d18_3) rfl 4 rfl ?_
  refine qA X1 hx (hb y d18_4) rfl rfl 5 rfl ?_
  refine qA X1 hx (hb y d18_5) rfl rfl 6 rfl ?_
  have f4 := (E_b0.ext E1)
  have f5 := (F_b0_e1.ext E1)
  refine o_pureU X1 hx hZ hown (w hw 188 rfl) (w hw 189 rfl) (w hw 190 rfl) (by decide) (w hw 454 rfl) (w hw 441 rfl) (w hw 426 rfl) (w hw 445 rfl) b0 [] [(.ref b0), (.ref a1), (.ref a1)] 3 (rm_size_78 l Z a0 T1.heap n0 hw H O2 b0 b2 f5 g_b2) (by decide) (by decide) rfl rfl rfl f4 (by rw [hml]; rfl) (lenOf pd_9 rfl) (Nat.le_of_eq rfl) (hb y d18_6) 9 rfl rfl (by decide) (by decide) fun T6 X6 e6 => ?_
  refine kN X6 hx hZ rfl hown (w hw 192 rfl) (w hw 193 rfl) (w hw 187 rfl) (w hw 195 rfl) (by decide) a1 [(.ref b0), (.int 2)] [(.ref a1)] 1 (rm__init__89 l Z a0 T1.heap n0 hw O2 a1 b0 A1 F1_cursor F1_isListIterator F1_list F1_size g_a1) (by decide) (by decide) e6 (by rw [hml]; rfl) (lenOf pd_11 rfl) (Nat.le_of_eq rfl) (hb y d18_9) (by decide) (by decide) 12 rfl fun v7 T7 L7 X7 hQ7 => ?_
  obtain ⟨rfl, Nq7, Kq7, p7_0, p7_1, p7_2, p7_3, p7_4⟩ := hQ7
  have N8 := Fr.app (Fr.nil n0) Nq7
  have K8 := Keep.trans K2 Kq7 (allS (Or.inr z_a1) all0)
  refine o_nV ?_
  exact qR X7 hx hk hret rfl rfl (hb y d18_12) rfl (by show Q_rm_iterator_88 Z h0 n0 b0 b2 _ T7.heap _; exact ⟨a1, rfl, N8, K8, z_a1, p7_0, p7_1, p7_2, p7_3, p7_4⟩) (by decide) (by decide)
theorem rm_hasNext_90 (hw : o_HW Z a0) (O : Old Z n0 h0) (b0 : Addr) (F_b0_cursor : Fld Z h0 b0 s2 s41 "I" (.int 0)) (F_b0_size : Fld Z h0 b0 s2 s26 "I" (.int 2)) :
    o_Met l (⟨s2, "hasNext", "()Z"⟩ : MethodName) B19 1 (some .boolean) [] (o_rm 0 0 0 0) Z #[(.ref b0)] h0 (o_R (some (.int 1)) h0) := by
  refine o_met (pN pn_12) ?_
  intro p e s m below meth c T0 hx y hml hown hret hk hnm hZ X0 e0
  refine o_ent (ef_2 m b0) ?_
  refine qA X0 hx (hb y d20_0) rfl rfl 1 rfl ?_
  refine qF X0 hx hZ hown (host := "") (Or.inl (w hw 201 rfl)) Via.refl e0 F_b0_cursor (hb y d20_1) 4 rfl fun T1 X1 e1 => ?_
  refine qA X1 hx (hb y d20_4) rfl rfl 5 rfl ?_
  refine qF X1 hx hZ hown (host := "") (Or.inl (w hw 199 rfl)) Via.refl e1 F_b0_size (hb y d20_5) 8 rfl fun T2 X2 e2 => ?_
  refine qn X2 hx (hb y d20_8) (feq (by decide : ¬ ((0 : Int32) = (2 : Int32)))).1 11 rfl ?_
  refine qC X2 hx (hb y d20_11) (1 : Int32) rfl 12 rfl ?_
  refine qG X2 hx (hb y d20_12) 16 (by decide) (by decide) ?_
  exact o_retZ X2 hx hk hret (hb y d20_16) rfl ⟨rfl, e2, rfl⟩ (by decide) (by decide)
def Q_rm_next_91 (Z : State) (h0 : Heap) (n0 : Nat) (b0 : Addr) (b1 : Addr) (b2 : Addr) (v : Option Value) (h : Heap) (L : List Loc) : Prop := v = some (.ref b2) ∧ Fr n0 L ∧ Keep h0 h [b0] ∧ Exa Z h b0 s2 ∧ Fld Z h b0 s2 s41 "I" (.int 1) ∧ Fld Z h b0 s2 s32 "Z" (.int 0) ∧ Fld Z h b0 s2 s55 s17 (.ref b1) ∧ Fld Z h b0 s2 s26 "I" (.int 2)
theorem rm_next_91 (hw : o_HW Z a0) (O : Old Z n0 h0) (b0 : Addr) (b1 : Addr) (b2 : Addr) (E_b0 : Exa Z h0 b0 s2) (F_b0_cursor : Fld Z h0 b0 s2 s41 "I" (.int 0)) (F_b0_isListIterator : Fld Z h0 b0 s2 s32 "Z" (.int 0)) (F_b0_list : Fld Z h0 b0 s2 s55 s17 (.ref b1)) (F_b0_size : Fld Z h0 b0 s2 s26 "I" (.int 2)) (g_b0 : n0 ≤ b0) (E_b1 : Exa Z h0 b1 s9) (F_b1_e0 : Fld Z h0 b1 s9 "e0" s13 (.ref b2)) :
    o_MetW l (⟨s2, s62, s68⟩ : MethodName) B51 3 (some (.object s8)) [((0 : Nat), (24 : Nat), (25 : Nat), (30 : Nat))] [] (o_rm 1 0 0 13) Z #[(.ref b0)] h0 (Q_rm_next_91 Z h0 n0 b0 b1 b2) := by
  refine o_metW (plainFor_of_name pn_12) ?_
  intro p e s m below meth c T0 hx y hml hown hret hk hnm hZ X0 e0
  refine o_ent (ef_19 m b0) ?_
  refine qA X0 hx (hb y d51_0) rfl rfl 1 rfl ?_
  refine qF X0 hx hZ hown (host := "") (Or.inl (w hw 201 rfl)) Via.refl e0 F_b0_cursor (hb y d51_1) 4 rfl fun T1 X1 e1 => ?_
  refine qk X1 hx (hb y d51_4) #[.val (.ref b0), .val (.int 0), .unset] rfl 5 rfl ?_
  refine qA X1 hx (hb y d51_5) rfl rfl 6 rfl ?_
  refine qF X1 hx hZ hown (host := "") (Or.inl (w hw 197 rfl)) Via.refl e1 F_b0_list (hb y d51_6) 9 rfl fun T2 X2 e2 => ?_
  refine qI X2 hx (hb y d51_9) rfl 10 rfl ?_
  refine oC (cI X2 hx hZ hown (w hw 421 rfl) (w hw 318 rfl) (w hw 319 rfl) (w hw 447 rfl) (w hw 448 rfl) (w hw 449 rfl) (w hw 450 rfl) (w hw 444 rfl) (w hw 426 rfl) (w hw 451 rfl) (by decide) (by decide) b1 [(.int 0)] [] 0 (rm_get_47 l Z a0 h0 n0 hw O b1 b2 F_b1_e0) (by decide) (by decide) e2 E_b1 (by rw [hml]; rfl) (lenOf pd_26 rfl) (Nat.le_of_eq rfl) (hb y d51_10) 15 rfl (by decide) (by decide)) rfl rfl fun T4 X4 e4 => ?_
  refine qh X4 hx (hb y d51_15) #[.val (.ref b0), .val (.int 0), .val (.ref b2)] rfl rfl 16 rfl ?_
  refine qA X4 hx (hb y d51_16) rfl rfl 17 rfl ?_
  refine qI X4 hx (hb y d51_17) rfl 18 rfl ?_
  refine qC X4 hx (hb y d51_18) (1 : Int32) rfl 19 rfl ?_
  refine o_iadd X4 hx (hb y d51_19) 20 rfl ?_
  refine o_topI (1 : Int32) (by decide) ?_
  refine qP X4 hx hZ hown (host := "") (Or.inl (w hw 201 rfl)) Via.refl e4 F_b0_cursor E_b0 (Or.inl (w hw 202 rfl)) (w hw 186 rfl) (ty := .int) (by decide) rfl rfl (hb y d51_20) 23 rfl fun T5 X5 W5 => ?_
  have G5 := Fld.same W5 F_b0_cursor
  have N6 := Fr.snoc X5 (Fr.nil n0) g_b0
  have K6 := Keep.wr (Keep.refl h0 [b0]) W5 (Or.inl (by simp))
  refine qA X5 hx (hb y d51_23) rfl rfl 24 rfl ?_
  have f7 := (E_b0.wr W5)
  have f8 := (F_b0_isListIterator.other W5 (Or.inr (sn_54 hw)))
  have f9 := (F_b0_list.other W5 (Or.inr (Ne.symm (sn_50 hw))))
  have f10 := (F_b0_size.other W5 (Or.inr (Ne.symm (sn_51 hw))))
  exact qR X5 hx hk hret rfl rfl (hb y d51_24) rfl (by show Q_rm_next_91 Z h0 n0 b0 b1 b2 _ T5.heap _; exact ⟨rfl, N6, K6, f7, G5, f8, f9, f10⟩) (by decide) (by decide)
theorem rm_hasNext_92 (hw : o_HW Z a0) (O : Old Z n0 h0) (b0 : Addr) (F_b0_cursor : Fld Z h0 b0 s2 s41 "I" (.int 1)) (F_b0_size : Fld Z h0 b0 s2 s26 "I" (.int 2)) :
    o_Met l (⟨s2, "hasNext", "()Z"⟩ : MethodName) B19 1 (some .boolean) [] (o_rm 0 0 0 0) Z #[(.ref b0)] h0 (o_R (some (.int 1)) h0) := by
  refine o_met (pN pn_12) ?_
  intro p e s m below meth c T0 hx y hml hown hret hk hnm hZ X0 e0
  refine o_ent (ef_2 m b0) ?_
  refine qA X0 hx (hb y d20_0) rfl rfl 1 rfl ?_
  refine qF X0 hx hZ hown (host := "") (Or.inl (w hw 201 rfl)) Via.refl e0 F_b0_cursor (hb y d20_1) 4 rfl fun T1 X1 e1 => ?_
  refine qA X1 hx (hb y d20_4) rfl rfl 5 rfl ?_
  refine qF X1 hx hZ hown (host := "") (Or.inl (w hw 199 rfl)) Via.refl e1 F_b0_size (hb y d20_5) 8 rfl fun T2 X2 e2 => ?_
  refine qn X2 hx (hb y d20_8) (feq (by decide : ¬ ((1 : Int32) = (2 : Int32)))).1 11 rfl ?_
  refine qC X2 hx (hb y d20_11) (1 : Int32) rfl 12 rfl ?_
  refine qG X2 hx (hb y d20_12) 16 (by decide) (by decide) ?_
  exact o_retZ X2 hx hk hret (hb y d20_16) rfl ⟨rfl, e2, rfl⟩ (by decide) (by decide)
def Q_rm_next_93 (Z : State) (h0 : Heap) (n0 : Nat) (b0 : Addr) (b1 : Addr) (b3 : Addr) (v : Option Value) (h : Heap) (L : List Loc) : Prop := v = some (.ref b3) ∧ Fr n0 L ∧ Keep h0 h [b0] ∧ Exa Z h b0 s2 ∧ Fld Z h b0 s2 s41 "I" (.int 2) ∧ Fld Z h b0 s2 s32 "Z" (.int 0) ∧ Fld Z h b0 s2 s55 s17 (.ref b1) ∧ Fld Z h b0 s2 s26 "I" (.int 2)
theorem rm_next_93 (hw : o_HW Z a0) (H : o_C Z Z.heap w_NW w_DC w_EL w_EA w_EM w_MO w_cacheI c_cacheI k_DC k_EA z_CS) (O : Old Z n0 h0) (b0 : Addr) (b1 : Addr) (b3 : Addr) (E_b0 : Exa Z h0 b0 s2) (F_b0_cursor : Fld Z h0 b0 s2 s41 "I" (.int 1)) (F_b0_isListIterator : Fld Z h0 b0 s2 s32 "Z" (.int 0)) (F_b0_list : Fld Z h0 b0 s2 s55 s17 (.ref b1)) (F_b0_size : Fld Z h0 b0 s2 s26 "I" (.int 2)) (g_b0 : n0 ≤ b0) (E_b1 : Exa Z h0 b1 s9) (F_b1_e1 : Fld Z h0 b1 s9 "e1" s13 (.ref b3)) (g_b3 : n0 ≤ b3) :
    o_MetW l (⟨s2, s62, s68⟩ : MethodName) B51 3 (some (.object s8)) [((0 : Nat), (24 : Nat), (25 : Nat), (30 : Nat))] [] (o_rm 1 0 0 13) Z #[(.ref b0)] h0 (Q_rm_next_93 Z h0 n0 b0 b1 b3) := by
  refine o_metW (plainFor_of_name pn_12) ?_
  intro p e s m below meth c T0 hx y hml hown hret hk hnm hZ X0 e0
  obtain ⟨-, -, -, -, -, -, -, -, -, -, -, -, -, -, -, -, -, -, -⟩ := id H
  refine o_ent (ef_19 m b0) ?_
  refine qA X0 hx (hb y d51_0) rfl rfl 1 rfl ?_
  refine qF X0 hx hZ hown (host := "") (Or.inl (w hw 201 rfl)) Via.refl e0 F_b0_cursor (hb y d51_1) 4 rfl fun T1 X1 e1 => ?_
  refine qk X1 hx (hb y d51_4) #[.val (.ref b0), .val (.int 1), .unset] rfl 5 rfl ?_
  refine qA X1 hx (hb y d51_5) rfl rfl 6 rfl ?_
  refine qF X1 hx hZ hown (host := "") (Or.inl (w hw 197 rfl)) Via.refl e1 F_b0_list (hb y d51_6) 9 rfl fun T2 X2 e2 => ?_
  refine qI X2 hx (hb y d51_9) rfl 10 rfl ?_
  refine oC (cI X2 hx hZ hown (w hw 421 rfl) (w hw 318 rfl) (w hw 319 rfl) (w hw 447 rfl) (w hw 448 rfl) (w hw 449 rfl) (w hw 450 rfl) (w hw 444 rfl) (w hw 426 rfl) (w hw 451 rfl) (by decide) (by decide) b1 [(.int 1)] [] 0 (rm_get_79 l Z a0 h0 n0 hw H O b1 b3 F_b1_e1 g_b3) (by decide) (by decide) e2 E_b1 (by rw [hml]; rfl) (lenOf pd_26 rfl) (Nat.le_of_eq rfl) (hb y d51_10) 15 rfl (by decide) (by decide)) rfl rfl fun T4 X4 e4 => ?_
  refine qh X4 hx (hb y d51_15) #[.val (.ref b0), .val (.int 1), .val (.ref b3)] rfl rfl 16 rfl ?_
  refine qA X4 hx (hb y d51_16) rfl rfl 17 rfl ?_
  refine qI X4 hx (hb y d51_17) rfl 18 rfl ?_
  refine qC X4 hx (hb y d51_18) (1 : Int32) rfl 19 rfl ?_
  refine o_iadd X4 hx (hb y d51_19) 20 rfl ?_
  refine o_topI (2 : Int32) (by decide) ?_
  refine qP X4 hx hZ hown (host := "") (Or.inl (w hw 201 rfl)) Via.refl e4 F_b0_cursor E_b0 (Or.inl (w hw 202 rfl)) (w hw 186 rfl) (ty := .int) (by decide) rfl rfl (hb y d51_20) 23 rfl fun T5 X5 W5 => ?_
  have G5 := Fld.same W5 F_b0_cursor
  have N6 := Fr.snoc X5 (Fr.nil n0) g_b0
  have K6 := Keep.wr (Keep.refl h0 [b0]) W5 (Or.inl (by simp))
  refine qA X5 hx (hb y d51_23) rfl rfl 24 rfl ?_
  have f7 := (E_b0.wr W5)
  have f8 := (F_b0_isListIterator.other W5 (Or.inr (sn_54 hw)))
  have f9 := (F_b0_list.other W5 (Or.inr (Ne.symm (sn_50 hw))))
  have f10 := (F_b0_size.other W5 (Or.inr (Ne.symm (sn_51 hw))))
  exact qR X5 hx hk hret rfl rfl (hb y d51_24) rfl (by show Q_rm_next_93 Z h0 n0 b0 b1 b3 _ T5.heap _; exact ⟨rfl, N6, K6, f7, G5, f8, f9, f10⟩) (by decide) (by decide)
theorem rm_hasNext_94 (hw : o_HW Z a0) (O : Old Z n0 h0) (b0 : Addr) (F_b0_cursor : Fld Z h0 b0 s2 s41 "I" (.int 2)) (F_b0_size : Fld Z h0 b0 s2 s26 "I" (.int 2)) :
    o_Met l (⟨s2, "hasNext", "()Z"⟩ : MethodName) B19 1 (some .boolean) [] (o_rm 0 0 0 0) Z #[(.ref b0)] h0 (o_R (some (.int 0)) h0) := by
  refine o_met (pN pn_12) ?_
  intro p e s m below meth c T0 hx y hml hown hret hk hnm hZ X0 e0
  refine o_ent (ef_2 m b0) ?_
  refine qA X0 hx (hb y d20_0) rfl rfl 1 rfl ?_
  refine qF X0 hx hZ hown (host := "") (Or.inl (w hw 201 rfl)) Via.refl e0 F_b0_cursor (hb y d20_1) 4 rfl fun T1 X1 e1 => ?_
  refine qA X1 hx (hb y d20_4) rfl rfl 5 rfl ?_
  refine qF X1 hx hZ hown (host := "") (Or.inl (w hw 199 rfl)) Via.refl e1 F_b0_size (hb y d20_5) 8 rfl fun T2 X2 e2 => ?_
  refine o_icmpY X2 hx (hb y d20_8) (teq (by decide : (2 : Int32) = (2 : Int32))).1 15 (by decide) (by decide) ?_
  refine qC X2 hx (hb y d20_15) (0 : Int32) rfl 16 rfl ?_
  exact o_retZ X2 hx hk hret (hb y d20_16) rfl ⟨rfl, e2, rfl⟩ (by decide) (by decide)
def Q_rm__init__87 (Z : State) (h0 : Heap) (n0 : Nat) (b0 : Addr) (b1 : Addr) (b2 : Addr) (b3 : Addr) (b4 : Addr) (v : Option Value) (h : Heap) (L : List Loc) : Prop := ∃ (y0 : Addr) (yk0 : ClassId), v = none ∧ Fr n0 L ∧ Keep h0 h [b0] ∧ h0.size ≤ y0 ∧ Exa Z h b0 s0 ∧ Fld Z h b0 s0 s35 s12 (.ref y0) ∧ Arv Z h y0 yk0 (.object s1) (68 : Int32) [.null, (.ref b3), (.ref b4)] .null ∧ Exa Z h y0 s12 ∧ Ovr Z yk0 s1
theorem rm__init__87 (hw : o_HW Z a0) (H : o_C Z Z.heap w_NW w_DC w_EL w_EA w_EM w_MO w_cacheI c_cacheI k_DC k_EA z_CS) (O : Old Z n0 h0) (b0 : Addr) (b1 : Addr) (b2 : Addr) (b3 : Addr) (b4 : Addr) (E_b0 : Exa Z h0 b0 s0) (F_b0_access : Fld Z h0 b0 s0 s67 s14 .null) (F_b0_declaration : Fld Z h0 b0 s0 s49 s18 .null) (F_b0_image : Fld Z h0 b0 s0 "image" s22 .null) (F_b0_imageSegments : Fld Z h0 b0 s0 s48 "I" (.int 0)) (F_b0_lastSegment : Fld Z h0 b0 s0 s53 "I" (.int 0)) (F_b0_pointers : Fld Z h0 b0 s0 s60 "[J" .null) (F_b0_registerWords : Fld Z h0 b0 s0 s47 "[J" .null) (F_b0_segments : Fld Z h0 b0 s0 s35 s12 .null) (F_b0_stacks : Fld Z h0 b0 s0 s66 "[I" .null) (F_b0_x : Fld Z h0 b0 s0 "x" "[I" .null) (g_b0 : n0 ≤ b0) (E_b1 : Exa Z h0 b1 s3) (F_b1_segments : Fld Z h0 b1 s3 s35 s17 (.ref b2)) (E_b2 : Exa Z h0 b2 s9) (F_b2_e0 : Fld Z h0 b2 s9 "e0" s13 (.ref b3)) (F_b2_e1 : Fld Z h0 b2 s9 "e1" s13 (.ref b4)) (E_b3 : Exa Z h0 b3 s1) (E_b4 : Exa Z h0 b4 s1) (g_b4 : n0 ≤ b4) (ne_b0_b1 : b0 ≠ b1) (ne_b0_b2 : b0 ≠ b2) :
    o_Met l (⟨s0, s50, s31⟩ : MethodName) B20 5 none [] (o_rm 3 7 224 39) Z #[(.ref b0), .null, (.ref b1)] h0 (Q_rm__init__87 Z h0 n0 b0 b1 b2 b3 b4) := by
  refine o_met (pN pn_14) ?_
  intro p e s m below meth c T0 hx y hml hown hret hk hnm hZ X0 e0
  obtain ⟨-, S_PW, -, -, -, -, -, -, -, -, -, -, -, -, -, -, -, -, -⟩ := id H
  refine o_ent (ef_7 m b0 b1) ?_
  refine qA X0 hx (hb y d16_0) rfl rfl 1 rfl ?_
  refine o_initO X0 hx hZ hown (w hw 148 rfl) (w hw 24 rfl) (w hw 25 rfl) e0 (by rw [hml]; rfl) (hb y d16_1) (by decide) 0 (Nat.le_of_eq rfl) (by decide) 4 rfl fun T1 X1 e1 => ?_
  refine qA X1 hx (hb y d16_4) rfl rfl 5 rfl ?_
  refine o_bipush X1 hx (hb y d16_5) (64 : Int32) rfl 7 rfl ?_
  refine o_newP X1 hx hZ (w hw 149 rfl) e1 (hb y d16_7) (by decide) 64 (by decide) (by decide) (by decide) (by decide) "[I" (by decide) 9 rfl fun T2 a2 c2 g2 X2 E2 V2 A2 => ?_
  have O3 := O.ext E2
  have K3 := Keep.ext (Keep.refl h0 [b0]) E2
  have V2 : Arv Z T2.heap a2 c2 .int (64 : Int32) [] (.int 0) := V2
  have f5 := (F_b0_stacks.ext E2)
  have f6 := (E_b0.ext E2)
  refine qP X2 hx hZ hown (host := "") (Or.inl (w hw 150 rfl)) Via.refl rfl f5 f6 (Or.inr ⟨(w hw 151 rfl), rfl, hnm⟩) (w hw 143 rfl) (ty := (.array .int)) (by decide) rfl rfl (hb y d16_9) 12 rfl fun T4 X4 W4 => ?_
  have O7 := O3.wr W4 g_b0
  have N7 := Fr.snoc X4 (Fr.nil n0) g_b0
  have K7 := Keep.wr K3 W4 (Or.inl (by simp))
  refine qA X4 hx (hb y d16_12) rfl rfl 13 rfl ?_
  refine qC X4 hx (hb y d16_13) (4 : Int32) rfl 14 rfl ?_
  refine o_newP X4 hx hZ (w hw 149 rfl) rfl (hb y d16_14) (by decide) 4 (by decide) (by decide) (by decide) (by decide) "[I" (by decide) 16 rfl fun T8 a8 c8 g8 X8 E8 V8 A8 => ?_
  have O9 := O7.ext E8
  have K9 := Keep.ext K7 E8
  have V8 : Arv Z T8.heap a8 c8 .int (4 : Int32) [] (.int 0) := V8
  have f11 := (((F_b0_x.ext E2).other W4 (Or.inr (sn_21 hw))).ext E8)
  have f12 := ((f6.wr W4).ext E8)
  refine qP X8 hx hZ hown (host := "") (Or.inl (w hw 152 rfl)) Via.refl rfl f11 f12 (Or.inr ⟨(w hw 153 rfl), rfl, hnm⟩) (w hw 143 rfl) (ty := (.array .int)) (by decide) rfl rfl (hb y d16_16) 19 rfl fun T10 X10 W10 => ?_
  have O13 := O9.wr W10 g_b0
  have N13 := Fr.snoc X10 N7 g_b0
  have K13 := Keep.wr K9 W10 (Or.inl (by simp))
  refine qA X10 hx (hb y d16_19) rfl rfl 20 rfl ?_
  refine o_getS X10 hx hZ hown (host := "") (Or.inl (w hw 154 rfl)) Via.refl rfl (S_PW.ext O13.2) (hb y d16_20) 23 rfl fun T14 X14 e14 => ?_
  refine o_newP X14 hx hZ (w hw 156 rfl) e14 (hb y d16_23) (by decide) 8 (by decide) (by decide) (by decide) (by decide) "[J" (by decide) 25 rfl fun T15 a15 c15 g15 X15 E15 V15 A15 => ?_
  have O16 := O13.ext E15
  have K16 := Keep.ext K13 E15
  have V15 : Arv Z T15.heap a15 c15 .long (8 : Int32) [] (.long (0 : Int64)) := V15
  have f18 := (((((F_b0_pointers.ext E2).other W4 (Or.inr (sn_22 hw))).ext E8).other W10 (Or.inr (sn_23 hw))).ext E15)
  have f19 := ((f12.wr W10).ext E15)
  refine qP X15 hx hZ hown (host := "") (Or.inl (w hw 157 rfl)) Via.refl rfl f18 f19 (Or.inr ⟨(w hw 158 rfl), rfl, hnm⟩) (w hw 143 rfl) (ty := (.array .long)) (by decide) rfl rfl (hb y d16_25) 28 rfl fun T17 X17 W17 => ?_
  have O20 := O16.wr W17 g_b0
  have N20 := Fr.snoc X17 N13 g_b0
  have K20 := Keep.wr K16 W17 (Or.inl (by simp))
  refine qA X17 hx (hb y d16_28) rfl rfl 29 rfl ?_
  refine o_bipush X17 hx (hb y d16_29) (8 : Int32) rfl 31 rfl ?_
  refine o_newP X17 hx hZ (w hw 156 rfl) rfl (hb y d16_31) (by decide) 8 (by decide) (by decide) (by decide) (by decide) "[J" (by decide) 33 rfl fun T21 a21 c21 g21 X21 E21 V21 A21 => ?_
  have O22 := O20.ext E21
  have K22 := Keep.ext K20 E21
  have V21 : Arv Z T21.heap a21 c21 .long (8 : Int32) [] (.long (0 : Int64)) := V21
  have f24 := (((((((F_b0_registerWords.ext E2).other W4 (Or.inr (sn_24 hw))).ext E8).other W10 (Or.inr (sn_25 hw))).ext E15).other W17 (Or.inr (sn_26 hw))).ext E21)
  have f25 := ((f19.wr W17).ext E21)
  refine qP X21 hx hZ hown (host := "") (Or.inl (w hw 159 rfl)) Via.refl rfl f24 f25 (Or.inr ⟨(w hw 160 rfl), rfl, hnm⟩) (w hw 143 rfl) (ty := (.array .long)) (by decide) rfl rfl (hb y d16_33) 36 rfl fun T23 X23 W23 => ?_
  have O26 := O22.wr W23 g_b0
  have N26 := Fr.snoc X23 N20 g_b0
  have K26 := Keep.wr K22 W23 (Or.inl (by simp))
  refine qA X23 hx (hb y d16_36) rfl rfl 37 rfl ?_
  refine qA X23 hx (hb y d16_37) rfl rfl 38 rfl ?_
  have f28 := ((((((((F_b0_declaration.ext E2).other W4 (Or.inr (sn_27 hw))).ext E8).other W10 (Or.inr (sn_28 hw))).ext E15).other W17 (Or.inr (sn_29 hw))).ext E21).other W23 (Or.inr (sn_30 hw)))
  have f29 := (f25.wr W23)
  refine qP X23 hx hZ hown (host := "") (Or.inl (w hw 161 rfl)) Via.refl rfl f28 f29 (Or.inr ⟨(w hw 162 rfl), rfl, hnm⟩) (w hw 143 rfl) (ty := (.object s19)) (by decide) rfl rfl (hb y d16_38) 41 rfl fun T27 X27 W27 => ?_
  have O30 := O26.wr W27 g_b0
  have N30 := Fr.snoc X27 N26 g_b0
  have K30 := Keep.wr K26 W27 (Or.inl (by simp))
  refine qA X27 hx (hb y d16_41) rfl rfl 42 rfl ?_
  refine qA X27 hx (hb y d16_42) rfl rfl 43 rfl ?_
  have f32 := (((((((((F_b0_image.ext E2).other W4 (Or.inr (sn_31 hw))).ext E8).other W10 (Or.inr (sn_32 hw))).ext E15).other W17 (Or.inr (sn_33 hw))).ext E21).other W23 (Or.inr (sn_34 hw))).other W27 (Or.inr (sn_35 hw)))
  have f33 := (f29.wr W27)
  refine qP X27 hx hZ hown (host := "") (Or.inl (w hw 163 rfl)) Via.refl rfl f32 f33 (Or.inr ⟨(w hw 164 rfl), rfl, hnm⟩) (w hw 143 rfl) (ty := (.object s3)) (by decide) rfl rfl (hb y d16_43) 46 rfl fun T31 X31 W31 => ?_
  have O34 := O30.wr W31 g_b0
  have N34 := Fr.snoc X31 N30 g_b0
  have K34 := Keep.wr K30 W31 (Or.inl (by simp))
  refine qA X31 hx (hb y d16_46) rfl rfl 47 rfl ?_
  refine qA X31 hx (hb y d16_47) rfl rfl 48 rfl ?_
  have f36 := ((((((((((E_b1.ext E2).wr W4).ext E8).wr W10).ext E15).wr W17).ext E21).wr W23).wr W27).wr W31)
  have f37 := (o_fo (o_fo (o_fo ((o_fo ((o_fo ((o_fo (F_b1_segments.ext E2) W4 ne_b0_b1).ext E8) W10 ne_b0_b1).ext E15) W17 ne_b0_b1).ext E21) W23 ne_b0_b1) W27 ne_b0_b1) W31 ne_b0_b1)
  refine qV X31 hx hZ hown (w hw 165 rfl) (w hw 166 rfl) (notFace_of_selects (args := #[]) (mvT hZ (w hw 168 rfl))) (w hw 168 rfl) (w hw 167 rfl) (w hw 102 rfl) (w hw 169 rfl) (by decide) b1 [] [(.ref b0)] 1 (rm_segments_60 l Z a0 T31.heap n0 hw O34 b1 b2 f37) (by decide) (by decide) rfl rfl rfl f36 (by rw [hml]; rfl) (lenOf pd_6 rfl) (Nat.le_of_eq rfl) (hb y d16_48) 51 rfl rfl (by decide) (by decide) fun T38 X38 e38 => ?_
  have f40 := ((((((((((E_b2.ext E2).wr W4).ext E8).wr W10).ext E15).wr W17).ext E21).wr W23).wr W27).wr W31)
  have f41 := (o_fo (o_fo (o_fo ((o_fo ((o_fo ((o_fo (F_b2_e1.ext E2) W4 ne_b0_b2).ext E8) W10 ne_b0_b2).ext E15) W17 ne_b0_b2).ext E21) W23 ne_b0_b2) W27 ne_b0_b2) W31 ne_b0_b2)
  refine oC (cI X38 hx hZ hown (w hw 170 rfl) (w hw 131 rfl) (w hw 132 rfl) (w hw 440 rfl) (w hw 441 rfl) (w hw 442 rfl) (w hw 443 rfl) (w hw 444 rfl) (w hw 426 rfl) (w hw 445 rfl) (by decide) (by decide) b2 [] [(.ref b0)] 1 (rm_size_78 l Z a0 T31.heap n0 hw H O34 b2 b4 f41 g_b4) (by decide) (by decide) e38 f40 (by rw [hml]; rfl) (lenOf pd_9 rfl) (Nat.le_of_eq rfl) (hb y d16_51) 56 rfl (by decide) (by decide)) rfl rfl fun T42 X42 e42 => ?_
  have f44 := ((((((((((F_b0_imageSegments.ext E2).other W4 (Or.inr (sn_36 hw))).ext E8).other W10 (Or.inr (sn_37 hw))).ext E15).other W17 (Or.inr (sn_38 hw))).ext E21).other W23 (Or.inr (sn_39 hw))).other W27 (Or.inr (sn_40 hw))).other W31 (Or.inr (sn_41 hw)))
  have f45 := (f33.wr W31)
  refine qP X42 hx hZ hown (host := "") (Or.inl (w hw 171 rfl)) Via.refl e42 f44 f45 (Or.inr ⟨(w hw 172 rfl), rfl, hnm⟩) (w hw 143 rfl) (ty := .int) (by decide) rfl rfl (hb y d16_56) 59 rfl fun T43 X43 W43 => ?_
  have G43 := Fld.same W43 f44
  have O46 := O34.wr W43 g_b0
  have N46 := Fr.snoc X43 N34 g_b0
  have K46 := Keep.wr K34 W43 (Or.inl (by simp))
  refine qA X43 hx (hb y d16_59) rfl rfl 60 rfl ?_
  refine qA X43 hx (hb y d16_60) rfl rfl 61 rfl ?_
  refine qF X43 hx hZ hown (host := "") (Or.inl (w hw 171 rfl)) Via.refl rfl G43 (hb y d16_61) 64 rfl fun T47 X47 e47 => ?_
  refine qC X47 hx (hb y d16_64) (1 : Int32) rfl 65 rfl ?_
  refine o_iadd X47 hx (hb y d16_65) 66 rfl ?_
  refine o_topI (3 : Int32) (by decide) ?_
  refine o_bipush X47 hx (hb y d16_66) (65 : Int32) rfl 68 rfl ?_
  refine o_iadd X47 hx (hb y d16_68) 69 rfl ?_
  refine o_topI (68 : Int32) (by decide) ?_
  refine o_newR X47 hx hZ hown (w hw 173 rfl) (w hw 98 rfl) e47 (hb y d16_69) (by decide) 68 (by decide) (by decide) (by decide) (by decide) s12 (by decide) 72 rfl fun T48 a48 c48 g48 X48 E48 V48 A48 P48 => ?_
  have g_a48 : n0 ≤ a48 := Nat.le_trans (o_osz O46) (Nat.le_of_eq g48)
  have z_a48 : h0.size ≤ a48 := Nat.le_trans (K46).1 (Nat.le_of_eq g48)
  have O49 := O46.ext E48
  have K49 := Keep.ext K46 E48
  have V48 : Arv Z T48.heap a48 c48 (.object s1) (68 : Int32) [] .null := V48
  have f51 := ((((((((((((F_b0_segments.ext E2).other W4 (Or.inr (sn_42 hw))).ext E8).other W10 (Or.inr (sn_43 hw))).ext E15).other W17 (Or.inr (sn_44 hw))).ext E21).other W23 (Or.inr (sn_45 hw))).other W27 (Or.inr (sn_46 hw))).other W31 (Or.inr (sn_47 hw))).other W43 (Or.inr (sn_48 hw))).ext E48)
  have f52 := ((f45.wr W43).ext E48)
  refine qP X48 hx hZ hown (host := "") (Or.inl (w hw 174 rfl)) Via.refl rfl f51 f52 (Or.inr ⟨(w hw 175 rfl), rfl, hnm⟩) (w hw 143 rfl) (ty := (.array (.object s1))) (by decide) rfl rfl (hb y d16_72) 75 rfl fun T50 X50 W50 => ?_
  have G50 := Fld.same W50 f51
  have O53 := O49.wr W50 g_b0
  have N53 := Fr.snoc X50 N46 g_b0
  have K53 := Keep.wr K49 W50 (Or.inl (by simp))
  refine qA X50 hx (hb y d16_75) rfl rfl 76 rfl ?_
  have f55 := (((f36.wr W43).ext E48).wr W50)
  have f56 := (o_fo ((o_fo f37 W43 ne_b0_b1).ext E48) W50 ne_b0_b1)
  refine qV X50 hx hZ hown (w hw 165 rfl) (w hw 166 rfl) (notFace_of_selects (args := #[]) (mvT hZ (w hw 168 rfl))) (w hw 168 rfl) (w hw 167 rfl) (w hw 102 rfl) (w hw 169 rfl) (by decide) b1 [] [] 0 (rm_segments_60 l Z a0 T50.heap n0 hw O53 b1 b2 f56) (by decide) (by decide) rfl rfl rfl f55 (by rw [hml]; rfl) (lenOf pd_6 rfl) (Nat.le_of_eq rfl) (hb y d16_76) 79 rfl rfl (by decide) (by decide) fun T57 X57 e57 => ?_
  have f59 := (((f40.wr W43).ext E48).wr W50)
  have f60 := (o_fo ((o_fo f41 W43 ne_b0_b2).ext E48) W50 ne_b0_b2)
  refine kI X57 hx hZ hown (w hw 176 rfl) (w hw 177 rfl) (w hw 178 rfl) (w hw 452 rfl) (w hw 180 rfl) (w hw 181 rfl) (w hw 453 rfl) (w hw 444 rfl) (w hw 183 rfl) (w hw 184 rfl) (by decide) (by decide) b2 [] [] 0 (rm_iterator_88 l Z a0 T50.heap n0 hw H O53 b2 b4 f59 f60 g_b4) (by decide) (by decide) e57 f59 (by rw [hml]; rfl) (lenOf pd_12 rfl) (Nat.le_of_eq rfl) (hb y d16_79) 84 rfl (by decide) (by decide) fun v58 T58 L58 X58 hQ58 => ?_
  obtain ⟨q58_0, rfl, Nq58, Kq58, le_q58_0, p58_0, p58_1, p58_2, p58_3, p58_4⟩ := hQ58
  have g_q58_0 : n0 ≤ q58_0 := Nat.le_trans (o_osz O53) le_q58_0
  have z_q58_0 : h0.size ≤ q58_0 := Nat.le_trans (K53).1 le_q58_0
  have O61 := O53.keep Kq58 all0
  have N61 := Fr.app N53 Nq58
  have K61 := Keep.trans K53 Kq58 all0
  refine o_nR ?_
  refine qh X58 hx (hb y d16_84) #[.val (.ref b0), .val .null, .val (.ref b1), .val (.ref q58_0), .unset] rfl rfl 85 rfl ?_
  refine qA X58 hx (hb y d16_85) rfl rfl 86 rfl ?_
  refine oC (cI X58 hx hZ hown (w hw 205 rfl) (w hw 206 rfl) (w hw 207 rfl) (w hw 208 rfl) (w hw 209 rfl) (w hw 210 rfl) (w hw 211 rfl) (w hw 212 rfl) (w hw 187 rfl) (w hw 213 rfl) (by decide) (by decide) q58_0 [] [] 0 (rm_hasNext_90 l Z a0 T58.heap n0 hw O61 q58_0 p58_1 p58_4) (by decide) (by decide) rfl p58_0 (by rw [hml]; rfl) (lenOf pd_5 rfl) (Nat.le_of_eq rfl) (hb y d16_86) 91 rfl (by decide) (by decide)) rfl rfl fun T63 X63 e63 => ?_
  refine qN X63 hx (hb y d16_91) ((if0 _ _).trans (feq (by decide : ¬ ((1 : Int32) = (0 : Int32)))).1) 94 rfl ?_
  refine qA X63 hx (hb y d16_94) rfl rfl 95 rfl ?_
  have f65 := (f59.keep Kq58)
  have f66 := ((o_fo ((o_fo (o_fo (o_fo (o_fo ((o_fo ((o_fo ((o_fo (F_b2_e0.ext E2) W4 ne_b0_b2).ext E8) W10 ne_b0_b2).ext E15) W17 ne_b0_b2).ext E21) W23 ne_b0_b2) W27 ne_b0_b2) W31 ne_b0_b2) W43 ne_b0_b2).ext E48) W50 ne_b0_b2).keep Kq58 nin0)
  refine o_kIW X63 hx hZ hown (w hw 413 rfl) (w hw 414 rfl) (w hw 415 rfl) (w hw 416 rfl) (w hw 417 rfl) (w hw 418 rfl) (w hw 419 rfl) (w hw 212 rfl) (w hw 187 rfl) (w hw 420 rfl) (by decide) (by decide) q58_0 [] [] 0 (rm_next_91 l Z a0 T58.heap n0 hw O61 q58_0 b2 b3 p58_0 p58_1 p58_2 p58_3 p58_4 g_q58_0 f65 f66) (by decide) (by decide) e63 p58_0 (by rw [hml]; rfl) (lenOf pd_37 rfl) (Nat.le_of_eq rfl) (hb y d16_95) 100 rfl (by decide) (by decide) fun v64 T64 L64 X64 hQ64 => ?_
  obtain ⟨rfl, Nq64, Kq64, p64_0, p64_1, p64_2, p64_3, p64_4⟩ := hQ64
  have O67 := O61.keep Kq64 (allS g_q58_0 all0)
  have N67 := Fr.app N61 Nq64
  have K67 := Keep.trans K61 Kq64 (allS (Or.inr z_q58_0) all0)
  refine o_nR ?_
  have f68 := (((((((((((((((E_b3.ext E2).wr W4).ext E8).wr W10).ext E15).wr W17).ext E21).wr W23).wr W27).wr W31).wr W43).ext E48).wr W50).keep Kq58).keep Kq64)
  refine o_cast X64 hx hZ hown (w hw 173 rfl) rfl (Ins.self f68) (hb y d16_100) 103 rfl fun T69 X69 e69 => ?_
  refine qt X69 hx (hb y d16_103) #[.val (.ref b0), .val .null, .val (.ref b1), .val (.ref q58_0), .val (.ref b3)] rfl rfl 105 rfl ?_
  refine qA X69 hx (hb y d16_105) rfl rfl 106 rfl ?_
  have l71 := (Nat.le_trans (Nat.le_trans (Nat.le_trans (Nat.le_trans (Nat.le_trans (Nat.le_trans (Nat.le_trans (Nat.le_trans (Nat.le_trans (Nat.le_trans (Nat.le_trans (Nat.le_trans E2.1 (Nat.le_of_eq (Wr.size W4).symm)) E8.1) (Nat.le_of_eq (Wr.size W10).symm)) E15.1) (Nat.le_of_eq (Wr.size W17).symm)) E21.1) (Nat.le_of_eq (Wr.size W23).symm)) (Nat.le_of_eq (Wr.size W27).symm)) (Nat.le_of_eq (Wr.size W31).symm)) (Nat.le_of_eq (Wr.size W43).symm)) E48.1) (Nat.le_of_eq (Wr.size W50).symm))
  have ne70 := o_nl E_b0.lt l71 le_q58_0
  have f72 := ((G50.keep Kq58 nin0).keep Kq64 (ninS ne70 nin0))
  refine qF X69 hx hZ hown (host := "") (Or.inl (w hw 174 rfl)) Via.refl e69 f72 (hb y d16_106) 109 rfl fun T73 X73 e73 => ?_
  refine qA X73 hx (hb y d16_109) rfl rfl 110 rfl ?_
  refine qD X73 hx (hb y d16_110) rfl 111 rfl ?_
  have f74 := (((((((((((((((F_b0_lastSegment.ext E2).other W4 (Or.inr (sn_77 hw))).ext E8).other W10 (Or.inr (sn_78 hw))).ext E15).other W17 (Or.inr (sn_79 hw))).ext E21).other W23 (Or.inr (sn_80 hw))).other W27 (Or.inr (sn_81 hw))).other W31 (Or.inr (sn_82 hw))).other W43 (Or.inr (sn_83 hw))).ext E48).other W50 (Or.inr (sn_84 hw))).keep Kq58 nin0).keep Kq64 (ninS ne70 nin0))
  refine qF X73 hx hZ hown (host := "") (Or.inl (w hw 422 rfl)) Via.refl e73 f74 (hb y d16_111) 114 rfl fun T75 X75 e75 => ?_
  refine qC X75 hx (hb y d16_114) (1 : Int32) rfl 115 rfl ?_
  refine o_iadd X75 hx (hb y d16_115) 116 rfl ?_
  refine o_topI (1 : Int32) (by decide) ?_
  refine o_dup_x1 X75 hx (hb y d16_116) rfl rfl 117 rfl ?_
  have f77 := (((f52.wr W50).keep Kq58).keep Kq64)
  refine qP X75 hx hZ hown (host := "") (Or.inl (w hw 422 rfl)) Via.refl e75 f74 f77 (Or.inl (w hw 423 rfl)) (w hw 143 rfl) (ty := .int) (by decide) rfl rfl (hb y d16_117) 120 rfl fun T76 X76 W76 => ?_
  have G76 := Fld.same W76 f74
  have O78 := O67.wr W76 g_b0
  have N78 := Fr.snoc X76 N67 g_b0
  have K78 := Keep.wr K67 W76 (Or.inl (by simp))
  refine qa X76 hx (hb y d16_120) rfl rfl 122 rfl ?_
  have l81 := (Nat.le_trans (Nat.le_trans (Nat.le_trans (Nat.le_trans (Nat.le_trans (Nat.le_trans (Nat.le_trans (Nat.le_trans (Nat.le_trans (Nat.le_trans E2.1 (Nat.le_of_eq (Wr.size W4).symm)) E8.1) (Nat.le_of_eq (Wr.size W10).symm)) E15.1) (Nat.le_of_eq (Wr.size W17).symm)) E21.1) (Nat.le_of_eq (Wr.size W23).symm)) (Nat.le_of_eq (Wr.size W27).symm)) (Nat.le_of_eq (Wr.size W31).symm)) (Nat.le_of_eq (Wr.size W43).symm))
  have ne80 := o_nl E_b0.lt l81 (Nat.le_of_eq g48)
  have ne82 := o_nl A48.lt (Nat.le_of_eq (Wr.size W50).symm) le_q58_0
  have f83 := (o_vo (((o_vo V48 W50 ne80).keep Kq58 nin0).keep Kq64 (ninS ne82 nin0)) W76 ne80)
  have V84 : Arv Z T76.heap a48 c48 (.object s1) (68 : Int32) [.null, .null] .null := f83.pad (pad_rep [] .null 2)
  have f86 := (f68.wr W76)
  refine o_aastore X76 hx hZ rfl V84 rfl rfl (fun _ u q => Sto.ofV u q P48 (Ins.self f86)) 1 (by decide) (by decide) (by simp) [.null, (.ref b3)] rfl (hb y d16_122) 123 rfl fun T85 X85 W85 V85 => ?_
  have O87 := O78.wr W85 g_a48
  have N87 := Fr.snoc X85 N78 g_a48
  have K87 := Keep.wr K78 W85 (Or.inr z_a48)
  refine qG X85 hx (hb y d16_123) 85 (by decide) (by decide) ?_
  refine qA X85 hx (hb y d16_85) rfl rfl 86 rfl ?_
  have f89 := ((p64_0.wr W76).wr W85)
  have f90 := (o_fo (o_fo p64_1 W76 ne70) W85 ne82)
  have f91 := (o_fo (o_fo p64_4 W76 ne70) W85 ne82)
  refine oC (cI X85 hx hZ hown (w hw 205 rfl) (w hw 206 rfl) (w hw 207 rfl) (w hw 208 rfl) (w hw 209 rfl) (w hw 210 rfl) (w hw 211 rfl) (w hw 212 rfl) (w hw 187 rfl) (w hw 213 rfl) (by decide) (by decide) q58_0 [] [] 0 (rm_hasNext_92 l Z a0 T85.heap n0 hw O87 q58_0 f90 f91) (by decide) (by decide) rfl f89 (by rw [hml]; rfl) (lenOf pd_5 rfl) (Nat.le_of_eq rfl) (hb y d16_86) 91 rfl (by decide) (by decide)) rfl rfl fun T92 X92 e92 => ?_
  refine qN X92 hx (hb y d16_91) ((if0 _ _).trans (feq (by decide : ¬ ((1 : Int32) = (0 : Int32)))).1) 94 rfl ?_
  refine qA X92 hx (hb y d16_94) rfl rfl 95 rfl ?_
  have f94 := (o_fo (o_fo p64_2 W76 ne70) W85 ne82)
  have f95 := (o_fo (o_fo p64_3 W76 ne70) W85 ne82)
  have f96 := (((f65.keep Kq64).wr W76).wr W85)
  have ne97 := o_nl E_b2.lt l71 le_q58_0
  have ne98 := o_nl E_b2.lt l81 (Nat.le_of_eq g48)
  have f99 := ((o_fo ((f60.keep Kq58 nin0).keep Kq64 (ninS ne97 nin0)) W76 ne_b0_b2).other W85 (Or.inl ne98))
  refine o_kIW X92 hx hZ hown (w hw 413 rfl) (w hw 414 rfl) (w hw 415 rfl) (w hw 416 rfl) (w hw 417 rfl) (w hw 418 rfl) (w hw 419 rfl) (w hw 212 rfl) (w hw 187 rfl) (w hw 420 rfl) (by decide) (by decide) q58_0 [] [] 0 (rm_next_93 l Z a0 T85.heap n0 hw H O87 q58_0 b2 b4 f89 f90 f94 f95 f91 g_q58_0 f96 f99 g_b4) (by decide) (by decide) e92 f89 (by rw [hml]; rfl) (lenOf pd_37 rfl) (Nat.le_of_eq rfl) (hb y d16_95) 100 rfl (by decide) (by decide) fun v93 T93 L93 X93 hQ93 => ?_
  obtain ⟨rfl, Nq93, Kq93, p93_0, p93_1, p93_2, p93_3, p93_4⟩ := hQ93
  have O100 := O87.keep Kq93 (allS g_q58_0 all0)
  have N100 := Fr.app N87 Nq93
  have K100 := Keep.trans K87 Kq93 (allS (Or.inr z_q58_0) all0)
  refine o_nR ?_
  have f101 := ((((((((((((((((((E_b4.ext E2).wr W4).ext E8).wr W10).ext E15).wr W17).ext E21).wr W23).wr W27).wr W31).wr W43).ext E48).wr W50).keep Kq58).keep Kq64).wr W76).wr W85).keep Kq93)
  refine o_cast X93 hx hZ hown (w hw 173 rfl) rfl (Ins.self f101) (hb y d16_100) 103 rfl fun T102 X102 e102 => ?_
  refine qt X102 hx (hb y d16_103) #[.val (.ref b0), .val .null, .val (.ref b1), .val (.ref q58_0), .val (.ref b4)] rfl rfl 105 rfl ?_
  refine qA X102 hx (hb y d16_105) rfl rfl 106 rfl ?_
  have f103 := (((f72.other W76 (Or.inr (Ne.symm (sn_84 hw)))).other W85 (Or.inl ne80)).keep Kq93 (ninS ne70 nin0))
  refine qF X102 hx hZ hown (host := "") (Or.inl (w hw 174 rfl)) Via.refl e102 f103 (hb y d16_106) 109 rfl fun T104 X104 e104 => ?_
  refine qA X104 hx (hb y d16_109) rfl rfl 110 rfl ?_
  refine qD X104 hx (hb y d16_110) rfl 111 rfl ?_
  have f105 := ((G76.other W85 (Or.inl ne80)).keep Kq93 (ninS ne70 nin0))
  refine qF X104 hx hZ hown (host := "") (Or.inl (w hw 422 rfl)) Via.refl e104 f105 (hb y d16_111) 114 rfl fun T106 X106 e106 => ?_
  refine qC X106 hx (hb y d16_114) (1 : Int32) rfl 115 rfl ?_
  refine o_iadd X106 hx (hb y d16_115) 116 rfl ?_
  refine o_topI (2 : Int32) (by decide) ?_
  refine o_dup_x1 X106 hx (hb y d16_116) rfl rfl 117 rfl ?_
  have f108 := (((f77.wr W76).wr W85).keep Kq93)
  refine qP X106 hx hZ hown (host := "") (Or.inl (w hw 422 rfl)) Via.refl e106 f105 f108 (Or.inl (w hw 423 rfl)) (w hw 143 rfl) (ty := .int) (by decide) rfl rfl (hb y d16_117) 120 rfl fun T107 X107 W107 => ?_
  have O109 := O100.wr W107 g_b0
  have N109 := Fr.snoc X107 N100 g_b0
  have K109 := Keep.wr K100 W107 (Or.inl (by simp))
  refine qa X107 hx (hb y d16_120) rfl rfl 122 rfl ?_
  have f110 := (o_vo (V85.keep Kq93 (ninS ne82 nin0)) W107 ne80)
  have V111 : Arv Z T107.heap a48 c48 (.object s1) (68 : Int32) [.null, (.ref b3), .null] .null := f110.pad (pad_rep [.null, (.ref b3)] .null 1)
  have f113 := (f101.wr W107)
  refine o_aastore X107 hx hZ rfl V111 rfl rfl (fun _ u q => Sto.ofV u q P48 (Ins.self f113)) 2 (by decide) (by decide) (by simp) [.null, (.ref b3), (.ref b4)] rfl (hb y d16_122) 123 rfl fun T112 X112 W112 V112 => ?_
  have O114 := O109.wr W112 g_a48
  have N114 := Fr.snoc X112 N109 g_a48
  have K114 := Keep.wr K109 W112 (Or.inr z_a48)
  refine qG X112 hx (hb y d16_123) 85 (by decide) (by decide) ?_
  refine qA X112 hx (hb y d16_85) rfl rfl 86 rfl ?_
  have f116 := ((p93_0.wr W107).wr W112)
  have f117 := (o_fo (o_fo p93_1 W107 ne70) W112 ne82)
  have f118 := (o_fo (o_fo p93_4 W107 ne70) W112 ne82)
  refine oC (cI X112 hx hZ hown (w hw 205 rfl) (w hw 206 rfl) (w hw 207 rfl) (w hw 208 rfl) (w hw 209 rfl) (w hw 210 rfl) (w hw 211 rfl) (w hw 212 rfl) (w hw 187 rfl) (w hw 213 rfl) (by decide) (by decide) q58_0 [] [] 0 (rm_hasNext_94 l Z a0 T112.heap n0 hw O114 q58_0 f117 f118) (by decide) (by decide) rfl f116 (by rw [hml]; rfl) (lenOf pd_5 rfl) (Nat.le_of_eq rfl) (hb y d16_86) 91 rfl (by decide) (by decide)) rfl rfl fun T119 X119 e119 => ?_
  refine o_ifY X119 hx (hb y d16_91) ((if0 _ _).trans (teq (by decide : (0 : Int32) = (0 : Int32))).1) 126 (by decide) (by decide) ?_
  refine qA X119 hx (hb y d16_126) rfl rfl 127 rfl ?_
  refine qA X119 hx (hb y d16_127) rfl rfl 128 rfl ?_
  have f120 := ((f103.other W107 (Or.inr (Ne.symm (sn_84 hw)))).other W112 (Or.inl ne80))
  refine qF X119 hx hZ hown (host := "") (Or.inl (w hw 174 rfl)) Via.refl e119 f120 (hb y d16_128) 131 rfl fun T121 X121 e121 => ?_
  refine o_alen X121 hx hZ e121 V112 (hb y d16_131) 132 rfl ?_
  refine o_newRA X121 hx hZ hown (by decide) (w hw 214 rfl) (w hw 215 rfl) e121 (hb y d16_132) (by decide) 68 (by decide) (by decide) (by decide) (by decide) s14 (by decide) 135 rfl fun T122 a122 c122 g122 X122 E122 V122 A122 P122 => ?_
  have K123 := Keep.ext K114 E122
  have V122 : Arv Z T122.heap a122 c122 (.array (.object s16)) (68 : Int32) [] .null := V122
  have f125 := (((((((((((((((((((((F_b0_access.ext E2).other W4 (Or.inr (sn_55 hw))).ext E8).other W10 (Or.inr (sn_56 hw))).ext E15).other W17 (Or.inr (sn_57 hw))).ext E21).other W23 (Or.inr (sn_58 hw))).other W27 (Or.inr (sn_59 hw))).other W31 (Or.inr (sn_60 hw))).other W43 (Or.inr (sn_61 hw))).ext E48).other W50 (Or.inr (sn_62 hw))).keep Kq58 nin0).keep Kq64 (ninS ne70 nin0)).other W76 (Or.inr (sn_85 hw))).other W85 (Or.inl ne80)).keep Kq93 (ninS ne70 nin0)).other W107 (Or.inr (sn_85 hw))).other W112 (Or.inl ne80)).ext E122)
  have f126 := (((f108.wr W107).wr W112).ext E122)
  refine qP X122 hx hZ hown (host := "") (Or.inl (w hw 216 rfl)) Via.refl rfl f125 f126 (Or.inr ⟨(w hw 217 rfl), rfl, hnm⟩) (w hw 143 rfl) (ty := (.array (.array (.object s16)))) (by decide) rfl rfl (hb y d16_135) 138 rfl fun T124 X124 W124 => ?_
  have N127 := Fr.snoc X124 N114 g_b0
  have K127 := Keep.wr K123 W124 (Or.inl (by simp))
  have f128 := (f126.wr W124)
  have f129 := ((f120.ext E122).other W124 (Or.inr (Ne.symm (sn_62 hw))))
  have f130 := (o_vo (V112.ext E122) W124 ne80)
  have f131 := ((((((((((A48.wr W50).keep Kq58).keep Kq64).wr W76).wr W85).keep Kq93).wr W107).wr W112).ext E122).wr W124)
  exact qv X124 hx hk hret (hb y d16_138) (by show Q_rm__init__87 Z h0 n0 b0 b1 b2 b3 b4 _ T124.heap _; exact ⟨a48, c48, rfl, N127, K127, z_a48, f128, f129, f130, f131, P48⟩) (by decide) (by decide)
def Q_rm_add_96 (Z : State) (h0 : Heap) (n0 : Nat) (b0 : Addr) (b1 : Addr) (b2 : Addr) (b4 : Addr) (b5 : Addr) (k_b2 : ClassId) (v : Option Value) (h : Heap) (L : List Loc) : Prop := v = none ∧ Fr n0 L ∧ Keep h0 h [b2, b0] ∧ Exa Z h b0 s6 ∧ Fld Z h b0 s24 s29 "I" (.int 3) ∧ Fld Z h b0 s6 s27 s10 (.ref b2) ∧ Fld Z h b0 s6 s26 "I" (.int 3) ∧ Arv Z h b2 k_b2 (.object s8) (10 : Int32) [(.ref b4), (.ref b5), (.ref b1)] .null ∧ Exa Z h b2 s10
theorem rm_add_96 (hw : o_HW Z a0) (O : Old Z n0 h0) (b0 : Addr) (b1 : Addr) (b2 : Addr) (b4 : Addr) (b5 : Addr) (k_b2 : ClassId) (E_b0 : Exa Z h0 b0 s6) (F_b0_modCount : Fld Z h0 b0 s24 s29 "I" (.int 3)) (F_b0_elementData : Fld Z h0 b0 s6 s27 s10 (.ref b2)) (F_b0_size : Fld Z h0 b0 s6 s26 "I" (.int 2)) (g_b0 : n0 ≤ b0) (E_b1 : Exa Z h0 b1 s1) (V_b2 : Arv Z h0 b2 k_b2 (.object s8) (10 : Int32) [(.ref b4), (.ref b5)] .null) (A_b2 : Exa Z h0 b2 s10) (P_b2 : Ovr Z k_b2 s8) (g_b2 : n0 ≤ b2) (ne_b0_b2 : b0 ≠ b2) :
    o_Met l (⟨s6, "add", "(Ljava/lang/Object;[Ljava/lang/Object;I)V"⟩ : MethodName) B26 4 none [] (o_rm 0 0 0 0) Z #[(.ref b0), (.ref b1), (.ref b2), (.int 2)] h0 (Q_rm_add_96 Z h0 n0 b0 b1 b2 b4 b5 k_b2) := by
  refine o_met (pN pn_4) ?_
  intro p e s m below meth c T0 hx y hml hown hret hk hnm hZ X0 e0
  refine o_ent (ef_12 m b0 b1 b2 (2 : Int32)) ?_
  refine qI X0 hx (hb y d24_0) rfl 1 rfl ?_
  refine qA X0 hx (hb y d24_1) rfl rfl 2 rfl ?_
  refine o_alen X0 hx hZ e0 V_b2 (hb y d24_2) 3 rfl ?_
  refine o_icmpY X0 hx (hb y d24_3) (feq (by decide : ¬ ((2 : Int32) = (10 : Int32)))).2 11 (by decide) (by decide) ?_
  refine qA X0 hx (hb y d24_11) rfl rfl 12 rfl ?_
  refine qI X0 hx (hb y d24_12) rfl 13 rfl ?_
  refine qA X0 hx (hb y d24_13) rfl rfl 14 rfl ?_
  have V1 : Arv Z h0 b2 k_b2 (.object s8) (10 : Int32) [(.ref b4), (.ref b5), .null] .null := V_b2.pad (pad_rep [(.ref b4), (.ref b5)] .null 1)
  refine o_aastore X0 hx hZ e0 V1 rfl rfl (fun _ u q => Sto.ofV u q P_b2 (Ins.of_exa E_b1 (w hw 255 rfl))) 2 (by decide) (by decide) (by simp) [(.ref b4), (.ref b5), (.ref b1)] rfl (hb y d24_14) 15 rfl fun T2 X2 W2 V2 => ?_
  have N3 := Fr.snoc X2 (Fr.nil n0) g_b2
  have K3 := Keep.wr (Keep.refl h0 [b2, b0]) W2 (Or.inl (by simp))
  refine qA X2 hx (hb y d24_15) rfl rfl 16 rfl ?_
  refine qI X2 hx (hb y d24_16) rfl 17 rfl ?_
  refine qC X2 hx (hb y d24_17) (1 : Int32) rfl 18 rfl ?_
  refine o_iadd X2 hx (hb y d24_18) 19 rfl ?_
  refine o_topI (3 : Int32) (by decide) ?_
  have f5 := (F_b0_size.other W2 (Or.inl ne_b0_b2))
  have f6 := (E_b0.wr W2)
  refine qP X2 hx hZ hown (host := "") (Or.inl (w hw 90 rfl)) Via.refl rfl f5 f6 (Or.inl (w hw 91 rfl)) (w hw 31 rfl) (ty := .int) (by decide) rfl rfl (hb y d24_19) 22 rfl fun T4 X4 W4 => ?_
  have G4 := Fld.same W4 f5
  have N7 := Fr.snoc X4 N3 g_b0
  have K7 := Keep.wr K3 W4 (Or.inl (by simp))
  have f8 := (f6.wr W4)
  have f9 := ((F_b0_modCount.other W2 (Or.inl ne_b0_b2)).other W4 (Or.inr (Ne.symm (sn_6 hw))))
  have f10 := ((F_b0_elementData.other W2 (Or.inl ne_b0_b2)).other W4 (Or.inr (Ne.symm (sn_7 hw))))
  have f11 := (o_vo V2 W4 ne_b0_b2)
  have f12 := ((A_b2.wr W2).wr W4)
  exact qv X4 hx hk hret (hb y d24_22) (by show Q_rm_add_96 Z h0 n0 b0 b1 b2 b4 b5 k_b2 _ T4.heap _; exact ⟨rfl, N7, K7, f8, f9, f10, G4, f11, f12⟩) (by decide) (by decide)
def Q_rm_add_95 (Z : State) (h0 : Heap) (n0 : Nat) (b0 : Addr) (b1 : Addr) (b2 : Addr) (b4 : Addr) (b5 : Addr) (k_b2 : ClassId) (v : Option Value) (h : Heap) (L : List Loc) : Prop := v = some (.int 1) ∧ Fr n0 L ∧ Keep h0 h [b0, b2] ∧ Exa Z h b0 s6 ∧ Fld Z h b0 s24 s29 "I" (.int 3) ∧ Fld Z h b0 s6 s27 s10 (.ref b2) ∧ Fld Z h b0 s6 s26 "I" (.int 3) ∧ Arv Z h b2 k_b2 (.object s8) (10 : Int32) [(.ref b4), (.ref b5), (.ref b1)] .null ∧ Exa Z h b2 s10
theorem rm_add_95 (hw : o_HW Z a0) (O : Old Z n0 h0) (b0 : Addr) (b1 : Addr) (b2 : Addr) (b4 : Addr) (b5 : Addr) (k_b2 : ClassId) (E_b0 : Exa Z h0 b0 s6) (F_b0_modCount : Fld Z h0 b0 s24 s29 "I" (.int 2)) (F_b0_elementData : Fld Z h0 b0 s6 s27 s10 (.ref b2)) (F_b0_size : Fld Z h0 b0 s6 s26 "I" (.int 2)) (g_b0 : n0 ≤ b0) (E_b1 : Exa Z h0 b1 s1) (V_b2 : Arv Z h0 b2 k_b2 (.object s8) (10 : Int32) [(.ref b4), (.ref b5)] .null) (A_b2 : Exa Z h0 b2 s10) (P_b2 : Ovr Z k_b2 s8) (g_b2 : n0 ≤ b2) (ne_b0_b2 : b0 ≠ b2) :
    o_Met l (⟨s6, "add", "(Ljava/lang/Object;)Z"⟩ : MethodName) B27 2 (some .boolean) [] (o_rm 1 0 0 15) Z #[(.ref b0), (.ref b1)] h0 (Q_rm_add_95 Z h0 n0 b0 b1 b2 b4 b5 k_b2) := by
  refine o_met (pN pn_4) ?_
  intro p e s m below meth c T0 hx y hml hown hret hk hnm hZ X0 e0
  refine o_ent (ef_13 m b0 b1) ?_
  refine qA X0 hx (hb y d23_0) rfl rfl 1 rfl ?_
  refine qD X0 hx (hb y d23_1) rfl 2 rfl ?_
  refine qF X0 hx hZ hown (host := "") (Or.inl (w hw 232 rfl)) (Via.of (w hw 233 rfl)) e0 F_b0_modCount (hb y d23_2) 5 rfl fun T1 X1 e1 => ?_
  refine qC X1 hx (hb y d23_5) (1 : Int32) rfl 6 rfl ?_
  refine o_iadd X1 hx (hb y d23_6) 7 rfl ?_
  refine o_topI (3 : Int32) (by decide) ?_
  refine qP X1 hx hZ hown (host := "") (Or.inl (w hw 232 rfl)) (Via.of (w hw 233 rfl)) e1 F_b0_modCount E_b0 (Or.inl (w hw 50 rfl)) (w hw 31 rfl) (ty := .int) (by decide) rfl rfl (hb y d23_7) 10 rfl fun T2 X2 W2 => ?_
  have G2 := Fld.same W2 F_b0_modCount
  have O3 := O.wr W2 g_b0
  have N3 := Fr.snoc X2 (Fr.nil n0) g_b0
  have K3 := Keep.wr (Keep.refl h0 [b0, b2]) W2 (Or.inl (by simp))
  refine qA X2 hx (hb y d23_10) rfl rfl 11 rfl ?_
  refine qA X2 hx (hb y d23_11) rfl rfl 12 rfl ?_
  refine qA X2 hx (hb y d23_12) rfl rfl 13 rfl ?_
  have f4 := (F_b0_elementData.other W2 (Or.inr (sn_5 hw)))
  refine qF X2 hx hZ hown (host := "") (Or.inl (w hw 52 rfl)) Via.refl rfl f4 (hb y d23_13) 16 rfl fun T5 X5 e5 => ?_
  refine qA X5 hx (hb y d23_16) rfl rfl 17 rfl ?_
  have f6 := (F_b0_size.other W2 (Or.inr (sn_6 hw)))
  refine qF X5 hx hZ hown (host := "") (Or.inl (w hw 90 rfl)) Via.refl e5 f6 (hb y d23_17) 20 rfl fun T7 X7 e7 => ?_
  have f9 := (E_b0.wr W2)
  have f10 := (E_b1.wr W2)
  have f11 := (o_vo V_b2 W2 ne_b0_b2)
  have f12 := (A_b2.wr W2)
  refine o_kP X7 hx hZ hown (w hw 234 rfl) (w hw 235 rfl) (w hw 236 rfl) (w hw 31 rfl) (w hw 32 rfl) (w hw 238 rfl) (by decide) b0 [(.ref b1), (.ref b2), (.int 2)] [] 0 (rm_add_96 l Z a0 T2.heap n0 hw O3 b0 b1 b2 b4 b5 k_b2 f9 G2 f4 f6 g_b0 f10 f11 f12 P_b2 g_b2 ne_b0_b2) (by decide) (by decide) e7 f9 (by rw [hml]; rfl) (lenOf pd_19 rfl) (Nat.le_of_eq rfl) (hb y d23_20) 23 rfl (by decide) (by decide) fun v8 T8 L8 X8 hQ8 => ?_
  obtain ⟨rfl, Nq8, Kq8, p8_0, p8_1, p8_2, p8_3, p8_4, p8_5⟩ := hQ8
  have N13 := Fr.app N3 Nq8
  have K13 := Keep.trans K3 Kq8 (allS (Or.inl (by simp)) (allS (Or.inl (by simp)) all0))
  refine o_nV ?_
  refine qC X8 hx (hb y d23_23) (1 : Int32) rfl 24 rfl ?_
  exact o_retZ X8 hx hk hret (hb y d23_24) rfl (by show Q_rm_add_95 Z h0 n0 b0 b1 b2 b4 b5 k_b2 _ T8.heap _; exact ⟨rfl, N13, K13, p8_0, p8_1, p8_2, p8_3, p8_4, p8_5⟩) (by decide) (by decide)
theorem rm_isEmpty_100 (hw : o_HW Z a0) (O : Old Z n0 h0) (b0 : Addr) (F_b0_size : Fld Z h0 b0 s6 s26 "I" (.int 3)) :
    o_Met l (⟨s6, "isEmpty", "()Z"⟩ : MethodName) B7 1 (some .boolean) [] (o_rm 0 0 0 0) Z #[(.ref b0)] h0 (o_R (some (.int 0)) h0) := by
  refine o_met (pN pn_4) ?_
  intro p e s m below meth c T0 hx y hml hown hret hk hnm hZ X0 e0
  refine o_ent (ef_2 m b0) ?_
  refine qA X0 hx (hb y d10_0) rfl rfl 1 rfl ?_
  refine qF X0 hx hZ hown (host := "") (Or.inl (w hw 90 rfl)) Via.refl e0 F_b0_size (hb y d10_1) 4 rfl fun T1 X1 e1 => ?_
  refine o_ifY X1 hx (hb y d10_4) ((if0 _ _).trans (feq (by decide : ¬ ((3 : Int32) = (0 : Int32)))).2) 11 (by decide) (by decide) ?_
  refine qC X1 hx (hb y d10_11) (0 : Int32) rfl 12 rfl ?_
  exact o_retZ X1 hx hk hret (hb y d10_12) rfl ⟨rfl, e1, rfl⟩ (by decide) (by decide)
theorem rm_min_104 (hw : o_HW Z a0) (O : Old Z n0 h0)  :
    o_Met l (⟨s69, "min", "(II)I"⟩ : MethodName) B28 2 (some .int) [] (o_rm 0 0 0 0) Z #[(.int 10), (.int 3)] h0 (o_R (some (.int 3)) h0) := by
  refine o_met (Jvm.Free.JP.mathPlain rfl (by decide +kernel)) ?_
  intro p e s m below meth c T0 hx y hml hown hret hk hnm hZ X0 e0
  refine o_ent (ef_10 m (10 : Int32) (3 : Int32)) ?_
  refine qI X0 hx (hb y d31_0) rfl 1 rfl ?_
  refine qI X0 hx (hb y d31_1) rfl 2 rfl ?_
  refine o_icmpY X0 hx (hb y d31_2) (tlt (by decide : (3 : Int32) < (10 : Int32))).2.2.1 9 (by decide) (by decide) ?_
  refine qI X0 hx (hb y d31_9) rfl 10 rfl ?_
  exact o_retI X0 hx hk hret (hb y d31_10) ⟨rfl, e0, rfl⟩ (by decide) (by decide)
def Q_rm_copyOf_103 (Z : State) (h0 : Heap) (n0 : Nat) (b0 : Addr) (b1 : Addr) (b2 : Addr) (b3 : Addr) (k_b0 : ClassId) (v : Option Value) (h : Heap) (L : List Loc) : Prop := ∃ (y0 : Addr) (yk0 : ClassId), v = some (.ref y0) ∧ Fr n0 L ∧ Keep h0 h [] ∧ h0.size ≤ y0 ∧ Arv Z h y0 yk0 (.object s8) (3 : Int32) [(.ref b1), (.ref b2), (.ref b3)] .null ∧ Exa Z h y0 s10 ∧ Ovr Z yk0 s8
theorem rm_copyOf_103 (hw : o_HW Z a0) (H : o_C Z Z.heap w_NW w_DC w_EL w_EA w_EM w_MO w_cacheI c_cacheI k_DC k_EA z_CS) (O : Old Z n0 h0) (b0 : Addr) (b1 : Addr) (b2 : Addr) (b3 : Addr) (k_b0 : ClassId) (V_b0 : Arv Z h0 b0 k_b0 (.object s8) (10 : Int32) [(.ref b1), (.ref b2), (.ref b3)] .null) (E_b1 : Exa Z h0 b1 s1) (E_b2 : Exa Z h0 b2 s1) (E_b3 : Exa Z h0 b3 s1) :
    o_Met l (⟨s51, "copyOf", s57⟩ : MethodName) B29 4 (some (.array (.object s8))) [] (o_rm 1 1 3 30) Z #[(.ref b0), (.int 3), (.ref w_MO)] h0 (Q_rm_copyOf_103 Z h0 n0 b0 b1 b2 b3 k_b0) := by
  refine o_met (pN pn_17) ?_
  intro p e s m below meth c T0 hx y hml hown hret hk hnm hZ X0 e0
  obtain ⟨-, -, -, -, -, -, -, -, -, -, -, -, -, -, -, M_OA, -, -, -⟩ := id H
  refine o_ent (ef_14 m b0 (3 : Int32) w_MO) ?_
  refine qA X0 hx (hb y d30_0) rfl rfl 1 rfl ?_
  refine o_ldcM X0 hx hZ hown (w hw 277 rfl) e0 M_OA (hb y d30_1) 3 rfl fun T1 X1 e1 => ?_
  refine qm X1 hx true (hb y d30_3) rfl rfl (decide_eq_true rfl) 6 (by decide) (by decide) ?_
  refine qI X1 hx (hb y d30_6) rfl 7 rfl ?_
  refine o_newR X1 hx hZ hown (w hw 278 rfl) (w hw 254 rfl) e1 (hb y d30_7) (by decide) 3 (by decide) (by decide) (by decide) (by decide) s10 (by decide) 10 rfl fun T2 a2 c2 g2 X2 E2 V2 A2 P2 => ?_
  have g_a2 : n0 ≤ a2 := Nat.le_trans (o_osz O) (Nat.le_of_eq g2)
  have z_a2 : h0.size ≤ a2 := Nat.le_trans ((Keep.refl h0 [])).1 (Nat.le_of_eq g2)
  have O3 := O.ext E2
  have K3 := Keep.ext (Keep.refl h0 []) E2
  have V2 : Arv Z T2.heap a2 c2 (.object s8) (3 : Int32) [] .null := V2
  refine qG X2 hx (hb y d30_10) 24 (by decide) (by decide) ?_
  refine qh X2 hx (hb y d30_24) #[.val (.ref b0), .val (.int 3), .val (.ref w_MO), .val (.ref a2)] rfl rfl 25 rfl ?_
  refine qA X2 hx (hb y d30_25) rfl rfl 26 rfl ?_
  refine qC X2 hx (hb y d30_26) (0 : Int32) rfl 27 rfl ?_
  refine qA X2 hx (hb y d30_27) rfl rfl 28 rfl ?_
  refine qC X2 hx (hb y d30_28) (0 : Int32) rfl 29 rfl ?_
  refine qA X2 hx (hb y d30_29) rfl rfl 30 rfl ?_
  have f4 := (V_b0.ext E2)
  refine o_alen X2 hx hZ rfl f4 (hb y d30_30) 31 rfl ?_
  refine qI X2 hx (hb y d30_31) rfl 32 rfl ?_
  refine qS X2 hx hZ hown (w hw 279 rfl) (w hw 280 rfl) (w hw 251 rfl) (w hw 281 rfl) (by decide) [(.int 10), (.int 3)] [(.int 0), (.ref a2), (.int 0), (.ref b0)] 4 (rm_min_104 l Z a0 T2.heap n0 hw O3 ) (by decide) (by decide) rfl rfl rfl (by rw [hml]; rfl) (lenOf pd_16 rfl) (Nat.le_of_eq rfl) (hb y d30_32) 35 rfl rfl (by decide) (by decide) fun T6 X6 e6 => ?_
  have V7 : Arv Z T2.heap a2 c2 (.object s8) (3 : Int32) [.null, .null, .null] .null := V2.pad (pad_rep [] .null 3)
  have f9 := (E_b1.ext E2)
  have f10 := (E_b2.ext E2)
  have f11 := (E_b3.ext E2)
  refine o_cpR X6 hx hZ hown (w hw 282 rfl) (w hw 285 rfl) (w hw 283 rfl) (w hw 284 rfl) e6 f4 V7 rfl rfl [(.ref b1), (.ref b2), (.ref b3)] (fun _ u q => ⟨Sto.ofV u q P2 (Ins.of_exa f9 (w hw 255 rfl)), Sto.ofV u q P2 (Ins.of_exa f10 (w hw 255 rfl)), Sto.ofV u q P2 (Ins.of_exa f11 (w hw 255 rfl)), trivial⟩) (by decide) (by decide) (by decide) (by decide) (by decide) rfl (Nat.le_of_ble_eq_true rfl) [(.ref b1), (.ref b2), (.ref b3)] rfl (Fr.nil n0) g_a2 (by rw [hml]; rfl) (hb y d30_35) (by decide) 0 (Nat.le_of_eq rfl) (by decide) 38 rfl fun T8 L8 X8 N8 K8 V8 => ?_
  have K12 := Keep.trans K3 K8 (allS (Or.inr z_a2) all0)
  refine qA X8 hx (hb y d30_38) rfl rfl 39 rfl ?_
  have f13 := (A2.keep K8)
  exact qR X8 hx hk hret rfl rfl (hb y d30_39) rfl (by show Q_rm_copyOf_103 Z h0 n0 b0 b1 b2 b3 k_b0 _ T8.heap _; exact ⟨a2, c2, rfl, N8, K12, z_a2, V8, f13, P2⟩) (by decide) (by decide)
def Q_rm_copyOf_102 (Z : State) (h0 : Heap) (n0 : Nat) (b0 : Addr) (b1 : Addr) (b2 : Addr) (b3 : Addr) (k_b0 : ClassId) (v : Option Value) (h : Heap) (L : List Loc) : Prop := ∃ (y0 : Addr) (yk0 : ClassId), v = some (.ref y0) ∧ Fr n0 L ∧ Keep h0 h [] ∧ h0.size ≤ y0 ∧ Arv Z h y0 yk0 (.object s8) (3 : Int32) [(.ref b1), (.ref b2), (.ref b3)] .null ∧ Exa Z h y0 s10 ∧ Ovr Z yk0 s8
theorem rm_copyOf_102 (hw : o_HW Z a0) (H : o_C Z Z.heap w_NW w_DC w_EL w_EA w_EM w_MO w_cacheI c_cacheI k_DC k_EA z_CS) (O : Old Z n0 h0) (b0 : Addr) (b1 : Addr) (b2 : Addr) (b3 : Addr) (k_b0 : ClassId) (V_b0 : Arv Z h0 b0 k_b0 (.object s8) (10 : Int32) [(.ref b1), (.ref b2), (.ref b3)] .null) (A_b0 : Exa Z h0 b0 s10) (E_b1 : Exa Z h0 b1 s1) (E_b2 : Exa Z h0 b2 s1) (E_b3 : Exa Z h0 b3 s1) :
    o_Met l (⟨s51, "copyOf", "([Ljava/lang/Object;I)[Ljava/lang/Object;"⟩ : MethodName) B30 2 (some (.array (.object s8))) [] (o_rm 2 1 3 45) Z #[(.ref b0), (.int 3)] h0 (Q_rm_copyOf_102 Z h0 n0 b0 b1 b2 b3 k_b0) := by
  refine o_met (pN pn_17) ?_
  intro p e s m below meth c T0 hx y hml hown hret hk hnm hZ X0 e0
  obtain ⟨-, -, -, -, -, -, -, -, -, -, -, -, -, -, -, M_OA, -, -, -⟩ := id H
  refine o_ent (ef_8 m b0 (3 : Int32)) ?_
  refine qA X0 hx (hb y d29_0) rfl rfl 1 rfl ?_
  refine qI X0 hx (hb y d29_1) rfl 2 rfl ?_
  refine qA X0 hx (hb y d29_2) rfl rfl 3 rfl ?_
  refine o_gcls X0 hx hZ hown (w hw 268 rfl) (w hw 269 rfl) (w hw 79 rfl) (w hw 271 rfl) (w hw 270 rfl) (w hw 272 rfl) e0 A_b0 M_OA (by rw [hml]; rfl) (hb y d29_3) (by decide) 2 (Nat.le_of_eq rfl) (by decide) 6 rfl fun T1 X1 e1 => ?_
  refine kS X1 hx hZ hown (w hw 274 rfl) (w hw 275 rfl) (w hw 266 rfl) (w hw 276 rfl) (by decide) [(.ref b0), (.int 3), (.ref w_MO)] [] 0 (rm_copyOf_103 l Z a0 h0 n0 hw H O b0 b1 b2 b3 k_b0 V_b0 E_b1 E_b2 E_b3) (by decide) (by decide) e1 (by rw [hml]; rfl) (lenOf pd_21 rfl) (Nat.le_of_eq rfl) (hb y d29_6) (by decide) (by decide) 9 rfl fun v2 T2 L2 X2 hQ2 => ?_
  obtain ⟨q2_0, qk2_0, rfl, Nq2, Kq2, le_q2_0, p2_0, p2_1, p2_2⟩ := hQ2
  have z_q2_0 : h0.size ≤ q2_0 := Nat.le_trans ((Keep.refl h0 [])).1 le_q2_0
  have N3 := Fr.app (Fr.nil n0) Nq2
  have K3 := Keep.trans (Keep.refl h0 []) Kq2 all0
  refine o_nR ?_
  exact qR X2 hx hk hret rfl rfl (hb y d29_9) rfl (by show Q_rm_copyOf_102 Z h0 n0 b0 b1 b2 b3 k_b0 _ T2.heap _; exact ⟨q2_0, qk2_0, rfl, N3, K3, z_q2_0, p2_0, p2_1, p2_2⟩) (by decide) (by decide)
def Q_rm_toArray_101 (Z : State) (h0 : Heap) (n0 : Nat) (b0 : Addr) (b1 : Addr) (b2 : Addr) (b3 : Addr) (b4 : Addr) (k_b1 : ClassId) (v : Option Value) (h : Heap) (L : List Loc) : Prop := ∃ (y0 : Addr) (yk0 : ClassId), v = some (.ref y0) ∧ Fr n0 L ∧ Keep h0 h [] ∧ h0.size ≤ y0 ∧ Arv Z h y0 yk0 (.object s8) (3 : Int32) [(.ref b2), (.ref b3), (.ref b4)] .null ∧ Exa Z h y0 s10 ∧ Ovr Z yk0 s8
theorem rm_toArray_101 (hw : o_HW Z a0) (H : o_C Z Z.heap w_NW w_DC w_EL w_EA w_EM w_MO w_cacheI c_cacheI k_DC k_EA z_CS) (O : Old Z n0 h0) (b0 : Addr) (b1 : Addr) (b2 : Addr) (b3 : Addr) (b4 : Addr) (k_b1 : ClassId) (F_b0_elementData : Fld Z h0 b0 s6 s27 s10 (.ref b1)) (F_b0_size : Fld Z h0 b0 s6 s26 "I" (.int 3)) (V_b1 : Arv Z h0 b1 k_b1 (.object s8) (10 : Int32) [(.ref b2), (.ref b3), (.ref b4)] .null) (A_b1 : Exa Z h0 b1 s10) (E_b2 : Exa Z h0 b2 s1) (E_b3 : Exa Z h0 b3 s1) (E_b4 : Exa Z h0 b4 s1) :
    o_Met l (⟨s6, "toArray", "()[Ljava/lang/Object;"⟩ : MethodName) B31 1 (some (.array (.object s8))) [] (o_rm 3 1 3 58) Z #[(.ref b0)] h0 (Q_rm_toArray_101 Z h0 n0 b0 b1 b2 b3 b4 k_b1) := by
  refine o_met (pN pn_4) ?_
  intro p e s m below meth c T0 hx y hml hown hret hk hnm hZ X0 e0
  obtain ⟨-, -, -, -, -, -, -, -, -, -, -, -, -, -, -, -, -, -, -⟩ := id H
  refine o_ent (ef_2 m b0) ?_
  refine qA X0 hx (hb y d28_0) rfl rfl 1 rfl ?_
  refine qF X0 hx hZ hown (host := "") (Or.inl (w hw 52 rfl)) Via.refl e0 F_b0_elementData (hb y d28_1) 4 rfl fun T1 X1 e1 => ?_
  refine qA X1 hx (hb y d28_4) rfl rfl 5 rfl ?_
  refine qF X1 hx hZ hown (host := "") (Or.inl (w hw 90 rfl)) Via.refl e1 F_b0_size (hb y d28_5) 8 rfl fun T2 X2 e2 => ?_
  refine kS X2 hx hZ hown (w hw 264 rfl) (w hw 265 rfl) (w hw 266 rfl) (w hw 267 rfl) (by decide) [(.ref b1), (.int 3)] [] 0 (rm_copyOf_102 l Z a0 h0 n0 hw H O b1 b2 b3 b4 k_b1 V_b1 A_b1 E_b2 E_b3 E_b4) (by decide) (by decide) e2 (by rw [hml]; rfl) (lenOf pd_22 rfl) (Nat.le_of_eq rfl) (hb y d28_8) (by decide) (by decide) 11 rfl fun v3 T3 L3 X3 hQ3 => ?_
  obtain ⟨q3_0, qk3_0, rfl, Nq3, Kq3, le_q3_0, p3_0, p3_1, p3_2⟩ := hQ3
  have z_q3_0 : h0.size ≤ q3_0 := Nat.le_trans ((Keep.refl h0 [])).1 le_q3_0
  have N4 := Fr.app (Fr.nil n0) Nq3
  have K4 := Keep.trans (Keep.refl h0 []) Kq3 all0
  refine o_nR ?_
  exact qR X3 hx hk hret rfl rfl (hb y d28_11) rfl (by show Q_rm_toArray_101 Z h0 n0 b0 b1 b2 b3 b4 k_b1 _ T3.heap _; exact ⟨q3_0, qk3_0, rfl, N4, K4, z_q3_0, p3_0, p3_1, p3_2⟩) (by decide) (by decide)
def Q_rm__init__107 (Z : State) (h0 : Heap) (n0 : Nat) (b0 : Addr) (b1 : Addr) (v : Option Value) (h : Heap) (L : List Loc) : Prop := v = none ∧ Fr n0 L ∧ Keep h0 h [b0] ∧ Exa Z h b0 s11 ∧ Fld Z h b0 s11 s70 "Z" (.int 0) ∧ Fld Z h b0 s11 s54 s10 (.ref b1)
theorem d54_0 : decode B53 0 = .ok (.aload_n 0, 1) := by decide +kernel
theorem d54_1 : decode B53 1 = .ok (.invokespecial 1, 3) := by decide +kernel
theorem d54_4 : decode B53 4 = .ok (.aload_n 0, 1) := by decide +kernel
theorem d54_5 : decode B53 5 = .ok (.aload_n 1, 1) := by decide +kernel
theorem d54_6 : decode B53 6 = .ok (.putfield 7, 3) := by decide +kernel
theorem d54_9 : decode B53 9 = .ok (.aload_n 0, 1) := by decide +kernel
theorem d54_10 : decode B53 10 = .ok (.iload_n 2, 1) := by decide +kernel
theorem d54_11 : decode B53 11 = .ok (.putfield 13, 3) := by decide +kernel
theorem d54_14 : decode B53 14 = .ok (.return_, 1) := by decide +kernel
theorem rm__init__107 (hw : o_HW Z a0) (O : Old Z n0 h0) (b0 : Addr) (b1 : Addr) (E_b0 : Exa Z h0 b0 s11) (F_b0_allowNulls : Fld Z h0 b0 s11 s70 "Z" (.int 0)) (F_b0_elements : Fld Z h0 b0 s11 s54 s10 .null) (g_b0 : n0 ≤ b0) :
    o_Met l (⟨s11, s50, "([Ljava/lang/Object;Z)V"⟩ : MethodName) B53 3 none [] (o_rm 4 0 0 48) Z #[(.ref b0), (.ref b1), (.int 0)] h0 (Q_rm__init__107 Z h0 n0 b0 b1) := by
  refine o_met (pN pn_10) ?_
  intro p e s m below meth c T0 hx y hml hown hret hk hnm hZ X0 e0
  refine o_ent (ef_1 m b0 b1 (0 : Int32)) ?_
  refine qA X0 hx (hb y d54_0) rfl rfl 1 rfl ?_
  refine vN X0 hx hZ rfl hown (w hw 302 rfl) (w hw 303 rfl) (w hw 183 rfl) (w hw 306 rfl) (by decide) b0 [] [] 0 (rm__init__43 l Z a0 h0 n0 hw O b0) (by decide) (by decide) rfl rfl e0 (by rw [hml]; rfl) (lenOf pd_4 rfl) (Nat.le_of_eq rfl) (hb y d54_1) 4 rfl rfl (by decide) (by decide) fun T2 X2 e2 => ?_
  refine qA X2 hx (hb y d54_4) rfl rfl 5 rfl ?_
  refine qA X2 hx (hb y d54_5) rfl rfl 6 rfl ?_
  refine qP X2 hx hZ hown (host := "") (Or.inl (w hw 140 rfl)) Via.refl e2 F_b0_elements E_b0 (Or.inr ⟨(w hw 141 rfl), rfl, hnm⟩) (w hw 297 rfl) (ty := (.array (.object s8))) (by decide) rfl rfl (hb y d54_6) 9 rfl fun T3 X3 W3 => ?_
  have G3 := Fld.same W3 F_b0_elements
  have N4 := Fr.snoc X3 (Fr.nil n0) g_b0
  have K4 := Keep.wr (Keep.refl h0 [b0]) W3 (Or.inl (by simp))
  refine qA X3 hx (hb y d54_9) rfl rfl 10 rfl ?_
  refine qI X3 hx (hb y d54_10) rfl 11 rfl ?_
  have f6 := (F_b0_allowNulls.other W3 (Or.inr (sn_86 hw)))
  have f7 := (E_b0.wr W3)
  refine o_putFN X3 hx hZ hown (w hw 315 rfl) Via.refl rfl ((.int 0)) f6 f7 (Or.inr ⟨(w hw 316 rfl), rfl, hnm⟩) (w hw 297 rfl) (ty := .boolean) (by decide) rfl rfl (hb y d54_11) 14 rfl fun T5 X5 W5 => ?_
  have G5 := Fld.same W5 f6
  have N8 := Fr.snoc X5 N4 g_b0
  have K8 := Keep.wr K4 W5 (Or.inl (by simp))
  have f9 := (f7.wr W5)
  have f10 := (G3.other W5 (Or.inr (Ne.symm (sn_86 hw))))
  exact qv X5 hx hk hret (hb y d54_14) (by show Q_rm__init__107 Z h0 n0 b0 b1 _ T5.heap _; exact ⟨rfl, N8, K8, f9, G5, f10⟩) (by decide) (by decide)
def Q_rm_listFromArray_106 (Z : State) (h0 : Heap) (n0 : Nat) (b0 : Addr) (b1 : Addr) (b2 : Addr) (b3 : Addr) (k_b0 : ClassId) (v : Option Value) (h : Heap) (L : List Loc) : Prop := ∃ (y0 y1 : Addr) (yk0 : ClassId), v = some (.ref y0) ∧ Fr n0 L ∧ Keep h0 h [] ∧ h0.size ≤ y0 ∧ h0.size ≤ y1 ∧ y0 ≠ y1 ∧ Exa Z h y0 s11 ∧ Fld Z h y0 s11 s70 "Z" (.int 0) ∧ Fld Z h y0 s11 s54 s10 (.ref y1) ∧ Arv Z h y1 yk0 (.object s8) (3 : Int32) [(.ref b1), (.ref b2), (.ref b3)] .null ∧ Exa Z h y1 s10 ∧ Ovr Z yk0 s8
theorem pd_39 : parseMethodDescriptor "([Ljava/lang/Object;Z)V" = some ⟨[(.array (.object "java/lang/Object")), .boolean], none⟩ := by decide +kernel
theorem d53_0 : decode B54 0 = .ok (.aload_n 0, 1) := by decide +kernel
theorem d53_1 : decode B54 1 = .ok (.arraylength, 1) := by decide +kernel
theorem d53_2 : decode B54 2 = .ok (.anewarray 2, 3) := by decide +kernel
theorem d53_5 : decode B54 5 = .ok (.astore_n 1, 1) := by decide +kernel
theorem d53_6 : decode B54 6 = .ok (.iconst 0, 1) := by decide +kernel
theorem d53_7 : decode B54 7 = .ok (.istore_n 2, 1) := by decide +kernel
theorem d53_8 : decode B54 8 = .ok (.iload_n 2, 1) := by decide +kernel
theorem d53_9 : decode B54 9 = .ok (.aload_n 0, 1) := by decide +kernel
theorem d53_10 : decode B54 10 = .ok (.arraylength, 1) := by decide +kernel
theorem d53_11 : decode B54 11 = .ok (.if_icmp .ge 18, 3) := by decide +kernel
theorem d53_14 : decode B54 14 = .ok (.aload_n 1, 1) := by decide +kernel
theorem d53_15 : decode B54 15 = .ok (.iload_n 2, 1) := by decide +kernel
theorem d53_16 : decode B54 16 = .ok (.aload_n 0, 1) := by decide +kernel
theorem d53_17 : decode B54 17 = .ok (.iload_n 2, 1) := by decide +kernel
theorem d53_18 : decode B54 18 = .ok (.aaload, 1) := by decide +kernel
theorem d53_19 : decode B54 19 = .ok (.invokestatic 37, 3) := by decide +kernel
theorem d53_22 : decode B54 22 = .ok (.aastore, 1) := by decide +kernel
theorem d53_23 : decode B54 23 = .ok (.iinc 2 1, 3) := by decide +kernel
theorem d53_26 : decode B54 26 = .ok (.goto (-18), 3) := by decide +kernel
theorem d53_29 : decode B54 29 = .ok (.new 12, 3) := by decide +kernel
theorem d53_32 : decode B54 32 = .ok (.dup, 1) := by decide +kernel
theorem d53_33 : decode B54 33 = .ok (.aload_n 1, 1) := by decide +kernel
theorem d53_34 : decode B54 34 = .ok (.iconst 0, 1) := by decide +kernel
theorem d53_35 : decode B54 35 = .ok (.invokespecial 43, 3) := by decide +kernel
theorem d53_38 : decode B54 38 = .ok (.areturn, 1) := by decide +kernel
theorem rm_listFromArray_106 (hw : o_HW Z a0) (O : Old Z n0 h0) (b0 : Addr) (b1 : Addr) (b2 : Addr) (b3 : Addr) (k_b0 : ClassId) (V_b0 : Arv Z h0 b0 k_b0 (.object s8) (3 : Int32) [(.ref b1), (.ref b2), (.ref b3)] .null) (A_b0 : Exa Z h0 b0 s10) (E_b1 : Exa Z h0 b1 s1) (E_b2 : Exa Z h0 b2 s1) (E_b3 : Exa Z h0 b3 s1) :
    o_Met l (⟨s38, "listFromArray", s63⟩ : MethodName) B54 3 (some (.object s21)) [] (o_rm 5 2 5 63) Z #[(.ref b0)] h0 (Q_rm_listFromArray_106 Z h0 n0 b0 b1 b2 b3 k_b0) := by
  refine o_met (pN pn_6) ?_
  intro p e s m below meth c T0 hx y hml hown hret hk hnm hZ X0 e0
  refine o_ent (ef_19 m b0) ?_
  refine qA X0 hx (hb y d53_0) rfl rfl 1 rfl ?_
  refine o_alen X0 hx hZ e0 V_b0 (hb y d53_1) 2 rfl ?_
  refine o_newR X0 hx hZ hown (w hw 292 rfl) (w hw 254 rfl) e0 (hb y d53_2) (by decide) 3 (by decide) (by decide) (by decide) (by decide) s10 (by decide) 5 rfl fun T1 a1 c1 g1 X1 E1 V1 A1 P1 => ?_
  have g_a1 : n0 ≤ a1 := Nat.le_trans (o_osz O) (Nat.le_of_eq g1)
  have z_a1 : h0.size ≤ a1 := Nat.le_trans ((Keep.refl h0 [])).1 (Nat.le_of_eq g1)
  have O2 := O.ext E1
  have K2 := Keep.ext (Keep.refl h0 []) E1
  have V1 : Arv Z T1.heap a1 c1 (.object s8) (3 : Int32) [] .null := V1
  refine qh X1 hx (hb y d53_5) #[.val (.ref b0), .val (.ref a1), .unset] rfl rfl 6 rfl ?_
  refine qC X1 hx (hb y d53_6) (0 : Int32) rfl 7 rfl ?_
  refine qk X1 hx (hb y d53_7) #[.val (.ref b0), .val (.ref a1), .val (.int 0)] rfl 8 rfl ?_
  refine qI X1 hx (hb y d53_8) rfl 9 rfl ?_
  refine qA X1 hx (hb y d53_9) rfl rfl 10 rfl ?_
  have f3 := (V_b0.ext E1)
  refine o_alen X1 hx hZ rfl f3 (hb y d53_10) 11 rfl ?_
  refine qn X1 hx (hb y d53_11) (tlt (by decide : (0 : Int32) < (3 : Int32))).2.1 14 rfl ?_
  refine qA X1 hx (hb y d53_14) rfl rfl 15 rfl ?_
  refine qI X1 hx (hb y d53_15) rfl 16 rfl ?_
  refine qA X1 hx (hb y d53_16) rfl rfl 17 rfl ?_
  refine qI X1 hx (hb y d53_17) rfl 18 rfl ?_
  refine o_aaload X1 hx hZ rfl f3 rfl (.ref b1) (by decide) rfl (hb y d53_18) 19 rfl ?_
  refine qS X1 hx hZ hown (w hw 293 rfl) (w hw 294 rfl) (w hw 295 rfl) (w hw 296 rfl) (by decide) [(.ref b1)] [(.int 0), (.ref a1)] 2 (rm_requireNonNull_45 l Z a0 T1.heap n0 hw O2 b1) (by decide) (by decide) rfl rfl rfl (by rw [hml]; rfl) (lenOf pd_23 rfl) (Nat.le_of_eq rfl) (hb y d53_19) 22 rfl rfl (by decide) (by decide) fun T5 X5 e5 => ?_
  have V6 : Arv Z T1.heap a1 c1 (.object s8) (3 : Int32) [.null] .null := V1.pad (pad_rep [] .null 1)
  have f8 := (E_b1.ext E1)
  refine o_aastore X5 hx hZ e5 V6 rfl rfl (fun _ u q => Sto.ofV u q P1 (Ins.of_exa f8 (w hw 255 rfl))) 0 (by decide) (by decide) (by simp) [(.ref b1)] rfl (hb y d53_22) 23 rfl fun T7 X7 W7 V7 => ?_
  have O9 := O2.wr W7 g_a1
  have N9 := Fr.snoc X7 (Fr.nil n0) g_a1
  have K9 := Keep.wr K2 W7 (Or.inr z_a1)
  refine o_iincC X7 hx (hb y d53_23) #[.val (.ref b0), .val (.ref a1), .val (.int 1)] rfl (1 : Int32) (by decide) rfl 26 rfl ?_
  refine qG X7 hx (hb y d53_26) 8 (by decide) (by decide) ?_
  refine qI X7 hx (hb y d53_8) rfl 9 rfl ?_
  refine qA X7 hx (hb y d53_9) rfl rfl 10 rfl ?_
  have ne10 := o_nl A_b0.lt (Nat.le_refl _) (Nat.le_of_eq g1)
  have f11 := (f3.other W7 ne10)
  refine o_alen X7 hx hZ rfl f11 (hb y d53_10) 11 rfl ?_
  refine qn X7 hx (hb y d53_11) (tlt (by decide : (1 : Int32) < (3 : Int32))).2.1 14 rfl ?_
  refine qA X7 hx (hb y d53_14) rfl rfl 15 rfl ?_
  refine qI X7 hx (hb y d53_15) rfl 16 rfl ?_
  refine qA X7 hx (hb y d53_16) rfl rfl 17 rfl ?_
  refine qI X7 hx (hb y d53_17) rfl 18 rfl ?_
  refine o_aaload X7 hx hZ rfl f11 rfl (.ref b2) (by decide) rfl (hb y d53_18) 19 rfl ?_
  refine qS X7 hx hZ hown (w hw 293 rfl) (w hw 294 rfl) (w hw 295 rfl) (w hw 296 rfl) (by decide) [(.ref b2)] [(.int 1), (.ref a1)] 2 (rm_requireNonNull_45 l Z a0 T7.heap n0 hw O9 b2) (by decide) (by decide) rfl rfl rfl (by rw [hml]; rfl) (lenOf pd_23 rfl) (Nat.le_of_eq rfl) (hb y d53_19) 22 rfl rfl (by decide) (by decide) fun T13 X13 e13 => ?_
  have V14 : Arv Z T7.heap a1 c1 (.object s8) (3 : Int32) [(.ref b1), .null] .null := V7.pad (pad_rep [(.ref b1)] .null 1)
  have f16 := ((E_b2.ext E1).wr W7)
  refine o_aastore X13 hx hZ e13 V14 rfl rfl (fun _ u q => Sto.ofV u q P1 (Ins.of_exa f16 (w hw 255 rfl))) 1 (by decide) (by decide) (by simp) [(.ref b1), (.ref b2)] rfl (hb y d53_22) 23 rfl fun T15 X15 W15 V15 => ?_
  have O17 := O9.wr W15 g_a1
  have N17 := Fr.snoc X15 N9 g_a1
  have K17 := Keep.wr K9 W15 (Or.inr z_a1)
  refine o_iincC X15 hx (hb y d53_23) #[.val (.ref b0), .val (.ref a1), .val (.int 2)] rfl (2 : Int32) (by decide) rfl 26 rfl ?_
  refine qG X15 hx (hb y d53_26) 8 (by decide) (by decide) ?_
  refine qI X15 hx (hb y d53_8) rfl 9 rfl ?_
  refine qA X15 hx (hb y d53_9) rfl rfl 10 rfl ?_
  have f18 := (f11.other W15 ne10)
  refine o_alen X15 hx hZ rfl f18 (hb y d53_10) 11 rfl ?_
  refine qn X15 hx (hb y d53_11) (tlt (by decide : (2 : Int32) < (3 : Int32))).2.1 14 rfl ?_
  refine qA X15 hx (hb y d53_14) rfl rfl 15 rfl ?_
  refine qI X15 hx (hb y d53_15) rfl 16 rfl ?_
  refine qA X15 hx (hb y d53_16) rfl rfl 17 rfl ?_
  refine qI X15 hx (hb y d53_17) rfl 18 rfl ?_
  refine o_aaload X15 hx hZ rfl f18 rfl (.ref b3) (by decide) rfl (hb y d53_18) 19 rfl ?_
  refine qS X15 hx hZ hown (w hw 293 rfl) (w hw 294 rfl) (w hw 295 rfl) (w hw 296 rfl) (by decide) [(.ref b3)] [(.int 2), (.ref a1)] 2 (rm_requireNonNull_45 l Z a0 T15.heap n0 hw O17 b3) (by decide) (by decide) rfl rfl rfl (by rw [hml]; rfl) (lenOf pd_23 rfl) (Nat.le_of_eq rfl) (hb y d53_19) 22 rfl rfl (by decide) (by decide) fun T20 X20 e20 => ?_
  have V21 : Arv Z T15.heap a1 c1 (.object s8) (3 : Int32) [(.ref b1), (.ref b2), .null] .null := V15.pad (pad_rep [(.ref b1), (.ref b2)] .null 1)
  have f23 := (((E_b3.ext E1).wr W7).wr W15)
  refine o_aastore X20 hx hZ e20 V21 rfl rfl (fun _ u q => Sto.ofV u q P1 (Ins.of_exa f23 (w hw 255 rfl))) 2 (by decide) (by decide) (by simp) [(.ref b1), (.ref b2), (.ref b3)] rfl (hb y d53_22) 23 rfl fun T22 X22 W22 V22 => ?_
  have O24 := O17.wr W22 g_a1
  have N24 := Fr.snoc X22 N17 g_a1
  have K24 := Keep.wr K17 W22 (Or.inr z_a1)
  refine o_iincC X22 hx (hb y d53_23) #[.val (.ref b0), .val (.ref a1), .val (.int 3)] rfl (3 : Int32) (by decide) rfl 26 rfl ?_
  refine qG X22 hx (hb y d53_26) 8 (by decide) (by decide) ?_
  refine qI X22 hx (hb y d53_8) rfl 9 rfl ?_
  refine qA X22 hx (hb y d53_9) rfl rfl 10 rfl ?_
  have f25 := (f18.other W22 ne10)
  refine o_alen X22 hx hZ rfl f25 (hb y d53_10) 11 rfl ?_
  refine o_icmpY X22 hx (hb y d53_11) (flt (by decide : ¬ ((3 : Int32) < (3 : Int32)))).2.1 29 (by decide) (by decide) ?_
  refine nO X22 hx hZ hown (w hw 80 rfl) (w hw 297 rfl) (w hw 138 rfl) rfl (hb y d53_29) 32 rfl (by decide) (by decide) fun T26 a26 g26 X26 E26 A26 D26 => ?_
  have g_a26 : n0 ≤ a26 := Nat.le_trans (o_osz O24) (Nat.le_of_eq g26)
  have z_a26 : h0.size ≤ a26 := Nat.le_trans (K24).1 (Nat.le_of_eq g26)
  have O27 := O24.ext E26
  have K27 := Keep.ext K24 E26
  have F26_elements : Fld Z T26.heap a26 s11 s54 s10 .null := D26 (Or.inr (w hw 141 rfl)) (ty := (.array (.object s8))) (by decide)
  have F26_allowNulls : Fld Z T26.heap a26 s11 s70 "Z" (.int 0) := D26 (Or.inr (w hw 316 rfl)) (ty := .boolean) (by decide)
  refine qD X26 hx (hb y d53_32) rfl 33 rfl ?_
  refine qA X26 hx (hb y d53_33) rfl rfl 34 rfl ?_
  refine qC X26 hx (hb y d53_34) (0 : Int32) rfl 35 rfl ?_
  refine o_kNN X26 hx hZ rfl hown (w hw 298 rfl) (w hw 299 rfl) (w hw 138 rfl) (w hw 301 rfl) (by decide) a26 [(.ref a1), (.int 0)] [(.ref a26)] 1 (rm__init__107 l Z a0 T26.heap n0 hw O27 a26 a1 A26 F26_allowNulls F26_elements g_a26) (by decide) (by decide) rfl (by rw [hml]; rfl) (lenOf pd_39 rfl) (Nat.le_of_eq rfl) (hb y d53_35) (by decide) (by decide) 38 rfl fun v28 T28 L28 X28 hQ28 => ?_
  obtain ⟨rfl, Nq28, Kq28, p28_0, p28_1, p28_2⟩ := hQ28
  have N29 := Fr.app N24 Nq28
  have K29 := Keep.trans K27 Kq28 (allS (Or.inr z_a26) all0)
  refine o_nV ?_
  have l31 := (Nat.le_trans (Nat.le_trans (Nat.le_of_eq (Wr.size W7).symm) (Nat.le_of_eq (Wr.size W15).symm)) (Nat.le_of_eq (Wr.size W22).symm))
  have ne30 := o_nl A1.lt l31 (Nat.le_of_eq g26)
  have f32 := ((V22.ext E26).keep Kq28 (ninS ne30 nin0))
  have f33 := (((((A1.wr W7).wr W15).wr W22).ext E26).keep Kq28)
  exact qR X28 hx hk hret rfl rfl (hb y d53_38) rfl (by show Q_rm_listFromArray_106 Z h0 n0 b0 b1 b2 b3 k_b0 _ T28.heap _; exact ⟨a26, a1, c1, rfl, N29, K29, z_a26, z_a1, (Ne.symm ne30), p28_0, p28_1, p28_2, f32, f33, P1⟩) (by decide) (by decide)
def Q_rm_of_105 (Z : State) (h0 : Heap) (n0 : Nat) (b0 : Addr) (b1 : Addr) (b2 : Addr) (b3 : Addr) (k_b0 : ClassId) (v : Option Value) (h : Heap) (L : List Loc) : Prop := ∃ (y0 y1 : Addr) (yk0 : ClassId), v = some (.ref y0) ∧ Fr n0 L ∧ Keep h0 h [] ∧ h0.size ≤ y0 ∧ h0.size ≤ y1 ∧ y0 ≠ y1 ∧ Exa Z h y0 s11 ∧ Fld Z h y0 s11 s70 "Z" (.int 0) ∧ Fld Z h y0 s11 s54 s10 (.ref y1) ∧ Arv Z h y1 yk0 (.object s8) (3 : Int32) [(.ref b1), (.ref b2), (.ref b3)] .null ∧ Exa Z h y1 s10 ∧ Ovr Z yk0 s8
theorem d32_59 : decode B36 59 = .ok (.aload_n 0, 1) := by decide +kernel
theorem d32_60 : decode B36 60 = .ok (.invokestatic 109, 3) := by decide +kernel
theorem d32_63 : decode B36 63 = .ok (.areturn, 1) := by decide +kernel
theorem rm_of_105 (hw : o_HW Z a0) (O : Old Z n0 h0) (b0 : Addr) (b1 : Addr) (b2 : Addr) (b3 : Addr) (k_b0 : ClassId) (V_b0 : Arv Z h0 b0 k_b0 (.object s8) (3 : Int32) [(.ref b1), (.ref b2), (.ref b3)] .null) (A_b0 : Exa Z h0 b0 s10) (E_b1 : Exa Z h0 b1 s1) (E_b2 : Exa Z h0 b2 s1) (E_b3 : Exa Z h0 b3 s1) :
    o_Met l (⟨s21, "of", s63⟩ : MethodName) B36 2 (some (.object s21)) [] (o_rm 6 2 5 77) Z #[(.ref b0)] h0 (Q_rm_of_105 Z h0 n0 b0 b1 b2 b3 k_b0) := by
  refine o_met (pN pn_5) ?_
  intro p e s m below meth c T0 hx y hml hown hret hk hnm hZ X0 e0
  refine o_ent (ef_4 m b0) ?_
  refine qA X0 hx (hb y d32_0) rfl rfl 1 rfl ?_
  refine o_alen X0 hx hZ e0 V_b0 (hb y d32_1) 2 rfl ?_
  refine o_tswD X0 hx (hb y d32_2) (by decide) 59 (by decide) (by decide) ?_
  refine qA X0 hx (hb y d32_59) rfl rfl 60 rfl ?_
  refine kS X0 hx hZ hown (w hw 289 rfl) (w hw 290 rfl) (w hw 73 rfl) (w hw 291 rfl) (by decide) [(.ref b0)] [] 0 (rm_listFromArray_106 l Z a0 h0 n0 hw O b0 b1 b2 b3 k_b0 V_b0 A_b0 E_b1 E_b2 E_b3) (by decide) (by decide) e0 (by rw [hml]; rfl) (lenOf pd_25 rfl) (Nat.le_of_eq rfl) (hb y d32_60) (by decide) (by decide) 63 rfl fun v1 T1 L1 X1 hQ1 => ?_
  obtain ⟨q1_0, q1_1, qk1_0, rfl, Nq1, Kq1, le_q1_0, le_q1_1, ne_q1_0_q1_1, p1_0, p1_1, p1_2, p1_3, p1_4, p1_5⟩ := hQ1
  have z_q1_0 : h0.size ≤ q1_0 := Nat.le_trans ((Keep.refl h0 [])).1 le_q1_0
  have z_q1_1 : h0.size ≤ q1_1 := Nat.le_trans ((Keep.refl h0 [])).1 le_q1_1
  have N2 := Fr.app (Fr.nil n0) Nq1
  have K2 := Keep.trans (Keep.refl h0 []) Kq1 all0
  refine o_nR ?_
  exact qR X1 hx hk hret rfl rfl (hb y d32_63) rfl (by show Q_rm_of_105 Z h0 n0 b0 b1 b2 b3 k_b0 _ T1.heap _; exact ⟨q1_0, q1_1, qk1_0, rfl, N2, K2, z_q1_0, z_q1_1, ne_q1_0_q1_1, p1_0, p1_1, p1_2, p1_3, p1_4, p1_5⟩) (by decide) (by decide)
def Q_rm_listCopy_99 (Z : State) (h0 : Heap) (n0 : Nat) (b0 : Addr) (b1 : Addr) (b2 : Addr) (b3 : Addr) (b4 : Addr) (k_b1 : ClassId) (v : Option Value) (h : Heap) (L : List Loc) : Prop := ∃ (y0 y1 : Addr) (yk0 : ClassId), v = some (.ref y0) ∧ Fr n0 L ∧ Keep h0 h [] ∧ h0.size ≤ y0 ∧ h0.size ≤ y1 ∧ y0 ≠ y1 ∧ Exa Z h y0 s11 ∧ Fld Z h y0 s11 s70 "Z" (.int 0) ∧ Fld Z h y0 s11 s54 s10 (.ref y1) ∧ Arv Z h y1 yk0 (.object s8) (3 : Int32) [(.ref b2), (.ref b3), (.ref b4)] .null ∧ Exa Z h y1 s10 ∧ Ovr Z yk0 s8
theorem rm_listCopy_99 (hw : o_HW Z a0) (H : o_C Z Z.heap w_NW w_DC w_EL w_EA w_EM w_MO w_cacheI c_cacheI k_DC k_EA z_CS) (O : Old Z n0 h0) (b0 : Addr) (b1 : Addr) (b2 : Addr) (b3 : Addr) (b4 : Addr) (k_b1 : ClassId) (E_b0 : Exa Z h0 b0 s6) (F_b0_elementData : Fld Z h0 b0 s6 s27 s10 (.ref b1)) (F_b0_size : Fld Z h0 b0 s6 s26 "I" (.int 3)) (V_b1 : Arv Z h0 b1 k_b1 (.object s8) (10 : Int32) [(.ref b2), (.ref b3), (.ref b4)] .null) (A_b1 : Exa Z h0 b1 s10) (E_b2 : Exa Z h0 b2 s1) (E_b3 : Exa Z h0 b3 s1) (E_b4 : Exa Z h0 b4 s1) :
    o_Met l (⟨s38, "listCopy", s40⟩ : MethodName) B9 2 (some (.object s21)) [] (o_rm 7 3 8 90) Z #[(.ref b0)] h0 (Q_rm_listCopy_99 Z h0 n0 b0 b1 b2 b3 b4 k_b1) := by
  refine o_met (pN pn_6) ?_
  intro p e s m below meth c T0 hx y hml hown hret hk hnm hZ X0 e0
  obtain ⟨-, -, -, -, -, -, -, -, -, -, -, -, -, -, -, -, -, -, -⟩ := id H
  refine o_ent (ef_4 m b0) ?_
  refine qA X0 hx (hb y d9_0) rfl rfl 1 rfl ?_
  refine o_instNo X0 hx hZ hown (w hw 75 rfl) e0 E_b0 (o_no (w hw 76 rfl) (w hw 425 rfl) (NS.step (w hw 76 rfl) (NS.step (w hw 77 rfl) (NS.step (w hw 78 rfl) (o_root (w hw 79 rfl) (Cond.instantiable_spec (w hw 425 rfl)).choose_spec.choose_spec.1 (by decide)) (by decide)) (by decide)) (by decide)) (by decide)) (hb y d9_1) 4 rfl fun T1 X1 e1 => ?_
  refine qN X1 hx (hb y d9_4) ((if0 _ _).trans (teq (by decide : (0 : Int32) = (0 : Int32))).2) 7 rfl ?_
  refine qA X1 hx (hb y d9_7) rfl rfl 8 rfl ?_
  refine o_instNo X1 hx hZ hown (w hw 80 rfl) e1 E_b0 (o_no (w hw 76 rfl) (w hw 297 rfl) (NS.step (w hw 76 rfl) (NS.step (w hw 77 rfl) (NS.step (w hw 78 rfl) (o_root (w hw 79 rfl) (Cond.instantiable_spec (w hw 297 rfl)).choose_spec.choose_spec.1 (by decide)) (by decide)) (by decide)) (by decide)) (by decide)) (hb y d9_8) 11 rfl fun T2 X2 e2 => ?_
  refine o_ifY X2 hx (hb y d9_11) ((if0 _ _).trans (teq (by decide : (0 : Int32) = (0 : Int32))).1) 31 (by decide) (by decide) ?_
  refine qA X2 hx (hb y d9_31) rfl rfl 32 rfl ?_
  refine oC (cI X2 hx hZ hown (w hw 81 rfl) (w hw 82 rfl) (w hw 83 rfl) (w hw 84 rfl) (w hw 85 rfl) (w hw 86 rfl) (w hw 87 rfl) (w hw 88 rfl) (w hw 32 rfl) (w hw 89 rfl) (by decide) (by decide) b0 [] [] 0 (rm_isEmpty_100 l Z a0 h0 n0 hw O b0 F_b0_size) (by decide) (by decide) e2 E_b0 (by rw [hml]; rfl) (lenOf pd_5 rfl) (Nat.le_of_eq rfl) (hb y d9_32) 37 rfl (by decide) (by decide)) rfl rfl fun T4 X4 e4 => ?_
  refine o_ifY X4 hx (hb y d9_37) ((if0 _ _).trans (teq (by decide : (0 : Int32) = (0 : Int32))).1) 44 (by decide) (by decide) ?_
  refine qA X4 hx (hb y d9_44) rfl rfl 45 rfl ?_
  refine kI X4 hx hZ hown (w hw 256 rfl) (w hw 257 rfl) (w hw 258 rfl) (w hw 259 rfl) (w hw 260 rfl) (w hw 261 rfl) (w hw 262 rfl) (w hw 88 rfl) (w hw 32 rfl) (w hw 263 rfl) (by decide) (by decide) b0 [] [] 0 (rm_toArray_101 l Z a0 h0 n0 hw H O b0 b1 b2 b3 b4 k_b1 F_b0_elementData F_b0_size V_b1 A_b1 E_b2 E_b3 E_b4) (by decide) (by decide) e4 E_b0 (by rw [hml]; rfl) (lenOf pd_18 rfl) (Nat.le_of_eq rfl) (hb y d9_45) 50 rfl (by decide) (by decide) fun v5 T5 L5 X5 hQ5 => ?_
  obtain ⟨q5_0, qk5_0, rfl, Nq5, Kq5, le_q5_0, p5_0, p5_1, p5_2⟩ := hQ5
  have O6 := O.keep Kq5 all0
  have N6 := Fr.app (Fr.nil n0) Nq5
  have K6 := Keep.trans (Keep.refl h0 []) Kq5 all0
  refine o_nR ?_
  have f8 := (E_b2.keep Kq5)
  have f9 := (E_b3.keep Kq5)
  have f10 := (E_b4.keep Kq5)
  refine kS X5 hx hZ hown (w hw 286 rfl) (w hw 287 rfl) (w hw 69 rfl) (w hw 288 rfl) (by decide) [(.ref q5_0)] [] 0 (rm_of_105 l Z a0 T5.heap n0 hw O6 q5_0 b2 b3 b4 qk5_0 p5_0 p5_1 f8 f9 f10) (by decide) (by decide) rfl (by rw [hml]; rfl) (lenOf pd_25 rfl) (Nat.le_of_eq rfl) (hb y d9_50) (by decide) (by decide) 53 rfl fun v7 T7 L7 X7 hQ7 => ?_
  obtain ⟨q7_0, q7_1, qk7_0, rfl, Nq7, Kq7, le_q7_0, le_q7_1, ne_q7_0_q7_1, p7_0, p7_1, p7_2, p7_3, p7_4, p7_5⟩ := hQ7
  have z_q7_0 : h0.size ≤ q7_0 := Nat.le_trans (K6).1 le_q7_0
  have z_q7_1 : h0.size ≤ q7_1 := Nat.le_trans (K6).1 le_q7_1
  have N11 := Fr.app N6 Nq7
  have K11 := Keep.trans K6 Kq7 all0
  refine o_nR ?_
  exact qR X7 hx hk hret rfl rfl (hb y d9_53) rfl (by show Q_rm_listCopy_99 Z h0 n0 b0 b1 b2 b3 b4 k_b1 _ T7.heap _; exact ⟨q7_0, q7_1, qk7_0, rfl, N11, K11, z_q7_0, z_q7_1, ne_q7_0_q7_1, p7_0, p7_1, p7_2, p7_3, p7_4, p7_5⟩) (by decide) (by decide)
def Q_rm_copyOf_98 (Z : State) (h0 : Heap) (n0 : Nat) (b0 : Addr) (b1 : Addr) (b2 : Addr) (b3 : Addr) (b4 : Addr) (k_b1 : ClassId) (v : Option Value) (h : Heap) (L : List Loc) : Prop := ∃ (y0 y1 : Addr) (yk0 : ClassId), v = some (.ref y0) ∧ Fr n0 L ∧ Keep h0 h [] ∧ h0.size ≤ y0 ∧ h0.size ≤ y1 ∧ y0 ≠ y1 ∧ Exa Z h y0 s11 ∧ Fld Z h y0 s11 s70 "Z" (.int 0) ∧ Fld Z h y0 s11 s54 s10 (.ref y1) ∧ Arv Z h y1 yk0 (.object s8) (3 : Int32) [(.ref b2), (.ref b3), (.ref b4)] .null ∧ Exa Z h y1 s10 ∧ Ovr Z yk0 s8
theorem rm_copyOf_98 (hw : o_HW Z a0) (H : o_C Z Z.heap w_NW w_DC w_EL w_EA w_EM w_MO w_cacheI c_cacheI k_DC k_EA z_CS) (O : Old Z n0 h0) (b0 : Addr) (b1 : Addr) (b2 : Addr) (b3 : Addr) (b4 : Addr) (k_b1 : ClassId) (E_b0 : Exa Z h0 b0 s6) (F_b0_elementData : Fld Z h0 b0 s6 s27 s10 (.ref b1)) (F_b0_size : Fld Z h0 b0 s6 s26 "I" (.int 3)) (V_b1 : Arv Z h0 b1 k_b1 (.object s8) (10 : Int32) [(.ref b2), (.ref b3), (.ref b4)] .null) (A_b1 : Exa Z h0 b1 s10) (E_b2 : Exa Z h0 b2 s1) (E_b3 : Exa Z h0 b3 s1) (E_b4 : Exa Z h0 b4 s1) :
    o_Met l (⟨s21, "copyOf", s40⟩ : MethodName) B10 1 (some (.object s21)) [] (o_rm 8 3 8 103) Z #[(.ref b0)] h0 (Q_rm_copyOf_98 Z h0 n0 b0 b1 b2 b3 b4 k_b1) := by
  refine o_met (pN pn_5) ?_
  intro p e s m below meth c T0 hx y hml hown hret hk hnm hZ X0 e0
  obtain ⟨-, -, -, -, -, -, -, -, -, -, -, -, -, -, -, -, -, -, -⟩ := id H
  refine o_ent (ef_2 m b0) ?_
  refine qA X0 hx (hb y d8_0) rfl rfl 1 rfl ?_
  refine kS X0 hx hZ hown (w hw 71 rfl) (w hw 72 rfl) (w hw 73 rfl) (w hw 74 rfl) (by decide) [(.ref b0)] [] 0 (rm_listCopy_99 l Z a0 h0 n0 hw H O b0 b1 b2 b3 b4 k_b1 E_b0 F_b0_elementData F_b0_size V_b1 A_b1 E_b2 E_b3 E_b4) (by decide) (by decide) e0 (by rw [hml]; rfl) (lenOf pd_7 rfl) (Nat.le_of_eq rfl) (hb y d8_1) (by decide) (by decide) 4 rfl fun v1 T1 L1 X1 hQ1 => ?_
  obtain ⟨q1_0, q1_1, qk1_0, rfl, Nq1, Kq1, le_q1_0, le_q1_1, ne_q1_0_q1_1, p1_0, p1_1, p1_2, p1_3, p1_4, p1_5⟩ := hQ1
  have z_q1_0 : h0.size ≤ q1_0 := Nat.le_trans ((Keep.refl h0 [])).1 le_q1_0
  have z_q1_1 : h0.size ≤ q1_1 := Nat.le_trans ((Keep.refl h0 [])).1 le_q1_1
  have N2 := Fr.app (Fr.nil n0) Nq1
  have K2 := Keep.trans (Keep.refl h0 []) Kq1 all0
  refine o_nR ?_
  exact qR X1 hx hk hret rfl rfl (hb y d8_4) rfl (by show Q_rm_copyOf_98 Z h0 n0 b0 b1 b2 b3 b4 k_b1 _ T1.heap _; exact ⟨q1_0, q1_1, qk1_0, rfl, N2, K2, z_q1_0, z_q1_1, ne_q1_0_q1_1, p1_0, p1_1, p1_2, p1_3, p1_4, p1_5⟩) (by decide) (by decide)
theorem rm_size_108 (hw : o_HW Z a0) (O : Old Z n0 h0) (b0 : Addr) (b1 : Addr) (b2 : Addr) (b3 : Addr) (b4 : Addr) (k_b1 : ClassId) (F_b0_elements : Fld Z h0 b0 s11 s54 s10 (.ref b1)) (V_b1 : Arv Z h0 b1 k_b1 (.object s8) (3 : Int32) [(.ref b2), (.ref b3), (.ref b4)] .null) :
    o_Met l (⟨s11, s26, "()I"⟩ : MethodName) B14 1 (some .int) [] (o_rm 0 0 0 0) Z #[(.ref b0)] h0 (o_R (some (.int 3)) h0) := by
  refine o_met (pN pn_10) ?_
  intro p e s m below meth c T0 hx y hml hown hret hk hnm hZ X0 e0
  refine o_ent (ef_2 m b0) ?_
  refine qA X0 hx (hb y d15_0) rfl rfl 1 rfl ?_
  refine qF X0 hx hZ hown (host := "") (Or.inl (w hw 140 rfl)) Via.refl e0 F_b0_elements (hb y d15_1) 4 rfl fun T1 X1 e1 => ?_
  refine o_alen X1 hx hZ e1 V_b1 (hb y d15_4) 5 rfl ?_
  exact o_retI X1 hx hk hret (hb y d15_5) ⟨rfl, e1, rfl⟩ (by decide) (by decide)
theorem d55_0 : decode B55 0 = .ok (.aload_n 0, 1) := by decide +kernel
theorem d55_1 : decode B55 1 = .ok (.getfield 7, 3) := by decide +kernel
theorem d55_4 : decode B55 4 = .ok (.iload_n 1, 1) := by decide +kernel
theorem d55_5 : decode B55 5 = .ok (.aaload, 1) := by decide +kernel
theorem d55_6 : decode B55 6 = .ok (.areturn, 1) := by decide +kernel
theorem rm_get_109 (hw : o_HW Z a0) (O : Old Z n0 h0) (b0 : Addr) (b1 : Addr) (b2 : Addr) (b3 : Addr) (b4 : Addr) (k_b1 : ClassId) (F_b0_elements : Fld Z h0 b0 s11 s54 s10 (.ref b1)) (V_b1 : Arv Z h0 b1 k_b1 (.object s8) (3 : Int32) [(.ref b2), (.ref b3), (.ref b4)] .null) :
    o_Met l (⟨s11, "get", s71⟩ : MethodName) B55 2 (some (.object s8)) [] (o_rm 0 0 0 0) Z #[(.ref b0), (.int 0)] h0 (o_R (some (.ref b2)) h0) := by
  refine o_met (pN pn_10) ?_
  intro p e s m below meth c T0 hx y hml hown hret hk hnm hZ X0 e0
  refine o_ent (ef_8 m b0 (0 : Int32)) ?_
  refine qA X0 hx (hb y d55_0) rfl rfl 1 rfl ?_
  refine qF X0 hx hZ hown (host := "") (Or.inl (w hw 140 rfl)) Via.refl e0 F_b0_elements (hb y d55_1) 4 rfl fun T1 X1 e1 => ?_
  refine qI X1 hx (hb y d55_4) rfl 5 rfl ?_
  refine o_aaload X1 hx hZ e1 V_b1 rfl (.ref b2) (by decide) rfl (hb y d55_5) 6 rfl ?_
  exact qR X1 hx hk hret rfl rfl (hb y d55_6) rfl ⟨rfl, e1, rfl⟩ (by decide) (by decide)
theorem rm_get_110 (hw : o_HW Z a0) (O : Old Z n0 h0) (b0 : Addr) (b1 : Addr) (b2 : Addr) (b3 : Addr) (b4 : Addr) (k_b1 : ClassId) (F_b0_elements : Fld Z h0 b0 s11 s54 s10 (.ref b1)) (V_b1 : Arv Z h0 b1 k_b1 (.object s8) (3 : Int32) [(.ref b2), (.ref b3), (.ref b4)] .null) :
    o_Met l (⟨s11, "get", s71⟩ : MethodName) B55 2 (some (.object s8)) [] (o_rm 0 0 0 0) Z #[(.ref b0), (.int 1)] h0 (o_R (some (.ref b3)) h0) := by
  refine o_met (pN pn_10) ?_
  intro p e s m below meth c T0 hx y hml hown hret hk hnm hZ X0 e0
  refine o_ent (ef_8 m b0 (1 : Int32)) ?_
  refine qA X0 hx (hb y d55_0) rfl rfl 1 rfl ?_
  refine qF X0 hx hZ hown (host := "") (Or.inl (w hw 140 rfl)) Via.refl e0 F_b0_elements (hb y d55_1) 4 rfl fun T1 X1 e1 => ?_
  refine qI X1 hx (hb y d55_4) rfl 5 rfl ?_
  refine o_aaload X1 hx hZ e1 V_b1 rfl (.ref b3) (by decide) rfl (hb y d55_5) 6 rfl ?_
  exact qR X1 hx hk hret rfl rfl (hb y d55_6) rfl ⟨rfl, e1, rfl⟩ (by decide) (by decide)
theorem rm_get_111 (hw : o_HW Z a0) (O : Old Z n0 h0) (b0 : Addr) (b1 : Addr) (b2 : Addr) (b3 : Addr) (b4 : Addr) (k_b1 : ClassId) (F_b0_elements : Fld Z h0 b0 s11 s54 s10 (.ref b1)) (V_b1 : Arv Z h0 b1 k_b1 (.object s8) (3 : Int32) [(.ref b2), (.ref b3), (.ref b4)] .null) :
    o_Met l (⟨s11, "get", s71⟩ : MethodName) B55 2 (some (.object s8)) [] (o_rm 0 0 0 0) Z #[(.ref b0), (.int 2)] h0 (o_R (some (.ref b4)) h0) := by
  refine o_met (pN pn_10) ?_
  intro p e s m below meth c T0 hx y hml hown hret hk hnm hZ X0 e0
  refine o_ent (ef_8 m b0 (2 : Int32)) ?_
  refine qA X0 hx (hb y d55_0) rfl rfl 1 rfl ?_
  refine qF X0 hx hZ hown (host := "") (Or.inl (w hw 140 rfl)) Via.refl e0 F_b0_elements (hb y d55_1) 4 rfl fun T1 X1 e1 => ?_
  refine qI X1 hx (hb y d55_4) rfl 5 rfl ?_
  refine o_aaload X1 hx hZ e1 V_b1 rfl (.ref b4) (by decide) rfl (hb y d55_5) 6 rfl ?_
  exact qR X1 hx hk hret rfl rfl (hb y d55_6) rfl ⟨rfl, e1, rfl⟩ (by decide) (by decide)
def Q_rm_boxI_3 (Z : State) (h0 : Heap) (n0 : Nat) (v : Option Value) (h : Heap) (L : List Loc) : Prop := ∃ r : Addr, v = some (.ref r) ∧ Fr n0 L ∧ Keep h0 h [] ∧ Exa Z h r s39 ∧ Fld Z h r s39 s34 "I" (.int 3)
theorem rm_boxI_3 (hw : o_HW Z a0) (H : o_C Z Z.heap w_NW w_DC w_EL w_EA w_EM w_MO w_cacheI c_cacheI k_DC k_EA z_CS) (O : Old Z n0 h0) :
    o_Met l (⟨s39, "valueOf", "(I)Ljava/lang/Integer;"⟩ : MethodName) B40 1 (some (.object s39)) [] (o_rm 0 0 0 0) Z #[(.int 3)] h0 (Q_rm_boxI_3 Z h0 n0) := by
  refine o_met (pN pn_21) ?_
  intro p e s m below meth c T0 hx y hml hown hret hk hnm hZ X0 e0
  obtain ⟨-, -, -, -, -, -, -, -, -, -, -, -, -, -, -, -, S_w_cacheI, B_w_cacheI, S_high⟩ := id H
  refine o_ent (ef_0 m (3 : Int32)) ?_
  refine qI X0 hx (hb y d40_0) rfl 1 rfl ?_
  refine o_bipush X0 hx (hb y d40_1) (-128 : Int32) rfl 3 rfl ?_
  refine qn X0 hx (hb y d40_3) (flt (by decide : ¬ ((3 : Int32) < (-128 : Int32)))).1 6 rfl ?_
  refine qI X0 hx (hb y d40_6) rfl 7 rfl ?_
  refine o_getS X0 hx hZ hown (host := "") (Or.inl (w hw 335 rfl)) Via.refl e0 (S_high.ext O.2) (hb y d40_7) 10 rfl fun T1 X1 e1 => ?_
  refine qn X1 hx (hb y d40_10) (flt (by decide : ¬ ((127 : Int32) < (3 : Int32)))).2.2.1 13 rfl ?_
  refine o_getS X1 hx hZ hown (host := "") (Or.inl (w hw 337 rfl)) Via.refl e1 (S_w_cacheI.ext O.2) (hb y d40_13) 16 rfl fun T2 X2 e2 => ?_
  refine qI X2 hx (hb y d40_16) rfl 17 rfl ?_
  refine o_sipush X2 hx (hb y d40_17) (128 : Int32) rfl 20 rfl ?_
  refine o_iadd X2 hx (hb y d40_20) 21 rfl ?_
  refine o_topI (131 : Int32) (by decide) ?_
  refine o_box X2 hx hZ e2 O B_w_cacheI (by decide) (hb y d40_21) 22 rfl fun r Er Fq => ?_
  have Fr2 : Fld Z h0 r s39 s34 "I" (.int ((131 : Int32) - 128)) := Fq
  rw [show ((131 : Int32) - 128) = (3 : Int32) from by decide] at Fr2
  exact qR X2 hx hk hret rfl rfl (hb y d40_22) rfl (by show Q_rm_boxI_3 Z h0 n0 _ T2.heap _; rw [e2]; exact ⟨r, rfl, (Fr.nil n0), (Keep.refl h0 []), Er, Fr2⟩) (by decide) (by decide)
theorem rm_hashCode_115 (hw : o_HW Z a0) (O : Old Z n0 h0) (b0 : Addr) (k_b0 : ClassId) (V_b0 : Arv Z h0 b0 k_b0 .byte (1 : Int32) [(.int 114)] (.int 0)) :
    o_Met l (⟨s36, "hashCode", "([B)I"⟩ : MethodName) B42 1 (some .int) [] (o_rm 0 0 0 0) Z #[(.ref b0)] h0 (o_R (some (.int 114)) h0) := by
  refine o_met (pN pn_0) ?_
  intro p e s m below meth c T0 hx y hml hown hret hk hnm hZ X0 e0
  refine o_ent (ef_2 m b0) ?_
  refine qA X0 hx (hb y d45_0) rfl rfl 1 rfl ?_
  refine o_alen X0 hx hZ e0 V_b0 (hb y d45_1) 2 rfl ?_
  refine o_lsw X0 hx 30 (hb y d45_2) (by decide) (by decide) 32 (by decide) (by decide) ?_
  refine qA X0 hx (hb y d45_32) rfl rfl 33 rfl ?_
  refine qC X0 hx (hb y d45_33) (0 : Int32) rfl 34 rfl ?_
  refine o_baload X0 hx hZ e0 V_b0 (.int 114) (by decide) rfl (hb y d45_34) 35 rfl ?_
  refine o_sipush X0 hx (hb y d45_35) (255 : Int32) rfl 38 rfl ?_
  refine o_iand X0 hx (hb y d45_38) 39 rfl ?_
  refine o_topI (114 : Int32) (by decide) ?_
  refine qG X0 hx (hb y d45_39) 51 (by decide) (by decide) ?_
  exact o_retI X0 hx hk hret (hb y d45_51) ⟨rfl, e0, rfl⟩ (by decide) (by decide)
def Q_rm_hashCode_114 (Z : State) (h0 : Heap) (n0 : Nat) (b0 : Addr) (b1 : Addr) (k_b1 : ClassId) (v : Option Value) (h : Heap) (L : List Loc) : Prop := v = some (.int 114) ∧ Fr n0 L ∧ Keep h0 h [b0] ∧ Exa Z h b0 s4 ∧ Fld Z h b0 s4 s43 "B" (.int 0) ∧ Fld Z h b0 s4 s37 "I" (.int 114) ∧ Fld Z h b0 s4 s33 "Z" (.int 0) ∧ Fld Z h b0 s4 s34 "[B" (.ref b1)
theorem rm_hashCode_114 (hw : o_HW Z a0) (H : o_C Z Z.heap w_NW w_DC w_EL w_EA w_EM w_MO w_cacheI c_cacheI k_DC k_EA z_CS) (O : Old Z n0 h0) (b0 : Addr) (b1 : Addr) (k_b1 : ClassId) (E_b0 : Exa Z h0 b0 s4) (F_b0_coder : Fld Z h0 b0 s4 s43 "B" (.int 0)) (F_b0_hash : Fld Z h0 b0 s4 s37 "I" (.int 0)) (F_b0_hashIsZero : Fld Z h0 b0 s4 s33 "Z" (.int 0)) (F_b0_value : Fld Z h0 b0 s4 s34 "[B" (.ref b1)) (g_b0 : n0 ≤ b0) (V_b1 : Arv Z h0 b1 k_b1 .byte (1 : Int32) [(.int 114)] (.int 0)) :
    o_Met l (⟨s4, "hashCode", "()I"⟩ : MethodName) B43 2 (some .int) [] (o_rm 1 0 0 12) Z #[(.ref b0)] h0 (Q_rm_hashCode_114 Z h0 n0 b0 b1 k_b1) := by
  refine o_met (pN pn_1) ?_
  intro p e s m below meth c T0 hx y hml hown hret hk hnm hZ X0 e0
  obtain ⟨-, -, -, -, -, -, -, -, -, -, -, -, -, -, -, -, -, -, -⟩ := id H
  refine o_ent (ef_4 m b0) ?_
  refine qA X0 hx (hb y d43_0) rfl rfl 1 rfl ?_
  refine qF X0 hx hZ hown (host := "") (Or.inl (w hw 356 rfl)) Via.refl e0 F_b0_hash (hb y d43_1) 4 rfl fun T1 X1 e1 => ?_
  refine qk X1 hx (hb y d43_4) #[.val (.ref b0), .val (.int 0)] rfl 5 rfl ?_
  refine qI X1 hx (hb y d43_5) rfl 6 rfl ?_
  refine qN X1 hx (hb y d43_6) ((if0 _ _).trans (teq (by decide : (0 : Int32) = (0 : Int32))).2) 9 rfl ?_
  refine qA X1 hx (hb y d43_9) rfl rfl 10 rfl ?_
  refine qF X1 hx hZ hown (host := "") (Or.inl (w hw 358 rfl)) Via.refl e1 F_b0_hashIsZero (hb y d43_10) 13 rfl fun T2 X2 e2 => ?_
  refine qN X2 hx (hb y d43_13) ((if0 _ _).trans (teq (by decide : (0 : Int32) = (0 : Int32))).2) 16 rfl ?_
  refine qA X2 hx (hb y d43_16) rfl rfl 17 rfl ?_
  refine qV X2 hx hZ hown (w hw 360 rfl) (w hw 361 rfl) (notFace_of_selects (args := #[]) (mvT hZ (w hw 363 rfl))) (w hw 363 rfl) (w hw 362 rfl) (w hw 6 rfl) (w hw 364 rfl) (by decide) b0 [] [] 0 (rm_isLatin1_52 l Z a0 h0 n0 hw H O b0 F_b0_coder) (by decide) (by decide) rfl rfl e2 E_b0 (by rw [hml]; rfl) (lenOf pd_5 rfl) (Nat.le_of_eq rfl) (hb y d43_17) 20 rfl rfl (by decide) (by decide) fun T4 X4 e4 => ?_
  refine qN X4 hx (hb y d43_20) ((if0 _ _).trans (feq (by decide : ¬ ((1 : Int32) = (0 : Int32)))).1) 23 rfl ?_
  refine qA X4 hx (hb y d43_23) rfl rfl 24 rfl ?_
  refine qF X4 hx hZ hown (host := "") (Or.inl (w hw 26 rfl)) Via.refl e4 F_b0_value (hb y d43_24) 27 rfl fun T5 X5 e5 => ?_
  refine qS X5 hx hZ hown (w hw 365 rfl) (w hw 366 rfl) (w hw 11 rfl) (w hw 367 rfl) (by decide) [(.ref b1)] [] 0 (rm_hashCode_115 l Z a0 h0 n0 hw O b1 k_b1 V_b1) (by decide) (by decide) rfl rfl e5 (by rw [hml]; rfl) (lenOf pd_29 rfl) (Nat.le_of_eq rfl) (hb y d43_27) 30 rfl rfl (by decide) (by decide) fun T7 X7 e7 => ?_
  refine qG X7 hx (hb y d43_30) 40 (by decide) (by decide) ?_
  refine qk X7 hx (hb y d43_40) #[.val (.ref b0), .val (.int 114)] rfl 41 rfl ?_
  refine qI X7 hx (hb y d43_41) rfl 42 rfl ?_
  refine o_ifY X7 hx (hb y d43_42) ((if0 _ _).trans (feq (by decide : ¬ ((114 : Int32) = (0 : Int32)))).2) 53 (by decide) (by decide) ?_
  refine qA X7 hx (hb y d43_53) rfl rfl 54 rfl ?_
  refine qI X7 hx (hb y d43_54) rfl 55 rfl ?_
  refine qP X7 hx hZ hown (host := "") (Or.inl (w hw 356 rfl)) Via.refl e7 F_b0_hash E_b0 (Or.inl (w hw 357 rfl)) (w hw 14 rfl) (ty := .int) (by decide) rfl rfl (hb y d43_55) 58 rfl fun T8 X8 W8 => ?_
  have G8 := Fld.same W8 F_b0_hash
  have N9 := Fr.snoc X8 (Fr.nil n0) g_b0
  have K9 := Keep.wr (Keep.refl h0 [b0]) W8 (Or.inl (by simp))
  refine qI X8 hx (hb y d43_58) rfl 59 rfl ?_
  have f10 := (E_b0.wr W8)
  have f11 := (F_b0_coder.other W8 (Or.inr (Ne.symm (sn_2 hw))))
  have f12 := (F_b0_hashIsZero.other W8 (Or.inr (sn_64 hw)))
  have f13 := (F_b0_value.other W8 (Or.inr (Ne.symm (sn_1 hw))))
  exact o_retI X8 hx hk hret (hb y d43_59) (by show Q_rm_hashCode_114 Z h0 n0 b0 b1 k_b1 _ T8.heap _; exact ⟨rfl, N9, K9, f10, f11, G8, f12, f13⟩) (by decide) (by decide)
def Q_rm_hash_113 (Z : State) (h0 : Heap) (n0 : Nat) (b0 : Addr) (b1 : Addr) (k_b1 : ClassId) (v : Option Value) (h : Heap) (L : List Loc) : Prop := v = some (.int 114) ∧ Fr n0 L ∧ Keep h0 h [b0] ∧ Exa Z h b0 s4 ∧ Fld Z h b0 s4 s43 "B" (.int 0) ∧ Fld Z h b0 s4 s37 "I" (.int 114) ∧ Fld Z h b0 s4 s33 "Z" (.int 0) ∧ Fld Z h b0 s4 s34 "[B" (.ref b1)
theorem rm_hash_113 (hw : o_HW Z a0) (H : o_C Z Z.heap w_NW w_DC w_EL w_EA w_EM w_MO w_cacheI c_cacheI k_DC k_EA z_CS) (O : Old Z n0 h0) (b0 : Addr) (b1 : Addr) (k_b1 : ClassId) (E_b0 : Exa Z h0 b0 s4) (F_b0_coder : Fld Z h0 b0 s4 s43 "B" (.int 0)) (F_b0_hash : Fld Z h0 b0 s4 s37 "I" (.int 0)) (F_b0_hashIsZero : Fld Z h0 b0 s4 s33 "Z" (.int 0)) (F_b0_value : Fld Z h0 b0 s4 s34 "[B" (.ref b1)) (g_b0 : n0 ≤ b0) (V_b1 : Arv Z h0 b1 k_b1 .byte (1 : Int32) [(.int 114)] (.int 0)) :
    o_Met l (⟨s7, s37, "(Ljava/lang/Object;)I"⟩ : MethodName) B44 2 (some .int) [] (o_rm 2 0 0 25) Z #[(.ref b0)] h0 (Q_rm_hash_113 Z h0 n0 b0 b1 k_b1) := by
  refine o_met (pN pn_9) ?_
  intro p e s m below meth c T0 hx y hml hown hret hk hnm hZ X0 e0
  obtain ⟨-, -, -, -, -, -, -, -, -, -, -, -, -, -, -, -, -, -, -⟩ := id H
  refine o_ent (ef_4 m b0) ?_
  refine qA X0 hx (hb y d42_0) rfl rfl 1 rfl ?_
  refine o_ifnonnullY X0 hx (hb y d42_1) 8 (by decide) (by decide) ?_
  refine qA X0 hx (hb y d42_8) rfl rfl 9 rfl ?_
  refine o_kV X0 hx hZ hown (w hw 350 rfl) (w hw 351 rfl) (nf_top (args := #[]) (mvT hZ (w hw 79 rfl))) (w hw 353 rfl) (w hw 354 rfl) (w hw 6 rfl) (w hw 355 rfl) (by decide) b0 [] [] 0 (rm_hashCode_114 l Z a0 h0 n0 hw H O b0 b1 k_b1 E_b0 F_b0_coder F_b0_hash F_b0_hashIsZero F_b0_value g_b0 V_b1) (by decide) (by decide) e0 E_b0 (by rw [hml]; rfl) (lenOf pd_9 rfl) (Nat.le_of_eq rfl) (hb y d42_9) (by decide) (by decide) 12 rfl fun v1 T1 L1 X1 hQ1 => ?_
  obtain ⟨rfl, Nq1, Kq1, p1_0, p1_1, p1_2, p1_3, p1_4⟩ := hQ1
  have N2 := Fr.app (Fr.nil n0) Nq1
  have K2 := Keep.trans (Keep.refl h0 [b0]) Kq1 (allS (Or.inl (by simp)) all0)
  refine o_nR ?_
  refine qD X1 hx (hb y d42_12) rfl 13 rfl ?_
  refine qk X1 hx (hb y d42_13) #[.val (.ref b0), .val (.int 114)] rfl 14 rfl ?_
  refine qI X1 hx (hb y d42_14) rfl 15 rfl ?_
  refine o_bipush X1 hx (hb y d42_15) (16 : Int32) rfl 17 rfl ?_
  refine o_iushr X1 hx (hb y d42_17) 18 rfl ?_
  refine o_topI (0 : Int32) (by decide) ?_
  refine o_ixor X1 hx (hb y d42_18) 19 rfl ?_
  refine o_topI (114 : Int32) (by decide) ?_
  exact o_retI X1 hx hk hret (hb y d42_19) (by show Q_rm_hash_113 Z h0 n0 b0 b1 k_b1 _ T1.heap _; exact ⟨rfl, N2, K2, p1_0, p1_1, p1_2, p1_3, p1_4⟩) (by decide) (by decide)
def Q_rm__init__118 (Z : State) (h0 : Heap) (n0 : Nat) (b0 : Addr) (b1 : Addr) (b2 : Addr) (v : Option Value) (h : Heap) (L : List Loc) : Prop := v = none ∧ Fr n0 L ∧ Keep h0 h [b0] ∧ Exa Z h b0 s5 ∧ Fld Z h b0 s5 s37 "I" (.int 114) ∧ Fld Z h b0 s5 "key" s13 (.ref b1) ∧ Fld Z h b0 s5 s62 s28 .null ∧ Fld Z h b0 s5 s34 s13 (.ref b2)
theorem rm__init__118 (hw : o_HW Z a0) (O : Old Z n0 h0) (b0 : Addr) (b1 : Addr) (b2 : Addr) (E_b0 : Exa Z h0 b0 s5) (F_b0_hash : Fld Z h0 b0 s5 s37 "I" (.int 0)) (F_b0_key : Fld Z h0 b0 s5 "key" s13 .null) (F_b0_next : Fld Z h0 b0 s5 s62 s28 .null) (F_b0_value : Fld Z h0 b0 s5 s34 s13 .null) (g_b0 : n0 ≤ b0) :
    o_Met l (⟨s5, s50, s52⟩ : MethodName) B46 5 none [] (o_rm 1 0 0 12) Z #[(.ref b0), (.int 114), (.ref b1), (.ref b2), .null] h0 (Q_rm__init__118 Z h0 n0 b0 b1 b2) := by
  refine o_met (pN pn_22) ?_
  intro p e s m below meth c T0 hx y hml hown hret hk hnm hZ X0 e0
  refine o_ent (ef_16 m b0 (114 : Int32) b1 b2) ?_
  refine qA X0 hx (hb y d49_0) rfl rfl 1 rfl ?_
  refine o_initO X0 hx hZ hown (w hw 395 rfl) (w hw 24 rfl) (w hw 25 rfl) e0 (by rw [hml]; rfl) (hb y d49_1) (by decide) 0 (Nat.le_of_eq rfl) (by decide) 4 rfl fun T1 X1 e1 => ?_
  refine qA X1 hx (hb y d49_4) rfl rfl 5 rfl ?_
  refine qI X1 hx (hb y d49_5) rfl 6 rfl ?_
  refine qP X1 hx hZ hown (host := "") (Or.inl (w hw 396 rfl)) Via.refl e1 F_b0_hash E_b0 (Or.inr ⟨(w hw 397 rfl), rfl, hnm⟩) (w hw 389 rfl) (ty := .int) (by decide) rfl rfl (hb y d49_6) 9 rfl fun T2 X2 W2 => ?_
  have G2 := Fld.same W2 F_b0_hash
  have N3 := Fr.snoc X2 (Fr.nil n0) g_b0
  have K3 := Keep.wr (Keep.refl h0 [b0]) W2 (Or.inl (by simp))
  refine qA X2 hx (hb y d49_9) rfl rfl 10 rfl ?_
  refine qA X2 hx (hb y d49_10) rfl rfl 11 rfl ?_
  have f5 := (F_b0_key.other W2 (Or.inr (sn_70 hw)))
  have f6 := (E_b0.wr W2)
  refine qP X2 hx hZ hown (host := "") (Or.inl (w hw 398 rfl)) Via.refl rfl f5 f6 (Or.inr ⟨(w hw 399 rfl), rfl, hnm⟩) (w hw 389 rfl) (ty := (.object s8)) (by decide) rfl rfl (hb y d49_11) 14 rfl fun T4 X4 W4 => ?_
  have G4 := Fld.same W4 f5
  have N7 := Fr.snoc X4 N3 g_b0
  have K7 := Keep.wr K3 W4 (Or.inl (by simp))
  refine qA X4 hx (hb y d49_14) rfl rfl 15 rfl ?_
  refine qA X4 hx (hb y d49_15) rfl rfl 16 rfl ?_
  have f9 := ((F_b0_value.other W2 (Or.inr (sn_71 hw))).other W4 (Or.inr (sn_72 hw)))
  have f10 := (f6.wr W4)
  refine qP X4 hx hZ hown (host := "") (Or.inl (w hw 400 rfl)) Via.refl rfl f9 f10 (Or.inl (w hw 401 rfl)) (w hw 389 rfl) (ty := (.object s8)) (by decide) rfl rfl (hb y d49_16) 19 rfl fun T8 X8 W8 => ?_
  have G8 := Fld.same W8 f9
  have N11 := Fr.snoc X8 N7 g_b0
  have K11 := Keep.wr K7 W8 (Or.inl (by simp))
  refine qA X8 hx (hb y d49_19) rfl rfl 20 rfl ?_
  refine qa X8 hx (hb y d49_20) rfl rfl 22 rfl ?_
  have f13 := (((F_b0_next.other W2 (Or.inr (sn_73 hw))).other W4 (Or.inr (sn_74 hw))).other W8 (Or.inr (sn_75 hw)))
  have f14 := (f10.wr W8)
  refine qP X8 hx hZ hown (host := "") (Or.inl (w hw 402 rfl)) Via.refl rfl f13 f14 (Or.inl (w hw 403 rfl)) (w hw 389 rfl) (ty := (.object s5)) (by decide) rfl rfl (hb y d49_22) 25 rfl fun T12 X12 W12 => ?_
  have G12 := Fld.same W12 f13
  have N15 := Fr.snoc X12 N11 g_b0
  have K15 := Keep.wr K11 W12 (Or.inl (by simp))
  have f16 := (f14.wr W12)
  have f17 := (((G2.other W4 (Or.inr (Ne.symm (sn_70 hw)))).other W8 (Or.inr (Ne.symm (sn_71 hw)))).other W12 (Or.inr (Ne.symm (sn_73 hw))))
  have f18 := ((G4.other W8 (Or.inr (Ne.symm (sn_72 hw)))).other W12 (Or.inr (Ne.symm (sn_74 hw))))
  have f19 := (G8.other W12 (Or.inr (Ne.symm (sn_75 hw))))
  exact qv X12 hx hk hret (hb y d49_25) (by show Q_rm__init__118 Z h0 n0 b0 b1 b2 _ T12.heap _; exact ⟨rfl, N15, K15, f16, f17, f18, G12, f19⟩) (by decide) (by decide)
def Q_rm_newNode_117 (Z : State) (h0 : Heap) (n0 : Nat) (b0 : Addr) (b1 : Addr) (b2 : Addr) (v : Option Value) (h : Heap) (L : List Loc) : Prop := ∃ (y0 : Addr), v = some (.ref y0) ∧ Fr n0 L ∧ Keep h0 h [] ∧ h0.size ≤ y0 ∧ Exa Z h y0 s5 ∧ Fld Z h y0 s5 s37 "I" (.int 114) ∧ Fld Z h y0 s5 "key" s13 (.ref b1) ∧ Fld Z h y0 s5 s62 s28 .null ∧ Fld Z h y0 s5 s34 s13 (.ref b2)
theorem rm_newNode_117 (hw : o_HW Z a0) (O : Old Z n0 h0) (b0 : Addr) (b1 : Addr) (b2 : Addr) :
    o_Met l (⟨s7, "newNode", s45⟩ : MethodName) B47 5 (some (.object s5)) [] (o_rm 2 1 4 29) Z #[(.ref b0), (.int 114), (.ref b1), (.ref b2), .null] h0 (Q_rm_newNode_117 Z h0 n0 b0 b1 b2) := by
  refine o_met (pN pn_9) ?_
  intro p e s m below meth c T0 hx y hml hown hret hk hnm hZ X0 e0
  refine o_ent (ef_16 m b0 (114 : Int32) b1 b2) ?_
  refine nO X0 hx hZ hown (w hw 382 rfl) (w hw 389 rfl) (w hw 390 rfl) e0 (hb y d48_0) 3 rfl (by decide) (by decide) fun T1 a1 g1 X1 E1 A1 D1 => ?_
  have g_a1 : n0 ≤ a1 := Nat.le_trans (o_osz O) (Nat.le_of_eq g1)
  have z_a1 : h0.size ≤ a1 := Nat.le_trans ((Keep.refl h0 [])).1 (Nat.le_of_eq g1)
  have O2 := O.ext E1
  have K2 := Keep.ext (Keep.refl h0 []) E1
  have F1_hash : Fld Z T1.heap a1 s5 s37 "I" (.int 0) := D1 (Or.inr (w hw 397 rfl)) (ty := .int) (by decide)
  have F1_key : Fld Z T1.heap a1 s5 "key" s13 .null := D1 (Or.inr (w hw 399 rfl)) (ty := (.object s8)) (by decide)
  have F1_value : Fld Z T1.heap a1 s5 s34 s13 .null := D1 (Or.inl (w hw 401 rfl)) (ty := (.object s8)) (by decide)
  have F1_next : Fld Z T1.heap a1 s5 s62 s28 .null := D1 (Or.inl (w hw 403 rfl)) (ty := (.object s5)) (by decide)
  refine qD X1 hx (hb y d48_3) rfl 4 rfl ?_
  refine qI X1 hx (hb y d48_4) rfl 5 rfl ?_
  refine qA X1 hx (hb y d48_5) rfl rfl 6 rfl ?_
  refine qA X1 hx (hb y d48_6) rfl rfl 7 rfl ?_
  refine qa X1 hx (hb y d48_7) rfl rfl 9 rfl ?_
  refine kN X1 hx hZ rfl hown (w hw 391 rfl) (w hw 392 rfl) (w hw 390 rfl) (w hw 394 rfl) (by decide) a1 [(.int 114), (.ref b1), (.ref b2), .null] [(.ref a1)] 1 (rm__init__118 l Z a0 T1.heap n0 hw O2 a1 b1 b2 A1 F1_hash F1_key F1_next F1_value g_a1) (by decide) (by decide) rfl (by rw [hml]; rfl) (lenOf pd_32 rfl) (Nat.le_of_eq rfl) (hb y d48_9) (by decide) (by decide) 12 rfl fun v3 T3 L3 X3 hQ3 => ?_
  obtain ⟨rfl, Nq3, Kq3, p3_0, p3_1, p3_2, p3_3, p3_4⟩ := hQ3
  have N4 := Fr.app (Fr.nil n0) Nq3
  have K4 := Keep.trans K2 Kq3 (allS (Or.inr z_a1) all0)
  refine o_nV ?_
  exact qR X3 hx hk hret rfl rfl (hb y d48_12) rfl (by show Q_rm_newNode_117 Z h0 n0 b0 b1 b2 _ T3.heap _; exact ⟨a1, rfl, N4, K4, z_a1, p3_0, p3_1, p3_2, p3_3, p3_4⟩) (by decide) (by decide)
def Q_rm_putVal_116 (Z : State) (h0 : Heap) (n0 : Nat) (b0 : Addr) (b1 : Addr) (b2 : Addr) (b3 : Addr) (b5 : Addr) (b6 : Addr) (k_b3 : ClassId) (v : Option Value) (h : Heap) (L : List Loc) : Prop := ∃ (y0 : Addr), v = some .null ∧ Fr n0 L ∧ Keep h0 h [b3, b0] ∧ h0.size ≤ y0 ∧ Exa Z h b0 s7 ∧ Fld Z h b0 s7 s44 "F" (.float (1061158912 : UInt32)) ∧ Fld Z h b0 s7 s29 "I" (.int 3) ∧ Fld Z h b0 s7 s26 "I" (.int 3) ∧ Fld Z h b0 s7 s61 s23 (.ref b3) ∧ Fld Z h b0 s7 s46 "I" (.int 12) ∧ Arv Z h b3 k_b3 (.object s5) (16 : Int32) [(.ref b5), (.ref b6), (.ref y0)] .null ∧ Exa Z h b3 s23 ∧ Exa Z h y0 s5 ∧ Fld Z h y0 s5 s37 "I" (.int 114) ∧ Fld Z h y0 s5 "key" s13 (.ref b1) ∧ Fld Z h y0 s5 s62 s28 .null ∧ Fld Z h y0 s5 s34 s13 (.ref b2)
theorem rm_putVal_116 (hw : o_HW Z a0) (O : Old Z n0 h0) (b0 : Addr) (b1 : Addr) (b2 : Addr) (b3 : Addr) (b5 : Addr) (b6 : Addr) (k_b3 : ClassId) (E_b0 : Exa Z h0 b0 s7) (F_b0_loadFactor : Fld Z h0 b0 s7 s44 "F" (.float (1061158912 : UInt32))) (F_b0_modCount : Fld Z h0 b0 s7 s29 "I" (.int 2)) (F_b0_size : Fld Z h0 b0 s7 s26 "I" (.int 2)) (F_b0_table : Fld Z h0 b0 s7 s61 s23 (.ref b3)) (F_b0_threshold : Fld Z h0 b0 s7 s46 "I" (.int 12)) (g_b0 : n0 ≤ b0) (V_b3 : Arv Z h0 b3 k_b3 (.object s5) (16 : Int32) [(.ref b5), (.ref b6)] .null) (A_b3 : Exa Z h0 b3 s23) (P_b3 : Ovr Z k_b3 s5) (g_b3 : n0 ≤ b3) (ne_b0_b3 : b0 ≠ b3) :
    o_Met l (⟨s7, "putVal", s56⟩ : MethodName) B49 13 (some (.object s8)) [] (o_rm 3 1 4 47) Z #[(.ref b0), (.int 114), (.ref b1), (.ref b2), (.int 0), (.int 1)] h0 (Q_rm_putVal_116 Z h0 n0 b0 b1 b2 b3 b5 b6 k_b3) := by
  refine o_met (pN pn_9) ?_
  intro p e s m below meth c T0 hx y hml hown hret hk hnm hZ X0 e0
  refine o_ent (ef_17 m b0 (114 : Int32) b1 b2 (0 : Int32) (1 : Int32)) ?_
  refine qA X0 hx (hb y d46_0) rfl rfl 1 rfl ?_
  refine qF X0 hx hZ hown (host := "") (Or.inl (w hw 373 rfl)) Via.refl e0 F_b0_table (hb y d46_1) 4 rfl fun T1 X1 e1 => ?_
  refine qD X1 hx (hb y d46_4) rfl 5 rfl ?_
  refine qt X1 hx (hb y d46_5) #[.val (.ref b0), .val (.int 114), .val (.ref b1), .val (.ref b2), .val (.int 0), .val (.int 1), .val (.ref b3), .unset, .unset, .unset, .unset, .unset, .unset] rfl rfl 7 rfl ?_
  refine o_ifnullN X1 hx (hb y d46_7) 10 rfl ?_
  refine qa X1 hx (hb y d46_10) rfl rfl 12 rfl ?_
  refine o_alen X1 hx hZ e1 V_b3 (hb y d46_12) 13 rfl ?_
  refine qD X1 hx (hb y d46_13) rfl 14 rfl ?_
  refine qs X1 hx (hb y d46_14) #[.val (.ref b0), .val (.int 114), .val (.ref b1), .val (.ref b2), .val (.int 0), .val (.int 1), .val (.ref b3), .unset, .val (.int 16), .unset, .unset, .unset, .unset] rfl 16 rfl ?_
  refine o_ifY X1 hx (hb y d46_16) ((if0 _ _).trans (feq (by decide : ¬ ((16 : Int32) = (0 : Int32)))).2) 29 (by decide) (by decide) ?_
  refine qa X1 hx (hb y d46_29) rfl rfl 31 rfl ?_
  refine qi X1 hx (hb y d46_31) rfl 33 rfl ?_
  refine qC X1 hx (hb y d46_33) (1 : Int32) rfl 34 rfl ?_
  refine o_isub X1 hx (hb y d46_34) 35 rfl ?_
  refine o_topI (15 : Int32) (by decide) ?_
  refine qI X1 hx (hb y d46_35) rfl 36 rfl ?_
  refine o_iand X1 hx (hb y d46_36) 37 rfl ?_
  refine o_topI (2 : Int32) (by decide) ?_
  refine qD X1 hx (hb y d46_37) rfl 38 rfl ?_
  refine qs X1 hx (hb y d46_38) #[.val (.ref b0), .val (.int 114), .val (.ref b1), .val (.ref b2), .val (.int 0), .val (.int 1), .val (.ref b3), .unset, .val (.int 16), .val (.int 2), .unset, .unset, .unset] rfl 40 rfl ?_
  refine o_aaload X1 hx hZ e1 V_b3 rfl .null (by decide) rfl (hb y d46_40) 41 rfl ?_
  refine qD X1 hx (hb y d46_41) rfl 42 rfl ?_
  refine qt X1 hx (hb y d46_42) #[.val (.ref b0), .val (.int 114), .val (.ref b1), .val (.ref b2), .val (.int 0), .val (.int 1), .val (.ref b3), .val .null, .val (.int 16), .val (.int 2), .unset, .unset, .unset] rfl rfl 44 rfl ?_
  refine o_ifnonnullN X1 hx (hb y d46_44) 47 rfl ?_
  refine qa X1 hx (hb y d46_47) rfl rfl 49 rfl ?_
  refine qi X1 hx (hb y d46_49) rfl 51 rfl ?_
  refine qA X1 hx (hb y d46_51) rfl rfl 52 rfl ?_
  refine qI X1 hx (hb y d46_52) rfl 53 rfl ?_
  refine qA X1 hx (hb y d46_53) rfl rfl 54 rfl ?_
  refine qA X1 hx (hb y d46_54) rfl rfl 55 rfl ?_
  refine o_aconst_null X1 hx (hb y d46_55) 56 rfl ?_
  refine o_kV X1 hx hZ hown (w hw 384 rfl) (w hw 385 rfl) (notFace_of_selects (args := #[]) (mvT hZ (w hw 387 rfl))) (w hw 387 rfl) (w hw 386 rfl) (w hw 109 rfl) (w hw 388 rfl) (by decide) b0 [(.int 114), (.ref b1), (.ref b2), .null] [(.int 2), (.ref b3)] 2 (rm_newNode_117 l Z a0 h0 n0 hw O b0 b1 b2) (by decide) (by decide) e1 E_b0 (by rw [hml]; rfl) (lenOf pd_33 rfl) (Nat.le_of_eq rfl) (hb y d46_56) (by decide) (by decide) 59 rfl fun v2 T2 L2 X2 hQ2 => ?_
  obtain ⟨q2_0, rfl, Nq2, Kq2, le_q2_0, p2_0, p2_1, p2_2, p2_3, p2_4⟩ := hQ2
  have z_q2_0 : h0.size ≤ q2_0 := Nat.le_trans ((Keep.refl h0 [b3, b0])).1 le_q2_0
  have O3 := O.keep Kq2 all0
  have N3 := Fr.app (Fr.nil n0) Nq2
  have K3 := Keep.trans (Keep.refl h0 [b3, b0]) Kq2 all0
  refine o_nR ?_
  have f4 := (V_b3.keep Kq2 nin0)
  have V5 : Arv Z T2.heap b3 k_b3 (.object s5) (16 : Int32) [(.ref b5), (.ref b6), .null] .null := f4.pad (pad_rep [(.ref b5), (.ref b6)] .null 1)
  refine o_aastore X2 hx hZ rfl V5 rfl rfl (fun _ u q => Sto.ofV u q P_b3 (Ins.self p2_0)) 2 (by decide) (by decide) (by simp) [(.ref b5), (.ref b6), (.ref q2_0)] rfl (hb y d46_59) 60 rfl fun T6 X6 W6 V6 => ?_
  have O7 := O3.wr W6 g_b3
  have N7 := Fr.snoc X6 N3 g_b3
  have K7 := Keep.wr K3 W6 (Or.inl (by simp))
  refine qG X6 hx (hb y d46_60) 259 (by decide) (by decide) ?_
  refine qA X6 hx (hb y d46_259) rfl rfl 260 rfl ?_
  refine qD X6 hx (hb y d46_260) rfl 261 rfl ?_
  have f8 := ((F_b0_modCount.keep Kq2 nin0).other W6 (Or.inl ne_b0_b3))
  refine qF X6 hx hZ hown (host := "") (Or.inl (w hw 404 rfl)) Via.refl rfl f8 (hb y d46_261) 264 rfl fun T9 X9 e9 => ?_
  refine qC X9 hx (hb y d46_264) (1 : Int32) rfl 265 rfl ?_
  refine o_iadd X9 hx (hb y d46_265) 266 rfl ?_
  refine o_topI (3 : Int32) (by decide) ?_
  have f11 := ((E_b0.keep Kq2).wr W6)
  refine qP X9 hx hZ hown (host := "") (Or.inl (w hw 404 rfl)) Via.refl e9 f8 f11 (Or.inl (w hw 405 rfl)) (w hw 108 rfl) (ty := .int) (by decide) rfl rfl (hb y d46_266) 269 rfl fun T10 X10 W10 => ?_
  have G10 := Fld.same W10 f8
  have O12 := O7.wr W10 g_b0
  have N12 := Fr.snoc X10 N7 g_b0
  have K12 := Keep.wr K7 W10 (Or.inl (by simp))
  refine qA X10 hx (hb y d46_269) rfl rfl 270 rfl ?_
  refine qD X10 hx (hb y d46_270) rfl 271 rfl ?_
  have f13 := (((F_b0_size.keep Kq2 nin0).other W6 (Or.inl ne_b0_b3)).other W10 (Or.inr (sn_76 hw)))
  refine qF X10 hx hZ hown (host := "") (Or.inl (w hw 406 rfl)) Via.refl rfl f13 (hb y d46_271) 274 rfl fun T14 X14 e14 => ?_
  refine qC X14 hx (hb y d46_274) (1 : Int32) rfl 275 rfl ?_
  refine o_iadd X14 hx (hb y d46_275) 276 rfl ?_
  refine o_topI (3 : Int32) (by decide) ?_
  refine o_dup_x1 X14 hx (hb y d46_276) rfl rfl 277 rfl ?_
  have f16 := (f11.wr W10)
  refine qP X14 hx hZ hown (host := "") (Or.inl (w hw 406 rfl)) Via.refl e14 f13 f16 (Or.inl (w hw 407 rfl)) (w hw 108 rfl) (ty := .int) (by decide) rfl rfl (hb y d46_277) 280 rfl fun T15 X15 W15 => ?_
  have G15 := Fld.same W15 f13
  have O17 := O12.wr W15 g_b0
  have N17 := Fr.snoc X15 N12 g_b0
  have K17 := Keep.wr K12 W15 (Or.inl (by simp))
  refine qA X15 hx (hb y d46_280) rfl rfl 281 rfl ?_
  have f18 := ((((F_b0_threshold.keep Kq2 nin0).other W6 (Or.inl ne_b0_b3)).other W10 (Or.inr (Ne.symm (sn_66 hw)))).other W15 (Or.inr (Ne.symm (sn_68 hw))))
  refine qF X15 hx hZ hown (host := "") (Or.inl (w hw 380 rfl)) Via.refl rfl f18 (hb y d46_281) 284 rfl fun T19 X19 e19 => ?_
  refine o_icmpY X19 hx (hb y d46_284) (flt (by decide : ¬ ((12 : Int32) < (3 : Int32)))).2.2.2 292 (by decide) (by decide) ?_
  refine qA X19 hx (hb y d46_292) rfl rfl 293 rfl ?_
  refine qi X19 hx (hb y d46_293) rfl 295 rfl ?_
  have f21 := (f16.wr W15)
  refine o_voidV X19 hx hZ hown (w hw 408 rfl) (w hw 409 rfl) (notFace_of_selects (args := #[]) (mvT hZ (w hw 411 rfl))) (w hw 411 rfl) (w hw 410 rfl) (w hw 109 rfl) (w hw 412 rfl) (by decide) b0 [(.int 1)] [] 0 (rm_afterNodeInsertion_58 l Z a0 T15.heap n0 hw O17 b0) (by decide) (by decide) rfl rfl e19 f21 (by rw [hml]; rfl) (lenOf pd_34 rfl) (Nat.le_of_eq rfl) (hb y d46_295) 298 rfl rfl (by decide) (by decide) fun T22 X22 e22 => ?_
  refine o_aconst_null X22 hx (hb y d46_298) 299 rfl ?_
  have f23 := ((((F_b0_loadFactor.keep Kq2 nin0).other W6 (Or.inl ne_b0_b3)).other W10 (Or.inr (Ne.symm (sn_14 hw)))).other W15 (Or.inr (Ne.symm (sn_15 hw))))
  have f24 := (G10.other W15 (Or.inr (Ne.symm (sn_76 hw))))
  have f25 := ((((F_b0_table.keep Kq2 nin0).other W6 (Or.inl ne_b0_b3)).other W10 (Or.inr (Ne.symm (sn_67 hw)))).other W15 (Or.inr (Ne.symm (sn_69 hw))))
  have f26 := (o_vo (o_vo V6 W10 ne_b0_b3) W15 ne_b0_b3)
  have f27 := ((((A_b3.keep Kq2).wr W6).wr W10).wr W15)
  have f28 := (((p2_0.wr W6).wr W10).wr W15)
  have ne30 := o_nl A_b3.lt (Nat.le_refl _) le_q2_0
  have ne32 := o_nl E_b0.lt (Nat.le_refl _) le_q2_0
  have f33 := (o_fo (o_fo (o_fo p2_1 W6 ne30) W10 ne32) W15 ne32)
  have f34 := (o_fo (o_fo (o_fo p2_2 W6 ne30) W10 ne32) W15 ne32)
  have f35 := (o_fo (o_fo (o_fo p2_3 W6 ne30) W10 ne32) W15 ne32)
  have f36 := (o_fo (o_fo (o_fo p2_4 W6 ne30) W10 ne32) W15 ne32)
  exact qR X22 hx hk hret rfl rfl (hb y d46_299) rfl (by show Q_rm_putVal_116 Z h0 n0 b0 b1 b2 b3 b5 b6 k_b3 _ T22.heap _; rw [e22]; exact ⟨q2_0, rfl, N17, K17, z_q2_0, f21, f23, f24, G15, f25, f18, f26, f27, f28, f33, f34, f35, f36⟩) (by decide) (by decide)
def Q_rm_put_112 (Z : State) (h0 : Heap) (n0 : Nat) (b0 : Addr) (b1 : Addr) (b2 : Addr) (b3 : Addr) (b4 : Addr) (b5 : Addr) (b6 : Addr) (k_b3 : ClassId) (k_b4 : ClassId) (v : Option Value) (h : Heap) (L : List Loc) : Prop := ∃ (y0 : Addr), v = some .null ∧ Fr n0 L ∧ Keep h0 h [b1, b0, b3] ∧ h0.size ≤ y0 ∧ Exa Z h b0 s7 ∧ Fld Z h b0 s7 s44 "F" (.float (1061158912 : UInt32)) ∧ Fld Z h b0 s7 s29 "I" (.int 3) ∧ Fld Z h b0 s7 s26 "I" (.int 3) ∧ Fld Z h b0 s7 s61 s23 (.ref b3) ∧ Fld Z h b0 s7 s46 "I" (.int 12) ∧ Exa Z h b1 s4 ∧ Fld Z h b1 s4 s43 "B" (.int 0) ∧ Fld Z h b1 s4 s37 "I" (.int 114) ∧ Fld Z h b1 s4 s33 "Z" (.int 0) ∧ Fld Z h b1 s4 s34 "[B" (.ref b4) ∧ Arv Z h b3 k_b3 (.object s5) (16 : Int32) [(.ref b5), (.ref b6), (.ref y0)] .null ∧ Exa Z h b3 s23 ∧ Exa Z h y0 s5 ∧ Fld Z h y0 s5 s37 "I" (.int 114) ∧ Fld Z h y0 s5 "key" s13 (.ref b1) ∧ Fld Z h y0 s5 s62 s28 .null ∧ Fld Z h y0 s5 s34 s13 (.ref b2)
theorem rm_put_112 (hw : o_HW Z a0) (H : o_C Z Z.heap w_NW w_DC w_EL w_EA w_EM w_MO w_cacheI c_cacheI k_DC k_EA z_CS) (O : Old Z n0 h0) (b0 : Addr) (b1 : Addr) (b2 : Addr) (b3 : Addr) (b4 : Addr) (b5 : Addr) (b6 : Addr) (k_b3 : ClassId) (k_b4 : ClassId) (E_b0 : Exa Z h0 b0 s7) (F_b0_loadFactor : Fld Z h0 b0 s7 s44 "F" (.float (1061158912 : UInt32))) (F_b0_modCount : Fld Z h0 b0 s7 s29 "I" (.int 2)) (F_b0_size : Fld Z h0 b0 s7 s26 "I" (.int 2)) (F_b0_table : Fld Z h0 b0 s7 s61 s23 (.ref b3)) (F_b0_threshold : Fld Z h0 b0 s7 s46 "I" (.int 12)) (g_b0 : n0 ≤ b0) (E_b1 : Exa Z h0 b1 s4) (F_b1_coder : Fld Z h0 b1 s4 s43 "B" (.int 0)) (F_b1_hash : Fld Z h0 b1 s4 s37 "I" (.int 0)) (F_b1_hashIsZero : Fld Z h0 b1 s4 s33 "Z" (.int 0)) (F_b1_value : Fld Z h0 b1 s4 s34 "[B" (.ref b4)) (g_b1 : n0 ≤ b1) (V_b3 : Arv Z h0 b3 k_b3 (.object s5) (16 : Int32) [(.ref b5), (.ref b6)] .null) (A_b3 : Exa Z h0 b3 s23) (P_b3 : Ovr Z k_b3 s5) (g_b3 : n0 ≤ b3) (V_b4 : Arv Z h0 b4 k_b4 .byte (1 : Int32) [(.int 114)] (.int 0)) (ne_b0_b1 : b0 ≠ b1) (ne_b0_b3 : b0 ≠ b3) (ne_b1_b3 : b1 ≠ b3) :
    o_Met l (⟨s7, "put", s58⟩ : MethodName) B50 3 (some (.object s8)) [] (o_rm 4 1 4 71) Z #[(.ref b0), (.ref b1), (.ref b2)] h0 (Q_rm_put_112 Z h0 n0 b0 b1 b2 b3 b4 b5 b6 k_b3 k_b4) := by
  refine o_met (pN pn_9) ?_
  intro p e s m below meth c T0 hx y hml hown hret hk hnm hZ X0 e0
  obtain ⟨-, -, -, -, -, -, -, -, -, -, -, -, -, -, -, -, -, -, -⟩ := id H
  refine o_ent (ef_18 m b0 b1 b2) ?_
  refine qA X0 hx (hb y d41_0) rfl rfl 1 rfl ?_
  refine qA X0 hx (hb y d41_1) rfl rfl 2 rfl ?_
  refine kS X0 hx hZ hown (w hw 347 rfl) (w hw 348 rfl) (w hw 109 rfl) (w hw 349 rfl) (by decide) [(.ref b1)] [(.ref b0)] 1 (rm_hash_113 l Z a0 h0 n0 hw H O b1 b4 k_b4 E_b1 F_b1_coder F_b1_hash F_b1_hashIsZero F_b1_value g_b1 V_b4) (by decide) (by decide) e0 (by rw [hml]; rfl) (lenOf pd_30 rfl) (Nat.le_of_eq rfl) (hb y d41_2) (by decide) (by decide) 5 rfl fun v1 T1 L1 X1 hQ1 => ?_
  obtain ⟨rfl, Nq1, Kq1, p1_0, p1_1, p1_2, p1_3, p1_4⟩ := hQ1
  have O2 := O.keep Kq1 (allS g_b1 all0)
  have N2 := Fr.app (Fr.nil n0) Nq1
  have K2 := Keep.trans (Keep.refl h0 [b1, b0, b3]) Kq1 (allS (Or.inl (by simp)) all0)
  refine o_nR ?_
  refine qA X1 hx (hb y d41_5) rfl rfl 6 rfl ?_
  refine qA X1 hx (hb y d41_6) rfl rfl 7 rfl ?_
  refine qC X1 hx (hb y d41_7) (0 : Int32) rfl 8 rfl ?_
  refine qC X1 hx (hb y d41_8) (1 : Int32) rfl 9 rfl ?_
  have f4 := (E_b0.keep Kq1)
  have f5 := (F_b0_loadFactor.keep Kq1 (ninS ne_b0_b1 nin0))
  have f6 := (F_b0_modCount.keep Kq1 (ninS ne_b0_b1 nin0))
  have f7 := (F_b0_size.keep Kq1 (ninS ne_b0_b1 nin0))
  have f8 := (F_b0_table.keep Kq1 (ninS ne_b0_b1 nin0))
  have f9 := (F_b0_threshold.keep Kq1 (ninS ne_b0_b1 nin0))
  have f10 := (V_b3.keep Kq1 (ninS (Ne.symm ne_b1_b3) nin0))
  have f11 := (A_b3.keep Kq1)
  refine o_kV X1 hx hZ hown (w hw 368 rfl) (w hw 369 rfl) (notFace_of_selects (args := #[]) (mvT hZ (w hw 371 rfl))) (w hw 371 rfl) (w hw 370 rfl) (w hw 109 rfl) (w hw 372 rfl) (by decide) b0 [(.int 114), (.ref b1), (.ref b2), (.int 0), (.int 1)] [] 0 (rm_putVal_116 l Z a0 T1.heap n0 hw O2 b0 b1 b2 b3 b5 b6 k_b3 f4 f5 f6 f7 f8 f9 g_b0 f10 f11 P_b3 g_b3 ne_b0_b3) (by decide) (by decide) rfl f4 (by rw [hml]; rfl) (lenOf pd_35 rfl) (Nat.le_of_eq rfl) (hb y d41_9) (by decide) (by decide) 12 rfl fun v3 T3 L3 X3 hQ3 => ?_
  obtain ⟨q3_0, rfl, Nq3, Kq3, le_q3_0, p3_0, p3_1, p3_2, p3_3, p3_4, p3_5, p3_6, p3_7, p3_8, p3_9, p3_10, p3_11, p3_12⟩ := hQ3
  have z_q3_0 : h0.size ≤ q3_0 := Nat.le_trans (K2).1 le_q3_0
  have N12 := Fr.app N2 Nq3
  have K12 := Keep.trans K2 Kq3 (allS (Or.inl (by simp)) (allS (Or.inl (by simp)) all0))
  refine o_nR ?_
  have f13 := (p1_0.keep Kq3)
  have f14 := (p1_1.keep Kq3 (ninS ne_b1_b3 (ninS (Ne.symm ne_b0_b1) nin0)))
  have f15 := (p1_2.keep Kq3 (ninS ne_b1_b3 (ninS (Ne.symm ne_b0_b1) nin0)))
  have f16 := (p1_3.keep Kq3 (ninS ne_b1_b3 (ninS (Ne.symm ne_b0_b1) nin0)))
  have f17 := (p1_4.keep Kq3 (ninS ne_b1_b3 (ninS (Ne.symm ne_b0_b1) nin0)))
  exact qR X3 hx hk hret rfl rfl (hb y d41_12) rfl (by show Q_rm_put_112 Z h0 n0 b0 b1 b2 b3 b4 b5 b6 k_b3 k_b4 _ T3.heap _; exact ⟨q3_0, rfl, N12, K12, z_q3_0, p3_0, p3_1, p3_2, p3_3, p3_4, p3_5, f13, f14, f15, f16, f17, p3_6, p3_7, p3_8, p3_9, p3_10, p3_11, p3_12⟩) (by decide) (by decide)
def Q_rm__init__97 (Z : State) (h0 : Heap) (n0 : Nat) (b0 : Addr) (b1 : Addr) (b2 : Addr) (b3 : Addr) (b4 : Addr) (b5 : Addr) (b6 : Addr) (b7 : Addr) (b8 : Addr) (b9 : Addr) (b10 : Addr) (b11 : Addr) (b12 : Addr) (k_b3 : ClassId) (k_b10 : ClassId) (k_b11 : ClassId) (k_b12 : ClassId) (v : Option Value) (h : Heap) (L : List Loc) : Prop := ∃ (y0 y1 : Addr) (yk0 : ClassId), v = none ∧ Fr n0 L ∧ Keep h0 h [b0, b7, b8, b9] ∧ h0.size ≤ y0 ∧ h0.size ≤ y1 ∧ y0 ≠ y1 ∧ Exa Z h b0 s3 ∧ Fld Z h b0 s3 s35 s17 (.ref y0) ∧ Exa Z h b7 s4 ∧ Fld Z h b7 s4 s43 "B" (.int 0) ∧ Fld Z h b7 s4 s37 "I" (.int 112) ∧ Fld Z h b7 s4 s33 "Z" (.int 0) ∧ Fld Z h b7 s4 s34 "[B" (.ref b10) ∧ Exa Z h b8 s4 ∧ Fld Z h b8 s4 s43 "B" (.int 0) ∧ Fld Z h b8 s4 s37 "I" (.int 113) ∧ Fld Z h b8 s4 s33 "Z" (.int 0) ∧ Fld Z h b8 s4 s34 "[B" (.ref b11) ∧ Exa Z h b9 s4 ∧ Fld Z h b9 s4 s43 "B" (.int 0) ∧ Fld Z h b9 s4 s37 "I" (.int 114) ∧ Fld Z h b9 s4 s33 "Z" (.int 0) ∧ Fld Z h b9 s4 s34 "[B" (.ref b12) ∧ Exa Z h y0 s11 ∧ Fld Z h y0 s11 s70 "Z" (.int 0) ∧ Fld Z h y0 s11 s54 s10 (.ref y1) ∧ Arv Z h y1 yk0 (.object s8) (3 : Int32) [(.ref b4), (.ref b5), (.ref b6)] .null ∧ Exa Z h y1 s10 ∧ Ovr Z yk0 s8
theorem rm__init__97 (hw : o_HW Z a0) (H : o_C Z Z.heap w_NW w_DC w_EL w_EA w_EM w_MO w_cacheI c_cacheI k_DC k_EA z_CS) (O : Old Z n0 h0) (b0 : Addr) (b1 : Addr) (b2 : Addr) (b3 : Addr) (b4 : Addr) (b5 : Addr) (b6 : Addr) (b7 : Addr) (b8 : Addr) (b9 : Addr) (b10 : Addr) (b11 : Addr) (b12 : Addr) (k_b3 : ClassId) (k_b10 : ClassId) (k_b11 : ClassId) (k_b12 : ClassId) (E_b0 : Exa Z h0 b0 s3) (F_b0_numbers : Fld Z h0 b0 s3 "numbers" s59 .null) (F_b0_processes : Fld Z h0 b0 s3 s72 s17 .null) (F_b0_segments : Fld Z h0 b0 s3 s35 s17 .null) (g_b0 : n0 ≤ b0) (E_b1 : Exa Z h0 b1 s6) (F_b1_size : Fld Z h0 b1 s6 s26 "I" (.int 0)) (E_b2 : Exa Z h0 b2 s6) (F_b2_elementData : Fld Z h0 b2 s6 s27 s10 (.ref b3)) (F_b2_size : Fld Z h0 b2 s6 s26 "I" (.int 3)) (V_b3 : Arv Z h0 b3 k_b3 (.object s8) (10 : Int32) [(.ref b4), (.ref b5), (.ref b6)] .null) (A_b3 : Exa Z h0 b3 s10) (E_b4 : Exa Z h0 b4 s1) (F_b4_name : Fld Z h0 b4 s1 "name" s42 (.ref b7)) (E_b5 : Exa Z h0 b5 s1) (F_b5_name : Fld Z h0 b5 s1 "name" s42 (.ref b8)) (E_b6 : Exa Z h0 b6 s1) (F_b6_name : Fld Z h0 b6 s1 "name" s42 (.ref b9)) (E_b7 : Exa Z h0 b7 s4) (F_b7_coder : Fld Z h0 b7 s4 s43 "B" (.int 0)) (F_b7_hash : Fld Z h0 b7 s4 s37 "I" (.int 0)) (F_b7_hashIsZero : Fld Z h0 b7 s4 s33 "Z" (.int 0)) (F_b7_value : Fld Z h0 b7 s4 s34 "[B" (.ref b10)) (g_b7 : n0 ≤ b7) (E_b8 : Exa Z h0 b8 s4) (F_b8_coder : Fld Z h0 b8 s4 s43 "B" (.int 0)) (F_b8_hash : Fld Z h0 b8 s4 s37 "I" (.int 0)) (F_b8_hashIsZero : Fld Z h0 b8 s4 s33 "Z" (.int 0)) (F_b8_value : Fld Z h0 b8 s4 s34 "[B" (.ref b11)) (g_b8 : n0 ≤ b8) (E_b9 : Exa Z h0 b9 s4) (F_b9_coder : Fld Z h0 b9 s4 s43 "B" (.int 0)) (F_b9_hash : Fld Z h0 b9 s4 s37 "I" (.int 0)) (F_b9_hashIsZero : Fld Z h0 b9 s4 s33 "Z" (.int 0)) (F_b9_value : Fld Z h0 b9 s4 s34 "[B" (.ref b12)) (g_b9 : n0 ≤ b9) (V_b10 : Arv Z h0 b10 k_b10 .byte (1 : Int32) [(.int 112)] (.int 0)) (A_b10 : Exa Z h0 b10 "[B") (V_b11 : Arv Z h0 b11 k_b11 .byte (1 : Int32) [(.int 113)] (.int 0)) (A_b11 : Exa Z h0 b11 "[B") (V_b12 : Arv Z h0 b12 k_b12 .byte (1 : Int32) [(.int 114)] (.int 0)) (A_b12 : Exa Z h0 b12 "[B") (ne_b0_b1 : b0 ≠ b1) (ne_b0_b2 : b0 ≠ b2) (ne_b0_b3 : b0 ≠ b3) (ne_b0_b4 : b0 ≠ b4) (ne_b0_b5 : b0 ≠ b5) (ne_b0_b6 : b0 ≠ b6) (ne_b0_b7 : b0 ≠ b7) (ne_b0_b8 : b0 ≠ b8) (ne_b0_b9 : b0 ≠ b9) (ne_b0_b10 : b0 ≠ b10) (ne_b0_b11 : b0 ≠ b11) (ne_b0_b12 : b0 ≠ b12) (ne_b5_b7 : b5 ≠ b7) (ne_b6_b7 : b6 ≠ b7) (ne_b6_b8 : b6 ≠ b8) (ne_b7_b8 : b7 ≠ b8) (ne_b7_b9 : b7 ≠ b9) (ne_b7_b11 : b7 ≠ b11) (ne_b7_b12 : b7 ≠ b12) (ne_b8_b9 : b8 ≠ b9) (ne_b8_b12 : b8 ≠ b12) :
    o_Met l (⟨s3, s50, s65⟩ : MethodName) B15 4 none [] (o_rm 9 8 44 116) Z #[(.ref b0), (.ref b1), (.ref b2)] h0 (Q_rm__init__97 Z h0 n0 b0 b1 b2 b3 b4 b5 b6 b7 b8 b9 b10 b11 b12 k_b3 k_b10 k_b11 k_b12) := by
  refine o_met (pN pn_11) ?_
  intro p e s m below meth c T0 hx y hml hown hret hk hnm hZ X0 e0
  obtain ⟨-, -, -, -, -, -, -, -, -, -, -, -, -, -, -, -, -, -, -⟩ := id H
  refine o_ent (ef_6 m b0 b1 b2) ?_
  refine qA X0 hx (hb y d12_0) rfl rfl 1 rfl ?_
  refine o_initO X0 hx hZ hown (w hw 106 rfl) (w hw 24 rfl) (w hw 25 rfl) e0 (by rw [hml]; rfl) (hb y d12_1) (by decide) 0 (Nat.le_of_eq rfl) (by decide) 4 rfl fun T1 X1 e1 => ?_
  refine qA X1 hx (hb y d12_4) rfl rfl 5 rfl ?_
  refine nO X1 hx hZ hown (w hw 107 rfl) (w hw 108 rfl) (w hw 109 rfl) e1 (hb y d12_5) 8 rfl (by decide) (by decide) fun T2 a2 g2 X2 E2 A2 D2 => ?_
  have g_a2 : n0 ≤ a2 := Nat.le_trans (o_osz O) (Nat.le_of_eq g2)
  have z_a2 : h0.size ≤ a2 := Nat.le_trans ((Keep.refl h0 [b0, b7, b8, b9])).1 (Nat.le_of_eq g2)
  have O3 := O.ext E2
  have K3 := Keep.ext (Keep.refl h0 [b0, b7, b8, b9]) E2
  have F2_loadFactor : Fld Z T2.heap a2 s7 s44 "F" (defaultValue .float) := D2 (Or.inr (w hw 122 rfl)) (ty := .float) (by decide)
  have F2_table : Fld Z T2.heap a2 s7 s61 s23 .null := D2 (Or.inl (w hw 374 rfl)) (ty := (.array (.object s5))) (by decide)
  have F2_threshold : Fld Z T2.heap a2 s7 s46 "I" (.int 0) := D2 (Or.inl (w hw 381 rfl)) (ty := .int) (by decide)
  have F2_modCount : Fld Z T2.heap a2 s7 s29 "I" (.int 0) := D2 (Or.inl (w hw 405 rfl)) (ty := .int) (by decide)
  have F2_size : Fld Z T2.heap a2 s7 s26 "I" (.int 0) := D2 (Or.inl (w hw 407 rfl)) (ty := .int) (by decide)
  refine qD X2 hx (hb y d12_8) rfl 9 rfl ?_
  refine kN X2 hx hZ rfl hown (w hw 110 rfl) (w hw 111 rfl) (w hw 109 rfl) (w hw 112 rfl) (by decide) a2 [] [(.ref a2), (.ref b0)] 2 (rm__init__20 l Z a0 T2.heap n0 hw O3 a2 A2 F2_loadFactor F2_modCount F2_size F2_table F2_threshold g_a2) (by decide) (by decide) rfl (by rw [hml]; rfl) (lenOf pd_4 rfl) (Nat.le_of_eq rfl) (hb y d12_9) (by decide) (by decide) 12 rfl fun v4 T4 L4 X4 hQ4 => ?_
  obtain ⟨rfl, Nq4, Kq4, p4_0, p4_1, p4_2, p4_3, p4_4, p4_5⟩ := hQ4
  have O5 := O3.keep Kq4 (allS g_a2 all0)
  have N5 := Fr.app (Fr.nil n0) Nq4
  have K5 := Keep.trans K3 Kq4 (allS (Or.inr z_a2) all0)
  refine o_nV ?_
  have ne7 := o_nl E_b0.lt (Nat.le_refl _) (Nat.le_of_eq g2)
  have f8 := ((F_b0_numbers.ext E2).keep Kq4 (ninS ne7 nin0))
  have f9 := ((E_b0.ext E2).keep Kq4)
  refine qP X4 hx hZ hown (host := "") (Or.inl (w hw 123 rfl)) Via.refl rfl f8 f9 (Or.inr ⟨(w hw 124 rfl), rfl, hnm⟩) (w hw 101 rfl) (ty := (.object s64)) (by decide) rfl rfl (hb y d12_12) 15 rfl fun T6 X6 W6 => ?_
  have G6 := Fld.same W6 f8
  have O10 := O5.wr W6 g_b0
  have N10 := Fr.snoc X6 N5 g_b0
  have K10 := Keep.wr K5 W6 (Or.inl (by simp))
  refine qA X6 hx (hb y d12_15) rfl rfl 16 rfl ?_
  refine qA X6 hx (hb y d12_16) rfl rfl 17 rfl ?_
  have f12 := (((E_b1.ext E2).keep Kq4).wr W6)
  have ne13 := o_nl E_b1.lt (Nat.le_refl _) (Nat.le_of_eq g2)
  have f14 := (o_fo ((F_b1_size.ext E2).keep Kq4 (ninS ne13 nin0)) W6 ne_b0_b1)
  refine qS X6 hx hZ hown (w hw 125 rfl) (w hw 68 rfl) (w hw 69 rfl) (w hw 70 rfl) (by decide) [(.ref b1)] [(.ref b0)] 1 (rm_copyOf_9 l Z a0 T6.heap n0 hw H O10 b1 f12 f14) (by decide) (by decide) rfl rfl rfl (by rw [hml]; rfl) (lenOf pd_7 rfl) (Nat.le_of_eq rfl) (hb y d12_17) 20 rfl rfl (by decide) (by decide) fun T15 X15 e15 => ?_
  have f17 := (((F_b0_processes.ext E2).keep Kq4 (ninS ne7 nin0)).other W6 (Or.inr (sn_18 hw)))
  have f18 := (f9.wr W6)
  refine qP X15 hx hZ hown (host := "") (Or.inl (w hw 126 rfl)) Via.refl e15 f17 f18 (Or.inr ⟨(w hw 127 rfl), rfl, hnm⟩) (w hw 101 rfl) (ty := (.object s21)) (by decide) rfl rfl (hb y d12_20) 23 rfl fun T16 X16 W16 => ?_
  have O19 := O10.wr W16 g_b0
  have N19 := Fr.snoc X16 N10 g_b0
  have K19 := Keep.wr K10 W16 (Or.inl (by simp))
  refine qA X16 hx (hb y d12_23) rfl rfl 24 rfl ?_
  refine qA X16 hx (hb y d12_24) rfl rfl 25 rfl ?_
  have f21 := ((((E_b2.ext E2).keep Kq4).wr W6).wr W16)
  have ne22 := o_nl E_b2.lt (Nat.le_refl _) (Nat.le_of_eq g2)
  have f23 := (o_fo (o_fo ((F_b2_elementData.ext E2).keep Kq4 (ninS ne22 nin0)) W6 ne_b0_b2) W16 ne_b0_b2)
  have f24 := (o_fo (o_fo ((F_b2_size.ext E2).keep Kq4 (ninS ne22 nin0)) W6 ne_b0_b2) W16 ne_b0_b2)
  have ne25 := o_nl A_b3.lt (Nat.le_refl _) (Nat.le_of_eq g2)
  have f26 := (o_vo (o_vo ((V_b3.ext E2).keep Kq4 (ninS ne25 nin0)) W6 ne_b0_b3) W16 ne_b0_b3)
  have f27 := ((((A_b3.ext E2).keep Kq4).wr W6).wr W16)
  have f28 := ((((E_b4.ext E2).keep Kq4).wr W6).wr W16)
  have f29 := ((((E_b5.ext E2).keep Kq4).wr W6).wr W16)
  have f30 := ((((E_b6.ext E2).keep Kq4).wr W6).wr W16)
  refine kS X16 hx hZ hown (w hw 125 rfl) (w hw 68 rfl) (w hw 69 rfl) (w hw 70 rfl) (by decide) [(.ref b2)] [(.ref b0)] 1 (rm_copyOf_98 l Z a0 T16.heap n0 hw H O19 b2 b3 b4 b5 b6 k_b3 f21 f23 f24 f26 f27 f28 f29 f30) (by decide) (by decide) rfl (by rw [hml]; rfl) (lenOf pd_7 rfl) (Nat.le_of_eq rfl) (hb y d12_25) (by decide) (by decide) 28 rfl fun v20 T20 L20 X20 hQ20 => ?_
  obtain ⟨q20_0, q20_1, qk20_0, rfl, Nq20, Kq20, le_q20_0, le_q20_1, ne_q20_0_q20_1, p20_0, p20_1, p20_2, p20_3, p20_4, p20_5⟩ := hQ20
  have z_q20_0 : h0.size ≤ q20_0 := Nat.le_trans (K19).1 le_q20_0
  have z_q20_1 : h0.size ≤ q20_1 := Nat.le_trans (K19).1 le_q20_1
  have O31 := O19.keep Kq20 all0
  have N31 := Fr.app N19 Nq20
  have K31 := Keep.trans K19 Kq20 all0
  refine o_nR ?_
  have f33 := (((((F_b0_segments.ext E2).keep Kq4 (ninS ne7 nin0)).other W6 (Or.inr (sn_19 hw))).other W16 (Or.inr (sn_20 hw))).keep Kq20 nin0)
  have f34 := ((f18.wr W16).keep Kq20)
  refine qP X20 hx hZ hown (host := "") (Or.inl (w hw 128 rfl)) Via.refl rfl f33 f34 (Or.inr ⟨(w hw 129 rfl), rfl, hnm⟩) (w hw 101 rfl) (ty := (.object s21)) (by decide) rfl rfl (hb y d12_28) 31 rfl fun T32 X32 W32 => ?_
  have G32 := Fld.same W32 f33
  have O35 := O31.wr W32 g_b0
  have N35 := Fr.snoc X32 N31 g_b0
  have K35 := Keep.wr K31 W32 (Or.inl (by simp))
  refine qC X32 hx (hb y d12_31) (0 : Int32) rfl 32 rfl ?_
  refine qk X32 hx (hb y d12_32) #[.val (.ref b0), .val (.ref b1), .val (.ref b2), .val (.int 0)] rfl 33 rfl ?_
  refine qI X32 hx (hb y d12_33) rfl 34 rfl ?_
  refine qA X32 hx (hb y d12_34) rfl rfl 35 rfl ?_
  refine qF X32 hx hZ hown (host := "") (Or.inl (w hw 128 rfl)) Via.refl rfl G32 (hb y d12_35) 38 rfl fun T36 X36 e36 => ?_
  have f38 := (p20_0.wr W32)
  have l41 := (Nat.le_trans (Nat.le_trans (Nat.le_trans E2.1 Kq4.1) (Nat.le_of_eq (Wr.size W6).symm)) (Nat.le_of_eq (Wr.size W16).symm))
  have ne40 := o_nl E_b0.lt l41 le_q20_0
  have f42 := (o_fo p20_2 W32 ne40)
  have ne44 := o_nl E_b0.lt l41 le_q20_1
  have f45 := (o_vo p20_3 W32 ne44)
  refine oC (cI X36 hx hZ hown (w hw 130 rfl) (w hw 131 rfl) (w hw 132 rfl) (w hw 133 rfl) (w hw 134 rfl) (w hw 135 rfl) (w hw 136 rfl) (w hw 137 rfl) (w hw 138 rfl) (w hw 139 rfl) (by decide) (by decide) q20_0 [] [(.int 0)] 1 (rm_size_108 l Z a0 T32.heap n0 hw O35 q20_0 q20_1 b4 b5 b6 qk20_0 f42 f45) (by decide) (by decide) e36 f38 (by rw [hml]; rfl) (lenOf pd_9 rfl) (Nat.le_of_eq rfl) (hb y d12_38) 43 rfl (by decide) (by decide)) rfl rfl fun T46 X46 e46 => ?_
  refine qn X46 hx (hb y d12_43) (tlt (by decide : (0 : Int32) < (3 : Int32))).2.1 46 rfl ?_
  refine qA X46 hx (hb y d12_46) rfl rfl 47 rfl ?_
  have f47 := (((G6.other W16 (Or.inr (Ne.symm (sn_18 hw)))).keep Kq20 nin0).other W32 (Or.inr (Ne.symm (sn_19 hw))))
  refine qF X46 hx hZ hown (host := "") (Or.inl (w hw 123 rfl)) Via.refl e46 f47 (hb y d12_47) 50 rfl fun T48 X48 e48 => ?_
  refine qA X48 hx (hb y d12_50) rfl rfl 51 rfl ?_
  refine qF X48 hx hZ hown (host := "") (Or.inl (w hw 128 rfl)) Via.refl e48 G32 (hb y d12_51) 54 rfl fun T49 X49 e49 => ?_
  refine qI X49 hx (hb y d12_54) rfl 55 rfl ?_
  refine oC (cI X49 hx hZ hown (w hw 317 rfl) (w hw 318 rfl) (w hw 319 rfl) (w hw 320 rfl) (w hw 321 rfl) (w hw 322 rfl) (w hw 323 rfl) (w hw 137 rfl) (w hw 138 rfl) (w hw 324 rfl) (by decide) (by decide) q20_0 [(.int 0)] [(.ref a2)] 1 (rm_get_109 l Z a0 T32.heap n0 hw O35 q20_0 q20_1 b4 b5 b6 qk20_0 f42 f45) (by decide) (by decide) e49 f38 (by rw [hml]; rfl) (lenOf pd_26 rfl) (Nat.le_of_eq rfl) (hb y d12_55) 60 rfl (by decide) (by decide)) rfl rfl fun T51 X51 e51 => ?_
  have f52 := ((f28.keep Kq20).wr W32)
  refine o_cast X51 hx hZ hown (w hw 325 rfl) e51 (Ins.self f52) (hb y d12_60) 63 rfl fun T53 X53 e53 => ?_
  have ne55 := o_nl E_b4.lt (Nat.le_refl _) (Nat.le_of_eq g2)
  have f56 := (o_fo ((o_fo (o_fo ((F_b4_name.ext E2).keep Kq4 (ninS ne55 nin0)) W6 ne_b0_b4) W16 ne_b0_b4).keep Kq20 nin0) W32 ne_b0_b4)
  refine qV X53 hx hZ hown (w hw 326 rfl) (w hw 327 rfl) (notFace_of_selects (args := #[]) (mvT hZ (w hw 329 rfl))) (w hw 329 rfl) (w hw 328 rfl) (w hw 3 rfl) (w hw 330 rfl) (by decide) b4 [] [(.ref a2)] 1 (rm_name_48 l Z a0 T32.heap n0 hw O35 b4 b7 f56) (by decide) (by decide) rfl rfl e53 f52 (by rw [hml]; rfl) (lenOf pd_27 rfl) (Nat.le_of_eq rfl) (hb y d12_63) 66 rfl rfl (by decide) (by decide) fun T57 X57 e57 => ?_
  refine qI X57 hx (hb y d12_66) rfl 67 rfl ?_
  refine qC X57 hx (hb y d12_67) (1 : Int32) rfl 68 rfl ?_
  refine o_iadd X57 hx (hb y d12_68) 69 rfl ?_
  refine o_topI (1 : Int32) (by decide) ?_
  refine kS X57 hx hZ hown (w hw 331 rfl) (w hw 332 rfl) (w hw 333 rfl) (w hw 334 rfl) (by decide) [(.int 1)] [(.ref b7), (.ref a2)] 2 (rm_boxI_1 l Z a0 T32.heap n0 hw H O35) (by decide) (by decide) e57 (by rw [hml]; rfl) (lenOf pd_28 rfl) (Nat.le_of_eq rfl) (hb y d12_69) (by decide) (by decide) 72 rfl fun v58 T58 L58 X58 hQ58 => ?_
  obtain ⟨r58, rfl, Nq58, Kq58, p58_0, p58_1⟩ := hQ58
  have O59 := O35.keep Kq58 all0
  have N59 := Fr.app N35 Nq58
  have K59 := Keep.trans K35 Kq58 all0
  refine o_nR ?_
  have f61 := (((((p4_0.wr W6).wr W16).keep Kq20).wr W32).keep Kq58)
  have f62 := ((o_fo ((o_fo (o_fo p4_1 W6 ne7) W16 ne7).keep Kq20 nin0) W32 ne7).keep Kq58 nin0)
  have f63 := ((o_fo ((o_fo (o_fo p4_2 W6 ne7) W16 ne7).keep Kq20 nin0) W32 ne7).keep Kq58 nin0)
  have f64 := ((o_fo ((o_fo (o_fo p4_3 W6 ne7) W16 ne7).keep Kq20 nin0) W32 ne7).keep Kq58 nin0)
  have f65 := ((o_fo ((o_fo (o_fo p4_4 W6 ne7) W16 ne7).keep Kq20 nin0) W32 ne7).keep Kq58 nin0)
  have f66 := ((o_fo ((o_fo (o_fo p4_5 W6 ne7) W16 ne7).keep Kq20 nin0) W32 ne7).keep Kq58 nin0)
  have f67 := (((((((E_b7.ext E2).keep Kq4).wr W6).wr W16).keep Kq20).wr W32).keep Kq58)
  have ne68 := o_nl E_b7.lt (Nat.le_refl _) (Nat.le_of_eq g2)
  have f69 := ((o_fo ((o_fo (o_fo ((F_b7_coder.ext E2).keep Kq4 (ninS ne68 nin0)) W6 ne_b0_b7) W16 ne_b0_b7).keep Kq20 nin0) W32 ne_b0_b7).keep Kq58 nin0)
  have f70 := ((o_fo ((o_fo (o_fo ((F_b7_hash.ext E2).keep Kq4 (ninS ne68 nin0)) W6 ne_b0_b7) W16 ne_b0_b7).keep Kq20 nin0) W32 ne_b0_b7).keep Kq58 nin0)
  have f71 := ((o_fo ((o_fo (o_fo ((F_b7_hashIsZero.ext E2).keep Kq4 (ninS ne68 nin0)) W6 ne_b0_b7) W16 ne_b0_b7).keep Kq20 nin0) W32 ne_b0_b7).keep Kq58 nin0)
  have f72 := ((o_fo ((o_fo (o_fo ((F_b7_value.ext E2).keep Kq4 (ninS ne68 nin0)) W6 ne_b0_b7) W16 ne_b0_b7).keep Kq20 nin0) W32 ne_b0_b7).keep Kq58 nin0)
  have ne73 := o_nl A_b10.lt (Nat.le_refl _) (Nat.le_of_eq g2)
  have f74 := ((o_vo ((o_vo (o_vo ((V_b10.ext E2).keep Kq4 (ninS ne73 nin0)) W6 ne_b0_b10) W16 ne_b0_b10).keep Kq20 nin0) W32 ne_b0_b10).keep Kq58 nin0)
  refine kI X58 hx hZ hown (w hw 338 rfl) (w hw 339 rfl) (w hw 340 rfl) (w hw 341 rfl) (w hw 342 rfl) (w hw 343 rfl) (w hw 344 rfl) (w hw 345 rfl) (w hw 109 rfl) (w hw 346 rfl) (by decide) (by decide) a2 [(.ref b7), (.ref r58)] [] 0 (rm_put_49 l Z a0 T58.heap n0 hw H O59 a2 b7 r58 b10 k_b10 f61 f62 f63 f64 f65 f66 g_a2 f67 f69 f70 f71 f72 g_b7 f74 (Ne.symm ne68)) (by decide) (by decide) rfl f61 (by rw [hml]; rfl) (lenOf pd_36 rfl) (Nat.le_of_eq rfl) (hb y d12_72) 77 rfl (by decide) (by decide) fun v60 T60 L60 X60 hQ60 => ?_
  obtain ⟨q60_0, q60_1, qk60_0, rfl, Nq60, Kq60, le_q60_0, le_q60_1, ne_q60_0_q60_1, p60_0, p60_1, p60_2, p60_3, p60_4, p60_5, p60_6, p60_7, p60_8, p60_9, p60_10, p60_11, p60_12, p60_13, p60_14, p60_15, p60_16, p60_17, p60_18⟩ := hQ60
  have g_q60_0 : n0 ≤ q60_0 := Nat.le_trans (o_osz O59) le_q60_0
  have z_q60_0 : h0.size ≤ q60_0 := Nat.le_trans (K59).1 le_q60_0
  have O75 := O59.keep Kq60 (allS g_b7 (allS g_a2 all0))
  have N75 := Fr.app N59 Nq60
  have K75 := Keep.trans K59 Kq60 (allS (Or.inl (by simp)) (allS (Or.inr z_a2) all0))
  refine o_nR ?_
  refine o_pop X60 hx (hb y d12_77) rfl 78 rfl ?_
  refine o_iincC X60 hx (hb y d12_78) #[.val (.ref b0), .val (.ref b1), .val (.ref b2), .val (.int 1)] rfl (1 : Int32) (by decide) rfl 81 rfl ?_
  refine qG X60 hx (hb y d12_81) 33 (by decide) (by decide) ?_
  refine qI X60 hx (hb y d12_33) rfl 34 rfl ?_
  refine qA X60 hx (hb y d12_34) rfl rfl 35 rfl ?_
  have f76 := ((G32.keep Kq58 nin0).keep Kq60 (ninS ne_b0_b7 (ninS ne7 nin0)))
  refine qF X60 hx hZ hown (host := "") (Or.inl (w hw 128 rfl)) Via.refl rfl f76 (hb y d12_35) 38 rfl fun T77 X77 e77 => ?_
  have f79 := ((f38.keep Kq58).keep Kq60)
  have l82 := (Nat.le_trans (Nat.le_trans Kq4.1 (Nat.le_of_eq (Wr.size W6).symm)) (Nat.le_of_eq (Wr.size W16).symm))
  have ne81 := o_nl A2.lt l82 le_q20_0
  have ne84 := o_nl E_b7.lt l41 le_q20_0
  have f85 := ((f42.keep Kq58 nin0).keep Kq60 (ninS (Ne.symm ne84) (ninS (Ne.symm ne81) nin0)))
  have ne87 := o_nl A2.lt l82 le_q20_1
  have ne89 := o_nl E_b7.lt l41 le_q20_1
  have f90 := ((f45.keep Kq58 nin0).keep Kq60 (ninS (Ne.symm ne89) (ninS (Ne.symm ne87) nin0)))
  refine oC (cI X77 hx hZ hown (w hw 130 rfl) (w hw 131 rfl) (w hw 132 rfl) (w hw 133 rfl) (w hw 134 rfl) (w hw 135 rfl) (w hw 136 rfl) (w hw 137 rfl) (w hw 138 rfl) (w hw 139 rfl) (by decide) (by decide) q20_0 [] [(.int 1)] 1 (rm_size_108 l Z a0 T60.heap n0 hw O75 q20_0 q20_1 b4 b5 b6 qk20_0 f85 f90) (by decide) (by decide) e77 f79 (by rw [hml]; rfl) (lenOf pd_9 rfl) (Nat.le_of_eq rfl) (hb y d12_38) 43 rfl (by decide) (by decide)) rfl rfl fun T91 X91 e91 => ?_
  refine qn X91 hx (hb y d12_43) (tlt (by decide : (1 : Int32) < (3 : Int32))).2.1 46 rfl ?_
  refine qA X91 hx (hb y d12_46) rfl rfl 47 rfl ?_
  have f92 := ((f47.keep Kq58 nin0).keep Kq60 (ninS ne_b0_b7 (ninS ne7 nin0)))
  refine qF X91 hx hZ hown (host := "") (Or.inl (w hw 123 rfl)) Via.refl e91 f92 (hb y d12_47) 50 rfl fun T93 X93 e93 => ?_
  refine qA X93 hx (hb y d12_50) rfl rfl 51 rfl ?_
  refine qF X93 hx hZ hown (host := "") (Or.inl (w hw 128 rfl)) Via.refl e93 f76 (hb y d12_51) 54 rfl fun T94 X94 e94 => ?_
  refine qI X94 hx (hb y d12_54) rfl 55 rfl ?_
  refine oC (cI X94 hx hZ hown (w hw 317 rfl) (w hw 318 rfl) (w hw 319 rfl) (w hw 320 rfl) (w hw 321 rfl) (w hw 322 rfl) (w hw 323 rfl) (w hw 137 rfl) (w hw 138 rfl) (w hw 324 rfl) (by decide) (by decide) q20_0 [(.int 1)] [(.ref a2)] 1 (rm_get_110 l Z a0 T60.heap n0 hw O75 q20_0 q20_1 b4 b5 b6 qk20_0 f85 f90) (by decide) (by decide) e94 f79 (by rw [hml]; rfl) (lenOf pd_26 rfl) (Nat.le_of_eq rfl) (hb y d12_55) 60 rfl (by decide) (by decide)) rfl rfl fun T96 X96 e96 => ?_
  have f97 := ((((f29.keep Kq20).wr W32).keep Kq58).keep Kq60)
  refine o_cast X96 hx hZ hown (w hw 325 rfl) e96 (Ins.self f97) (hb y d12_60) 63 rfl fun T98 X98 e98 => ?_
  have ne100 := o_nl E_b5.lt (Nat.le_refl _) (Nat.le_of_eq g2)
  have f101 := (((o_fo ((o_fo (o_fo ((F_b5_name.ext E2).keep Kq4 (ninS ne100 nin0)) W6 ne_b0_b5) W16 ne_b0_b5).keep Kq20 nin0) W32 ne_b0_b5).keep Kq58 nin0).keep Kq60 (ninS ne_b5_b7 (ninS ne100 nin0)))
  refine qV X98 hx hZ hown (w hw 326 rfl) (w hw 327 rfl) (notFace_of_selects (args := #[]) (mvT hZ (w hw 329 rfl))) (w hw 329 rfl) (w hw 328 rfl) (w hw 3 rfl) (w hw 330 rfl) (by decide) b5 [] [(.ref a2)] 1 (rm_name_48 l Z a0 T60.heap n0 hw O75 b5 b8 f101) (by decide) (by decide) rfl rfl e98 f97 (by rw [hml]; rfl) (lenOf pd_27 rfl) (Nat.le_of_eq rfl) (hb y d12_63) 66 rfl rfl (by decide) (by decide) fun T102 X102 e102 => ?_
  refine qI X102 hx (hb y d12_66) rfl 67 rfl ?_
  refine qC X102 hx (hb y d12_67) (1 : Int32) rfl 68 rfl ?_
  refine o_iadd X102 hx (hb y d12_68) 69 rfl ?_
  refine o_topI (2 : Int32) (by decide) ?_
  refine kS X102 hx hZ hown (w hw 331 rfl) (w hw 332 rfl) (w hw 333 rfl) (w hw 334 rfl) (by decide) [(.int 2)] [(.ref b8), (.ref a2)] 2 (rm_boxI_2 l Z a0 T60.heap n0 hw H O75) (by decide) (by decide) e102 (by rw [hml]; rfl) (lenOf pd_28 rfl) (Nat.le_of_eq rfl) (hb y d12_69) (by decide) (by decide) 72 rfl fun v103 T103 L103 X103 hQ103 => ?_
  obtain ⟨r103, rfl, Nq103, Kq103, p103_0, p103_1⟩ := hQ103
  have O104 := O75.keep Kq103 all0
  have N104 := Fr.app N75 Nq103
  have K104 := Keep.trans K75 Kq103 all0
  refine o_nR ?_
  have f106 := (p60_0.keep Kq103)
  have f107 := (p60_1.keep Kq103 nin0)
  have f108 := (p60_2.keep Kq103 nin0)
  have f109 := (p60_3.keep Kq103 nin0)
  have f110 := (p60_4.keep Kq103 nin0)
  have f111 := (p60_5.keep Kq103 nin0)
  have f112 := (((((((((E_b8.ext E2).keep Kq4).wr W6).wr W16).keep Kq20).wr W32).keep Kq58).keep Kq60).keep Kq103)
  have ne113 := o_nl E_b8.lt (Nat.le_refl _) (Nat.le_of_eq g2)
  have f114 := ((((o_fo ((o_fo (o_fo ((F_b8_coder.ext E2).keep Kq4 (ninS ne113 nin0)) W6 ne_b0_b8) W16 ne_b0_b8).keep Kq20 nin0) W32 ne_b0_b8).keep Kq58 nin0).keep Kq60 (ninS (Ne.symm ne_b7_b8) (ninS ne113 nin0))).keep Kq103 nin0)
  have f115 := ((((o_fo ((o_fo (o_fo ((F_b8_hash.ext E2).keep Kq4 (ninS ne113 nin0)) W6 ne_b0_b8) W16 ne_b0_b8).keep Kq20 nin0) W32 ne_b0_b8).keep Kq58 nin0).keep Kq60 (ninS (Ne.symm ne_b7_b8) (ninS ne113 nin0))).keep Kq103 nin0)
  have f116 := ((((o_fo ((o_fo (o_fo ((F_b8_hashIsZero.ext E2).keep Kq4 (ninS ne113 nin0)) W6 ne_b0_b8) W16 ne_b0_b8).keep Kq20 nin0) W32 ne_b0_b8).keep Kq58 nin0).keep Kq60 (ninS (Ne.symm ne_b7_b8) (ninS ne113 nin0))).keep Kq103 nin0)
  have f117 := ((((o_fo ((o_fo (o_fo ((F_b8_value.ext E2).keep Kq4 (ninS ne113 nin0)) W6 ne_b0_b8) W16 ne_b0_b8).keep Kq20 nin0) W32 ne_b0_b8).keep Kq58 nin0).keep Kq60 (ninS (Ne.symm ne_b7_b8) (ninS ne113 nin0))).keep Kq103 nin0)
  have f118 := (p60_11.keep Kq103 nin0)
  have f119 := (p60_12.keep Kq103)
  have ne120 := o_nl A_b11.lt (Nat.le_refl _) (Nat.le_of_eq g2)
  have f121 := ((((o_vo ((o_vo (o_vo ((V_b11.ext E2).keep Kq4 (ninS ne120 nin0)) W6 ne_b0_b11) W16 ne_b0_b11).keep Kq20 nin0) W32 ne_b0_b11).keep Kq58 nin0).keep Kq60 (ninS (Ne.symm ne_b7_b11) (ninS ne120 nin0))).keep Kq103 nin0)
  have l123 := (Nat.le_trans (Nat.le_trans (Nat.le_trans l82 Kq20.1) (Nat.le_of_eq (Wr.size W32).symm)) Kq58.1)
  have ne122 := o_nl A2.lt l123 le_q60_0
  have l125 := (Nat.le_trans (Nat.le_trans (Nat.le_trans l41 Kq20.1) (Nat.le_of_eq (Wr.size W32).symm)) Kq58.1)
  have ne124 := o_nl E_b8.lt l125 le_q60_0
  refine kI X103 hx hZ hown (w hw 338 rfl) (w hw 339 rfl) (w hw 340 rfl) (w hw 341 rfl) (w hw 342 rfl) (w hw 343 rfl) (w hw 344 rfl) (w hw 345 rfl) (w hw 109 rfl) (w hw 346 rfl) (by decide) (by decide) a2 [(.ref b8), (.ref r103)] [] 0 (rm_put_80 l Z a0 T103.heap n0 hw H O104 a2 b8 r103 q60_0 b11 q60_1 qk60_0 k_b11 f106 f107 f108 f109 f110 f111 g_a2 f112 f114 f115 f116 f117 g_b8 f118 f119 p60_13 g_q60_0 f121 (Ne.symm ne113) ne122 ne124) (by decide) (by decide) rfl f106 (by rw [hml]; rfl) (lenOf pd_36 rfl) (Nat.le_of_eq rfl) (hb y d12_72) 77 rfl (by decide) (by decide) fun v105 T105 L105 X105 hQ105 => ?_
  obtain ⟨q105_0, rfl, Nq105, Kq105, le_q105_0, p105_0, p105_1, p105_2, p105_3, p105_4, p105_5, p105_6, p105_7, p105_8, p105_9, p105_10, p105_11, p105_12, p105_13, p105_14, p105_15, p105_16, p105_17⟩ := hQ105
  have O126 := O104.keep Kq105 (allS g_b8 (allS g_a2 (allS g_q60_0 all0)))
  have N126 := Fr.app N104 Nq105
  have K126 := Keep.trans K104 Kq105 (allS (Or.inl (by simp)) (allS (Or.inr z_a2) (allS (Or.inr z_q60_0) all0)))
  refine o_nR ?_
  refine o_pop X105 hx (hb y d12_77) rfl 78 rfl ?_
  refine o_iincC X105 hx (hb y d12_78) #[.val (.ref b0), .val (.ref b1), .val (.ref b2), .val (.int 2)] rfl (2 : Int32) (by decide) rfl 81 rfl ?_
  refine qG X105 hx (hb y d12_81) 33 (by decide) (by decide) ?_
  refine qI X105 hx (hb y d12_33) rfl 34 rfl ?_
  refine qA X105 hx (hb y d12_34) rfl rfl 35 rfl ?_
  have ne127 := o_nl E_b0.lt l125 le_q60_0
  have f128 := ((f76.keep Kq103 nin0).keep Kq105 (ninS ne_b0_b8 (ninS ne7 (ninS ne127 nin0))))
  refine qF X105 hx hZ hown (host := "") (Or.inl (w hw 128 rfl)) Via.refl rfl f128 (hb y d12_35) 38 rfl fun T129 X129 e129 => ?_
  have f131 := ((f79.keep Kq103).keep Kq105)
  have l133 := (Nat.le_trans (Nat.le_of_eq (Wr.size W32).symm) Kq58.1)
  have ne132 := o_nl p20_0.lt l133 le_q60_0
  have ne135 := o_nl E_b8.lt l41 le_q20_0
  have f136 := ((f85.keep Kq103 nin0).keep Kq105 (ninS (Ne.symm ne135) (ninS (Ne.symm ne81) (ninS ne132 nin0))))
  have ne137 := o_nl p20_4.lt l133 le_q60_0
  have ne139 := o_nl E_b8.lt l41 le_q20_1
  have f140 := ((f90.keep Kq103 nin0).keep Kq105 (ninS (Ne.symm ne139) (ninS (Ne.symm ne87) (ninS ne137 nin0))))
  refine oC (cI X129 hx hZ hown (w hw 130 rfl) (w hw 131 rfl) (w hw 132 rfl) (w hw 133 rfl) (w hw 134 rfl) (w hw 135 rfl) (w hw 136 rfl) (w hw 137 rfl) (w hw 138 rfl) (w hw 139 rfl) (by decide) (by decide) q20_0 [] [(.int 2)] 1 (rm_size_108 l Z a0 T105.heap n0 hw O126 q20_0 q20_1 b4 b5 b6 qk20_0 f136 f140) (by decide) (by decide) e129 f131 (by rw [hml]; rfl) (lenOf pd_9 rfl) (Nat.le_of_eq rfl) (hb y d12_38) 43 rfl (by decide) (by decide)) rfl rfl fun T141 X141 e141 => ?_
  refine qn X141 hx (hb y d12_43) (tlt (by decide : (2 : Int32) < (3 : Int32))).2.1 46 rfl ?_
  refine qA X141 hx (hb y d12_46) rfl rfl 47 rfl ?_
  have f142 := ((f92.keep Kq103 nin0).keep Kq105 (ninS ne_b0_b8 (ninS ne7 (ninS ne127 nin0))))
  refine qF X141 hx hZ hown (host := "") (Or.inl (w hw 123 rfl)) Via.refl e141 f142 (hb y d12_47) 50 rfl fun T143 X143 e143 => ?_
  refine qA X143 hx (hb y d12_50) rfl rfl 51 rfl ?_
  refine qF X143 hx hZ hown (host := "") (Or.inl (w hw 128 rfl)) Via.refl e143 f128 (hb y d12_51) 54 rfl fun T144 X144 e144 => ?_
  refine qI X144 hx (hb y d12_54) rfl 55 rfl ?_
  refine oC (cI X144 hx hZ hown (w hw 317 rfl) (w hw 318 rfl) (w hw 319 rfl) (w hw 320 rfl) (w hw 321 rfl) (w hw 322 rfl) (w hw 323 rfl) (w hw 137 rfl) (w hw 138 rfl) (w hw 324 rfl) (by decide) (by decide) q20_0 [(.int 2)] [(.ref a2)] 1 (rm_get_111 l Z a0 T105.heap n0 hw O126 q20_0 q20_1 b4 b5 b6 qk20_0 f136 f140) (by decide) (by decide) e144 f131 (by rw [hml]; rfl) (lenOf pd_26 rfl) (Nat.le_of_eq rfl) (hb y d12_55) 60 rfl (by decide) (by decide)) rfl rfl fun T146 X146 e146 => ?_
  have f147 := ((((((f30.keep Kq20).wr W32).keep Kq58).keep Kq60).keep Kq103).keep Kq105)
  refine o_cast X146 hx hZ hown (w hw 325 rfl) e146 (Ins.self f147) (hb y d12_60) 63 rfl fun T148 X148 e148 => ?_
  have ne150 := o_nl E_b6.lt (Nat.le_refl _) (Nat.le_of_eq g2)
  have ne151 := o_nl E_b6.lt l125 le_q60_0
  have f152 := (((((o_fo ((o_fo (o_fo ((F_b6_name.ext E2).keep Kq4 (ninS ne150 nin0)) W6 ne_b0_b6) W16 ne_b0_b6).keep Kq20 nin0) W32 ne_b0_b6).keep Kq58 nin0).keep Kq60 (ninS ne_b6_b7 (ninS ne150 nin0))).keep Kq103 nin0).keep Kq105 (ninS ne_b6_b8 (ninS ne150 (ninS ne151 nin0))))
  refine qV X148 hx hZ hown (w hw 326 rfl) (w hw 327 rfl) (notFace_of_selects (args := #[]) (mvT hZ (w hw 329 rfl))) (w hw 329 rfl) (w hw 328 rfl) (w hw 3 rfl) (w hw 330 rfl) (by decide) b6 [] [(.ref a2)] 1 (rm_name_48 l Z a0 T105.heap n0 hw O126 b6 b9 f152) (by decide) (by decide) rfl rfl e148 f147 (by rw [hml]; rfl) (lenOf pd_27 rfl) (Nat.le_of_eq rfl) (hb y d12_63) 66 rfl rfl (by decide) (by decide) fun T153 X153 e153 => ?_
  refine qI X153 hx (hb y d12_66) rfl 67 rfl ?_
  refine qC X153 hx (hb y d12_67) (1 : Int32) rfl 68 rfl ?_
  refine o_iadd X153 hx (hb y d12_68) 69 rfl ?_
  refine o_topI (3 : Int32) (by decide) ?_
  refine kS X153 hx hZ hown (w hw 331 rfl) (w hw 332 rfl) (w hw 333 rfl) (w hw 334 rfl) (by decide) [(.int 3)] [(.ref b9), (.ref a2)] 2 (rm_boxI_3 l Z a0 T105.heap n0 hw H O126) (by decide) (by decide) e153 (by rw [hml]; rfl) (lenOf pd_28 rfl) (Nat.le_of_eq rfl) (hb y d12_69) (by decide) (by decide) 72 rfl fun v154 T154 L154 X154 hQ154 => ?_
  obtain ⟨r154, rfl, Nq154, Kq154, p154_0, p154_1⟩ := hQ154
  have O155 := O126.keep Kq154 all0
  have N155 := Fr.app N126 Nq154
  have K155 := Keep.trans K126 Kq154 all0
  refine o_nR ?_
  have f157 := (p105_0.keep Kq154)
  have f158 := (p105_1.keep Kq154 nin0)
  have f159 := (p105_2.keep Kq154 nin0)
  have f160 := (p105_3.keep Kq154 nin0)
  have f161 := (p105_4.keep Kq154 nin0)
  have f162 := (p105_5.keep Kq154 nin0)
  have f163 := (((((((((((E_b9.ext E2).keep Kq4).wr W6).wr W16).keep Kq20).wr W32).keep Kq58).keep Kq60).keep Kq103).keep Kq105).keep Kq154)
  have ne164 := o_nl E_b9.lt (Nat.le_refl _) (Nat.le_of_eq g2)
  have ne165 := o_nl E_b9.lt l125 le_q60_0
  have f166 := ((((((o_fo ((o_fo (o_fo ((F_b9_coder.ext E2).keep Kq4 (ninS ne164 nin0)) W6 ne_b0_b9) W16 ne_b0_b9).keep Kq20 nin0) W32 ne_b0_b9).keep Kq58 nin0).keep Kq60 (ninS (Ne.symm ne_b7_b9) (ninS ne164 nin0))).keep Kq103 nin0).keep Kq105 (ninS (Ne.symm ne_b8_b9) (ninS ne164 (ninS ne165 nin0)))).keep Kq154 nin0)
  have f167 := ((((((o_fo ((o_fo (o_fo ((F_b9_hash.ext E2).keep Kq4 (ninS ne164 nin0)) W6 ne_b0_b9) W16 ne_b0_b9).keep Kq20 nin0) W32 ne_b0_b9).keep Kq58 nin0).keep Kq60 (ninS (Ne.symm ne_b7_b9) (ninS ne164 nin0))).keep Kq103 nin0).keep Kq105 (ninS (Ne.symm ne_b8_b9) (ninS ne164 (ninS ne165 nin0)))).keep Kq154 nin0)
  have f168 := ((((((o_fo ((o_fo (o_fo ((F_b9_hashIsZero.ext E2).keep Kq4 (ninS ne164 nin0)) W6 ne_b0_b9) W16 ne_b0_b9).keep Kq20 nin0) W32 ne_b0_b9).keep Kq58 nin0).keep Kq60 (ninS (Ne.symm ne_b7_b9) (ninS ne164 nin0))).keep Kq103 nin0).keep Kq105 (ninS (Ne.symm ne_b8_b9) (ninS ne164 (ninS ne165 nin0)))).keep Kq154 nin0)
  have f169 := ((((((o_fo ((o_fo (o_fo ((F_b9_value.ext E2).keep Kq4 (ninS ne164 nin0)) W6 ne_b0_b9) W16 ne_b0_b9).keep Kq20 nin0) W32 ne_b0_b9).keep Kq58 nin0).keep Kq60 (ninS (Ne.symm ne_b7_b9) (ninS ne164 nin0))).keep Kq103 nin0).keep Kq105 (ninS (Ne.symm ne_b8_b9) (ninS ne164 (ninS ne165 nin0)))).keep Kq154 nin0)
  have f170 := (p105_11.keep Kq154 nin0)
  have f171 := (p105_12.keep Kq154)
  have ne172 := o_nl A_b12.lt (Nat.le_refl _) (Nat.le_of_eq g2)
  have ne173 := o_nl A_b12.lt l125 le_q60_0
  have f174 := ((((((o_vo ((o_vo (o_vo ((V_b12.ext E2).keep Kq4 (ninS ne172 nin0)) W6 ne_b0_b12) W16 ne_b0_b12).keep Kq20 nin0) W32 ne_b0_b12).keep Kq58 nin0).keep Kq60 (ninS (Ne.symm ne_b7_b12) (ninS ne172 nin0))).keep Kq103 nin0).keep Kq105 (ninS (Ne.symm ne_b8_b12) (ninS ne172 (ninS ne173 nin0)))).keep Kq154 nin0)
  refine kI X154 hx hZ hown (w hw 338 rfl) (w hw 339 rfl) (w hw 340 rfl) (w hw 341 rfl) (w hw 342 rfl) (w hw 343 rfl) (w hw 344 rfl) (w hw 345 rfl) (w hw 109 rfl) (w hw 346 rfl) (by decide) (by decide) a2 [(.ref b9), (.ref r154)] [] 0 (rm_put_112 l Z a0 T154.heap n0 hw H O155 a2 b9 r154 q60_0 b12 q60_1 q105_0 qk60_0 k_b12 f157 f158 f159 f160 f161 f162 g_a2 f163 f166 f167 f168 f169 g_b9 f170 f171 p60_13 g_q60_0 f174 (Ne.symm ne164) ne122 ne165) (by decide) (by decide) rfl f157 (by rw [hml]; rfl) (lenOf pd_36 rfl) (Nat.le_of_eq rfl) (hb y d12_72) 77 rfl (by decide) (by decide) fun v156 T156 L156 X156 hQ156 => ?_
  obtain ⟨q156_0, rfl, Nq156, Kq156, le_q156_0, p156_0, p156_1, p156_2, p156_3, p156_4, p156_5, p156_6, p156_7, p156_8, p156_9, p156_10, p156_11, p156_12, p156_13, p156_14, p156_15, p156_16, p156_17⟩ := hQ156
  have O175 := O155.keep Kq156 (allS g_b9 (allS g_a2 (allS g_q60_0 all0)))
  have N175 := Fr.app N155 Nq156
  have K175 := Keep.trans K155 Kq156 (allS (Or.inl (by simp)) (allS (Or.inr z_a2) (allS (Or.inr z_q60_0) all0)))
  refine o_nR ?_
  refine o_pop X156 hx (hb y d12_77) rfl 78 rfl ?_
  refine o_iincC X156 hx (hb y d12_78) #[.val (.ref b0), .val (.ref b1), .val (.ref b2), .val (.int 3)] rfl (3 : Int32) (by decide) rfl 81 rfl ?_
  refine qG X156 hx (hb y d12_81) 33 (by decide) (by decide) ?_
  refine qI X156 hx (hb y d12_33) rfl 34 rfl ?_
  refine qA X156 hx (hb y d12_34) rfl rfl 35 rfl ?_
  have f176 := ((f128.keep Kq154 nin0).keep Kq156 (ninS ne_b0_b9 (ninS ne7 (ninS ne127 nin0))))
  refine qF X156 hx hZ hown (host := "") (Or.inl (w hw 128 rfl)) Via.refl rfl f176 (hb y d12_35) 38 rfl fun T177 X177 e177 => ?_
  have f179 := ((f131.keep Kq154).keep Kq156)
  have ne181 := o_nl E_b9.lt l41 le_q20_0
  have f182 := ((f136.keep Kq154 nin0).keep Kq156 (ninS (Ne.symm ne181) (ninS (Ne.symm ne81) (ninS ne132 nin0))))
  have ne184 := o_nl E_b9.lt l41 le_q20_1
  have f185 := ((f140.keep Kq154 nin0).keep Kq156 (ninS (Ne.symm ne184) (ninS (Ne.symm ne87) (ninS ne137 nin0))))
  refine oC (cI X177 hx hZ hown (w hw 130 rfl) (w hw 131 rfl) (w hw 132 rfl) (w hw 133 rfl) (w hw 134 rfl) (w hw 135 rfl) (w hw 136 rfl) (w hw 137 rfl) (w hw 138 rfl) (w hw 139 rfl) (by decide) (by decide) q20_0 [] [(.int 3)] 1 (rm_size_108 l Z a0 T156.heap n0 hw O175 q20_0 q20_1 b4 b5 b6 qk20_0 f182 f185) (by decide) (by decide) e177 f179 (by rw [hml]; rfl) (lenOf pd_9 rfl) (Nat.le_of_eq rfl) (hb y d12_38) 43 rfl (by decide) (by decide)) rfl rfl fun T186 X186 e186 => ?_
  refine o_icmpY X186 hx (hb y d12_43) (flt (by decide : ¬ ((3 : Int32) < (3 : Int32)))).2.1 84 (by decide) (by decide) ?_
  have f187 := (((((((f34.wr W32).keep Kq58).keep Kq60).keep Kq103).keep Kq105).keep Kq154).keep Kq156)
  have f188 := ((((p60_6.keep Kq103).keep Kq105).keep Kq154).keep Kq156)
  have ne189 := o_nl E_b7.lt l125 le_q60_0
  have f190 := ((((p60_7.keep Kq103 nin0).keep Kq105 (ninS ne_b7_b8 (ninS ne68 (ninS ne189 nin0)))).keep Kq154 nin0).keep Kq156 (ninS ne_b7_b9 (ninS ne68 (ninS ne189 nin0))))
  have f191 := ((((p60_8.keep Kq103 nin0).keep Kq105 (ninS ne_b7_b8 (ninS ne68 (ninS ne189 nin0)))).keep Kq154 nin0).keep Kq156 (ninS ne_b7_b9 (ninS ne68 (ninS ne189 nin0))))
  have f192 := ((((p60_9.keep Kq103 nin0).keep Kq105 (ninS ne_b7_b8 (ninS ne68 (ninS ne189 nin0)))).keep Kq154 nin0).keep Kq156 (ninS ne_b7_b9 (ninS ne68 (ninS ne189 nin0))))
  have f193 := ((((p60_10.keep Kq103 nin0).keep Kq105 (ninS ne_b7_b8 (ninS ne68 (ninS ne189 nin0)))).keep Kq154 nin0).keep Kq156 (ninS ne_b7_b9 (ninS ne68 (ninS ne189 nin0))))
  have f194 := ((p105_6.keep Kq154).keep Kq156)
  have f195 := ((p105_7.keep Kq154 nin0).keep Kq156 (ninS ne_b8_b9 (ninS ne113 (ninS ne124 nin0))))
  have f196 := ((p105_8.keep Kq154 nin0).keep Kq156 (ninS ne_b8_b9 (ninS ne113 (ninS ne124 nin0))))
  have f197 := ((p105_9.keep Kq154 nin0).keep Kq156 (ninS ne_b8_b9 (ninS ne113 (ninS ne124 nin0))))
  have f198 := ((p105_10.keep Kq154 nin0).keep Kq156 (ninS ne_b8_b9 (ninS ne113 (ninS ne124 nin0))))
  have f199 := (((((((o_fo p20_1 W32 ne40).keep Kq58 nin0).keep Kq60 (ninS (Ne.symm ne84) (ninS (Ne.symm ne81) nin0))).keep Kq103 nin0).keep Kq105 (ninS (Ne.symm ne135) (ninS (Ne.symm ne81) (ninS ne132 nin0)))).keep Kq154 nin0).keep Kq156 (ninS (Ne.symm ne181) (ninS (Ne.symm ne81) (ninS ne132 nin0))))
  have f200 := (((((((p20_4.wr W32).keep Kq58).keep Kq60).keep Kq103).keep Kq105).keep Kq154).keep Kq156)
  exact qv X186 hx hk hret (hb y d12_84) (by show Q_rm__init__97 Z h0 n0 b0 b1 b2 b3 b4 b5 b6 b7 b8 b9 b10 b11 b12 k_b3 k_b10 k_b11 k_b12 _ T186.heap _; rw [e186]; exact ⟨q20_0, q20_1, qk20_0, rfl, N175, K175, z_q20_0, z_q20_1, ne_q20_0_q20_1, f187, f176, f188, f190, f191, f192, f193, f194, f195, f196, f197, f198, p156_6, p156_7, p156_8, p156_9, p156_10, f179, f199, f182, f185, f200, p20_5⟩) (by decide) (by decide)
def Q_rm__init__121 (Z : State) (h0 : Heap) (n0 : Nat) (b0 : Addr) (b1 : Addr) (v : Option Value) (h : Heap) (L : List Loc) : Prop := v = none ∧ Fr n0 L ∧ Keep h0 h [b0] ∧ Exa Z h b0 s2 ∧ Fld Z h b0 s2 s41 "I" (.int 0) ∧ Fld Z h b0 s2 s32 "Z" (.int 0) ∧ Fld Z h b0 s2 s55 s17 (.ref b1) ∧ Fld Z h b0 s2 s26 "I" (.int 3)
theorem rm__init__121 (hw : o_HW Z a0) (O : Old Z n0 h0) (b0 : Addr) (b1 : Addr) (E_b0 : Exa Z h0 b0 s2) (F_b0_cursor : Fld Z h0 b0 s2 s41 "I" (.int 0)) (F_b0_isListIterator : Fld Z h0 b0 s2 s32 "Z" (.int 0)) (F_b0_list : Fld Z h0 b0 s2 s55 s17 .null) (F_b0_size : Fld Z h0 b0 s2 s26 "I" (.int 0)) (g_b0 : n0 ≤ b0) :
    o_Met l (⟨s2, s50, "(Ljava/util/List;I)V"⟩ : MethodName) B17 3 none [] (o_rm 1 0 0 12) Z #[(.ref b0), (.ref b1), (.int 3)] h0 (Q_rm__init__121 Z h0 n0 b0 b1) := by
  refine o_met (pN pn_12) ?_
  intro p e s m below meth c T0 hx y hml hown hret hk hnm hZ X0 e0
  refine o_ent (ef_1 m b0 b1 (3 : Int32)) ?_
  refine qA X0 hx (hb y d19_0) rfl rfl 1 rfl ?_
  refine o_initO X0 hx hZ hown (w hw 196 rfl) (w hw 24 rfl) (w hw 25 rfl) e0 (by rw [hml]; rfl) (hb y d19_1) (by decide) 0 (Nat.le_of_eq rfl) (by decide) 4 rfl fun T1 X1 e1 => ?_
  refine qA X1 hx (hb y d19_4) rfl rfl 5 rfl ?_
  refine qA X1 hx (hb y d19_5) rfl rfl 6 rfl ?_
  refine qP X1 hx hZ hown (host := "") (Or.inl (w hw 197 rfl)) Via.refl e1 F_b0_list E_b0 (Or.inr ⟨(w hw 198 rfl), rfl, hnm⟩) (w hw 186 rfl) (ty := (.object s21)) (by decide) rfl rfl (hb y d19_6) 9 rfl fun T2 X2 W2 => ?_
  have G2 := Fld.same W2 F_b0_list
  have N3 := Fr.snoc X2 (Fr.nil n0) g_b0
  have K3 := Keep.wr (Keep.refl h0 [b0]) W2 (Or.inl (by simp))
  refine qA X2 hx (hb y d19_9) rfl rfl 10 rfl ?_
  refine qI X2 hx (hb y d19_10) rfl 11 rfl ?_
  have f5 := (F_b0_size.other W2 (Or.inr (sn_49 hw)))
  have f6 := (E_b0.wr W2)
  refine qP X2 hx hZ hown (host := "") (Or.inl (w hw 199 rfl)) Via.refl rfl f5 f6 (Or.inr ⟨(w hw 200 rfl), rfl, hnm⟩) (w hw 186 rfl) (ty := .int) (by decide) rfl rfl (hb y d19_11) 14 rfl fun T4 X4 W4 => ?_
  have G4 := Fld.same W4 f5
  have N7 := Fr.snoc X4 N3 g_b0
  have K7 := Keep.wr K3 W4 (Or.inl (by simp))
  refine qA X4 hx (hb y d19_14) rfl rfl 15 rfl ?_
  refine qC X4 hx (hb y d19_15) (0 : Int32) rfl 16 rfl ?_
  have f9 := ((F_b0_cursor.other W2 (Or.inr (sn_50 hw))).other W4 (Or.inr (sn_51 hw)))
  have f10 := (f6.wr W4)
  refine qP X4 hx hZ hown (host := "") (Or.inl (w hw 201 rfl)) Via.refl rfl f9 f10 (Or.inl (w hw 202 rfl)) (w hw 186 rfl) (ty := .int) (by decide) rfl rfl (hb y d19_16) 19 rfl fun T8 X8 W8 => ?_
  have G8 := Fld.same W8 f9
  have N11 := Fr.snoc X8 N7 g_b0
  have K11 := Keep.wr K7 W8 (Or.inl (by simp))
  refine qA X8 hx (hb y d19_19) rfl rfl 20 rfl ?_
  refine qC X8 hx (hb y d19_20) (0 : Int32) rfl 21 rfl ?_
  have f13 := (((F_b0_isListIterator.other W2 (Or.inr (sn_52 hw))).other W4 (Or.inr (sn_53 hw))).other W8 (Or.inr (sn_54 hw)))
  have f14 := (f10.wr W8)
  refine o_putFN X8 hx hZ hown (w hw 203 rfl) Via.refl rfl ((.int 0)) f13 f14 (Or.inr ⟨(w hw 204 rfl), rfl, hnm⟩) (w hw 186 rfl) (ty := .boolean) (by decide) rfl rfl (hb y d19_21) 24 rfl fun T12 X12 W12 => ?_
  have G12 := Fld.same W12 f13
  have N15 := Fr.snoc X12 N11 g_b0
  have K15 := Keep.wr K11 W12 (Or.inl (by simp))
  have f16 := (f14.wr W12)
  have f17 := (G8.other W12 (Or.inr (Ne.symm (sn_54 hw))))
  have f18 := (((G2.other W4 (Or.inr (Ne.symm (sn_49 hw)))).other W8 (Or.inr (Ne.symm (sn_50 hw)))).other W12 (Or.inr (Ne.symm (sn_52 hw))))
  have f19 := ((G4.other W8 (Or.inr (Ne.symm (sn_51 hw)))).other W12 (Or.inr (Ne.symm (sn_53 hw))))
  exact qv X12 hx hk hret (hb y d19_24) (by show Q_rm__init__121 Z h0 n0 b0 b1 _ T12.heap _; exact ⟨rfl, N15, K15, f16, f17, G12, f18, f19⟩) (by decide) (by decide)
def Q_rm_iterator_120 (Z : State) (h0 : Heap) (n0 : Nat) (b0 : Addr) (b1 : Addr) (b2 : Addr) (b3 : Addr) (b4 : Addr) (k_b1 : ClassId) (v : Option Value) (h : Heap) (L : List Loc) : Prop := ∃ (y0 : Addr), v = some (.ref y0) ∧ Fr n0 L ∧ Keep h0 h [] ∧ h0.size ≤ y0 ∧ Exa Z h y0 s2 ∧ Fld Z h y0 s2 s41 "I" (.int 0) ∧ Fld Z h y0 s2 s32 "Z" (.int 0) ∧ Fld Z h y0 s2 s55 s17 (.ref b0) ∧ Fld Z h y0 s2 s26 "I" (.int 3)
theorem rm_iterator_120 (hw : o_HW Z a0) (O : Old Z n0 h0) (b0 : Addr) (b1 : Addr) (b2 : Addr) (b3 : Addr) (b4 : Addr) (k_b1 : ClassId) (E_b0 : Exa Z h0 b0 s11) (F_b0_elements : Fld Z h0 b0 s11 s54 s10 (.ref b1)) (V_b1 : Arv Z h0 b1 k_b1 (.object s8) (3 : Int32) [(.ref b2), (.ref b3), (.ref b4)] .null) :
    o_Met l (⟨s30, "iterator", "()Ljava/util/Iterator;"⟩ : MethodName) B18 1 (some (.object "java/util/Iterator")) [] (o_rm 2 1 4 27) Z #[(.ref b0)] h0 (Q_rm_iterator_120 Z h0 n0 b0 b1 b2 b3 b4 k_b1) := by
  refine o_met (pN pn_13) ?_
  intro p e s m below meth c T0 hx y hml hown hret hk hnm hZ X0 e0
  refine o_ent (ef_2 m b0) ?_
  refine nO X0 hx hZ hown (w hw 185 rfl) (w hw 186 rfl) (w hw 187 rfl) e0 (hb y d18_0) 3 rfl (by decide) (by decide) fun T1 a1 g1 X1 E1 A1 D1 => ?_
  have g_a1 : n0 ≤ a1 := Nat.le_trans (o_osz O) (Nat.le_of_eq g1)
  have z_a1 : h0.size ≤ a1 := Nat.le_trans ((Keep.refl h0 [])).1 (Nat.le_of_eq g1)
  have O2 := O.ext E1
  have K2 := Keep.ext (Keep.refl h0 []) E1
  have F1_list : Fld Z T1.heap a1 s2 s55 s17 .null := D1 (Or.inr (w hw 198 rfl)) (ty := (.object s21)) (by decide)
  have F1_size : Fld Z T1.heap a1 s2 s26 "I" (.int 0) := D1 (Or.inr (w hw 200 rfl)) (ty := .int) (by decide)
  have F1_cursor : Fld Z T1.heap a1 s2 s41 "I" (.int 0) := D1 (Or.inl (w hw 202 rfl)) (ty := .int) (by decide)
  have F1_isListIterator : Fld Z T1.heap a1 s2 s32 "Z" (.int 0) := D1 (Or.inr (w hw 204 rfl)) (ty := .boolean) (by decide)
  refine qD X1 hx (hb y d18_3) rfl 4 rfl ?_
  refine qA X1 hx (hb y d18_4) rfl rfl 5 rfl ?_
  refine qA X1 hx (hb y d18_5) rfl rfl 6 rfl ?_
  have f4 := (E_b0.ext E1)
  have f5 := (F_b0_elements.ext E1)
  have f6 := (V_b1.ext E1)
  refine o_pureU X1 hx hZ hown (w hw 188 rfl) (w hw 189 rfl) (w hw 190 rfl) (by decide) (w hw 191 rfl) (w hw 134 rfl) (w hw 138 rfl) (w hw 139 rfl) b0 [] [(.ref b0), (.ref a1), (.ref a1)] 3 (rm_size_108 l Z a0 T1.heap n0 hw O2 b0 b1 b2 b3 b4 k_b1 f5 f6) (by decide) (by decide) rfl rfl rfl f4 (by rw [hml]; rfl) (lenOf pd_9 rfl) (Nat.le_of_eq rfl) (hb y d18_6) 9 rfl rfl (by decide) (by decide) fun T7 X7 e7 => ?_
  refine kN X7 hx hZ rfl hown (w hw 192 rfl) (w hw 193 rfl) (w hw 187 rfl) (w hw 195 rfl) (by decide) a1 [(.ref b0), (.int 3)] [(.ref a1)] 1 (rm__init__121 l Z a0 T1.heap n0 hw O2 a1 b0 A1 F1_cursor F1_isListIterator F1_list F1_size g_a1) (by decide) (by decide) e7 (by rw [hml]; rfl) (lenOf pd_11 rfl) (Nat.le_of_eq rfl) (hb y d18_9) (by decide) (by decide) 12 rfl fun v8 T8 L8 X8 hQ8 => ?_
  obtain ⟨rfl, Nq8, Kq8, p8_0, p8_1, p8_2, p8_3, p8_4⟩ := hQ8
  have N9 := Fr.app (Fr.nil n0) Nq8
  have K9 := Keep.trans K2 Kq8 (allS (Or.inr z_a1) all0)
  refine o_nV ?_
  exact qR X8 hx hk hret rfl rfl (hb y d18_12) rfl (by show Q_rm_iterator_120 Z h0 n0 b0 b1 b2 b3 b4 k_b1 _ T8.heap _; exact ⟨a1, rfl, N9, K9, z_a1, p8_0, p8_1, p8_2, p8_3, p8_4⟩) (by decide) (by decide)
theorem rm_hasNext_122 (hw : o_HW Z a0) (O : Old Z n0 h0) (b0 : Addr) (F_b0_cursor : Fld Z h0 b0 s2 s41 "I" (.int 0)) (F_b0_size : Fld Z h0 b0 s2 s26 "I" (.int 3)) :
    o_Met l (⟨s2, "hasNext", "()Z"⟩ : MethodName) B19 1 (some .boolean) [] (o_rm 0 0 0 0) Z #[(.ref b0)] h0 (o_R (some (.int 1)) h0) := by
  refine o_met (pN pn_12) ?_
  intro p e s m below meth c T0 hx y hml hown hret hk hnm hZ X0 e0
  refine o_ent (ef_2 m b0) ?_
  refine qA X0 hx (hb y d20_0) rfl rfl 1 rfl ?_
  refine qF X0 hx hZ hown (host := "") (Or.inl (w hw 201 rfl)) Via.refl e0 F_b0_cursor (hb y d20_1) 4 rfl fun T1 X1 e1 => ?_
  refine qA X1 hx (hb y d20_4) rfl rfl 5 rfl ?_
  refine qF X1 hx hZ hown (host := "") (Or.inl (w hw 199 rfl)) Via.refl e1 F_b0_size (hb y d20_5) 8 rfl fun T2 X2 e2 => ?_
  refine qn X2 hx (hb y d20_8) (feq (by decide : ¬ ((0 : Int32) = (3 : Int32)))).1 11 rfl ?_
  refine qC X2 hx (hb y d20_11) (1 : Int32) rfl 12 rfl ?_
  refine qG X2 hx (hb y d20_12) 16 (by decide) (by decide) ?_
  exact o_retZ X2 hx hk hret (hb y d20_16) rfl ⟨rfl, e2, rfl⟩ (by decide) (by decide)
def Q_rm_next_123 (Z : State) (h0 : Heap) (n0 : Nat) (b0 : Addr) (b1 : Addr) (b2 : Addr) (b3 : Addr) (b4 : Addr) (b5 : Addr) (k_b2 : ClassId) (v : Option Value) (h : Heap) (L : List Loc) : Prop := v = some (.ref b3) ∧ Fr n0 L ∧ Keep h0 h [b0] ∧ Exa Z h b0 s2 ∧ Fld Z h b0 s2 s41 "I" (.int 1) ∧ Fld Z h b0 s2 s32 "Z" (.int 0) ∧ Fld Z h b0 s2 s55 s17 (.ref b1) ∧ Fld Z h b0 s2 s26 "I" (.int 3)
theorem rm_next_123 (hw : o_HW Z a0) (O : Old Z n0 h0) (b0 : Addr) (b1 : Addr) (b2 : Addr) (b3 : Addr) (b4 : Addr) (b5 : Addr) (k_b2 : ClassId) (E_b0 : Exa Z h0 b0 s2) (F_b0_cursor : Fld Z h0 b0 s2 s41 "I" (.int 0)) (F_b0_isListIterator : Fld Z h0 b0 s2 s32 "Z" (.int 0)) (F_b0_list : Fld Z h0 b0 s2 s55 s17 (.ref b1)) (F_b0_size : Fld Z h0 b0 s2 s26 "I" (.int 3)) (g_b0 : n0 ≤ b0) (E_b1 : Exa Z h0 b1 s11) (F_b1_elements : Fld Z h0 b1 s11 s54 s10 (.ref b2)) (V_b2 : Arv Z h0 b2 k_b2 (.object s8) (3 : Int32) [(.ref b3), (.ref b4), (.ref b5)] .null) :
    o_MetW l (⟨s2, s62, s68⟩ : MethodName) B51 3 (some (.object s8)) [((0 : Nat), (24 : Nat), (25 : Nat), (30 : Nat))] [] (o_rm 1 0 0 13) Z #[(.ref b0)] h0 (Q_rm_next_123 Z h0 n0 b0 b1 b2 b3 b4 b5 k_b2) := by
  refine o_metW (plainFor_of_name pn_12) ?_
  intro p e s m below meth c T0 hx y hml hown hret hk hnm hZ X0 e0
  refine o_ent (ef_19 m b0) ?_
  refine qA X0 hx (hb y d51_0) rfl rfl 1 rfl ?_
  refine qF X0 hx hZ hown (host := "") (Or.inl (w hw 201 rfl)) Via.refl e0 F_b0_cursor (hb y d51_1) 4 rfl fun T1 X1 e1 => ?_
  refine qk X1 hx (hb y d51_4) #[.val (.ref b0), .val (.int 0), .unset] rfl 5 rfl ?_
  refine qA X1 hx (hb y d51_5) rfl rfl 6 rfl ?_
  refine qF X1 hx hZ hown (host := "") (Or.inl (w hw 197 rfl)) Via.refl e1 F_b0_list (hb y d51_6) 9 rfl fun T2 X2 e2 => ?_
  refine qI X2 hx (hb y d51_9) rfl 10 rfl ?_
  refine oC (cI X2 hx hZ hown (w hw 421 rfl) (w hw 318 rfl) (w hw 319 rfl) (w hw 320 rfl) (w hw 321 rfl) (w hw 322 rfl) (w hw 323 rfl) (w hw 137 rfl) (w hw 138 rfl) (w hw 324 rfl) (by decide) (by decide) b1 [(.int 0)] [] 0 (rm_get_109 l Z a0 h0 n0 hw O b1 b2 b3 b4 b5 k_b2 F_b1_elements V_b2) (by decide) (by decide) e2 E_b1 (by rw [hml]; rfl) (lenOf pd_26 rfl) (Nat.le_of_eq rfl) (hb y d51_10) 15 rfl (by decide) (by decide)) rfl rfl fun T4 X4 e4 => ?_
  refine qh X4 hx (hb y d51_15) #[.val (.ref b0), .val (.int 0), .val (.ref b3)] rfl rfl 16 rfl ?_
  refine qA X4 hx (hb y d51_16) rfl rfl 17 rfl ?_
  refine qI X4 hx (hb y d51_17) rfl 18 rfl ?_
  refine qC X4 hx (hb y d51_18) (1 : Int32) rfl 19 rfl ?_
  refine o_iadd X4 hx (hb y d51_19) 20 rfl ?_
  refine o_topI (1 : Int32) (by decide) ?_
  refine qP X4 hx hZ hown (host := "") (Or.inl (w hw 201 rfl)) Via.refl e4 F_b0_cursor E_b0 (Or.inl (w hw 202 rfl)) (w hw 186 rfl) (ty := .int) (by decide) rfl rfl (hb y d51_20) 23 rfl fun T5 X5 W5 => ?_
  have G5 := Fld.same W5 F_b0_cursor
  have N6 := Fr.snoc X5 (Fr.nil n0) g_b0
  have K6 := Keep.wr (Keep.refl h0 [b0]) W5 (Or.inl (by simp))
  refine qA X5 hx (hb y d51_23) rfl rfl 24 rfl ?_
  have f7 := (E_b0.wr W5)
  have f8 := (F_b0_isListIterator.other W5 (Or.inr (sn_54 hw)))
  have f9 := (F_b0_list.other W5 (Or.inr (Ne.symm (sn_50 hw))))
  have f10 := (F_b0_size.other W5 (Or.inr (Ne.symm (sn_51 hw))))
  exact qR X5 hx hk hret rfl rfl (hb y d51_24) rfl (by show Q_rm_next_123 Z h0 n0 b0 b1 b2 b3 b4 b5 k_b2 _ T5.heap _; exact ⟨rfl, N6, K6, f7, G5, f8, f9, f10⟩) (by decide) (by decide)
theorem rm_hasNext_124 (hw : o_HW Z a0) (O : Old Z n0 h0) (b0 : Addr) (F_b0_cursor : Fld Z h0 b0 s2 s41 "I" (.int 1)) (F_b0_size : Fld Z h0 b0 s2 s26 "I" (.int 3)) :
    o_Met l (⟨s2, "hasNext", "()Z"⟩ : MethodName) B19 1 (some .boolean) [] (o_rm 0 0 0 0) Z #[(.ref b0)] h0 (o_R (some (.int 1)) h0) := by
  refine o_met (pN pn_12) ?_
  intro p e s m below meth c T0 hx y hml hown hret hk hnm hZ X0 e0
  refine o_ent (ef_2 m b0) ?_
  refine qA X0 hx (hb y d20_0) rfl rfl 1 rfl ?_
  refine qF X0 hx hZ hown (host := "") (Or.inl (w hw 201 rfl)) Via.refl e0 F_b0_cursor (hb y d20_1) 4 rfl fun T1 X1 e1 => ?_
  refine qA X1 hx (hb y d20_4) rfl rfl 5 rfl ?_
  refine qF X1 hx hZ hown (host := "") (Or.inl (w hw 199 rfl)) Via.refl e1 F_b0_size (hb y d20_5) 8 rfl fun T2 X2 e2 => ?_
  refine qn X2 hx (hb y d20_8) (feq (by decide : ¬ ((1 : Int32) = (3 : Int32)))).1 11 rfl ?_
  refine qC X2 hx (hb y d20_11) (1 : Int32) rfl 12 rfl ?_
  refine qG X2 hx (hb y d20_12) 16 (by decide) (by decide) ?_
  exact o_retZ X2 hx hk hret (hb y d20_16) rfl ⟨rfl, e2, rfl⟩ (by decide) (by decide)
def Q_rm_next_125 (Z : State) (h0 : Heap) (n0 : Nat) (b0 : Addr) (b1 : Addr) (b2 : Addr) (b3 : Addr) (b4 : Addr) (b5 : Addr) (k_b2 : ClassId) (v : Option Value) (h : Heap) (L : List Loc) : Prop := v = some (.ref b4) ∧ Fr n0 L ∧ Keep h0 h [b0] ∧ Exa Z h b0 s2 ∧ Fld Z h b0 s2 s41 "I" (.int 2) ∧ Fld Z h b0 s2 s32 "Z" (.int 0) ∧ Fld Z h b0 s2 s55 s17 (.ref b1) ∧ Fld Z h b0 s2 s26 "I" (.int 3)
theorem rm_next_125 (hw : o_HW Z a0) (O : Old Z n0 h0) (b0 : Addr) (b1 : Addr) (b2 : Addr) (b3 : Addr) (b4 : Addr) (b5 : Addr) (k_b2 : ClassId) (E_b0 : Exa Z h0 b0 s2) (F_b0_cursor : Fld Z h0 b0 s2 s41 "I" (.int 1)) (F_b0_isListIterator : Fld Z h0 b0 s2 s32 "Z" (.int 0)) (F_b0_list : Fld Z h0 b0 s2 s55 s17 (.ref b1)) (F_b0_size : Fld Z h0 b0 s2 s26 "I" (.int 3)) (g_b0 : n0 ≤ b0) (E_b1 : Exa Z h0 b1 s11) (F_b1_elements : Fld Z h0 b1 s11 s54 s10 (.ref b2)) (V_b2 : Arv Z h0 b2 k_b2 (.object s8) (3 : Int32) [(.ref b3), (.ref b4), (.ref b5)] .null) :
    o_MetW l (⟨s2, s62, s68⟩ : MethodName) B51 3 (some (.object s8)) [((0 : Nat), (24 : Nat), (25 : Nat), (30 : Nat))] [] (o_rm 1 0 0 13) Z #[(.ref b0)] h0 (Q_rm_next_125 Z h0 n0 b0 b1 b2 b3 b4 b5 k_b2) := by
  refine o_metW (plainFor_of_name pn_12) ?_
  intro p e s m below meth c T0 hx y hml hown hret hk hnm hZ X0 e0
  refine o_ent (ef_19 m b0) ?_
  refine qA X0 hx (hb y d51_0) rfl rfl 1 rfl ?_
  refine qF X0 hx hZ hown (host := "") (Or.inl (w hw 201 rfl)) Via.refl e0 F_b0_cursor (hb y d51_1) 4 rfl fun T1 X1 e1 => ?_
  refine qk X1 hx (hb y d51_4) #[.val (.ref b0), .val (.int 1), .unset] rfl 5 rfl ?_
  refine qA X1 hx (hb y d51_5) rfl rfl 6 rfl ?_
  refine qF X1 hx hZ hown (host := "") (Or.inl (w hw 197 rfl)) Via.refl e1 F_b0_list (hb y d51_6) 9 rfl fun T2 X2 e2 => ?_
  refine qI X2 hx (hb y d51_9) rfl 10 rfl ?_
  refine oC (cI X2 hx hZ hown (w hw 421 rfl) (w hw 318 rfl) (w hw 319 rfl) (w hw 320 rfl) (w hw 321 rfl) (w hw 322 rfl) (w hw 323 rfl) (w hw 137 rfl) (w hw 138 rfl) (w hw 324 rfl) (by decide) (by decide) b1 [(.int 1)] [] 0 (rm_get_110 l Z a0 h0 n0 hw O b1 b2 b3 b4 b5 k_b2 F_b1_elements V_b2) (by decide) (by decide) e2 E_b1 (by rw [hml]; rfl) (lenOf pd_26 rfl) (Nat.le_of_eq rfl) (hb y d51_10) 15 rfl (by decide) (by decide)) rfl rfl fun T4 X4 e4 => ?_
  refine qh X4 hx (hb y d51_15) #[.val (.ref b0), .val (.int 1), .val (.ref b4)] rfl rfl 16 rfl ?_
  refine qA X4 hx (hb y d51_16) rfl rfl 17 rfl ?_
  refine qI X4 hx (hb y d51_17) rfl 18 rfl ?_
  refine qC X4 hx (hb y d51_18) (1 : Int32) rfl 19 rfl ?_
  refine o_iadd X4 hx (hb y d51_19) 20 rfl ?_
  refine o_topI (2 : Int32) (by decide) ?_
  refine qP X4 hx hZ hown (host := "") (Or.inl (w hw 201 rfl)) Via.refl e4 F_b0_cursor E_b0 (Or.inl (w hw 202 rfl)) (w hw 186 rfl) (ty := .int) (by decide) rfl rfl (hb y d51_20) 23 rfl fun T5 X5 W5 => ?_
  have G5 := Fld.same W5 F_b0_cursor
  have N6 := Fr.snoc X5 (Fr.nil n0) g_b0
  have K6 := Keep.wr (Keep.refl h0 [b0]) W5 (Or.inl (by simp))
  refine qA X5 hx (hb y d51_23) rfl rfl 24 rfl ?_
  have f7 := (E_b0.wr W5)
  have f8 := (F_b0_isListIterator.other W5 (Or.inr (sn_54 hw)))
  have f9 := (F_b0_list.other W5 (Or.inr (Ne.symm (sn_50 hw))))
  have f10 := (F_b0_size.other W5 (Or.inr (Ne.symm (sn_51 hw))))
  exact qR X5 hx hk hret rfl rfl (hb y d51_24) rfl (by show Q_rm_next_125 Z h0 n0 b0 b1 b2 b3 b4 b5 k_b2 _ T5.heap _; exact ⟨rfl, N6, K6, f7, G5, f8, f9, f10⟩) (by decide) (by decide)
theorem rm_hasNext_126 (hw : o_HW Z a0) (O : Old Z n0 h0) (b0 : Addr) (F_b0_cursor : Fld Z h0 b0 s2 s41 "I" (.int 2)) (F_b0_size : Fld Z h0 b0 s2 s26 "I" (.int 3)) :
    o_Met l (⟨s2, "hasNext", "()Z"⟩ : MethodName) B19 1 (some .boolean) [] (o_rm 0 0 0 0) Z #[(.ref b0)] h0 (o_R (some (.int 1)) h0) := by
  refine o_met (pN pn_12) ?_
  intro p e s m below meth c T0 hx y hml hown hret hk hnm hZ X0 e0
  refine o_ent (ef_2 m b0) ?_
  refine qA X0 hx (hb y d20_0) rfl rfl 1 rfl ?_
  refine qF X0 hx hZ hown (host := "") (Or.inl (w hw 201 rfl)) Via.refl e0 F_b0_cursor (hb y d20_1) 4 rfl fun T1 X1 e1 => ?_
  refine qA X1 hx (hb y d20_4) rfl rfl 5 rfl ?_
  refine qF X1 hx hZ hown (host := "") (Or.inl (w hw 199 rfl)) Via.refl e1 F_b0_size (hb y d20_5) 8 rfl fun T2 X2 e2 => ?_
  refine qn X2 hx (hb y d20_8) (feq (by decide : ¬ ((2 : Int32) = (3 : Int32)))).1 11 rfl ?_
  refine qC X2 hx (hb y d20_11) (1 : Int32) rfl 12 rfl ?_
  refine qG X2 hx (hb y d20_12) 16 (by decide) (by decide) ?_
  exact o_retZ X2 hx hk hret (hb y d20_16) rfl ⟨rfl, e2, rfl⟩ (by decide) (by decide)
def Q_rm_next_127 (Z : State) (h0 : Heap) (n0 : Nat) (b0 : Addr) (b1 : Addr) (b2 : Addr) (b3 : Addr) (b4 : Addr) (b5 : Addr) (k_b2 : ClassId) (v : Option Value) (h : Heap) (L : List Loc) : Prop := v = some (.ref b5) ∧ Fr n0 L ∧ Keep h0 h [b0] ∧ Exa Z h b0 s2 ∧ Fld Z h b0 s2 s41 "I" (.int 3) ∧ Fld Z h b0 s2 s32 "Z" (.int 0) ∧ Fld Z h b0 s2 s55 s17 (.ref b1) ∧ Fld Z h b0 s2 s26 "I" (.int 3)
theorem rm_next_127 (hw : o_HW Z a0) (O : Old Z n0 h0) (b0 : Addr) (b1 : Addr) (b2 : Addr) (b3 : Addr) (b4 : Addr) (b5 : Addr) (k_b2 : ClassId) (E_b0 : Exa Z h0 b0 s2) (F_b0_cursor : Fld Z h0 b0 s2 s41 "I" (.int 2)) (F_b0_isListIterator : Fld Z h0 b0 s2 s32 "Z" (.int 0)) (F_b0_list : Fld Z h0 b0 s2 s55 s17 (.ref b1)) (F_b0_size : Fld Z h0 b0 s2 s26 "I" (.int 3)) (g_b0 : n0 ≤ b0) (E_b1 : Exa Z h0 b1 s11) (F_b1_elements : Fld Z h0 b1 s11 s54 s10 (.ref b2)) (V_b2 : Arv Z h0 b2 k_b2 (.object s8) (3 : Int32) [(.ref b3), (.ref b4), (.ref b5)] .null) :
    o_MetW l (⟨s2, s62, s68⟩ : MethodName) B51 3 (some (.object s8)) [((0 : Nat), (24 : Nat), (25 : Nat), (30 : Nat))] [] (o_rm 1 0 0 13) Z #[(.ref b0)] h0 (Q_rm_next_127 Z h0 n0 b0 b1 b2 b3 b4 b5 k_b2) := by
  refine o_metW (plainFor_of_name pn_12) ?_
  intro p e s m below meth c T0 hx y hml hown hret hk hnm hZ X0 e0
  refine o_ent (ef_19 m b0) ?_
  refine qA X0 hx (hb y d51_0) rfl rfl 1 rfl ?_
  refine qF X0 hx hZ hown (host := "") (Or.inl (w hw 201 rfl)) Via.refl e0 F_b0_cursor (hb y d51_1) 4 rfl fun T1 X1 e1 => ?_
  refine qk X1 hx (hb y d51_4) #[.val (.ref b0), .val (.int 2), .unset] rfl 5 rfl ?_
  refine qA X1 hx (hb y d51_5) rfl rfl 6 rfl ?_
  refine qF X1 hx hZ hown (host := "") (Or.inl (w hw 197 rfl)) Via.refl e1 F_b0_list (hb y d51_6) 9 rfl fun T2 X2 e2 => ?_
  refine qI X2 hx (hb y d51_9) rfl 10 rfl ?_
  refine oC (cI X2 hx hZ hown (w hw 421 rfl) (w hw 318 rfl) (w hw 319 rfl) (w hw 320 rfl) (w hw 321 rfl) (w hw 322 rfl) (w hw 323 rfl) (w hw 137 rfl) (w hw 138 rfl) (w hw 324 rfl) (by decide) (by decide) b1 [(.int 2)] [] 0 (rm_get_111 l Z a0 h0 n0 hw O b1 b2 b3 b4 b5 k_b2 F_b1_elements V_b2) (by decide) (by decide) e2 E_b1 (by rw [hml]; rfl) (lenOf pd_26 rfl) (Nat.le_of_eq rfl) (hb y d51_10) 15 rfl (by decide) (by decide)) rfl rfl fun T4 X4 e4 => ?_
  refine qh X4 hx (hb y d51_15) #[.val (.ref b0), .val (.int 2), .val (.ref b5)] rfl rfl 16 rfl ?_
  refine qA X4 hx (hb y d51_16) rfl rfl 17 rfl ?_
  refine qI X4 hx (hb y d51_17) rfl 18 rfl ?_
  refine qC X4 hx (hb y d51_18) (1 : Int32) rfl 19 rfl ?_
  refine o_iadd X4 hx (hb y d51_19) 20 rfl ?_
  refine o_topI (3 : Int32) (by decide) ?_
  refine qP X4 hx hZ hown (host := "") (Or.inl (w hw 201 rfl)) Via.refl e4 F_b0_cursor E_b0 (Or.inl (w hw 202 rfl)) (w hw 186 rfl) (ty := .int) (by decide) rfl rfl (hb y d51_20) 23 rfl fun T5 X5 W5 => ?_
  have G5 := Fld.same W5 F_b0_cursor
  have N6 := Fr.snoc X5 (Fr.nil n0) g_b0
  have K6 := Keep.wr (Keep.refl h0 [b0]) W5 (Or.inl (by simp))
  refine qA X5 hx (hb y d51_23) rfl rfl 24 rfl ?_
  have f7 := (E_b0.wr W5)
  have f8 := (F_b0_isListIterator.other W5 (Or.inr (sn_54 hw)))
  have f9 := (F_b0_list.other W5 (Or.inr (Ne.symm (sn_50 hw))))
  have f10 := (F_b0_size.other W5 (Or.inr (Ne.symm (sn_51 hw))))
  exact qR X5 hx hk hret rfl rfl (hb y d51_24) rfl (by show Q_rm_next_127 Z h0 n0 b0 b1 b2 b3 b4 b5 k_b2 _ T5.heap _; exact ⟨rfl, N6, K6, f7, G5, f8, f9, f10⟩) (by decide) (by decide)
theorem rm_hasNext_128 (hw : o_HW Z a0) (O : Old Z n0 h0) (b0 : Addr) (F_b0_cursor : Fld Z h0 b0 s2 s41 "I" (.int 3)) (F_b0_size : Fld Z h0 b0 s2 s26 "I" (.int 3)) :
    o_Met l (⟨s2, "hasNext", "()Z"⟩ : MethodName) B19 1 (some .boolean) [] (o_rm 0 0 0 0) Z #[(.ref b0)] h0 (o_R (some (.int 0)) h0) := by
  refine o_met (pN pn_12) ?_
  intro p e s m below meth c T0 hx y hml hown hret hk hnm hZ X0 e0
  refine o_ent (ef_2 m b0) ?_
  refine qA X0 hx (hb y d20_0) rfl rfl 1 rfl ?_
  refine qF X0 hx hZ hown (host := "") (Or.inl (w hw 201 rfl)) Via.refl e0 F_b0_cursor (hb y d20_1) 4 rfl fun T1 X1 e1 => ?_
  refine qA X1 hx (hb y d20_4) rfl rfl 5 rfl ?_
  refine qF X1 hx hZ hown (host := "") (Or.inl (w hw 199 rfl)) Via.refl e1 F_b0_size (hb y d20_5) 8 rfl fun T2 X2 e2 => ?_
  refine o_icmpY X2 hx (hb y d20_8) (teq (by decide : (3 : Int32) = (3 : Int32))).1 15 (by decide) (by decide) ?_
  refine qC X2 hx (hb y d20_15) (0 : Int32) rfl 16 rfl ?_
  exact o_retZ X2 hx hk hret (hb y d20_16) rfl ⟨rfl, e2, rfl⟩ (by decide) (by decide)
def Q_rm__init__119 (Z : State) (h0 : Heap) (n0 : Nat) (b0 : Addr) (b1 : Addr) (b2 : Addr) (b3 : Addr) (b4 : Addr) (b5 : Addr) (b6 : Addr) (k_b3 : ClassId) (v : Option Value) (h : Heap) (L : List Loc) : Prop := ∃ (y0 : Addr) (yk0 : ClassId), v = none ∧ Fr n0 L ∧ Keep h0 h [b0] ∧ h0.size ≤ y0 ∧ Exa Z h b0 s0 ∧ Fld Z h b0 s0 s35 s12 (.ref y0) ∧ Arv Z h y0 yk0 (.object s1) (69 : Int32) [.null, (.ref b4), (.ref b5), (.ref b6)] .null ∧ Exa Z h y0 s12 ∧ Ovr Z yk0 s1
theorem rm__init__119 (hw : o_HW Z a0) (H : o_C Z Z.heap w_NW w_DC w_EL w_EA w_EM w_MO w_cacheI c_cacheI k_DC k_EA z_CS) (O : Old Z n0 h0) (b0 : Addr) (b1 : Addr) (b2 : Addr) (b3 : Addr) (b4 : Addr) (b5 : Addr) (b6 : Addr) (k_b3 : ClassId) (E_b0 : Exa Z h0 b0 s0) (F_b0_access : Fld Z h0 b0 s0 s67 s14 .null) (F_b0_declaration : Fld Z h0 b0 s0 s49 s18 .null) (F_b0_image : Fld Z h0 b0 s0 "image" s22 .null) (F_b0_imageSegments : Fld Z h0 b0 s0 s48 "I" (.int 0)) (F_b0_lastSegment : Fld Z h0 b0 s0 s53 "I" (.int 0)) (F_b0_pointers : Fld Z h0 b0 s0 s60 "[J" .null) (F_b0_registerWords : Fld Z h0 b0 s0 s47 "[J" .null) (F_b0_segments : Fld Z h0 b0 s0 s35 s12 .null) (F_b0_stacks : Fld Z h0 b0 s0 s66 "[I" .null) (F_b0_x : Fld Z h0 b0 s0 "x" "[I" .null) (g_b0 : n0 ≤ b0) (E_b1 : Exa Z h0 b1 s3) (F_b1_segments : Fld Z h0 b1 s3 s35 s17 (.ref b2)) (E_b2 : Exa Z h0 b2 s11) (F_b2_elements : Fld Z h0 b2 s11 s54 s10 (.ref b3)) (V_b3 : Arv Z h0 b3 k_b3 (.object s8) (3 : Int32) [(.ref b4), (.ref b5), (.ref b6)] .null) (A_b3 : Exa Z h0 b3 s10) (E_b4 : Exa Z h0 b4 s1) (E_b5 : Exa Z h0 b5 s1) (E_b6 : Exa Z h0 b6 s1) (ne_b0_b1 : b0 ≠ b1) (ne_b0_b2 : b0 ≠ b2) (ne_b0_b3 : b0 ≠ b3) :
    o_Met l (⟨s0, s50, s31⟩ : MethodName) B20 5 none [] (o_rm 3 7 226 39) Z #[(.ref b0), .null, (.ref b1)] h0 (Q_rm__init__119 Z h0 n0 b0 b1 b2 b3 b4 b5 b6 k_b3) := by
  refine o_met (pN pn_14) ?_
  intro p e s m below meth c T0 hx y hml hown hret hk hnm hZ X0 e0
  obtain ⟨-, S_PW, -, -, -, -, -, -, -, -, -, -, -, -, -, -, -, -, -⟩ := id H
  refine o_ent (ef_7 m b0 b1) ?_
  refine qA X0 hx (hb y d16_0) rfl rfl 1 rfl ?_
  refine o_initO X0 hx hZ hown (w hw 148 rfl) (w hw 24 rfl) (w hw 25 rfl) e0 (by rw [hml]; rfl) (hb y d16_1) (by decide) 0 (Nat.le_of_eq rfl) (by decide) 4 rfl fun T1 X1 e1 => ?_
  refine qA X1 hx (hb y d16_4) rfl rfl 5 rfl ?_
  refine o_bipush X1 hx (hb y d16_5) (64 : Int32) rfl 7 rfl ?_
  refine o_newP X1 hx hZ (w hw 149 rfl) e1 (hb y d16_7) (by decide) 64 (by decide) (by decide) (by decide) (by decide) "[I" (by decide) 9 rfl fun T2 a2 c2 g2 X2 E2 V2 A2 => ?_
  have O3 := O.ext E2
  have K3 := Keep.ext (Keep.refl h0 [b0]) E2
  have V2 : Arv Z T2.heap a2 c2 .int (64 : Int32) [] (.int 0) := V2
  have f5 := (F_b0_stacks.ext E2)
  have f6 := (E_b0.ext E2)
  refine qP X2 hx hZ hown (host := "") (Or.inl (w hw 150 rfl)) Via.refl rfl f5 f6 (Or.inr ⟨(w hw 151 rfl), rfl, hnm⟩) (w hw 143 rfl) (ty := (.array .int)) (by decide) rfl rfl (hb y d16_9) 12 rfl fun T4 X4 W4 => ?_
  have O7 := O3.wr W4 g_b0
  have N7 := Fr.snoc X4 (Fr.nil n0) g_b0
  have K7 := Keep.wr K3 W4 (Or.inl (by simp))
  refine qA X4 hx (hb y d16_12) rfl rfl 13 rfl ?_
  refine qC X4 hx (hb y d16_13) (4 : Int32) rfl 14 rfl ?_
  refine o_newP X4 hx hZ (w hw 149 rfl) rfl (hb y d16_14) (by decide) 4 (by decide) (by decide) (by decide) (by decide) "[I" (by decide) 16 rfl fun T8 a8 c8 g8 X8 E8 V8 A8 => ?_
  have O9 := O7.ext E8
  have K9 := Keep.ext K7 E8
  have V8 : Arv Z T8.heap a8 c8 .int (4 : Int32) [] (.int 0) := V8
  have f11 := (((F_b0_x.ext E2).other W4 (Or.inr (sn_21 hw))).ext E8)
  have f12 := ((f6.wr W4).ext E8)
  refine qP X8 hx hZ hown (host := "") (Or.inl (w hw 152 rfl)) Via.refl rfl f11 f12 (Or.inr ⟨(w hw 153 rfl), rfl, hnm⟩) (w hw 143 rfl) (ty := (.array .int)) (by decide) rfl rfl (hb y d16_16) 19 rfl fun T10 X10 W10 => ?_
  have O13 := O9.wr W10 g_b0
  have N13 := Fr.snoc X10 N7 g_b0
  have K13 := Keep.wr K9 W10 (Or.inl (by simp))
  refine qA X10 hx (hb y d16_19) rfl rfl 20 rfl ?_
  refine o_getS X10 hx hZ hown (host := "") (Or.inl (w hw 154 rfl)) Via.refl rfl (S_PW.ext O13.2) (hb y d16_20) 23 rfl fun T14 X14 e14 => ?_
  refine o_newP X14 hx hZ (w hw 156 rfl) e14 (hb y d16_23) (by decide) 8 (by decide) (by decide) (by decide) (by decide) "[J" (by decide) 25 rfl fun T15 a15 c15 g15 X15 E15 V15 A15 => ?_
  have O16 := O13.ext E15
  have K16 := Keep.ext K13 E15
  have V15 : Arv Z T15.heap a15 c15 .long (8 : Int32) [] (.long (0 : Int64)) := V15
  have f18 := (((((F_b0_pointers.ext E2).other W4 (Or.inr (sn_22 hw))).ext E8).other W10 (Or.inr (sn_23 hw))).ext E15)
  have f19 := ((f12.wr W10).ext E15)
  refine qP X15 hx hZ hown (host := "") (Or.inl (w hw 157 rfl)) Via.refl rfl f18 f19 (Or.inr ⟨(w hw 158 rfl), rfl, hnm⟩) (w hw 143 rfl) (ty := (.array .long)) (by decide) rfl rfl (hb y d16_25) 28 rfl fun T17 X17 W17 => ?_
  have O20 := O16.wr W17 g_b0
  have N20 := Fr.snoc X17 N13 g_b0
  have K20 := Keep.wr K16 W17 (Or.inl (by simp))
  refine qA X17 hx (hb y d16_28) rfl rfl 29 rfl ?_
  refine o_bipush X17 hx (hb y d16_29) (8 : Int32) rfl 31 rfl ?_
  refine o_newP X17 hx hZ (w hw 156 rfl) rfl (hb y d16_31) (by decide) 8 (by decide) (by decide) (by decide) (by decide) "[J" (by decide) 33 rfl fun T21 a21 c21 g21 X21 E21 V21 A21 => ?_
  have O22 := O20.ext E21
  have K22 := Keep.ext K20 E21
  have V21 : Arv Z T21.heap a21 c21 .long (8 : Int32) [] (.long (0 : Int64)) := V21
  have f24 := (((((((F_b0_registerWords.ext E2).other W4 (Or.inr (sn_24 hw))).ext E8).other W10 (Or.inr (sn_25 hw))).ext E15).other W17 (Or.inr (sn_26 hw))).ext E21)
  have f25 := ((f19.wr W17).ext E21)
  refine qP X21 hx hZ hown (host := "") (Or.inl (w hw 159 rfl)) Via.refl rfl f24 f25 (Or.inr ⟨(w hw 160 rfl), rfl, hnm⟩) (w hw 143 rfl) (ty := (.array .long)) (by decide) rfl rfl (hb y d16_33) 36 rfl fun T23 X23 W23 => ?_
  have O26 := O22.wr W23 g_b0
  have N26 := Fr.snoc X23 N20 g_b0
  have K26 := Keep.wr K22 W23 (Or.inl (by simp))
  refine qA X23 hx (hb y d16_36) rfl rfl 37 rfl ?_
  refine qA X23 hx (hb y d16_37) rfl rfl 38 rfl ?_
  have f28 := ((((((((F_b0_declaration.ext E2).other W4 (Or.inr (sn_27 hw))).ext E8).other W10 (Or.inr (sn_28 hw))).ext E15).other W17 (Or.inr (sn_29 hw))).ext E21).other W23 (Or.inr (sn_30 hw)))
  have f29 := (f25.wr W23)
  refine qP X23 hx hZ hown (host := "") (Or.inl (w hw 161 rfl)) Via.refl rfl f28 f29 (Or.inr ⟨(w hw 162 rfl), rfl, hnm⟩) (w hw 143 rfl) (ty := (.object s19)) (by decide) rfl rfl (hb y d16_38) 41 rfl fun T27 X27 W27 => ?_
  have O30 := O26.wr W27 g_b0
  have N30 := Fr.snoc X27 N26 g_b0
  have K30 := Keep.wr K26 W27 (Or.inl (by simp))
  refine qA X27 hx (hb y d16_41) rfl rfl 42 rfl ?_
  refine qA X27 hx (hb y d16_42) rfl rfl 43 rfl ?_
  have f32 := (((((((((F_b0_image.ext E2).other W4 (Or.inr (sn_31 hw))).ext E8).other W10 (Or.inr (sn_32 hw))).ext E15).other W17 (Or.inr (sn_33 hw))).ext E21).other W23 (Or.inr (sn_34 hw))).other W27 (Or.inr (sn_35 hw)))
  have f33 := (f29.wr W27)
  refine qP X27 hx hZ hown (host := "") (Or.inl (w hw 163 rfl)) Via.refl rfl f32 f33 (Or.inr ⟨(w hw 164 rfl), rfl, hnm⟩) (w hw 143 rfl) (ty := (.object s3)) (by decide) rfl rfl (hb y d16_43) 46 rfl fun T31 X31 W31 => ?_
  have O34 := O30.wr W31 g_b0
  have N34 := Fr.snoc X31 N30 g_b0
  have K34 := Keep.wr K30 W31 (Or.inl (by simp))
  refine qA X31 hx (hb y d16_46) rfl rfl 47 rfl ?_
  refine qA X31 hx (hb y d16_47) rfl rfl 48 rfl ?_
  have f36 := ((((((((((E_b1.ext E2).wr W4).ext E8).wr W10).ext E15).wr W17).ext E21).wr W23).wr W27).wr W31)
  have f37 := (o_fo (o_fo (o_fo ((o_fo ((o_fo ((o_fo (F_b1_segments.ext E2) W4 ne_b0_b1).ext E8) W10 ne_b0_b1).ext E15) W17 ne_b0_b1).ext E21) W23 ne_b0_b1) W27 ne_b0_b1) W31 ne_b0_b1)
  refine qV X31 hx hZ hown (w hw 165 rfl) (w hw 166 rfl) (notFace_of_selects (args := #[]) (mvT hZ (w hw 168 rfl))) (w hw 168 rfl) (w hw 167 rfl) (w hw 102 rfl) (w hw 169 rfl) (by decide) b1 [] [(.ref b0)] 1 (rm_segments_60 l Z a0 T31.heap n0 hw O34 b1 b2 f37) (by decide) (by decide) rfl rfl rfl f36 (by rw [hml]; rfl) (lenOf pd_6 rfl) (Nat.le_of_eq rfl) (hb y d16_48) 51 rfl rfl (by decide) (by decide) fun T38 X38 e38 => ?_
  have f40 := ((((((((((E_b2.ext E2).wr W4).ext E8).wr W10).ext E15).wr W17).ext E21).wr W23).wr W27).wr W31)
  have f41 := (o_fo (o_fo (o_fo ((o_fo ((o_fo ((o_fo (F_b2_elements.ext E2) W4 ne_b0_b2).ext E8) W10 ne_b0_b2).ext E15) W17 ne_b0_b2).ext E21) W23 ne_b0_b2) W27 ne_b0_b2) W31 ne_b0_b2)
  have f42 := (o_vo (o_vo (o_vo ((o_vo ((o_vo ((o_vo (V_b3.ext E2) W4 ne_b0_b3).ext E8) W10 ne_b0_b3).ext E15) W17 ne_b0_b3).ext E21) W23 ne_b0_b3) W27 ne_b0_b3) W31 ne_b0_b3)
  refine oC (cI X38 hx hZ hown (w hw 170 rfl) (w hw 131 rfl) (w hw 132 rfl) (w hw 133 rfl) (w hw 134 rfl) (w hw 135 rfl) (w hw 136 rfl) (w hw 137 rfl) (w hw 138 rfl) (w hw 139 rfl) (by decide) (by decide) b2 [] [(.ref b0)] 1 (rm_size_108 l Z a0 T31.heap n0 hw O34 b2 b3 b4 b5 b6 k_b3 f41 f42) (by decide) (by decide) e38 f40 (by rw [hml]; rfl) (lenOf pd_9 rfl) (Nat.le_of_eq rfl) (hb y d16_51) 56 rfl (by decide) (by decide)) rfl rfl fun T43 X43 e43 => ?_
  have f45 := ((((((((((F_b0_imageSegments.ext E2).other W4 (Or.inr (sn_36 hw))).ext E8).other W10 (Or.inr (sn_37 hw))).ext E15).other W17 (Or.inr (sn_38 hw))).ext E21).other W23 (Or.inr (sn_39 hw))).other W27 (Or.inr (sn_40 hw))).other W31 (Or.inr (sn_41 hw)))
  have f46 := (f33.wr W31)
  refine qP X43 hx hZ hown (host := "") (Or.inl (w hw 171 rfl)) Via.refl e43 f45 f46 (Or.inr ⟨(w hw 172 rfl), rfl, hnm⟩) (w hw 143 rfl) (ty := .int) (by decide) rfl rfl (hb y d16_56) 59 rfl fun T44 X44 W44 => ?_
  have G44 := Fld.same W44 f45
  have O47 := O34.wr W44 g_b0
  have N47 := Fr.snoc X44 N34 g_b0
  have K47 := Keep.wr K34 W44 (Or.inl (by simp))
  refine qA X44 hx (hb y d16_59) rfl rfl 60 rfl ?_
  refine qA X44 hx (hb y d16_60) rfl rfl 61 rfl ?_
  refine qF X44 hx hZ hown (host := "") (Or.inl (w hw 171 rfl)) Via.refl rfl G44 (hb y d16_61) 64 rfl fun T48 X48 e48 => ?_
  refine qC X48 hx (hb y d16_64) (1 : Int32) rfl 65 rfl ?_
  refine o_iadd X48 hx (hb y d16_65) 66 rfl ?_
  refine o_topI (4 : Int32) (by decide) ?_
  refine o_bipush X48 hx (hb y d16_66) (65 : Int32) rfl 68 rfl ?_
  refine o_iadd X48 hx (hb y d16_68) 69 rfl ?_
  refine o_topI (69 : Int32) (by decide) ?_
  refine o_newR X48 hx hZ hown (w hw 173 rfl) (w hw 98 rfl) e48 (hb y d16_69) (by decide) 69 (by decide) (by decide) (by decide) (by decide) s12 (by decide) 72 rfl fun T49 a49 c49 g49 X49 E49 V49 A49 P49 => ?_
  have g_a49 : n0 ≤ a49 := Nat.le_trans (o_osz O47) (Nat.le_of_eq g49)
  have z_a49 : h0.size ≤ a49 := Nat.le_trans (K47).1 (Nat.le_of_eq g49)
  have O50 := O47.ext E49
  have K50 := Keep.ext K47 E49
  have V49 : Arv Z T49.heap a49 c49 (.object s1) (69 : Int32) [] .null := V49
  have f52 := ((((((((((((F_b0_segments.ext E2).other W4 (Or.inr (sn_42 hw))).ext E8).other W10 (Or.inr (sn_43 hw))).ext E15).other W17 (Or.inr (sn_44 hw))).ext E21).other W23 (Or.inr (sn_45 hw))).other W27 (Or.inr (sn_46 hw))).other W31 (Or.inr (sn_47 hw))).other W44 (Or.inr (sn_48 hw))).ext E49)
  have f53 := ((f46.wr W44).ext E49)
  refine qP X49 hx hZ hown (host := "") (Or.inl (w hw 174 rfl)) Via.refl rfl f52 f53 (Or.inr ⟨(w hw 175 rfl), rfl, hnm⟩) (w hw 143 rfl) (ty := (.array (.object s1))) (by decide) rfl rfl (hb y d16_72) 75 rfl fun T51 X51 W51 => ?_
  have G51 := Fld.same W51 f52
  have O54 := O50.wr W51 g_b0
  have N54 := Fr.snoc X51 N47 g_b0
  have K54 := Keep.wr K50 W51 (Or.inl (by simp))
  refine qA X51 hx (hb y d16_75) rfl rfl 76 rfl ?_
  have f56 := (((f36.wr W44).ext E49).wr W51)
  have f57 := (o_fo ((o_fo f37 W44 ne_b0_b1).ext E49) W51 ne_b0_b1)
  refine qV X51 hx hZ hown (w hw 165 rfl) (w hw 166 rfl) (notFace_of_selects (args := #[]) (mvT hZ (w hw 168 rfl))) (w hw 168 rfl) (w hw 167 rfl) (w hw 102 rfl) (w hw 169 rfl) (by decide) b1 [] [] 0 (rm_segments_60 l Z a0 T51.heap n0 hw O54 b1 b2 f57) (by decide) (by decide) rfl rfl rfl f56 (by rw [hml]; rfl) (lenOf pd_6 rfl) (Nat.le_of_eq rfl) (hb y d16_76) 79 rfl rfl (by decide) (by decide) fun T58 X58 e58 => ?_
  have f60 := (((f40.wr W44).ext E49).wr W51)
  have f61 := (o_fo ((o_fo f41 W44 ne_b0_b2).ext E49) W51 ne_b0_b2)
  have f62 := (o_vo ((o_vo f42 W44 ne_b0_b3).ext E49) W51 ne_b0_b3)
  refine kI X58 hx hZ hown (w hw 176 rfl) (w hw 177 rfl) (w hw 178 rfl) (w hw 179 rfl) (w hw 180 rfl) (w hw 181 rfl) (w hw 182 rfl) (w hw 137 rfl) (w hw 183 rfl) (w hw 184 rfl) (by decide) (by decide) b2 [] [] 0 (rm_iterator_120 l Z a0 T51.heap n0 hw O54 b2 b3 b4 b5 b6 k_b3 f60 f61 f62) (by decide) (by decide) e58 f60 (by rw [hml]; rfl) (lenOf pd_12 rfl) (Nat.le_of_eq rfl) (hb y d16_79) 84 rfl (by decide) (by decide) fun v59 T59 L59 X59 hQ59 => ?_
  obtain ⟨q59_0, rfl, Nq59, Kq59, le_q59_0, p59_0, p59_1, p59_2, p59_3, p59_4⟩ := hQ59
  have g_q59_0 : n0 ≤ q59_0 := Nat.le_trans (o_osz O54) le_q59_0
  have z_q59_0 : h0.size ≤ q59_0 := Nat.le_trans (K54).1 le_q59_0
  have O63 := O54.keep Kq59 all0
  have N63 := Fr.app N54 Nq59
  have K63 := Keep.trans K54 Kq59 all0
  refine o_nR ?_
  refine qh X59 hx (hb y d16_84) #[.val (.ref b0), .val .null, .val (.ref b1), .val (.ref q59_0), .unset] rfl rfl 85 rfl ?_
  refine qA X59 hx (hb y d16_85) rfl rfl 86 rfl ?_
  refine oC (cI X59 hx hZ hown (w hw 205 rfl) (w hw 206 rfl) (w hw 207 rfl) (w hw 208 rfl) (w hw 209 rfl) (w hw 210 rfl) (w hw 211 rfl) (w hw 212 rfl) (w hw 187 rfl) (w hw 213 rfl) (by decide) (by decide) q59_0 [] [] 0 (rm_hasNext_122 l Z a0 T59.heap n0 hw O63 q59_0 p59_1 p59_4) (by decide) (by decide) rfl p59_0 (by rw [hml]; rfl) (lenOf pd_5 rfl) (Nat.le_of_eq rfl) (hb y d16_86) 91 rfl (by decide) (by decide)) rfl rfl fun T65 X65 e65 => ?_
  refine qN X65 hx (hb y d16_91) ((if0 _ _).trans (feq (by decide : ¬ ((1 : Int32) = (0 : Int32)))).1) 94 rfl ?_
  refine qA X65 hx (hb y d16_94) rfl rfl 95 rfl ?_
  have f67 := (f60.keep Kq59)
  have f68 := (f61.keep Kq59 nin0)
  have f69 := (f62.keep Kq59 nin0)
  refine o_kIW X65 hx hZ hown (w hw 413 rfl) (w hw 414 rfl) (w hw 415 rfl) (w hw 416 rfl) (w hw 417 rfl) (w hw 418 rfl) (w hw 419 rfl) (w hw 212 rfl) (w hw 187 rfl) (w hw 420 rfl) (by decide) (by decide) q59_0 [] [] 0 (rm_next_123 l Z a0 T59.heap n0 hw O63 q59_0 b2 b3 b4 b5 b6 k_b3 p59_0 p59_1 p59_2 p59_3 p59_4 g_q59_0 f67 f68 f69) (by decide) (by decide) e65 p59_0 (by rw [hml]; rfl) (lenOf pd_37 rfl) (Nat.le_of_eq rfl) (hb y d16_95) 100 rfl (by decide) (by decide) fun v66 T66 L66 X66 hQ66 => ?_
  obtain ⟨rfl, Nq66, Kq66, p66_0, p66_1, p66_2, p66_3, p66_4⟩ := hQ66
  have O70 := O63.keep Kq66 (allS g_q59_0 all0)
  have N70 := Fr.app N63 Nq66
  have K70 := Keep.trans K63 Kq66 (allS (Or.inr z_q59_0) all0)
  refine o_nR ?_
  have f71 := (((((((((((((((E_b4.ext E2).wr W4).ext E8).wr W10).ext E15).wr W17).ext E21).wr W23).wr W27).wr W31).wr W44).ext E49).wr W51).keep Kq59).keep Kq66)
  refine o_cast X66 hx hZ hown (w hw 173 rfl) rfl (Ins.self f71) (hb y d16_100) 103 rfl fun T72 X72 e72 => ?_
  refine qt X72 hx (hb y d16_103) #[.val (.ref b0), .val .null, .val (.ref b1), .val (.ref q59_0), .val (.ref b4)] rfl rfl 105 rfl ?_
  refine qA X72 hx (hb y d16_105) rfl rfl 106 rfl ?_
  have l74 := (Nat.le_trans (Nat.le_trans (Nat.le_trans (Nat.le_trans (Nat.le_trans (Nat.le_trans (Nat.le_trans (Nat.le_trans (Nat.le_trans (Nat.le_trans (Nat.le_trans (Nat.le_trans E2.1 (Nat.le_of_eq (Wr.size W4).symm)) E8.1) (Nat.le_of_eq (Wr.size W10).symm)) E15.1) (Nat.le_of_eq (Wr.size W17).symm)) E21.1) (Nat.le_of_eq (Wr.size W23).symm)) (Nat.le_of_eq (Wr.size W27).symm)) (Nat.le_of_eq (Wr.size W31).symm)) (Nat.le_of_eq (Wr.size W44).symm)) E49.1) (Nat.le_of_eq (Wr.size W51).symm))
  have ne73 := o_nl E_b0.lt l74 le_q59_0
  have f75 := ((G51.keep Kq59 nin0).keep Kq66 (ninS ne73 nin0))
  refine qF X72 hx hZ hown (host := "") (Or.inl (w hw 174 rfl)) Via.refl e72 f75 (hb y d16_106) 109 rfl fun T76 X76 e76 => ?_
  refine qA X76 hx (hb y d16_109) rfl rfl 110 rfl ?_
  refine qD X76 hx (hb y d16_110) rfl 111 rfl ?_
  have f77 := (((((((((((((((F_b0_lastSegment.ext E2).other W4 (Or.inr (sn_77 hw))).ext E8).other W10 (Or.inr (sn_78 hw))).ext E15).other W17 (Or.inr (sn_79 hw))).ext E21).other W23 (Or.inr (sn_80 hw))).other W27 (Or.inr (sn_81 hw))).other W31 (Or.inr (sn_82 hw))).other W44 (Or.inr (sn_83 hw))).ext E49).other W51 (Or.inr (sn_84 hw))).keep Kq59 nin0).keep Kq66 (ninS ne73 nin0))
  refine qF X76 hx hZ hown (host := "") (Or.inl (w hw 422 rfl)) Via.refl e76 f77 (hb y d16_111) 114 rfl fun T78 X78 e78 => ?_
  refine qC X78 hx (hb y d16_114) (1 : Int32) rfl 115 rfl ?_
  refine o_iadd X78 hx (hb y d16_115) 116 rfl ?_
  refine o_topI (1 : Int32) (by decide) ?_
  refine o_dup_x1 X78 hx (hb y d16_116) rfl rfl 117 rfl ?_
  have f80 := (((f53.wr W51).keep Kq59).keep Kq66)
  refine qP X78 hx hZ hown (host := "") (Or.inl (w hw 422 rfl)) Via.refl e78 f77 f80 (Or.inl (w hw 423 rfl)) (w hw 143 rfl) (ty := .int) (by decide) rfl rfl (hb y d16_117) 120 rfl fun T79 X79 W79 => ?_
  have G79 := Fld.same W79 f77
  have O81 := O70.wr W79 g_b0
  have N81 := Fr.snoc X79 N70 g_b0
  have K81 := Keep.wr K70 W79 (Or.inl (by simp))
  refine qa X79 hx (hb y d16_120) rfl rfl 122 rfl ?_
  have l84 := (Nat.le_trans (Nat.le_trans (Nat.le_trans (Nat.le_trans (Nat.le_trans (Nat.le_trans (Nat.le_trans (Nat.le_trans (Nat.le_trans (Nat.le_trans E2.1 (Nat.le_of_eq (Wr.size W4).symm)) E8.1) (Nat.le_of_eq (Wr.size W10).symm)) E15.1) (Nat.le_of_eq (Wr.size W17).symm)) E21.1) (Nat.le_of_eq (Wr.size W23).symm)) (Nat.le_of_eq (Wr.size W27).symm)) (Nat.le_of_eq (Wr.size W31).symm)) (Nat.le_of_eq (Wr.size W44).symm))
  have ne83 := o_nl E_b0.lt l84 (Nat.le_of_eq g49)
  have ne85 := o_nl A49.lt (Nat.le_of_eq (Wr.size W51).symm) le_q59_0
  have f86 := (o_vo (((o_vo V49 W51 ne83).keep Kq59 nin0).keep Kq66 (ninS ne85 nin0)) W79 ne83)
  have V87 : Arv Z T79.heap a49 c49 (.object s1) (69 : Int32) [.null, .null] .null := f86.pad (pad_rep [] .null 2)
  have f89 := (f71.wr W79)
  refine o_aastore X79 hx hZ rfl V87 rfl rfl (fun _ u q => Sto.ofV u q P49 (Ins.self f89)) 1 (by decide) (by decide) (by simp) [.null, (.ref b4)] rfl (hb y d16_122) 123 rfl fun T88 X88 W88 V88 => ?_
  have O90 := O81.wr W88 g_a49
  have N90 := Fr.snoc X88 N81 g_a49
  have K90 := Keep.wr K81 W88 (Or.inr z_a49)
  refine qG X88 hx (hb y d16_123) 85 (by decide) (by decide) ?_
  refine qA X88 hx (hb y d16_85) rfl rfl 86 rfl ?_
  have f92 := ((p66_0.wr W79).wr W88)
  have f93 := (o_fo (o_fo p66_1 W79 ne73) W88 ne85)
  have f94 := (o_fo (o_fo p66_4 W79 ne73) W88 ne85)
  refine oC (cI X88 hx hZ hown (w hw 205 rfl) (w hw 206 rfl) (w hw 207 rfl) (w hw 208 rfl) (w hw 209 rfl) (w hw 210 rfl) (w hw 211 rfl) (w hw 212 rfl) (w hw 187 rfl) (w hw 213 rfl) (by decide) (by decide) q59_0 [] [] 0 (rm_hasNext_124 l Z a0 T88.heap n0 hw O90 q59_0 f93 f94) (by decide) (by decide) rfl f92 (by rw [hml]; rfl) (lenOf pd_5 rfl) (Nat.le_of_eq rfl) (hb y d16_86) 91 rfl (by decide) (by decide)) rfl rfl fun T95 X95 e95 => ?_
  refine qN X95 hx (hb y d16_91) ((if0 _ _).trans (feq (by decide : ¬ ((1 : Int32) = (0 : Int32)))).1) 94 rfl ?_
  refine qA X95 hx (hb y d16_94) rfl rfl 95 rfl ?_
  have f97 := (o_fo (o_fo p66_2 W79 ne73) W88 ne85)
  have f98 := (o_fo (o_fo p66_3 W79 ne73) W88 ne85)
  have f99 := (((f67.keep Kq66).wr W79).wr W88)
  have ne100 := o_nl E_b2.lt l74 le_q59_0
  have ne101 := o_nl E_b2.lt l84 (Nat.le_of_eq g49)
  have f102 := ((o_fo (f68.keep Kq66 (ninS ne100 nin0)) W79 ne_b0_b2).other W88 (Or.inl ne101))
  have ne103 := o_nl A_b3.lt l74 le_q59_0
  have ne104 := o_nl A_b3.lt l84 (Nat.le_of_eq g49)
  have f105 := ((o_vo (f69.keep Kq66 (ninS ne103 nin0)) W79 ne_b0_b3).other W88 ne104)
  refine o_kIW X95 hx hZ hown (w hw 413 rfl) (w hw 414 rfl) (w hw 415 rfl) (w hw 416 rfl) (w hw 417 rfl) (w hw 418 rfl) (w hw 419 rfl) (w hw 212 rfl) (w hw 187 rfl) (w hw 420 rfl) (by decide) (by decide) q59_0 [] [] 0 (rm_next_125 l Z a0 T88.heap n0 hw O90 q59_0 b2 b3 b4 b5 b6 k_b3 f92 f93 f97 f98 f94 g_q59_0 f99 f102 f105) (by decide) (by decide) e95 f92 (by rw [hml]; rfl) (lenOf pd_37 rfl) (Nat.le_of_eq rfl) (hb y d16_95) 100 rfl (by decide) (by decide) fun v96 T96 L96 X96 hQ96 => ?_
  obtain ⟨rfl, Nq96, Kq96, p96_0, p96_1, p96_2, p96_3, p96_4⟩ := hQ96
  have O106 := O90.keep Kq96 (allS g_q59_0 all0)
  have N106 := Fr.app N90 Nq96
  have K106 := Keep.trans K90 Kq96 (allS (Or.inr z_q59_0) all0)
  refine o_nR ?_
  have f107 := ((((((((((((((((((E_b5.ext E2).wr W4).ext E8).wr W10).ext E15).wr W17).ext E21).wr W23).wr W27).wr W31).wr W44).ext E49).wr W51).keep Kq59).keep Kq66).wr W79).wr W88).keep Kq96)
  refine o_cast X96 hx hZ hown (w hw 173 rfl) rfl (Ins.self f107) (hb y d16_100) 103 rfl fun T108 X108 e108 => ?_
  refine qt X108 hx (hb y d16_103) #[.val (.ref b0), .val .null, .val (.ref b1), .val (.ref q59_0), .val (.ref b5)] rfl rfl 105 rfl ?_
  refine qA X108 hx (hb y d16_105) rfl rfl 106 rfl ?_
  have f109 := (((f75.other W79 (Or.inr (Ne.symm (sn_84 hw)))).other W88 (Or.inl ne83)).keep Kq96 (ninS ne73 nin0))
  refine qF X108 hx hZ hown (host := "") (Or.inl (w hw 174 rfl)) Via.refl e108 f109 (hb y d16_106) 109 rfl fun T110 X110 e110 => ?_
  refine qA X110 hx (hb y d16_109) rfl rfl 110 rfl ?_
  refine qD X110 hx (hb y d16_110) rfl 111 rfl ?_
  have f111 := ((G79.other W88 (Or.inl ne83)).keep Kq96 (ninS ne73 nin0))
  refine qF X110 hx hZ hown (host := "") (Or.inl (w hw 422 rfl)) Via.refl e110 f111 (hb y d16_111) 114 rfl fun T112 X112 e112 => ?_
  refine qC X112 hx (hb y d16_114) (1 : Int32) rfl 115 rfl ?_
  refine o_iadd X112 hx (hb y d16_115) 116 rfl ?_
  refine o_topI (2 : Int32) (by decide) ?_
  refine o_dup_x1 X112 hx (hb y d16_116) rfl rfl 117 rfl ?_
  have f114 := (((f80.wr W79).wr W88).keep Kq96)
  refine qP X112 hx hZ hown (host := "") (Or.inl (w hw 422 rfl)) Via.refl e112 f111 f114 (Or.inl (w hw 423 rfl)) (w hw 143 rfl) (ty := .int) (by decide) rfl rfl (hb y d16_117) 120 rfl fun T113 X113 W113 => ?_
  have G113 := Fld.same W113 f111
  have O115 := O106.wr W113 g_b0
  have N115 := Fr.snoc X113 N106 g_b0
  have K115 := Keep.wr K106 W113 (Or.inl (by simp))
  refine qa X113 hx (hb y d16_120) rfl rfl 122 rfl ?_
  have f116 := (o_vo (V88.keep Kq96 (ninS ne85 nin0)) W113 ne83)
  have V117 : Arv Z T113.heap a49 c49 (.object s1) (69 : Int32) [.null, (.ref b4), .null] .null := f116.pad (pad_rep [.null, (.ref b4)] .null 1)
  have f119 := (f107.wr W113)
  refine o_aastore X113 hx hZ rfl V117 rfl rfl (fun _ u q => Sto.ofV u q P49 (Ins.self f119)) 2 (by decide) (by decide) (by simp) [.null, (.ref b4), (.ref b5)] rfl (hb y d16_122) 123 rfl fun T118 X118 W118 V118 => ?_
  have O120 := O115.wr W118 g_a49
  have N120 := Fr.snoc X118 N115 g_a49
  have K120 := Keep.wr K115 W118 (Or.inr z_a49)
  refine qG X118 hx (hb y d16_123) 85 (by decide) (by decide) ?_
  refine qA X118 hx (hb y d16_85) rfl rfl 86 rfl ?_
  have f122 := ((p96_0.wr W113).wr W118)
  have f123 := (o_fo (o_fo p96_1 W113 ne73) W118 ne85)
  have f124 := (o_fo (o_fo p96_4 W113 ne73) W118 ne85)
  refine oC (cI X118 hx hZ hown (w hw 205 rfl) (w hw 206 rfl) (w hw 207 rfl) (w hw 208 rfl) (w hw 209 rfl) (w hw 210 rfl) (w hw 211 rfl) (w hw 212 rfl) (w hw 187 rfl) (w hw 213 rfl) (by decide) (by decide) q59_0 [] [] 0 (rm_hasNext_126 l Z a0 T118.heap n0 hw O120 q59_0 f123 f124) (by decide) (by decide) rfl f122 (by rw [hml]; rfl) (lenOf pd_5 rfl) (Nat.le_of_eq rfl) (hb y d16_86) 91 rfl (by decide) (by decide)) rfl rfl fun T125 X125 e125 => ?_
  refine qN X125 hx (hb y d16_91) ((if0 _ _).trans (feq (by decide : ¬ ((1 : Int32) = (0 : Int32)))).1) 94 rfl ?_
  refine qA X125 hx (hb y d16_94) rfl rfl 95 rfl ?_
  have f127 := (o_fo (o_fo p96_2 W113 ne73) W118 ne85)
  have f128 := (o_fo (o_fo p96_3 W113 ne73) W118 ne85)
  have f129 := (((f99.keep Kq96).wr W113).wr W118)
  have f130 := ((o_fo (f102.keep Kq96 (ninS ne100 nin0)) W113 ne_b0_b2).other W118 (Or.inl ne101))
  have f131 := ((o_vo (f105.keep Kq96 (ninS ne103 nin0)) W113 ne_b0_b3).other W118 ne104)
  refine o_kIW X125 hx hZ hown (w hw 413 rfl) (w hw 414 rfl) (w hw 415 rfl) (w hw 416 rfl) (w hw 417 rfl) (w hw 418 rfl) (w hw 419 rfl) (w hw 212 rfl) (w hw 187 rfl) (w hw 420 rfl) (by decide) (by decide) q59_0 [] [] 0 (rm_next_127 l Z a0 T118.heap n0 hw O120 q59_0 b2 b3 b4 b5 b6 k_b3 f122 f123 f127 f128 f124 g_q59_0 f129 f130 f131) (by decide) (by decide) e125 f122 (by rw [hml]; rfl) (lenOf pd_37 rfl) (Nat.le_of_eq rfl) (hb y d16_95) 100 rfl (by decide) (by decide) fun v126 T126 L126 X126 hQ126 => ?_
  obtain ⟨rfl, Nq126, Kq126, p126_0, p126_1, p126_2, p126_3, p126_4⟩ := hQ126
  have O132 := O120.keep Kq126 (allS g_q59_0 all0)
  have N132 := Fr.app N120 Nq126
  have K132 := Keep.trans K120 Kq126 (allS (Or.inr z_q59_0) all0)
  refine o_nR ?_
  have f133 := (((((((((((((((((((((E_b6.ext E2).wr W4).ext E8).wr W10).ext E15).wr W17).ext E21).wr W23).wr W27).wr W31).wr W44).ext E49).wr W51).keep Kq59).keep Kq66).wr W79).wr W88).keep Kq96).wr W113).wr W118).keep Kq126)
  refine o_cast X126 hx hZ hown (w hw 173 rfl) rfl (Ins.self f133) (hb y d16_100) 103 rfl fun T134 X134 e134 => ?_
  refine qt X134 hx (hb y d16_103) #[.val (.ref b0), .val .null, .val (.ref b1), .val (.ref q59_0), .val (.ref b6)] rfl rfl 105 rfl ?_
  refine qA X134 hx (hb y d16_105) rfl rfl 106 rfl ?_
  have f135 := (((f109.other W113 (Or.inr (Ne.symm (sn_84 hw)))).other W118 (Or.inl ne83)).keep Kq126 (ninS ne73 nin0))
  refine qF X134 hx hZ hown (host := "") (Or.inl (w hw 174 rfl)) Via.refl e134 f135 (hb y d16_106) 109 rfl fun T136 X136 e136 => ?_
  refine qA X136 hx (hb y d16_109) rfl rfl 110 rfl ?_
  refine qD X136 hx (hb y d16_110) rfl 111 rfl ?_
  have f137 := ((G113.other W118 (Or.inl ne83)).keep Kq126 (ninS ne73 nin0))
  refine qF X136 hx hZ hown (host := "") (Or.inl (w hw 422 rfl)) Via.refl e136 f137 (hb y d16_111) 114 rfl fun T138 X138 e138 => ?_
  refine qC X138 hx (hb y d16_114) (1 : Int32) rfl 115 rfl ?_
  refine o_iadd X138 hx (hb y d16_115) 116 rfl ?_
  refine o_topI (3 : Int32) (by decide) ?_
  refine o_dup_x1 X138 hx (hb y d16_116) rfl rfl 117 rfl ?_
  have f140 := (((f114.wr W113).wr W118).keep Kq126)
  refine qP X138 hx hZ hown (host := "") (Or.inl (w hw 422 rfl)) Via.refl e138 f137 f140 (Or.inl (w hw 423 rfl)) (w hw 143 rfl) (ty := .int) (by decide) rfl rfl (hb y d16_117) 120 rfl fun T139 X139 W139 => ?_
  have O141 := O132.wr W139 g_b0
  have N141 := Fr.snoc X139 N132 g_b0
  have K141 := Keep.wr K132 W139 (Or.inl (by simp))
  refine qa X139 hx (hb y d16_120) rfl rfl 122 rfl ?_
  have f142 := (o_vo (V118.keep Kq126 (ninS ne85 nin0)) W139 ne83)
  have V143 : Arv Z T139.heap a49 c49 (.object s1) (69 : Int32) [.null, (.ref b4), (.ref b5), .null] .null := f142.pad (pad_rep [.null, (.ref b4), (.ref b5)] .null 1)
  have f145 := (f133.wr W139)
  refine o_aastore X139 hx hZ rfl V143 rfl rfl (fun _ u q => Sto.ofV u q P49 (Ins.self f145)) 3 (by decide) (by decide) (by simp) [.null, (.ref b4), (.ref b5), (.ref b6)] rfl (hb y d16_122) 123 rfl fun T144 X144 W144 V144 => ?_
  have O146 := O141.wr W144 g_a49
  have N146 := Fr.snoc X144 N141 g_a49
  have K146 := Keep.wr K141 W144 (Or.inr z_a49)
  refine qG X144 hx (hb y d16_123) 85 (by decide) (by decide) ?_
  refine qA X144 hx (hb y d16_85) rfl rfl 86 rfl ?_
  have f148 := ((p126_0.wr W139).wr W144)
  have f149 := (o_fo (o_fo p126_1 W139 ne73) W144 ne85)
  have f150 := (o_fo (o_fo p126_4 W139 ne73) W144 ne85)
  refine oC (cI X144 hx hZ hown (w hw 205 rfl) (w hw 206 rfl) (w hw 207 rfl) (w hw 208 rfl) (w hw 209 rfl) (w hw 210 rfl) (w hw 211 rfl) (w hw 212 rfl) (w hw 187 rfl) (w hw 213 rfl) (by decide) (by decide) q59_0 [] [] 0 (rm_hasNext_128 l Z a0 T144.heap n0 hw O146 q59_0 f149 f150) (by decide) (by decide) rfl f148 (by rw [hml]; rfl) (lenOf pd_5 rfl) (Nat.le_of_eq rfl) (hb y d16_86) 91 rfl (by decide) (by decide)) rfl rfl fun T151 X151 e151 => ?_
  refine o_ifY X151 hx (hb y d16_91) ((if0 _ _).trans (teq (by decide : (0 : Int32) = (0 : Int32))).1) 126 (by decide) (by decide) ?_
  refine qA X151 hx (hb y d16_126) rfl rfl 127 rfl ?_
  refine qA X151 hx (hb y d16_127) rfl rfl 128 rfl ?_
  have f152 := ((f135.other W139 (Or.inr (Ne.symm (sn_84 hw)))).other W144 (Or.inl ne83))
  refine qF X151 hx hZ hown (host := "") (Or.inl (w hw 174 rfl)) Via.refl e151 f152 (hb y d16_128) 131 rfl fun T153 X153 e153 => ?_
  refine o_alen X153 hx hZ e153 V144 (hb y d16_131) 132 rfl ?_
  refine o_newRA X153 hx hZ hown (by decide) (w hw 214 rfl) (w hw 215 rfl) e153 (hb y d16_132) (by decide) 69 (by decide) (by decide) (by decide) (by decide) s14 (by decide) 135 rfl fun T154 a154 c154 g154 X154 E154 V154 A154 P154 => ?_
  have K155 := Keep.ext K146 E154
  have V154 : Arv Z T154.heap a154 c154 (.array (.object s16)) (69 : Int32) [] .null := V154
  have f157 := ((((((((((((((((((((((((F_b0_access.ext E2).other W4 (Or.inr (sn_55 hw))).ext E8).other W10 (Or.inr (sn_56 hw))).ext E15).other W17 (Or.inr (sn_57 hw))).ext E21).other W23 (Or.inr (sn_58 hw))).other W27 (Or.inr (sn_59 hw))).other W31 (Or.inr (sn_60 hw))).other W44 (Or.inr (sn_61 hw))).ext E49).other W51 (Or.inr (sn_62 hw))).keep Kq59 nin0).keep Kq66 (ninS ne73 nin0)).other W79 (Or.inr (sn_85 hw))).other W88 (Or.inl ne83)).keep Kq96 (ninS ne73 nin0)).other W113 (Or.inr (sn_85 hw))).other W118 (Or.inl ne83)).keep Kq126 (ninS ne73 nin0)).other W139 (Or.inr (sn_85 hw))).other W144 (Or.inl ne83)).ext E154)
  have f158 := (((f140.wr W139).wr W144).ext E154)
  refine qP X154 hx hZ hown (host := "") (Or.inl (w hw 216 rfl)) Via.refl rfl f157 f158 (Or.inr ⟨(w hw 217 rfl), rfl, hnm⟩) (w hw 143 rfl) (ty := (.array (.array (.object s16)))) (by decide) rfl rfl (hb y d16_135) 138 rfl fun T156 X156 W156 => ?_
  have N159 := Fr.snoc X156 N146 g_b0
  have K159 := Keep.wr K155 W156 (Or.inl (by simp))
  have f160 := (f158.wr W156)
  have f161 := ((f152.ext E154).other W156 (Or.inr (Ne.symm (sn_62 hw))))
  have f162 := (o_vo (V144.ext E154) W156 ne83)
  have f163 := (((((((((((((A49.wr W51).keep Kq59).keep Kq66).wr W79).wr W88).keep Kq96).wr W113).wr W118).keep Kq126).wr W139).wr W144).ext E154).wr W156)
  exact qv X156 hx hk hret (hb y d16_138) (by show Q_rm__init__119 Z h0 n0 b0 b1 b2 b3 b4 b5 b6 k_b3 _ T156.heap _; exact ⟨a49, c49, rfl, N159, K159, z_a49, f160, f161, f162, f163, P49⟩) (by decide) (by decide)
theorem pd_3 : parseMethodDescriptor "(C)Ljava/lang/String;" = some ⟨[.char], some (.object "java/lang/String")⟩ := by decide +kernel
theorem pd_8 : parseMethodDescriptor "(Ljava/lang/String;ILjava/util/List;)V" = some ⟨[(.object "java/lang/String"), .int, (.object "java/util/List")], none⟩ := by decide +kernel
theorem pd_10 : parseMethodDescriptor "(Ljava/util/List;Ljava/util/List;)V" = some ⟨[(.object "java/util/List"), (.object "java/util/List")], none⟩ := by decide +kernel
theorem pd_13 : parseMethodDescriptor "(Lcom/example/lawful_crossing/lawfulcrossing/model/ProcessDeclaration;Lcom/example/lawful_crossing/lawfulcrossing/model/Image;)V" = some ⟨[(.object "com/example/lawful_crossing/lawfulcrossing/model/ProcessDeclaration"), (.object "com/example/lawful_crossing/lawfulcrossing/model/Image")], none⟩ := by decide +kernel
theorem pd_14 : parseMethodDescriptor "(I)Lcom/example/lawful_crossing/lawfulcrossing/model/Segment;" = some ⟨[.int], some (.object "com/example/lawful_crossing/lawfulcrossing/model/Segment")⟩ := by decide +kernel
theorem pd_15 : parseMethodDescriptor "([Lcom/example/lawful_crossing/lawfulcrossing/model/Segment;II)Lcom/example/lawful_crossing/lawfulcrossing/model/Segment;" = some ⟨[(.array (.object "com/example/lawful_crossing/lawfulcrossing/model/Segment")), .int, .int], some (.object "com/example/lawful_crossing/lawfulcrossing/model/Segment")⟩ := by decide +kernel
theorem pd_20 : parseMethodDescriptor "(Ljava/lang/Object;)Z" = some ⟨[(.object "java/lang/Object")], some .boolean⟩ := by decide +kernel
theorem ef_20 (m : MethodId) (y0 : Int32) (y1 : Int32) (y2 : Int32) (y3 : Int32) : entryFrame m #[(.int y0), (.int y1), (.int y2), (.int y3)] maxLocals = mkF m 0 #[.val (.int y0), .val (.int y1), .val (.int y2), .val (.int y3), .unset, .unset, .unset, .unset, .unset, .unset, .unset, .unset, .unset, .unset, .unset, .unset, .unset, .unset, .unset] [] := by first | (simp [entryFrame, mkF, argsToLocals, Value.category, maxLocals]; done) | rfl
end OwnWalks
theorem rm0 (l : Launch) (Z : State) (a0 : Array Value) (hw : o_HW Z a0) (ws : List Jvm.Cond) (x0 : Int32) (x1 : Int32) (x2 : Int32) (x3 : Int32) (h0 : Heap) (n0 : Nat) {w_NW w_DC w_EL w_EA w_EM w_MO w_cacheI : Addr} {c_cacheI : Cell} {k_DC k_EA : ClassId} {z_CS : Int32} (H : o_C Z Z.heap w_NW w_DC w_EL w_EA w_EM w_MO w_cacheI c_cacheI k_DC k_EA z_CS) (O : Old Z n0 h0) :
    o_Met l x code maxLocals ret ws room_1 Z #[(.int x0), (.int x1), (.int x2), (.int x3)] h0 (o_Q0 n0) := by
  refine o_met (pN pn_15) ?_
  intro p e s m below meth c T0 hx y hml hown hret hk hnm hZ X0 e0
  have hown : s.vm.findClass s20 = some m.cls := hown
  obtain ⟨-, -, -, -, -, -, -, -, -, -, -, -, -, -, -, -, -, -, -⟩ := id H
  refine o_ent (ef_20 m x0 x1 x2 x3) ?_
  refine qI X0 hx (hb y at_0) rfl 1 rfl ?_
  refine qC X0 hx (hb y at_1) (3 : Int32) rfl 2 rfl ?_
  refine o_iand X0 hx (hb y at_2) 3 rfl ?_
  refine qs X0 hx (hb y at_3) #[.val (.int x0), .val (.int x1), .val (.int x2), .val (.int x3), .val (.int (x0 &&& (3 : Int32))), .unset, .unset, .unset, .unset, .unset, .unset, .unset, .unset, .unset, .unset, .unset, .unset, .unset, .unset] rfl 5 rfl ?_
  refine qI X0 hx (hb y at_5) rfl 6 rfl ?_
  refine o_ldc X0 hx hZ hown (w hw 0 rfl) (hb y at_6) 8 rfl ?_
  refine o_iand X0 hx (hb y at_8) 9 rfl ?_
  obtain ⟨ln, h_ln⟩ : ∃ z : Int32, z = (x3 &&& (262143 : Int32)) := ⟨_, rfl⟩
  rw [← h_ln]
  have kl1 : ¬ (ln < (0 : Int32)) := by rw [h_ln]; exact (o_ln x3).1
  have kl2 : ¬ ((262144 : Int32) < ln) := by rw [h_ln]; exact (o_ln x3).2
  refine qs X0 hx (hb y at_9) #[.val (.int x0), .val (.int x1), .val (.int x2), .val (.int x3), .val (.int (x0 &&& (3 : Int32))), .val (.int ln), .unset, .unset, .unset, .unset, .unset, .unset, .unset, .unset, .unset, .unset, .unset, .unset, .unset] rfl 11 rfl ?_
  refine nO X0 hx hZ hown (w hw 1 rfl) (w hw 2 rfl) (w hw 3 rfl) e0 (hb y at_11) 14 rfl (by decide) (by decide) fun T1 a1 g1 X1 E1 A1 D1 => ?_
  have g_a1 : n0 ≤ a1 := Nat.le_trans (o_osz O) (Nat.le_of_eq g1)
  have O2 := O.ext E1
  have F1_near : Fld Z T1.heap a1 s1 "near" "[J" .null := D1 (Or.inl (w hw 61 rfl)) (ty := (.array .long)) (by decide)
  have F1_name : Fld Z T1.heap a1 s1 "name" s42 .null := D1 (Or.inr (w hw 64 rfl)) (ty := (.object s4)) (by decide)
  have F1_length : Fld Z T1.heap a1 s1 "length" "I" (.int 0) := D1 (Or.inr (w hw 66 rfl)) (ty := .int) (by decide)
  have F1_accessList : Fld Z T1.heap a1 s1 "accessList" s17 .null := D1 (Or.inr (w hw 97 rfl)) (ty := (.object s21)) (by decide)
  refine qD X1 hx (hb y at_14) rfl 15 rfl ?_
  refine o_bipush X1 hx (hb y at_15) (112 : Int32) rfl 17 rfl ?_
  refine kS X1 hx hZ hown (w hw 4 rfl) (w hw 5 rfl) (w hw 6 rfl) (w hw 7 rfl) (by decide) [(.int 112)] [(.ref a1), (.ref a1)] 2 (rm_valueOf_1 l Z a0 T1.heap n0 hw H O2 ) (by decide) (by decide) rfl (by rw [hml]; rfl) (lenOf pd_3 rfl) (Nat.le_of_eq rfl) (hb y at_17) (by decide) (by decide) 20 rfl fun v3 T3 L3 X3 hQ3 => ?_
  obtain ⟨q3_0, q3_1, qk3_0, rfl, Nq3, Kq3, le_q3_0, le_q3_1, ne_q3_0_q3_1, p3_0, p3_1, p3_2, p3_3, p3_4, p3_5, p3_6⟩ := hQ3
  have g_q3_0 : n0 ≤ q3_0 := Nat.le_trans (o_osz O2) le_q3_0
  have O4 := O2.keep Kq3 all0
  have N4 := Fr.app (Fr.nil n0) Nq3
  refine o_nR ?_
  refine qi X3 hx (hb y at_20) rfl 22 rfl ?_
  refine nO X3 hx hZ hown (w hw 30 rfl) (w hw 31 rfl) (w hw 32 rfl) rfl (hb y at_22) 25 rfl (by decide) (by decide) fun T5 a5 g5 X5 E5 A5 D5 => ?_
  have g_a5 : n0 ≤ a5 := Nat.le_trans (o_osz O4) (Nat.le_of_eq g5)
  have O6 := O4.ext E5
  have F5_modCount : Fld Z T5.heap a5 s24 s29 "I" (.int 0) := D5 (Or.inl (w hw 50 rfl)) (ty := .int) (by decide)
  have F5_elementData : Fld Z T5.heap a5 s6 s27 s10 .null := D5 (Or.inl (w hw 53 rfl)) (ty := (.array (.object s8))) (by decide)
  have F5_size : Fld Z T5.heap a5 s6 s26 "I" (.int 0) := D5 (Or.inl (w hw 91 rfl)) (ty := .int) (by decide)
  refine qD X5 hx (hb y at_25) rfl 26 rfl ?_
  refine kN X5 hx hZ rfl hown (w hw 33 rfl) (w hw 34 rfl) (w hw 32 rfl) (w hw 35 rfl) (by decide) a5 [] [(.ref a5), (.int ln), (.ref q3_0), (.ref a1), (.ref a1)] 5 (rm__init__5 l Z a0 T5.heap n0 hw H O6 a5 A5 F5_modCount F5_elementData F5_size g_a5) (by decide) (by decide) rfl (by rw [hml]; rfl) (lenOf pd_4 rfl) (Nat.le_of_eq rfl) (hb y at_26) (by decide) (by decide) 29 rfl fun v7 T7 L7 X7 hQ7 => ?_
  obtain ⟨rfl, Nq7, Kq7, p7_0, p7_1, p7_2, p7_3⟩ := hQ7
  have O8 := O6.keep Kq7 (allS g_a5 all0)
  have N8 := Fr.app N4 Nq7
  refine o_nV ?_
  have f10 := (((A1.keep Kq3).ext E5).keep Kq7)
  have ne11 := o_nl A1.lt Kq3.1 (Nat.le_of_eq g5)
  have f12 := (((F1_accessList.keep Kq3 nin0).ext E5).keep Kq7 (ninS ne11 nin0))
  have f13 := (((F1_length.keep Kq3 nin0).ext E5).keep Kq7 (ninS ne11 nin0))
  have f14 := (((F1_name.keep Kq3 nin0).ext E5).keep Kq7 (ninS ne11 nin0))
  have f15 := (((F1_near.keep Kq3 nin0).ext E5).keep Kq7 (ninS ne11 nin0))
  refine kN X7 hx hZ rfl hown (w hw 54 rfl) (w hw 55 rfl) (w hw 3 rfl) (w hw 56 rfl) (by decide) a1 [(.ref q3_0), (.int ln), (.ref a5)] [(.ref a1)] 1 (rm__init__8 l Z a0 T7.heap n0 hw H O8 a1 q3_0 a5 ln f10 f12 f13 f14 f15 g_a1 p7_0 p7_3 ne11 kl1 kl2) (by decide) (by decide) rfl (by rw [hml]; rfl) (lenOf pd_8 rfl) (Nat.le_of_eq rfl) (hb y at_29) (by decide) (by decide) 32 rfl fun v9 T9 L9 X9 hQ9 => ?_
  obtain ⟨rfl, Nq9, Kq9, p9_0, p9_1⟩ := hQ9
  have O16 := O8.keep Kq9 (allS g_a1 all0)
  have N16 := Fr.app N8 Nq9
  refine o_nV ?_
  refine qt X9 hx (hb y at_32) #[.val (.int x0), .val (.int x1), .val (.int x2), .val (.int x3), .val (.int (x0 &&& (3 : Int32))), .val (.int ln), .val (.ref a1), .unset, .unset, .unset, .unset, .unset, .unset, .unset, .unset, .unset, .unset, .unset, .unset] rfl rfl 34 rfl ?_
  refine nO X9 hx hZ hown (w hw 1 rfl) (w hw 2 rfl) (w hw 3 rfl) rfl (hb y at_34) 37 rfl (by decide) (by decide) fun T17 a17 g17 X17 E17 A17 D17 => ?_
  have g_a17 : n0 ≤ a17 := Nat.le_trans (o_osz O16) (Nat.le_of_eq g17)
  have O18 := O16.ext E17
  have F17_near : Fld Z T17.heap a17 s1 "near" "[J" .null := D17 (Or.inl (w hw 61 rfl)) (ty := (.array .long)) (by decide)
  have F17_name : Fld Z T17.heap a17 s1 "name" s42 .null := D17 (Or.inr (w hw 64 rfl)) (ty := (.object s4)) (by decide)
  have F17_length : Fld Z T17.heap a17 s1 "length" "I" (.int 0) := D17 (Or.inr (w hw 66 rfl)) (ty := .int) (by decide)
  have F17_accessList : Fld Z T17.heap a17 s1 "accessList" s17 .null := D17 (Or.inr (w hw 97 rfl)) (ty := (.object s21)) (by decide)
  refine qD X17 hx (hb y at_37) rfl 38 rfl ?_
  refine o_bipush X17 hx (hb y at_38) (113 : Int32) rfl 40 rfl ?_
  refine kS X17 hx hZ hown (w hw 4 rfl) (w hw 5 rfl) (w hw 6 rfl) (w hw 7 rfl) (by decide) [(.int 113)] [(.ref a17), (.ref a17)] 2 (rm_valueOf_13 l Z a0 T17.heap n0 hw H O18 ) (by decide) (by decide) rfl (by rw [hml]; rfl) (lenOf pd_3 rfl) (Nat.le_of_eq rfl) (hb y at_40) (by decide) (by decide) 43 rfl fun v19 T19 L19 X19 hQ19 => ?_
  obtain ⟨q19_0, q19_1, qk19_0, rfl, Nq19, Kq19, le_q19_0, le_q19_1, ne_q19_0_q19_1, p19_0, p19_1, p19_2, p19_3, p19_4, p19_5, p19_6⟩ := hQ19
  have g_q19_0 : n0 ≤ q19_0 := Nat.le_trans (o_osz O18) le_q19_0
  have O20 := O18.keep Kq19 all0
  have N20 := Fr.app N16 Nq19
  refine o_nR ?_
  refine qi X19 hx (hb y at_43) rfl 45 rfl ?_
  refine nO X19 hx hZ hown (w hw 30 rfl) (w hw 31 rfl) (w hw 32 rfl) rfl (hb y at_45) 48 rfl (by decide) (by decide) fun T21 a21 g21 X21 E21 A21 D21 => ?_
  have g_a21 : n0 ≤ a21 := Nat.le_trans (o_osz O20) (Nat.le_of_eq g21)
  have O22 := O20.ext E21
  have F21_modCount : Fld Z T21.heap a21 s24 s29 "I" (.int 0) := D21 (Or.inl (w hw 50 rfl)) (ty := .int) (by decide)
  have F21_elementData : Fld Z T21.heap a21 s6 s27 s10 .null := D21 (Or.inl (w hw 53 rfl)) (ty := (.array (.object s8))) (by decide)
  have F21_size : Fld Z T21.heap a21 s6 s26 "I" (.int 0) := D21 (Or.inl (w hw 91 rfl)) (ty := .int) (by decide)
  refine qD X21 hx (hb y at_48) rfl 49 rfl ?_
  refine kN X21 hx hZ rfl hown (w hw 33 rfl) (w hw 34 rfl) (w hw 32 rfl) (w hw 35 rfl) (by decide) a21 [] [(.ref a21), (.int ln), (.ref q19_0), (.ref a17), (.ref a17)] 5 (rm__init__5 l Z a0 T21.heap n0 hw H O22 a21 A21 F21_modCount F21_elementData F21_size g_a21) (by decide) (by decide) rfl (by rw [hml]; rfl) (lenOf pd_4 rfl) (Nat.le_of_eq rfl) (hb y at_49) (by decide) (by decide) 52 rfl fun v23 T23 L23 X23 hQ23 => ?_
  obtain ⟨rfl, Nq23, Kq23, p23_0, p23_1, p23_2, p23_3⟩ := hQ23
  have O24 := O22.keep Kq23 (allS g_a21 all0)
  have N24 := Fr.app N20 Nq23
  refine o_nV ?_
  have f26 := (((A17.keep Kq19).ext E21).keep Kq23)
  have ne27 := o_nl A17.lt Kq19.1 (Nat.le_of_eq g21)
  have f28 := (((F17_accessList.keep Kq19 nin0).ext E21).keep Kq23 (ninS ne27 nin0))
  have f29 := (((F17_length.keep Kq19 nin0).ext E21).keep Kq23 (ninS ne27 nin0))
  have f30 := (((F17_name.keep Kq19 nin0).ext E21).keep Kq23 (ninS ne27 nin0))
  have f31 := (((F17_near.keep Kq19 nin0).ext E21).keep Kq23 (ninS ne27 nin0))
  refine kN X23 hx hZ rfl hown (w hw 54 rfl) (w hw 55 rfl) (w hw 3 rfl) (w hw 56 rfl) (by decide) a17 [(.ref q19_0), (.int ln), (.ref a21)] [(.ref a17)] 1 (rm__init__8 l Z a0 T23.heap n0 hw H O24 a17 q19_0 a21 ln f26 f28 f29 f30 f31 g_a17 p23_0 p23_3 ne27 kl1 kl2) (by decide) (by decide) rfl (by rw [hml]; rfl) (lenOf pd_8 rfl) (Nat.le_of_eq rfl) (hb y at_52) (by decide) (by decide) 55 rfl fun v25 T25 L25 X25 hQ25 => ?_
  obtain ⟨rfl, Nq25, Kq25, p25_0, p25_1⟩ := hQ25
  have O32 := O24.keep Kq25 (allS g_a17 all0)
  have N32 := Fr.app N24 Nq25
  refine o_nV ?_
  refine qt X25 hx (hb y at_55) #[.val (.int x0), .val (.int x1), .val (.int x2), .val (.int x3), .val (.int (x0 &&& (3 : Int32))), .val (.int ln), .val (.ref a1), .val (.ref a17), .unset, .unset, .unset, .unset, .unset, .unset, .unset, .unset, .unset, .unset, .unset] rfl rfl 57 rfl ?_
  refine nO X25 hx hZ hown (w hw 1 rfl) (w hw 2 rfl) (w hw 3 rfl) rfl (hb y at_57) 60 rfl (by decide) (by decide) fun T33 a33 g33 X33 E33 A33 D33 => ?_
  have g_a33 : n0 ≤ a33 := Nat.le_trans (o_osz O32) (Nat.le_of_eq g33)
  have O34 := O32.ext E33
  have F33_near : Fld Z T33.heap a33 s1 "near" "[J" .null := D33 (Or.inl (w hw 61 rfl)) (ty := (.array .long)) (by decide)
  have F33_name : Fld Z T33.heap a33 s1 "name" s42 .null := D33 (Or.inr (w hw 64 rfl)) (ty := (.object s4)) (by decide)
  have F33_length : Fld Z T33.heap a33 s1 "length" "I" (.int 0) := D33 (Or.inr (w hw 66 rfl)) (ty := .int) (by decide)
  have F33_accessList : Fld Z T33.heap a33 s1 "accessList" s17 .null := D33 (Or.inr (w hw 97 rfl)) (ty := (.object s21)) (by decide)
  refine qD X33 hx (hb y at_60) rfl 61 rfl ?_
  refine o_bipush X33 hx (hb y at_61) (114 : Int32) rfl 63 rfl ?_
  refine kS X33 hx hZ hown (w hw 4 rfl) (w hw 5 rfl) (w hw 6 rfl) (w hw 7 rfl) (by decide) [(.int 114)] [(.ref a33), (.ref a33)] 2 (rm_valueOf_16 l Z a0 T33.heap n0 hw H O34 ) (by decide) (by decide) rfl (by rw [hml]; rfl) (lenOf pd_3 rfl) (Nat.le_of_eq rfl) (hb y at_63) (by decide) (by decide) 66 rfl fun v35 T35 L35 X35 hQ35 => ?_
  obtain ⟨q35_0, q35_1, qk35_0, rfl, Nq35, Kq35, le_q35_0, le_q35_1, ne_q35_0_q35_1, p35_0, p35_1, p35_2, p35_3, p35_4, p35_5, p35_6⟩ := hQ35
  have g_q35_0 : n0 ≤ q35_0 := Nat.le_trans (o_osz O34) le_q35_0
  have O36 := O34.keep Kq35 all0
  have N36 := Fr.app N32 Nq35
  refine o_nR ?_
  refine qi X35 hx (hb y at_66) rfl 68 rfl ?_
  refine nO X35 hx hZ hown (w hw 30 rfl) (w hw 31 rfl) (w hw 32 rfl) rfl (hb y at_68) 71 rfl (by decide) (by decide) fun T37 a37 g37 X37 E37 A37 D37 => ?_
  have g_a37 : n0 ≤ a37 := Nat.le_trans (o_osz O36) (Nat.le_of_eq g37)
  have O38 := O36.ext E37
  have F37_modCount : Fld Z T37.heap a37 s24 s29 "I" (.int 0) := D37 (Or.inl (w hw 50 rfl)) (ty := .int) (by decide)
  have F37_elementData : Fld Z T37.heap a37 s6 s27 s10 .null := D37 (Or.inl (w hw 53 rfl)) (ty := (.array (.object s8))) (by decide)
  have F37_size : Fld Z T37.heap a37 s6 s26 "I" (.int 0) := D37 (Or.inl (w hw 91 rfl)) (ty := .int) (by decide)
  refine qD X37 hx (hb y at_71) rfl 72 rfl ?_
  refine kN X37 hx hZ rfl hown (w hw 33 rfl) (w hw 34 rfl) (w hw 32 rfl) (w hw 35 rfl) (by decide) a37 [] [(.ref a37), (.int ln), (.ref q35_0), (.ref a33), (.ref a33)] 5 (rm__init__5 l Z a0 T37.heap n0 hw H O38 a37 A37 F37_modCount F37_elementData F37_size g_a37) (by decide) (by decide) rfl (by rw [hml]; rfl) (lenOf pd_4 rfl) (Nat.le_of_eq rfl) (hb y at_72) (by decide) (by decide) 75 rfl fun v39 T39 L39 X39 hQ39 => ?_
  obtain ⟨rfl, Nq39, Kq39, p39_0, p39_1, p39_2, p39_3⟩ := hQ39
  have O40 := O38.keep Kq39 (allS g_a37 all0)
  have N40 := Fr.app N36 Nq39
  refine o_nV ?_
  have f42 := (((A33.keep Kq35).ext E37).keep Kq39)
  have ne43 := o_nl A33.lt Kq35.1 (Nat.le_of_eq g37)
  have f44 := (((F33_accessList.keep Kq35 nin0).ext E37).keep Kq39 (ninS ne43 nin0))
  have f45 := (((F33_length.keep Kq35 nin0).ext E37).keep Kq39 (ninS ne43 nin0))
  have f46 := (((F33_name.keep Kq35 nin0).ext E37).keep Kq39 (ninS ne43 nin0))
  have f47 := (((F33_near.keep Kq35 nin0).ext E37).keep Kq39 (ninS ne43 nin0))
  refine kN X39 hx hZ rfl hown (w hw 54 rfl) (w hw 55 rfl) (w hw 3 rfl) (w hw 56 rfl) (by decide) a33 [(.ref q35_0), (.int ln), (.ref a37)] [(.ref a33)] 1 (rm__init__8 l Z a0 T39.heap n0 hw H O40 a33 q35_0 a37 ln f42 f44 f45 f46 f47 g_a33 p39_0 p39_3 ne43 kl1 kl2) (by decide) (by decide) rfl (by rw [hml]; rfl) (lenOf pd_8 rfl) (Nat.le_of_eq rfl) (hb y at_75) (by decide) (by decide) 78 rfl fun v41 T41 L41 X41 hQ41 => ?_
  obtain ⟨rfl, Nq41, Kq41, p41_0, p41_1⟩ := hQ41
  have O48 := O40.keep Kq41 (allS g_a33 all0)
  have N48 := Fr.app N40 Nq41
  refine o_nV ?_
  refine qt X41 hx (hb y at_78) #[.val (.int x0), .val (.int x1), .val (.int x2), .val (.int x3), .val (.int (x0 &&& (3 : Int32))), .val (.int ln), .val (.ref a1), .val (.ref a17), .val (.ref a33), .unset, .unset, .unset, .unset, .unset, .unset, .unset, .unset, .unset, .unset] rfl rfl 80 rfl ?_
  refine qC X41 hx (hb y at_80) (3 : Int32) rfl 81 rfl ?_
  refine o_newR X41 hx hZ hown (w hw 1 rfl) (w hw 98 rfl) rfl (hb y at_81) (by decide) 3 (by decide) (by decide) (by decide) (by decide) s12 (by decide) 84 rfl fun T49 a49 c49 g49 X49 E49 V49 A49 P49 => ?_
  have g_a49 : n0 ≤ a49 := Nat.le_trans (o_osz O48) (Nat.le_of_eq g49)
  have O50 := O48.ext E49
  have V49 : Arv Z T49.heap a49 c49 (.object s1) (3 : Int32) [] .null := V49
  refine qt X49 hx (hb y at_84) #[.val (.int x0), .val (.int x1), .val (.int x2), .val (.int x3), .val (.int (x0 &&& (3 : Int32))), .val (.int ln), .val (.ref a1), .val (.ref a17), .val (.ref a33), .val (.ref a49), .unset, .unset, .unset, .unset, .unset, .unset, .unset, .unset, .unset] rfl rfl 86 rfl ?_
  refine qa X49 hx (hb y at_86) rfl rfl 88 rfl ?_
  refine qC X49 hx (hb y at_88) (0 : Int32) rfl 89 rfl ?_
  refine qa X49 hx (hb y at_89) rfl rfl 91 rfl ?_
  have V51 : Arv Z T49.heap a49 c49 (.object s1) (3 : Int32) [.null] .null := V49.pad (pad_rep [] .null 1)
  have f53 := (((((((((((p9_0.ext E17).keep Kq19).ext E21).keep Kq23).keep Kq25).ext E33).keep Kq35).ext E37).keep Kq39).keep Kq41).ext E49)
  refine o_aastore X49 hx hZ rfl V51 rfl rfl (fun _ u q => Sto.ofV u q P49 (Ins.self f53)) 0 (by decide) (by decide) (by simp) [(.ref a1)] rfl (hb y at_91) 92 rfl fun T52 X52 W52 V52 => ?_
  have O54 := O50.wr W52 g_a49
  have N54 := Fr.snoc X52 N48 g_a49
  refine qa X52 hx (hb y at_92) rfl rfl 94 rfl ?_
  refine qC X52 hx (hb y at_94) (1 : Int32) rfl 95 rfl ?_
  refine qa X52 hx (hb y at_95) rfl rfl 97 rfl ?_
  have V55 : Arv Z T52.heap a49 c49 (.object s1) (3 : Int32) [(.ref a1), .null] .null := V52.pad (pad_rep [(.ref a1)] .null 1)
  have f57 := (((((((p25_0.ext E33).keep Kq35).ext E37).keep Kq39).keep Kq41).ext E49).wr W52)
  refine o_aastore X52 hx hZ rfl V55 rfl rfl (fun _ u q => Sto.ofV u q P49 (Ins.self f57)) 1 (by decide) (by decide) (by simp) [(.ref a1), (.ref a17)] rfl (hb y at_97) 98 rfl fun T56 X56 W56 V56 => ?_
  have O58 := O54.wr W56 g_a49
  have N58 := Fr.snoc X56 N54 g_a49
  refine qa X56 hx (hb y at_98) rfl rfl 100 rfl ?_
  refine qC X56 hx (hb y at_100) (2 : Int32) rfl 101 rfl ?_
  refine qa X56 hx (hb y at_101) rfl rfl 103 rfl ?_
  have V59 : Arv Z T56.heap a49 c49 (.object s1) (3 : Int32) [(.ref a1), (.ref a17), .null] .null := V56.pad (pad_rep [(.ref a1), (.ref a17)] .null 1)
  have f61 := (((p41_0.ext E49).wr W52).wr W56)
  refine o_aastore X56 hx hZ rfl V59 rfl rfl (fun _ u q => Sto.ofV u q P49 (Ins.self f61)) 2 (by decide) (by decide) (by simp) [(.ref a1), (.ref a17), (.ref a33)] rfl (hb y at_103) 104 rfl fun T60 X60 W60 V60 => ?_
  have O62 := O58.wr W60 g_a49
  have N62 := Fr.snoc X60 N58 g_a49
  refine nO X60 hx hZ hown (w hw 30 rfl) (w hw 31 rfl) (w hw 32 rfl) rfl (hb y at_104) 107 rfl (by decide) (by decide) fun T63 a63 g63 X63 E63 A63 D63 => ?_
  have g_a63 : n0 ≤ a63 := Nat.le_trans (o_osz O62) (Nat.le_of_eq g63)
  have O64 := O62.ext E63
  have F63_modCount : Fld Z T63.heap a63 s24 s29 "I" (.int 0) := D63 (Or.inl (w hw 50 rfl)) (ty := .int) (by decide)
  have F63_elementData : Fld Z T63.heap a63 s6 s27 s10 .null := D63 (Or.inl (w hw 53 rfl)) (ty := (.array (.object s8))) (by decide)
  have F63_size : Fld Z T63.heap a63 s6 s26 "I" (.int 0) := D63 (Or.inl (w hw 91 rfl)) (ty := .int) (by decide)
  refine qD X63 hx (hb y at_107) rfl 108 rfl ?_
  refine kN X63 hx hZ rfl hown (w hw 33 rfl) (w hw 34 rfl) (w hw 32 rfl) (w hw 35 rfl) (by decide) a63 [] [(.ref a63)] 1 (rm__init__5 l Z a0 T63.heap n0 hw H O64 a63 A63 F63_modCount F63_elementData F63_size g_a63) (by decide) (by decide) rfl (by rw [hml]; rfl) (lenOf pd_4 rfl) (Nat.le_of_eq rfl) (hb y at_108) (by decide) (by decide) 111 rfl fun v65 T65 L65 X65 hQ65 => ?_
  obtain ⟨rfl, Nq65, Kq65, p65_0, p65_1, p65_2, p65_3⟩ := hQ65
  have O66 := O64.keep Kq65 (allS g_a63 all0)
  have N66 := Fr.app N62 Nq65
  refine o_nV ?_
  refine qt X65 hx (hb y at_111) #[.val (.int x0), .val (.int x1), .val (.int x2), .val (.int x3), .val (.int (x0 &&& (3 : Int32))), .val (.int ln), .val (.ref a1), .val (.ref a17), .val (.ref a33), .val (.ref a49), .val (.ref a63), .unset, .unset, .unset, .unset, .unset, .unset, .unset, .unset] rfl rfl 113 rfl ?_
  rcases o_bit3 x0 with q67 | q67 | q67 | q67
  · rw [q67]
    refine qi X65 hx (hb y at_113) rfl 115 rfl ?_
    refine qC X65 hx (hb y at_115) (1 : Int32) rfl 116 rfl ?_
    refine o_icmpY X65 hx (hb y at_116) (tlt (by decide : (0 : Int32) < (1 : Int32))).1 127 (by decide) (by decide) ?_
    refine qi X65 hx (hb y at_127) rfl 129 rfl ?_
    refine qC X65 hx (hb y at_129) (2 : Int32) rfl 130 rfl ?_
    refine o_icmpY X65 hx (hb y at_130) (tlt (by decide : (0 : Int32) < (2 : Int32))).1 141 (by decide) (by decide) ?_
    refine qi X65 hx (hb y at_141) rfl 143 rfl ?_
    refine qC X65 hx (hb y at_143) (3 : Int32) rfl 144 rfl ?_
    refine o_icmpY X65 hx (hb y at_144) (tlt (by decide : (0 : Int32) < (3 : Int32))).1 155 (by decide) (by decide) ?_
    refine nO X65 hx hZ hown (w hw 100 rfl) (w hw 101 rfl) (w hw 102 rfl) rfl (hb y at_155) 158 rfl (by decide) (by decide) fun T68 a68 g68 X68 E68 A68 D68 => ?_
    have g_a68 : n0 ≤ a68 := Nat.le_trans (o_osz O66) (Nat.le_of_eq g68)
    have O69 := O66.ext E68
    have F68_numbers : Fld Z T68.heap a68 s3 "numbers" s59 .null := D68 (Or.inr (w hw 124 rfl)) (ty := (.object s64)) (by decide)
    have F68_processes : Fld Z T68.heap a68 s3 s72 s17 .null := D68 (Or.inr (w hw 127 rfl)) (ty := (.object s21)) (by decide)
    have F68_segments : Fld Z T68.heap a68 s3 s35 s17 .null := D68 (Or.inr (w hw 129 rfl)) (ty := (.object s21)) (by decide)
    refine qD X68 hx (hb y at_158) rfl 159 rfl ?_
    refine nO X68 hx hZ hown (w hw 30 rfl) (w hw 31 rfl) (w hw 32 rfl) rfl (hb y at_159) 162 rfl (by decide) (by decide) fun T70 a70 g70 X70 E70 A70 D70 => ?_
    have g_a70 : n0 ≤ a70 := Nat.le_trans (o_osz O69) (Nat.le_of_eq g70)
    have O71 := O69.ext E70
    have F70_modCount : Fld Z T70.heap a70 s24 s29 "I" (.int 0) := D70 (Or.inl (w hw 50 rfl)) (ty := .int) (by decide)
    have F70_elementData : Fld Z T70.heap a70 s6 s27 s10 .null := D70 (Or.inl (w hw 53 rfl)) (ty := (.array (.object s8))) (by decide)
    have F70_size : Fld Z T70.heap a70 s6 s26 "I" (.int 0) := D70 (Or.inl (w hw 91 rfl)) (ty := .int) (by decide)
    refine qD X70 hx (hb y at_162) rfl 163 rfl ?_
    refine kN X70 hx hZ rfl hown (w hw 33 rfl) (w hw 34 rfl) (w hw 32 rfl) (w hw 35 rfl) (by decide) a70 [] [(.ref a70), (.ref a68), (.ref a68)] 3 (rm__init__5 l Z a0 T70.heap n0 hw H O71 a70 A70 F70_modCount F70_elementData F70_size g_a70) (by decide) (by decide) rfl (by rw [hml]; rfl) (lenOf pd_4 rfl) (Nat.le_of_eq rfl) (hb y at_163) (by decide) (by decide) 166 rfl fun v72 T72 L72 X72 hQ72 => ?_
    obtain ⟨rfl, Nq72, Kq72, p72_0, p72_1, p72_2, p72_3⟩ := hQ72
    have O73 := O71.keep Kq72 (allS g_a70 all0)
    have N73 := Fr.app N66 Nq72
    refine o_nV ?_
    refine qa X72 hx (hb y at_166) rfl rfl 168 rfl ?_
    have f75 := ((A68.ext E70).keep Kq72)
    have ne76 := o_nl A68.lt (Nat.le_refl _) (Nat.le_of_eq g70)
    have f77 := ((F68_numbers.ext E70).keep Kq72 (ninS ne76 nin0))
    have f78 := ((F68_processes.ext E70).keep Kq72 (ninS ne76 nin0))
    have f79 := ((F68_segments.ext E70).keep Kq72 (ninS ne76 nin0))
    have f80 := (((p65_0.ext E68).ext E70).keep Kq72)
    have l82 := (Nat.le_trans Kq65.1 E68.1)
    have ne81 := o_nl A63.lt l82 (Nat.le_of_eq g70)
    have f83 := (((p65_3.ext E68).ext E70).keep Kq72 (ninS ne81 nin0))
    have ne85 := o_nl A63.lt Kq65.1 (Nat.le_of_eq g68)
    refine kN X72 hx hZ rfl hown (w hw 103 rfl) (w hw 104 rfl) (w hw 102 rfl) (w hw 105 rfl) (by decide) a68 [(.ref a70), (.ref a63)] [(.ref a68)] 1 (rm__init__19 l Z a0 T72.heap n0 hw H O73 a68 a70 a63 f75 f77 f78 f79 g_a68 p72_0 p72_3 f80 f83 ne76 (Ne.symm ne85)) (by decide) (by decide) rfl (by rw [hml]; rfl) (lenOf pd_10 rfl) (Nat.le_of_eq rfl) (hb y at_168) (by decide) (by decide) 171 rfl fun v74 T74 L74 X74 hQ74 => ?_
    obtain ⟨rfl, Nq74, Kq74, p74_0, p74_1⟩ := hQ74
    have O86 := O73.keep Kq74 (allS g_a68 all0)
    have N86 := Fr.app N73 Nq74
    refine o_nV ?_
    refine qt X74 hx (hb y at_171) #[.val (.int x0), .val (.int x1), .val (.int x2), .val (.int x3), .val (.int 0), .val (.int ln), .val (.ref a1), .val (.ref a17), .val (.ref a33), .val (.ref a49), .val (.ref a63), .val (.ref a68), .unset, .unset, .unset, .unset, .unset, .unset, .unset] rfl rfl 173 rfl ?_
    refine nO X74 hx hZ hown (w hw 142 rfl) (w hw 143 rfl) (w hw 144 rfl) rfl (hb y at_173) 176 rfl (by decide) (by decide) fun T87 a87 g87 X87 E87 A87 D87 => ?_
    have g_a87 : n0 ≤ a87 := Nat.le_trans (o_osz O86) (Nat.le_of_eq g87)
    have O88 := O86.ext E87
    have F87_stacks : Fld Z T87.heap a87 s0 s66 "[I" .null := D87 (Or.inr (w hw 151 rfl)) (ty := (.array .int)) (by decide)
    have F87_x : Fld Z T87.heap a87 s0 "x" "[I" .null := D87 (Or.inr (w hw 153 rfl)) (ty := (.array .int)) (by decide)
    have F87_pointers : Fld Z T87.heap a87 s0 s60 "[J" .null := D87 (Or.inr (w hw 158 rfl)) (ty := (.array .long)) (by decide)
    have F87_registerWords : Fld Z T87.heap a87 s0 s47 "[J" .null := D87 (Or.inr (w hw 160 rfl)) (ty := (.array .long)) (by decide)
    have F87_declaration : Fld Z T87.heap a87 s0 s49 s18 .null := D87 (Or.inr (w hw 162 rfl)) (ty := (.object s19)) (by decide)
    have F87_image : Fld Z T87.heap a87 s0 "image" s22 .null := D87 (Or.inr (w hw 164 rfl)) (ty := (.object s3)) (by decide)
    have F87_imageSegments : Fld Z T87.heap a87 s0 s48 "I" (.int 0) := D87 (Or.inr (w hw 172 rfl)) (ty := .int) (by decide)
    have F87_segments : Fld Z T87.heap a87 s0 s35 s12 .null := D87 (Or.inr (w hw 175 rfl)) (ty := (.array (.object s1))) (by decide)
    have F87_access : Fld Z T87.heap a87 s0 s67 s14 .null := D87 (Or.inr (w hw 217 rfl)) (ty := (.array (.array (.object s16)))) (by decide)
    refine qD X87 hx (hb y at_176) rfl 177 rfl ?_
    refine o_aconst_null X87 hx (hb y at_177) 178 rfl ?_
    refine qa X87 hx (hb y at_178) rfl rfl 180 rfl ?_
    have f90 := (p74_0.ext E87)
    have f91 := (p74_1.ext E87)
    have l94 := (Nat.le_trans (Nat.le_trans E70.1 Kq72.1) Kq74.1)
    have ne93 := o_nl A68.lt l94 (Nat.le_of_eq g87)
    refine kN X87 hx hZ rfl hown (w hw 145 rfl) (w hw 146 rfl) (w hw 144 rfl) (w hw 147 rfl) (by decide) a87 [.null, (.ref a68)] [(.ref a87)] 1 (rm__init__23 l Z a0 T87.heap n0 hw H O88 a87 a68 A87 F87_access F87_declaration F87_image F87_imageSegments F87_pointers F87_registerWords F87_segments F87_stacks F87_x g_a87 f90 f91 (Ne.symm ne93)) (by decide) (by decide) rfl (by rw [hml]; rfl) (lenOf pd_13 rfl) (Nat.le_of_eq rfl) (hb y at_180) (by decide) (by decide) 183 rfl fun v89 T89 L89 X89 hQ89 => ?_
    obtain ⟨q89_0, qk89_0, rfl, Nq89, Kq89, le_q89_0, p89_0, p89_1, p89_2, p89_3, p89_4⟩ := hQ89
    have N95 := Fr.app N86 Nq89
    refine o_nV ?_
    refine qt X89 hx (hb y at_183) #[.val (.int x0), .val (.int x1), .val (.int x2), .val (.int x3), .val (.int 0), .val (.int ln), .val (.ref a1), .val (.ref a17), .val (.ref a33), .val (.ref a49), .val (.ref a63), .val (.ref a68), .val (.ref a87), .unset, .unset, .unset, .unset, .unset, .unset] rfl rfl 185 rfl ?_
    refine qI X89 hx (hb y at_185) rfl 186 rfl ?_
    refine o_bipush X89 hx (hb y at_186) (127 : Int32) rfl 188 rfl ?_
    refine o_iand X89 hx (hb y at_188) 189 rfl ?_
    refine qC X89 hx (hb y at_189) (2 : Int32) rfl 190 rfl ?_
    refine o_isub X89 hx (hb y at_190) 191 rfl ?_
    obtain ⟨mm, h_mm⟩ : ∃ z : Int32, z = ((x2 &&& (127 : Int32)) - (2 : Int32)) := ⟨_, rfl⟩
    rw [← h_mm]
    refine qs X89 hx (hb y at_191) #[.val (.int x0), .val (.int x1), .val (.int x2), .val (.int x3), .val (.int 0), .val (.int ln), .val (.ref a1), .val (.ref a17), .val (.ref a33), .val (.ref a49), .val (.ref a63), .val (.ref a68), .val (.ref a87), .val (.int mm), .unset, .unset, .unset, .unset, .unset] rfl 193 rfl ?_
    obtain ⟨v105, hr105, hS105, hE105⟩ : ∃ v : Value, v.isRef = true ∧ o_Met l (⟨s0, s74, s25⟩ : MethodName) B21 2 (some (.object s1)) [] (o_rm 0 0 0 0) Z #[(.ref a87), (.int x1)] T89.heap (o_R (some v) T89.heap) ∧ o_Met l (⟨s20, s73, s15⟩ : MethodName) B22 4 (some (.object s1)) [] (o_rm 0 0 0 0) Z #[(.ref a49), (.int 0), (.int x1)] T89.heap (o_R (some v) T89.heap) := by
      rcases o_cases0 x1 with ⟨q105a, q105b⟩ | q105 | ⟨q105a, q105b, q105c, q105d⟩ | ⟨q105a, q105b, q105c, q105d⟩
      · exact ⟨.null, rfl, rm_segment_neg l Z a0 T89.heap hw q105a, rm_expected_lo l Z a0 T89.heap hw q105b⟩
      · subst q105
        exact ⟨.null, rfl, rm_segment_nul l Z a0 T89.heap hw p89_1 p89_2 (by decide : ¬ ((0 : Int32) < (0 : Int32))) (by decide : (0 : Int32) < (66 : Int32)) rfl, rm_expected_lo l Z a0 T89.heap hw (by decide : (0 : Int32) < (1 : Int32))⟩
      · exact ⟨.null, rfl, rm_segment_nul l Z a0 T89.heap hw p89_1 p89_2 q105a q105b (by simp), rm_expected_hi l Z a0 T89.heap hw q105c q105d⟩
      · exact ⟨.null, rfl, rm_segment_out l Z a0 T89.heap hw p89_1 p89_2 q105a q105b, rm_expected_hi l Z a0 T89.heap hw q105c q105d⟩
    refine qa X89 hx (hb y at_193) rfl rfl 195 rfl ?_
    refine qI X89 hx (hb y at_195) rfl 196 rfl ?_
    refine qV X89 hx hZ hown (w hw 218 rfl) (w hw 219 rfl) (notFace_of_selects (args := #[]) (mvT hZ (w hw 221 rfl))) (w hw 221 rfl) (w hw 220 rfl) (w hw 144 rfl) (w hw 222 rfl) (by decide) a87 [(.int x1)] [] 0 (hS105) (by decide) (by decide) rfl rfl rfl p89_0 (by rw [hml]; rfl) (lenOf pd_14 rfl) (Nat.le_of_eq rfl) (hb y at_196) 199 rfl rfl (by decide) (by decide) fun T107 X107 e107 => ?_
    refine qa X107 hx (hb y at_199) rfl rfl 201 rfl ?_
    refine qi X107 hx (hb y at_201) rfl 203 rfl ?_
    refine qI X107 hx (hb y at_203) rfl 204 rfl ?_
    refine qS X107 hx hZ hown (w hw 223 rfl) (w hw 224 rfl) (w hw 225 rfl) (w hw 226 rfl) (by decide) [(.ref a49), (.int 0), (.int x1)] [v105] 1 (hE105) (by decide) (by decide) rfl rfl e107 (by rw [hml]; rfl) (lenOf pd_15 rfl) (o_cat hr105) (hb y at_204) 207 rfl rfl (by decide) (by decide) fun T109 X109 e109 => ?_
    refine qm X109 hx true (hb y at_207) hr105 hr105 (decide_eq_true rfl) 210 (by decide) (by decide) ?_
    refine qC X109 hx (hb y at_210) (1 : Int32) rfl 211 rfl ?_
    refine qG X109 hx (hb y at_211) 215 (by decide) (by decide) ?_
    refine qs X109 hx (hb y at_215) #[.val (.int x0), .val (.int x1), .val (.int x2), .val (.int x3), .val (.int 0), .val (.int ln), .val (.ref a1), .val (.ref a17), .val (.ref a33), .val (.ref a49), .val (.ref a63), .val (.ref a68), .val (.ref a87), .val (.int mm), .val (.int 1), .unset, .unset, .unset, .unset] rfl 217 rfl ?_
    obtain ⟨v110, hr110, hS110, hE110⟩ : ∃ v : Value, v.isRef = true ∧ o_Met l (⟨s0, s74, s25⟩ : MethodName) B21 2 (some (.object s1)) [] (o_rm 0 0 0 0) Z #[(.ref a87), (.int mm)] T89.heap (o_R (some v) T89.heap) ∧ o_Met l (⟨s20, s73, s15⟩ : MethodName) B22 4 (some (.object s1)) [] (o_rm 0 0 0 0) Z #[(.ref a49), (.int 0), (.int mm)] T89.heap (o_R (some v) T89.heap) := by
      rcases o_cases0 mm with ⟨q110a, q110b⟩ | q110 | ⟨q110a, q110b, q110c, q110d⟩ | ⟨q110a, q110b, q110c, q110d⟩
      · exact ⟨.null, rfl, rm_segment_neg l Z a0 T89.heap hw q110a, rm_expected_lo l Z a0 T89.heap hw q110b⟩
      · subst q110
        exact ⟨.null, rfl, rm_segment_nul l Z a0 T89.heap hw p89_1 p89_2 (by decide : ¬ ((0 : Int32) < (0 : Int32))) (by decide : (0 : Int32) < (66 : Int32)) rfl, rm_expected_lo l Z a0 T89.heap hw (by decide : (0 : Int32) < (1 : Int32))⟩
      · exact ⟨.null, rfl, rm_segment_nul l Z a0 T89.heap hw p89_1 p89_2 q110a q110b (by simp), rm_expected_hi l Z a0 T89.heap hw q110c q110d⟩
      · exact ⟨.null, rfl, rm_segment_out l Z a0 T89.heap hw p89_1 p89_2 q110a q110b, rm_expected_hi l Z a0 T89.heap hw q110c q110d⟩
    refine qa X109 hx (hb y at_217) rfl rfl 219 rfl ?_
    refine qi X109 hx (hb y at_219) rfl 221 rfl ?_
    refine qV X109 hx hZ hown (w hw 218 rfl) (w hw 219 rfl) (notFace_of_selects (args := #[]) (mvT hZ (w hw 221 rfl))) (w hw 221 rfl) (w hw 220 rfl) (w hw 144 rfl) (w hw 222 rfl) (by decide) a87 [(.int mm)] [] 0 (hS110) (by decide) (by decide) rfl rfl e109 p89_0 (by rw [hml]; rfl) (lenOf pd_14 rfl) (Nat.le_of_eq rfl) (hb y at_221) 224 rfl rfl (by decide) (by decide) fun T112 X112 e112 => ?_
    refine qa X112 hx (hb y at_224) rfl rfl 226 rfl ?_
    refine qi X112 hx (hb y at_226) rfl 228 rfl ?_
    refine qi X112 hx (hb y at_228) rfl 230 rfl ?_
    refine qS X112 hx hZ hown (w hw 223 rfl) (w hw 224 rfl) (w hw 225 rfl) (w hw 226 rfl) (by decide) [(.ref a49), (.int 0), (.int mm)] [v110] 1 (hE110) (by decide) (by decide) rfl rfl e112 (by rw [hml]; rfl) (lenOf pd_15 rfl) (o_cat hr110) (hb y at_230) 233 rfl rfl (by decide) (by decide) fun T114 X114 e114 => ?_
    refine qm X114 hx true (hb y at_233) hr110 hr110 (decide_eq_true rfl) 236 (by decide) (by decide) ?_
    refine qC X114 hx (hb y at_236) (1 : Int32) rfl 237 rfl ?_
    refine qG X114 hx (hb y at_237) 241 (by decide) (by decide) ?_
    refine qs X114 hx (hb y at_241) #[.val (.int x0), .val (.int x1), .val (.int x2), .val (.int x3), .val (.int 0), .val (.int ln), .val (.ref a1), .val (.ref a17), .val (.ref a33), .val (.ref a49), .val (.ref a63), .val (.ref a68), .val (.ref a87), .val (.int mm), .val (.int 1), .val (.int 1), .unset, .unset, .unset] rfl 243 rfl ?_
    refine qa X114 hx (hb y at_243) rfl rfl 245 rfl ?_
    refine qi X114 hx (hb y at_245) rfl 247 rfl ?_
    refine qV X114 hx hZ hown (w hw 218 rfl) (w hw 219 rfl) (notFace_of_selects (args := #[]) (mvT hZ (w hw 221 rfl))) (w hw 221 rfl) (w hw 220 rfl) (w hw 144 rfl) (w hw 222 rfl) (by decide) a87 [(.int 0)] [] 0 (rm_segment_nul l Z a0 T89.heap hw p89_1 p89_2 (by decide : ¬ ((0 : Int32) < (0 : Int32))) (by decide : (0 : Int32) < (66 : Int32)) rfl) (by decide) (by decide) rfl rfl e114 p89_0 (by rw [hml]; rfl) (lenOf pd_14 rfl) (Nat.le_of_eq rfl) (hb y at_247) 250 rfl rfl (by decide) (by decide) fun T116 X116 e116 => ?_
    refine qa X116 hx (hb y at_250) rfl rfl 252 rfl ?_
    refine qi X116 hx (hb y at_252) rfl 254 rfl ?_
    refine qi X116 hx (hb y at_254) rfl 256 rfl ?_
    refine qS X116 hx hZ hown (w hw 223 rfl) (w hw 224 rfl) (w hw 225 rfl) (w hw 226 rfl) (by decide) [(.ref a49), (.int 0), (.int 0)] [.null] 1 (rm_expected_lo l Z a0 T89.heap hw (by decide : (0 : Int32) < (1 : Int32))) (by decide) (by decide) rfl rfl e116 (by rw [hml]; rfl) (lenOf pd_15 rfl) (Nat.le_of_eq rfl) (hb y at_256) 259 rfl rfl (by decide) (by decide) fun T118 X118 e118 => ?_
    refine qm X118 hx true (hb y at_259) rfl rfl (decide_eq_true rfl) 262 (by decide) (by decide) ?_
    refine qC X118 hx (hb y at_262) (1 : Int32) rfl 263 rfl ?_
    refine qG X118 hx (hb y at_263) 267 (by decide) (by decide) ?_
    refine qs X118 hx (hb y at_267) #[.val (.int x0), .val (.int x1), .val (.int x2), .val (.int x3), .val (.int 0), .val (.int ln), .val (.ref a1), .val (.ref a17), .val (.ref a33), .val (.ref a49), .val (.ref a63), .val (.ref a68), .val (.ref a87), .val (.int mm), .val (.int 1), .val (.int 1), .val (.int 1), .unset, .unset] rfl 269 rfl ?_
    refine qa X118 hx (hb y at_269) rfl rfl 271 rfl ?_
    refine qi X118 hx (hb y at_271) rfl 273 rfl ?_
    refine o_bipush X118 hx (hb y at_273) (65 : Int32) rfl 275 rfl ?_
    refine o_iadd X118 hx (hb y at_275) 276 rfl ?_
    refine o_topI (65 : Int32) (by decide) ?_
    refine qV X118 hx hZ hown (w hw 218 rfl) (w hw 219 rfl) (notFace_of_selects (args := #[]) (mvT hZ (w hw 221 rfl))) (w hw 221 rfl) (w hw 220 rfl) (w hw 144 rfl) (w hw 222 rfl) (by decide) a87 [(.int 65)] [] 0 (rm_segment_nul l Z a0 T89.heap hw p89_1 p89_2 (by decide : ¬ ((65 : Int32) < (0 : Int32))) (by decide : (65 : Int32) < (66 : Int32)) rfl) (by decide) (by decide) rfl rfl e118 p89_0 (by rw [hml]; rfl) (lenOf pd_14 rfl) (Nat.le_of_eq rfl) (hb y at_276) 279 rfl rfl (by decide) (by decide) fun T120 X120 e120 => ?_
    refine o_ifnonnullN X120 hx (hb y at_279) 282 rfl ?_
    refine qC X120 hx (hb y at_282) (1 : Int32) rfl 283 rfl ?_
    refine qG X120 hx (hb y at_283) 287 (by decide) (by decide) ?_
    refine qs X120 hx (hb y at_287) #[.val (.int x0), .val (.int x1), .val (.int x2), .val (.int x3), .val (.int 0), .val (.int ln), .val (.ref a1), .val (.ref a17), .val (.ref a33), .val (.ref a49), .val (.ref a63), .val (.ref a68), .val (.ref a87), .val (.int mm), .val (.int 1), .val (.int 1), .val (.int 1), .val (.int 1), .unset] rfl 289 rfl ?_
    refine qa X120 hx (hb y at_289) rfl rfl 291 rfl ?_
    refine qi X120 hx (hb y at_291) rfl 293 rfl ?_
    refine o_bipush X120 hx (hb y at_293) (66 : Int32) rfl 295 rfl ?_
    refine o_iadd X120 hx (hb y at_295) 296 rfl ?_
    refine o_topI (66 : Int32) (by decide) ?_
    refine qV X120 hx hZ hown (w hw 218 rfl) (w hw 219 rfl) (notFace_of_selects (args := #[]) (mvT hZ (w hw 221 rfl))) (w hw 221 rfl) (w hw 220 rfl) (w hw 144 rfl) (w hw 222 rfl) (by decide) a87 [(.int 66)] [] 0 (rm_segment_out l Z a0 T89.heap hw p89_1 p89_2 (by decide : ¬ ((66 : Int32) < (0 : Int32))) (by decide : ¬ ((66 : Int32) < (66 : Int32)))) (by decide) (by decide) rfl rfl e120 p89_0 (by rw [hml]; rfl) (lenOf pd_14 rfl) (Nat.le_of_eq rfl) (hb y at_296) 299 rfl rfl (by decide) (by decide) fun T122 X122 e122 => ?_
    refine o_ifnonnullN X122 hx (hb y at_299) 302 rfl ?_
    refine qC X122 hx (hb y at_302) (1 : Int32) rfl 303 rfl ?_
    refine qG X122 hx (hb y at_303) 307 (by decide) (by decide) ?_
    refine qs X122 hx (hb y at_307) #[.val (.int x0), .val (.int x1), .val (.int x2), .val (.int x3), .val (.int 0), .val (.int ln), .val (.ref a1), .val (.ref a17), .val (.ref a33), .val (.ref a49), .val (.ref a63), .val (.ref a68), .val (.ref a87), .val (.int mm), .val (.int 1), .val (.int 1), .val (.int 1), .val (.int 1), .val (.int 1)] rfl 309 rfl ?_
    refine qi X122 hx (hb y at_309) rfl 311 rfl ?_
    refine qN X122 hx (hb y at_311) ((if0 _ _).trans (feq (by decide : ¬ ((1 : Int32) = (0 : Int32)))).1) 314 rfl ?_
    refine qi X122 hx (hb y at_314) rfl 316 rfl ?_
    refine qN X122 hx (hb y at_316) ((if0 _ _).trans (feq (by decide : ¬ ((1 : Int32) = (0 : Int32)))).1) 319 rfl ?_
    refine qi X122 hx (hb y at_319) rfl 321 rfl ?_
    refine qN X122 hx (hb y at_321) ((if0 _ _).trans (feq (by decide : ¬ ((1 : Int32) = (0 : Int32)))).1) 324 rfl ?_
    refine qi X122 hx (hb y at_324) rfl 326 rfl ?_
    refine qN X122 hx (hb y at_326) ((if0 _ _).trans (feq (by decide : ¬ ((1 : Int32) = (0 : Int32)))).1) 329 rfl ?_
    refine qi X122 hx (hb y at_329) rfl 331 rfl ?_
    refine qN X122 hx (hb y at_331) ((if0 _ _).trans (feq (by decide : ¬ ((1 : Int32) = (0 : Int32)))).1) 334 rfl ?_
    refine qC X122 hx (hb y at_334) (1 : Int32) rfl 335 rfl ?_
    refine qG X122 hx (hb y at_335) 339 (by decide) (by decide) ?_
    exact o_retZ X122 hx hk hret (hb y at_339) rfl ⟨rfl, N95⟩ (by decide) (by decide)
  · rw [q67]
    refine qi X65 hx (hb y at_113) rfl 115 rfl ?_
    refine qC X65 hx (hb y at_115) (1 : Int32) rfl 116 rfl ?_
    refine qn X65 hx (hb y at_116) (flt (by decide : ¬ ((1 : Int32) < (1 : Int32)))).1 119 rfl ?_
    refine qa X65 hx (hb y at_119) rfl rfl 121 rfl ?_
    refine qa X65 hx (hb y at_121) rfl rfl 123 rfl ?_
    have f124 := (((((f53.wr W52).wr W56).wr W60).ext E63).keep Kq65)
    refine o_kV X65 hx hZ hown (w hw 227 rfl) (w hw 228 rfl) (notFace_of_selects (args := #[]) (mvT hZ (w hw 230 rfl))) (w hw 230 rfl) (w hw 229 rfl) (w hw 32 rfl) (w hw 231 rfl) (by decide) a63 [(.ref a1)] [] 0 (rm_add_28 l Z a0 T65.heap n0 hw H O66 a63 a1 p65_0 p65_1 p65_2 p65_3 g_a63 f124) (by decide) (by decide) rfl p65_0 (by rw [hml]; rfl) (lenOf pd_20 rfl) (Nat.le_of_eq rfl) (hb y at_123) (by decide) (by decide) 126 rfl fun v123 T123 L123 X123 hQ123 => ?_
    obtain ⟨q123_0, qk123_0, rfl, Nq123, Kq123, le_q123_0, p123_0, p123_1, p123_2, p123_3, p123_4, p123_5, p123_6⟩ := hQ123
    have O125 := O66.keep Kq123 (allS g_a63 all0)
    have N125 := Fr.app N66 Nq123
    refine o_nR ?_
    refine o_pop X123 hx (hb y at_126) rfl 127 rfl ?_
    refine qi X123 hx (hb y at_127) rfl 129 rfl ?_
    refine qC X123 hx (hb y at_129) (2 : Int32) rfl 130 rfl ?_
    refine o_icmpY X123 hx (hb y at_130) (tlt (by decide : (1 : Int32) < (2 : Int32))).1 141 (by decide) (by decide) ?_
    refine qi X123 hx (hb y at_141) rfl 143 rfl ?_
    refine qC X123 hx (hb y at_143) (3 : Int32) rfl 144 rfl ?_
    refine o_icmpY X123 hx (hb y at_144) (tlt (by decide : (1 : Int32) < (3 : Int32))).1 155 (by decide) (by decide) ?_
    refine nO X123 hx hZ hown (w hw 100 rfl) (w hw 101 rfl) (w hw 102 rfl) rfl (hb y at_155) 158 rfl (by decide) (by decide) fun T126 a126 g126 X126 E126 A126 D126 => ?_
    have g_a126 : n0 ≤ a126 := Nat.le_trans (o_osz O125) (Nat.le_of_eq g126)
    have O127 := O125.ext E126
    have F126_numbers : Fld Z T126.heap a126 s3 "numbers" s59 .null := D126 (Or.inr (w hw 124 rfl)) (ty := (.object s64)) (by decide)
    have F126_processes : Fld Z T126.heap a126 s3 s72 s17 .null := D126 (Or.inr (w hw 127 rfl)) (ty := (.object s21)) (by decide)
    have F126_segments : Fld Z T126.heap a126 s3 s35 s17 .null := D126 (Or.inr (w hw 129 rfl)) (ty := (.object s21)) (by decide)
    refine qD X126 hx (hb y at_158) rfl 159 rfl ?_
    refine nO X126 hx hZ hown (w hw 30 rfl) (w hw 31 rfl) (w hw 32 rfl) rfl (hb y at_159) 162 rfl (by decide) (by decide) fun T128 a128 g128 X128 E128 A128 D128 => ?_
    have g_a128 : n0 ≤ a128 := Nat.le_trans (o_osz O127) (Nat.le_of_eq g128)
    have O129 := O127.ext E128
    have F128_modCount : Fld Z T128.heap a128 s24 s29 "I" (.int 0) := D128 (Or.inl (w hw 50 rfl)) (ty := .int) (by decide)
    have F128_elementData : Fld Z T128.heap a128 s6 s27 s10 .null := D128 (Or.inl (w hw 53 rfl)) (ty := (.array (.object s8))) (by decide)
    have F128_size : Fld Z T128.heap a128 s6 s26 "I" (.int 0) := D128 (Or.inl (w hw 91 rfl)) (ty := .int) (by decide)
    refine qD X128 hx (hb y at_162) rfl 163 rfl ?_
    refine kN X128 hx hZ rfl hown (w hw 33 rfl) (w hw 34 rfl) (w hw 32 rfl) (w hw 35 rfl) (by decide) a128 [] [(.ref a128), (.ref a126), (.ref a126)] 3 (rm__init__5 l Z a0 T128.heap n0 hw H O129 a128 A128 F128_modCount F128_elementData F128_size g_a128) (by decide) (by decide) rfl (by rw [hml]; rfl) (lenOf pd_4 rfl) (Nat.le_of_eq rfl) (hb y at_163) (by decide) (by decide) 166 rfl fun v130 T130 L130 X130 hQ130 => ?_
    obtain ⟨rfl, Nq130, Kq130, p130_0, p130_1, p130_2, p130_3⟩ := hQ130
    have O131 := O129.keep Kq130 (allS g_a128 all0)
    have N131 := Fr.app N125 Nq130
    refine o_nV ?_
    refine qa X130 hx (hb y at_166) rfl rfl 168 rfl ?_
    have f133 := ((A126.ext E128).keep Kq130)
    have ne134 := o_nl A126.lt (Nat.le_refl _) (Nat.le_of_eq g128)
    have f135 := ((F126_numbers.ext E128).keep Kq130 (ninS ne134 nin0))
    have f136 := ((F126_processes.ext E128).keep Kq130 (ninS ne134 nin0))
    have f137 := ((F126_segments.ext E128).keep Kq130 (ninS ne134 nin0))
    have f138 := (((p123_0.ext E126).ext E128).keep Kq130)
    have l140 := (Nat.le_trans (Nat.le_trans Kq65.1 Kq123.1) E126.1)
    have ne139 := o_nl A63.lt l140 (Nat.le_of_eq g128)
    have f141 := (((p123_2.ext E126).ext E128).keep Kq130 (ninS ne139 nin0))
    have f142 := (((p123_3.ext E126).ext E128).keep Kq130 (ninS ne139 nin0))
    have ne143 := o_nl p123_5.lt E126.1 (Nat.le_of_eq g128)
    have f144 := (((p123_4.ext E126).ext E128).keep Kq130 (ninS ne143 nin0))
    have f145 := (((p123_5.ext E126).ext E128).keep Kq130)
    have f146 := ((((f124.keep Kq123).ext E126).ext E128).keep Kq130)
    have l148 := (Nat.le_trans (Nat.le_trans (Nat.le_trans (Nat.le_trans (Nat.le_trans Kq3.1 E5.1) Kq7.1) Kq9.1) E17.1) Kq19.1)
    have ne147 := o_nl A1.lt l148 (Nat.le_of_eq g21)
    have l150 := (Nat.le_trans (Nat.le_trans (Nat.le_trans Kq3.1 E5.1) Kq7.1) Kq9.1)
    have ne149 := o_nl A1.lt l150 (Nat.le_of_eq g17)
    have l152 := (Nat.le_trans (Nat.le_trans (Nat.le_trans (Nat.le_trans (Nat.le_trans l148 E21.1) Kq23.1) Kq25.1) E33.1) Kq35.1)
    have ne151 := o_nl A1.lt l152 (Nat.le_of_eq g37)
    have l154 := (Nat.le_trans (Nat.le_trans (Nat.le_trans l148 E21.1) Kq23.1) Kq25.1)
    have ne153 := o_nl A1.lt l154 (Nat.le_of_eq g33)
    have l156 := (Nat.le_trans (Nat.le_trans (Nat.le_trans l152 E37.1) Kq39.1) Kq41.1)
    have ne155 := o_nl A1.lt l156 (Nat.le_of_eq g49)
    have l158 := (Nat.le_trans (Nat.le_trans (Nat.le_trans (Nat.le_trans l156 E49.1) (Nat.le_of_eq (Wr.size W52).symm)) (Nat.le_of_eq (Wr.size W56).symm)) (Nat.le_of_eq (Wr.size W60).symm))
    have ne157 := o_nl A1.lt l158 (Nat.le_of_eq g63)
    have l160 := (Nat.le_trans (Nat.le_trans (Nat.le_trans (Nat.le_trans l158 E63.1) Kq65.1) Kq123.1) E126.1)
    have ne159 := o_nl A1.lt l160 (Nat.le_of_eq g128)
    have f161 := ((((((((((((((((((((p9_1.ext E17).keep Kq19 nin0).ext E21).keep Kq23 (ninS ne147 nin0)).keep Kq25 (ninS ne149 nin0)).ext E33).keep Kq35 nin0).ext E37).keep Kq39 (ninS ne151 nin0)).keep Kq41 (ninS ne153 nin0)).ext E49).other W52 (Or.inl ne155)).other W56 (Or.inl ne155)).other W60 (Or.inl ne155)).ext E63).keep Kq65 (ninS ne157 nin0)).keep Kq123 (ninS ne157 nin0)).ext E126).ext E128).keep Kq130 (ninS ne159 nin0))
    have f162 := (((((((((((((((((((((((p3_0.ext E5).keep Kq7).keep Kq9).ext E17).keep Kq19).ext E21).keep Kq23).keep Kq25).ext E33).keep Kq35).ext E37).keep Kq39).keep Kq41).ext E49).wr W52).wr W56).wr W60).ext E63).keep Kq65).keep Kq123).ext E126).ext E128).keep Kq130)
    have ne163 := o_nl p3_0.lt (Nat.le_refl _) (Nat.le_of_eq g5)
    have ne165 := o_nl A1.lt (Nat.le_refl _) le_q3_0
    have l167 := (Nat.le_trans (Nat.le_trans (Nat.le_trans (Nat.le_trans E5.1 Kq7.1) Kq9.1) E17.1) Kq19.1)
    have ne166 := o_nl p3_0.lt l167 (Nat.le_of_eq g21)
    have l169 := (Nat.le_trans (Nat.le_trans E5.1 Kq7.1) Kq9.1)
    have ne168 := o_nl p3_0.lt l169 (Nat.le_of_eq g17)
    have l171 := (Nat.le_trans (Nat.le_trans (Nat.le_trans (Nat.le_trans (Nat.le_trans l167 E21.1) Kq23.1) Kq25.1) E33.1) Kq35.1)
    have ne170 := o_nl p3_0.lt l171 (Nat.le_of_eq g37)
    have l173 := (Nat.le_trans (Nat.le_trans (Nat.le_trans l167 E21.1) Kq23.1) Kq25.1)
    have ne172 := o_nl p3_0.lt l173 (Nat.le_of_eq g33)
    have l175 := (Nat.le_trans (Nat.le_trans (Nat.le_trans l171 E37.1) Kq39.1) Kq41.1)
    have ne174 := o_nl p3_0.lt l175 (Nat.le_of_eq g49)
    have l177 := (Nat.le_trans (Nat.le_trans (Nat.le_trans (Nat.le_trans l175 E49.1) (Nat.le_of_eq (Wr.size W52).symm)) (Nat.le_of_eq (Wr.size W56).symm)) (Nat.le_of_eq (Wr.size W60).symm))
    have ne176 := o_nl p3_0.lt l177 (Nat.le_of_eq g63)
    have l179 := (Nat.le_trans (Nat.le_trans (Nat.le_trans (Nat.le_trans l177 E63.1) Kq65.1) Kq123.1) E126.1)
    have ne178 := o_nl p3_0.lt l179 (Nat.le_of_eq g128)
    have f180 := (((((((((((((((((((((((p3_1.ext E5).keep Kq7 (ninS ne163 nin0)).keep Kq9 (ninS (Ne.symm ne165) nin0)).ext E17).keep Kq19 nin0).ext E21).keep Kq23 (ninS ne166 nin0)).keep Kq25 (ninS ne168 nin0)).ext E33).keep Kq35 nin0).ext E37).keep Kq39 (ninS ne170 nin0)).keep Kq41 (ninS ne172 nin0)).ext E49).other W52 (Or.inl ne174)).other W56 (Or.inl ne174)).other W60 (Or.inl ne174)).ext E63).keep Kq65 (ninS ne176 nin0)).keep Kq123 (ninS ne176 nin0)).ext E126).ext E128).keep Kq130 (ninS ne178 nin0))
    have f181 := (((((((((((((((((((((((p3_2.ext E5).keep Kq7 (ninS ne163 nin0)).keep Kq9 (ninS (Ne.symm ne165) nin0)).ext E17).keep Kq19 nin0).ext E21).keep Kq23 (ninS ne166 nin0)).keep Kq25 (ninS ne168 nin0)).ext E33).keep Kq35 nin0).ext E37).keep Kq39 (ninS ne170 nin0)).keep Kq41 (ninS ne172 nin0)).ext E49).other W52 (Or.inl ne174)).other W56 (Or.inl ne174)).other W60 (Or.inl ne174)).ext E63).keep Kq65 (ninS ne176 nin0)).keep Kq123 (ninS ne176 nin0)).ext E126).ext E128).keep Kq130 (ninS ne178 nin0))
    have f182 := (((((((((((((((((((((((p3_3.ext E5).keep Kq7 (ninS ne163 nin0)).keep Kq9 (ninS (Ne.symm ne165) nin0)).ext E17).keep Kq19 nin0).ext E21).keep Kq23 (ninS ne166 nin0)).keep Kq25 (ninS ne168 nin0)).ext E33).keep Kq35 nin0).ext E37).keep Kq39 (ninS ne170 nin0)).keep Kq41 (ninS ne172 nin0)).ext E49).other W52 (Or.inl ne174)).other W56 (Or.inl ne174)).other W60 (Or.inl ne174)).ext E63).keep Kq65 (ninS ne176 nin0)).keep Kq123 (ninS ne176 nin0)).ext E126).ext E128).keep Kq130 (ninS ne178 nin0))
    have f183 := (((((((((((((((((((((((p3_4.ext E5).keep Kq7 (ninS ne163 nin0)).keep Kq9 (ninS (Ne.symm ne165) nin0)).ext E17).keep Kq19 nin0).ext E21).keep Kq23 (ninS ne166 nin0)).keep Kq25 (ninS ne168 nin0)).ext E33).keep Kq35 nin0).ext E37).keep Kq39 (ninS ne170 nin0)).keep Kq41 (ninS ne172 nin0)).ext E49).other W52 (Or.inl ne174)).other W56 (Or.inl ne174)).other W60 (Or.inl ne174)).ext E63).keep Kq65 (ninS ne176 nin0)).keep Kq123 (ninS ne176 nin0)).ext E126).ext E128).keep Kq130 (ninS ne178 nin0))
    have ne184 := o_nl p3_6.lt (Nat.le_refl _) (Nat.le_of_eq g5)
    have ne186 := o_nl A1.lt (Nat.le_refl _) le_q3_1
    have ne187 := o_nl p3_6.lt l167 (Nat.le_of_eq g21)
    have ne188 := o_nl p3_6.lt l169 (Nat.le_of_eq g17)
    have ne189 := o_nl p3_6.lt l171 (Nat.le_of_eq g37)
    have ne190 := o_nl p3_6.lt l173 (Nat.le_of_eq g33)
    have ne191 := o_nl p3_6.lt l175 (Nat.le_of_eq g49)
    have ne192 := o_nl p3_6.lt l177 (Nat.le_of_eq g63)
    have ne193 := o_nl p3_6.lt l179 (Nat.le_of_eq g128)
    have f194 := (((((((((((((((((((((((p3_5.ext E5).keep Kq7 (ninS ne184 nin0)).keep Kq9 (ninS (Ne.symm ne186) nin0)).ext E17).keep Kq19 nin0).ext E21).keep Kq23 (ninS ne187 nin0)).keep Kq25 (ninS ne188 nin0)).ext E33).keep Kq35 nin0).ext E37).keep Kq39 (ninS ne189 nin0)).keep Kq41 (ninS ne190 nin0)).ext E49).other W52 ne191).other W56 ne191).other W60 ne191).ext E63).keep Kq65 (ninS ne192 nin0)).keep Kq123 (ninS ne192 nin0)).ext E126).ext E128).keep Kq130 (ninS ne193 nin0))
    have f195 := (((((((((((((((((((((((p3_6.ext E5).keep Kq7).keep Kq9).ext E17).keep Kq19).ext E21).keep Kq23).keep Kq25).ext E33).keep Kq35).ext E37).keep Kq39).keep Kq41).ext E49).wr W52).wr W56).wr W60).ext E63).keep Kq65).keep Kq123).ext E126).ext E128).keep Kq130)
    have l198 := (Nat.le_trans Kq65.1 Kq123.1)
    have ne197 := o_nl A63.lt l198 (Nat.le_of_eq g126)
    have ne200 := o_nl p123_5.lt (Nat.le_refl _) (Nat.le_of_eq g126)
    have l203 := (Nat.le_trans (Nat.le_trans (Nat.le_trans l158 E63.1) Kq65.1) Kq123.1)
    have ne202 := o_nl A1.lt l203 (Nat.le_of_eq g126)
    have l206 := (Nat.le_trans (Nat.le_trans (Nat.le_trans l177 E63.1) Kq65.1) Kq123.1)
    have ne205 := o_nl p3_0.lt l206 (Nat.le_of_eq g126)
    have ne208 := o_nl p3_6.lt l206 (Nat.le_of_eq g126)
    refine kN X130 hx hZ rfl hown (w hw 103 rfl) (w hw 104 rfl) (w hw 102 rfl) (w hw 105 rfl) (by decide) a126 [(.ref a128), (.ref a63)] [(.ref a126)] 1 (rm__init__33 l Z a0 T130.heap n0 hw H O131 a126 a128 a63 q123_0 a1 q3_0 q3_1 qk123_0 qk3_0 f133 f135 f136 f137 g_a126 p130_0 p130_3 f138 f141 f142 f144 f145 f146 f161 f162 f180 f181 f182 f183 g_q3_0 f194 f195 ne134 (Ne.symm ne197) (Ne.symm ne200) (Ne.symm ne202) (Ne.symm ne205) (Ne.symm ne208)) (by decide) (by decide) rfl (by rw [hml]; rfl) (lenOf pd_10 rfl) (Nat.le_of_eq rfl) (hb y at_168) (by decide) (by decide) 171 rfl fun v132 T132 L132 X132 hQ132 => ?_
    obtain ⟨q132_0, rfl, Nq132, Kq132, le_q132_0, p132_0, p132_1, p132_2, p132_3, p132_4, p132_5, p132_6, p132_7, p132_8, p132_9⟩ := hQ132
    have O209 := O131.keep Kq132 (allS g_a126 (allS g_q3_0 all0))
    have N209 := Fr.app N131 Nq132
    refine o_nV ?_
    refine qt X132 hx (hb y at_171) #[.val (.int x0), .val (.int x1), .val (.int x2), .val (.int x3), .val (.int 1), .val (.int ln), .val (.ref a1), .val (.ref a17), .val (.ref a33), .val (.ref a49), .val (.ref a63), .val (.ref a126), .unset, .unset, .unset, .unset, .unset, .unset, .unset] rfl rfl 173 rfl ?_
    refine nO X132 hx hZ hown (w hw 142 rfl) (w hw 143 rfl) (w hw 144 rfl) rfl (hb y at_173) 176 rfl (by decide) (by decide) fun T210 a210 g210 X210 E210 A210 D210 => ?_
    have g_a210 : n0 ≤ a210 := Nat.le_trans (o_osz O209) (Nat.le_of_eq g210)
    have O211 := O209.ext E210
    have F210_stacks : Fld Z T210.heap a210 s0 s66 "[I" .null := D210 (Or.inr (w hw 151 rfl)) (ty := (.array .int)) (by decide)
    have F210_x : Fld Z T210.heap a210 s0 "x" "[I" .null := D210 (Or.inr (w hw 153 rfl)) (ty := (.array .int)) (by decide)
    have F210_pointers : Fld Z T210.heap a210 s0 s60 "[J" .null := D210 (Or.inr (w hw 158 rfl)) (ty := (.array .long)) (by decide)
    have F210_registerWords : Fld Z T210.heap a210 s0 s47 "[J" .null := D210 (Or.inr (w hw 160 rfl)) (ty := (.array .long)) (by decide)
    have F210_declaration : Fld Z T210.heap a210 s0 s49 s18 .null := D210 (Or.inr (w hw 162 rfl)) (ty := (.object s19)) (by decide)
    have F210_image : Fld Z T210.heap a210 s0 "image" s22 .null := D210 (Or.inr (w hw 164 rfl)) (ty := (.object s3)) (by decide)
    have F210_imageSegments : Fld Z T210.heap a210 s0 s48 "I" (.int 0) := D210 (Or.inr (w hw 172 rfl)) (ty := .int) (by decide)
    have F210_segments : Fld Z T210.heap a210 s0 s35 s12 .null := D210 (Or.inr (w hw 175 rfl)) (ty := (.array (.object s1))) (by decide)
    have F210_access : Fld Z T210.heap a210 s0 s67 s14 .null := D210 (Or.inr (w hw 217 rfl)) (ty := (.array (.array (.object s16)))) (by decide)
    have F210_lastSegment : Fld Z T210.heap a210 s0 s53 "I" (.int 0) := D210 (Or.inl (w hw 423 rfl)) (ty := .int) (by decide)
    refine qD X210 hx (hb y at_176) rfl 177 rfl ?_
    refine o_aconst_null X210 hx (hb y at_177) 178 rfl ?_
    refine qa X210 hx (hb y at_178) rfl rfl 180 rfl ?_
    have f213 := (p132_0.ext E210)
    have f214 := (p132_1.ext E210)
    have f215 := (p132_7.ext E210)
    have f216 := (p132_8.ext E210)
    have f217 := (p132_9.ext E210)
    have f218 := ((f146.keep Kq132).ext E210)
    have l221 := (Nat.le_trans (Nat.le_trans E128.1 Kq130.1) Kq132.1)
    have ne220 := o_nl A126.lt l221 (Nat.le_of_eq g210)
    have ne223 := o_nl p132_7.lt (Nat.le_refl _) (Nat.le_of_eq g210)
    refine kN X210 hx hZ rfl hown (w hw 145 rfl) (w hw 146 rfl) (w hw 144 rfl) (w hw 147 rfl) (by decide) a210 [.null, (.ref a126)] [(.ref a210)] 1 (rm__init__59 l Z a0 T210.heap n0 hw H O211 a210 a126 q132_0 a1 A210 F210_access F210_declaration F210_image F210_imageSegments F210_lastSegment F210_pointers F210_registerWords F210_segments F210_stacks F210_x g_a210 f213 f214 f215 f216 f217 f218 (Ne.symm ne220) (Ne.symm ne223)) (by decide) (by decide) rfl (by rw [hml]; rfl) (lenOf pd_13 rfl) (Nat.le_of_eq rfl) (hb y at_180) (by decide) (by decide) 183 rfl fun v212 T212 L212 X212 hQ212 => ?_
    obtain ⟨q212_0, qk212_0, rfl, Nq212, Kq212, le_q212_0, p212_0, p212_1, p212_2, p212_3, p212_4⟩ := hQ212
    have N224 := Fr.app N209 Nq212
    refine o_nV ?_
    refine qt X212 hx (hb y at_183) #[.val (.int x0), .val (.int x1), .val (.int x2), .val (.int x3), .val (.int 1), .val (.int ln), .val (.ref a1), .val (.ref a17), .val (.ref a33), .val (.ref a49), .val (.ref a63), .val (.ref a126), .val (.ref a210), .unset, .unset, .unset, .unset, .unset, .unset] rfl rfl 185 rfl ?_
    refine qI X212 hx (hb y at_185) rfl 186 rfl ?_
    refine o_bipush X212 hx (hb y at_186) (127 : Int32) rfl 188 rfl ?_
    refine o_iand X212 hx (hb y at_188) 189 rfl ?_
    refine qC X212 hx (hb y at_189) (2 : Int32) rfl 190 rfl ?_
    refine o_isub X212 hx (hb y at_190) 191 rfl ?_
    obtain ⟨mm, h_mm⟩ : ∃ z : Int32, z = ((x2 &&& (127 : Int32)) - (2 : Int32)) := ⟨_, rfl⟩
    rw [← h_mm]
    refine qs X212 hx (hb y at_191) #[.val (.int x0), .val (.int x1), .val (.int x2), .val (.int x3), .val (.int 1), .val (.int ln), .val (.ref a1), .val (.ref a17), .val (.ref a33), .val (.ref a49), .val (.ref a63), .val (.ref a126), .val (.ref a210), .val (.int mm), .unset, .unset, .unset, .unset, .unset] rfl 193 rfl ?_
    have l226 := (Nat.le_trans (Nat.le_trans (Nat.le_of_eq (Wr.size W52).symm) (Nat.le_of_eq (Wr.size W56).symm)) (Nat.le_of_eq (Wr.size W60).symm))
    have ne225 := o_nl A49.lt l226 (Nat.le_of_eq g63)
    have l228 := (Nat.le_trans (Nat.le_trans (Nat.le_trans (Nat.le_trans l226 E63.1) Kq65.1) Kq123.1) E126.1)
    have ne227 := o_nl A49.lt l228 (Nat.le_of_eq g128)
    have l230 := (Nat.le_trans (Nat.le_trans (Nat.le_trans l226 E63.1) Kq65.1) Kq123.1)
    have ne229 := o_nl A49.lt l230 (Nat.le_of_eq g126)
    have l232 := (Nat.le_trans (Nat.le_trans (Nat.le_trans l228 E128.1) Kq130.1) Kq132.1)
    have ne231 := o_nl A49.lt l232 (Nat.le_of_eq g210)
    have f233 := (((((((((V60.ext E63).keep Kq65 (ninS ne225 nin0)).keep Kq123 (ninS ne225 nin0)).ext E126).ext E128).keep Kq130 (ninS ne227 nin0)).keep Kq132 (ninS ne229 (ninS (Ne.symm ne174) nin0))).ext E210).keep Kq212 (ninS ne231 nin0))
    obtain ⟨v234, hr234, hS234, hE234⟩ : ∃ v : Value, v.isRef = true ∧ o_Met l (⟨s0, s74, s25⟩ : MethodName) B21 2 (some (.object s1)) [] (o_rm 0 0 0 0) Z #[(.ref a210), (.int x1)] T212.heap (o_R (some v) T212.heap) ∧ o_Met l (⟨s20, s73, s15⟩ : MethodName) B22 4 (some (.object s1)) [] (o_rm 0 0 0 0) Z #[(.ref a49), (.int 1), (.int x1)] T212.heap (o_R (some v) T212.heap) := by
      rcases o_cases1 x1 with ⟨q234a, q234b⟩ | q234 | q234 | ⟨q234a, q234b, q234c, q234d⟩ | ⟨q234a, q234b, q234c, q234d⟩
      · exact ⟨.null, rfl, rm_segment_neg l Z a0 T212.heap hw q234a, rm_expected_lo l Z a0 T212.heap hw q234b⟩
      · subst q234
        exact ⟨.null, rfl, rm_segment_nul l Z a0 T212.heap hw p212_1 p212_2 (by decide : ¬ ((0 : Int32) < (0 : Int32))) (by decide : (0 : Int32) < (67 : Int32)) rfl, rm_expected_lo l Z a0 T212.heap hw (by decide : (0 : Int32) < (1 : Int32))⟩
      · subst q234
        exact ⟨(.ref a1), rfl, rm_segment_ref l Z a0 T212.heap hw p212_1 p212_2 (by decide : ¬ ((1 : Int32) < (0 : Int32))) (by decide : (1 : Int32) < (67 : Int32)) rfl, rm_expected_in l Z a0 T212.heap hw f233 (by decide : ¬ ((1 : Int32) < (1 : Int32))) (by decide : ¬ ((1 : Int32) < (1 : Int32))) (by decide) rfl⟩
      · exact ⟨.null, rfl, rm_segment_nul l Z a0 T212.heap hw p212_1 p212_2 q234a q234b (o_far q234d 2 rfl (by decide) (by decide)), rm_expected_hi l Z a0 T212.heap hw q234c q234d⟩
      · exact ⟨.null, rfl, rm_segment_out l Z a0 T212.heap hw p212_1 p212_2 q234a q234b, rm_expected_hi l Z a0 T212.heap hw q234c q234d⟩
    refine qa X212 hx (hb y at_193) rfl rfl 195 rfl ?_
    refine qI X212 hx (hb y at_195) rfl 196 rfl ?_
    refine qV X212 hx hZ hown (w hw 218 rfl) (w hw 219 rfl) (notFace_of_selects (args := #[]) (mvT hZ (w hw 221 rfl))) (w hw 221 rfl) (w hw 220 rfl) (w hw 144 rfl) (w hw 222 rfl) (by decide) a210 [(.int x1)] [] 0 (hS234) (by decide) (by decide) rfl rfl rfl p212_0 (by rw [hml]; rfl) (lenOf pd_14 rfl) (Nat.le_of_eq rfl) (hb y at_196) 199 rfl rfl (by decide) (by decide) fun T236 X236 e236 => ?_
    refine qa X236 hx (hb y at_199) rfl rfl 201 rfl ?_
    refine qi X236 hx (hb y at_201) rfl 203 rfl ?_
    refine qI X236 hx (hb y at_203) rfl 204 rfl ?_
    refine qS X236 hx hZ hown (w hw 223 rfl) (w hw 224 rfl) (w hw 225 rfl) (w hw 226 rfl) (by decide) [(.ref a49), (.int 1), (.int x1)] [v234] 1 (hE234) (by decide) (by decide) rfl rfl e236 (by rw [hml]; rfl) (lenOf pd_15 rfl) (o_cat hr234) (hb y at_204) 207 rfl rfl (by decide) (by decide) fun T238 X238 e238 => ?_
    refine qm X238 hx true (hb y at_207) hr234 hr234 (decide_eq_true rfl) 210 (by decide) (by decide) ?_
    refine qC X238 hx (hb y at_210) (1 : Int32) rfl 211 rfl ?_
    refine qG X238 hx (hb y at_211) 215 (by decide) (by decide) ?_
    refine qs X238 hx (hb y at_215) #[.val (.int x0), .val (.int x1), .val (.int x2), .val (.int x3), .val (.int 1), .val (.int ln), .val (.ref a1), .val (.ref a17), .val (.ref a33), .val (.ref a49), .val (.ref a63), .val (.ref a126), .val (.ref a210), .val (.int mm), .val (.int 1), .unset, .unset, .unset, .unset] rfl 217 rfl ?_
    obtain ⟨v239, hr239, hS239, hE239⟩ : ∃ v : Value, v.isRef = true ∧ o_Met l (⟨s0, s74, s25⟩ : MethodName) B21 2 (some (.object s1)) [] (o_rm 0 0 0 0) Z #[(.ref a210), (.int mm)] T212.heap (o_R (some v) T212.heap) ∧ o_Met l (⟨s20, s73, s15⟩ : MethodName) B22 4 (some (.object s1)) [] (o_rm 0 0 0 0) Z #[(.ref a49), (.int 1), (.int mm)] T212.heap (o_R (some v) T212.heap) := by
      rcases o_cases1 mm with ⟨q239a, q239b⟩ | q239 | q239 | ⟨q239a, q239b, q239c, q239d⟩ | ⟨q239a, q239b, q239c, q239d⟩
      · exact ⟨.null, rfl, rm_segment_neg l Z a0 T212.heap hw q239a, rm_expected_lo l Z a0 T212.heap hw q239b⟩
      · subst q239
        exact ⟨.null, rfl, rm_segment_nul l Z a0 T212.heap hw p212_1 p212_2 (by decide : ¬ ((0 : Int32) < (0 : Int32))) (by decide : (0 : Int32) < (67 : Int32)) rfl, rm_expected_lo l Z a0 T212.heap hw (by decide : (0 : Int32) < (1 : Int32))⟩
      · subst q239
        exact ⟨(.ref a1), rfl, rm_segment_ref l Z a0 T212.heap hw p212_1 p212_2 (by decide : ¬ ((1 : Int32) < (0 : Int32))) (by decide : (1 : Int32) < (67 : Int32)) rfl, rm_expected_in l Z a0 T212.heap hw f233 (by decide : ¬ ((1 : Int32) < (1 : Int32))) (by decide : ¬ ((1 : Int32) < (1 : Int32))) (by decide) rfl⟩
      · exact ⟨.null, rfl, rm_segment_nul l Z a0 T212.heap hw p212_1 p212_2 q239a q239b (o_far q239d 2 rfl (by decide) (by decide)), rm_expected_hi l Z a0 T212.heap hw q239c q239d⟩
      · exact ⟨.null, rfl, rm_segment_out l Z a0 T212.heap hw p212_1 p212_2 q239a q239b, rm_expected_hi l Z a0 T212.heap hw q239c q239d⟩
    refine qa X238 hx (hb y at_217) rfl rfl 219 rfl ?_
    refine qi X238 hx (hb y at_219) rfl 221 rfl ?_
    refine qV X238 hx hZ hown (w hw 218 rfl) (w hw 219 rfl) (notFace_of_selects (args := #[]) (mvT hZ (w hw 221 rfl))) (w hw 221 rfl) (w hw 220 rfl) (w hw 144 rfl) (w hw 222 rfl) (by decide) a210 [(.int mm)] [] 0 (hS239) (by decide) (by decide) rfl rfl e238 p212_0 (by rw [hml]; rfl) (lenOf pd_14 rfl) (Nat.le_of_eq rfl) (hb y at_221) 224 rfl rfl (by decide) (by decide) fun T241 X241 e241 => ?_
    refine qa X241 hx (hb y at_224) rfl rfl 226 rfl ?_
    refine qi X241 hx (hb y at_226) rfl 228 rfl ?_
    refine qi X241 hx (hb y at_228) rfl 230 rfl ?_
    refine qS X241 hx hZ hown (w hw 223 rfl) (w hw 224 rfl) (w hw 225 rfl) (w hw 226 rfl) (by decide) [(.ref a49), (.int 1), (.int mm)] [v239] 1 (hE239) (by decide) (by decide) rfl rfl e241 (by rw [hml]; rfl) (lenOf pd_15 rfl) (o_cat hr239) (hb y at_230) 233 rfl rfl (by decide) (by decide) fun T243 X243 e243 => ?_
    refine qm X243 hx true (hb y at_233) hr239 hr239 (decide_eq_true rfl) 236 (by decide) (by decide) ?_
    refine qC X243 hx (hb y at_236) (1 : Int32) rfl 237 rfl ?_
    refine qG X243 hx (hb y at_237) 241 (by decide) (by decide) ?_
    refine qs X243 hx (hb y at_241) #[.val (.int x0), .val (.int x1), .val (.int x2), .val (.int x3), .val (.int 1), .val (.int ln), .val (.ref a1), .val (.ref a17), .val (.ref a33), .val (.ref a49), .val (.ref a63), .val (.ref a126), .val (.ref a210), .val (.int mm), .val (.int 1), .val (.int 1), .unset, .unset, .unset] rfl 243 rfl ?_
    refine qa X243 hx (hb y at_243) rfl rfl 245 rfl ?_
    refine qi X243 hx (hb y at_245) rfl 247 rfl ?_
    refine qV X243 hx hZ hown (w hw 218 rfl) (w hw 219 rfl) (notFace_of_selects (args := #[]) (mvT hZ (w hw 221 rfl))) (w hw 221 rfl) (w hw 220 rfl) (w hw 144 rfl) (w hw 222 rfl) (by decide) a210 [(.int 1)] [] 0 (rm_segment_ref l Z a0 T212.heap hw p212_1 p212_2 (by decide : ¬ ((1 : Int32) < (0 : Int32))) (by decide : (1 : Int32) < (67 : Int32)) rfl) (by decide) (by decide) rfl rfl e243 p212_0 (by rw [hml]; rfl) (lenOf pd_14 rfl) (Nat.le_of_eq rfl) (hb y at_247) 250 rfl rfl (by decide) (by decide) fun T245 X245 e245 => ?_
    refine qa X245 hx (hb y at_250) rfl rfl 252 rfl ?_
    refine qi X245 hx (hb y at_252) rfl 254 rfl ?_
    refine qi X245 hx (hb y at_254) rfl 256 rfl ?_
    refine qS X245 hx hZ hown (w hw 223 rfl) (w hw 224 rfl) (w hw 225 rfl) (w hw 226 rfl) (by decide) [(.ref a49), (.int 1), (.int 1)] [(.ref a1)] 1 (rm_expected_in l Z a0 T212.heap hw f233 (by decide : ¬ ((1 : Int32) < (1 : Int32))) (by decide : ¬ ((1 : Int32) < (1 : Int32))) (by decide) rfl) (by decide) (by decide) rfl rfl e245 (by rw [hml]; rfl) (lenOf pd_15 rfl) (Nat.le_of_eq rfl) (hb y at_256) 259 rfl rfl (by decide) (by decide) fun T247 X247 e247 => ?_
    refine qm X247 hx true (hb y at_259) rfl rfl (decide_eq_true rfl) 262 (by decide) (by decide) ?_
    refine qC X247 hx (hb y at_262) (1 : Int32) rfl 263 rfl ?_
    refine qG X247 hx (hb y at_263) 267 (by decide) (by decide) ?_
    refine qs X247 hx (hb y at_267) #[.val (.int x0), .val (.int x1), .val (.int x2), .val (.int x3), .val (.int 1), .val (.int ln), .val (.ref a1), .val (.ref a17), .val (.ref a33), .val (.ref a49), .val (.ref a63), .val (.ref a126), .val (.ref a210), .val (.int mm), .val (.int 1), .val (.int 1), .val (.int 1), .unset, .unset] rfl 269 rfl ?_
    refine qa X247 hx (hb y at_269) rfl rfl 271 rfl ?_
    refine qi X247 hx (hb y at_271) rfl 273 rfl ?_
    refine o_bipush X247 hx (hb y at_273) (65 : Int32) rfl 275 rfl ?_
    refine o_iadd X247 hx (hb y at_275) 276 rfl ?_
    refine o_topI (66 : Int32) (by decide) ?_
    refine qV X247 hx hZ hown (w hw 218 rfl) (w hw 219 rfl) (notFace_of_selects (args := #[]) (mvT hZ (w hw 221 rfl))) (w hw 221 rfl) (w hw 220 rfl) (w hw 144 rfl) (w hw 222 rfl) (by decide) a210 [(.int 66)] [] 0 (rm_segment_nul l Z a0 T212.heap hw p212_1 p212_2 (by decide : ¬ ((66 : Int32) < (0 : Int32))) (by decide : (66 : Int32) < (67 : Int32)) rfl) (by decide) (by decide) rfl rfl e247 p212_0 (by rw [hml]; rfl) (lenOf pd_14 rfl) (Nat.le_of_eq rfl) (hb y at_276) 279 rfl rfl (by decide) (by decide) fun T249 X249 e249 => ?_
    refine o_ifnonnullN X249 hx (hb y at_279) 282 rfl ?_
    refine qC X249 hx (hb y at_282) (1 : Int32) rfl 283 rfl ?_
    refine qG X249 hx (hb y at_283) 287 (by decide) (by decide) ?_
    refine qs X249 hx (hb y at_287) #[.val (.int x0), .val (.int x1), .val (.int x2), .val (.int x3), .val (.int 1), .val (.int ln), .val (.ref a1), .val (.ref a17), .val (.ref a33), .val (.ref a49), .val (.ref a63), .val (.ref a126), .val (.ref a210), .val (.int mm), .val (.int 1), .val (.int 1), .val (.int 1), .val (.int 1), .unset] rfl 289 rfl ?_
    refine qa X249 hx (hb y at_289) rfl rfl 291 rfl ?_
    refine qi X249 hx (hb y at_291) rfl 293 rfl ?_
    refine o_bipush X249 hx (hb y at_293) (66 : Int32) rfl 295 rfl ?_
    refine o_iadd X249 hx (hb y at_295) 296 rfl ?_
    refine o_topI (67 : Int32) (by decide) ?_
    refine qV X249 hx hZ hown (w hw 218 rfl) (w hw 219 rfl) (notFace_of_selects (args := #[]) (mvT hZ (w hw 221 rfl))) (w hw 221 rfl) (w hw 220 rfl) (w hw 144 rfl) (w hw 222 rfl) (by decide) a210 [(.int 67)] [] 0 (rm_segment_out l Z a0 T212.heap hw p212_1 p212_2 (by decide : ¬ ((67 : Int32) < (0 : Int32))) (by decide : ¬ ((67 : Int32) < (67 : Int32)))) (by decide) (by decide) rfl rfl e249 p212_0 (by rw [hml]; rfl) (lenOf pd_14 rfl) (Nat.le_of_eq rfl) (hb y at_296) 299 rfl rfl (by decide) (by decide) fun T251 X251 e251 => ?_
    refine o_ifnonnullN X251 hx (hb y at_299) 302 rfl ?_
    refine qC X251 hx (hb y at_302) (1 : Int32) rfl 303 rfl ?_
    refine qG X251 hx (hb y at_303) 307 (by decide) (by decide) ?_
    refine qs X251 hx (hb y at_307) #[.val (.int x0), .val (.int x1), .val (.int x2), .val (.int x3), .val (.int 1), .val (.int ln), .val (.ref a1), .val (.ref a17), .val (.ref a33), .val (.ref a49), .val (.ref a63), .val (.ref a126), .val (.ref a210), .val (.int mm), .val (.int 1), .val (.int 1), .val (.int 1), .val (.int 1), .val (.int 1)] rfl 309 rfl ?_
    refine qi X251 hx (hb y at_309) rfl 311 rfl ?_
    refine qN X251 hx (hb y at_311) ((if0 _ _).trans (feq (by decide : ¬ ((1 : Int32) = (0 : Int32)))).1) 314 rfl ?_
    refine qi X251 hx (hb y at_314) rfl 316 rfl ?_
    refine qN X251 hx (hb y at_316) ((if0 _ _).trans (feq (by decide : ¬ ((1 : Int32) = (0 : Int32)))).1) 319 rfl ?_
    refine qi X251 hx (hb y at_319) rfl 321 rfl ?_
    refine qN X251 hx (hb y at_321) ((if0 _ _).trans (feq (by decide : ¬ ((1 : Int32) = (0 : Int32)))).1) 324 rfl ?_
    refine qi X251 hx (hb y at_324) rfl 326 rfl ?_
    refine qN X251 hx (hb y at_326) ((if0 _ _).trans (feq (by decide : ¬ ((1 : Int32) = (0 : Int32)))).1) 329 rfl ?_
    refine qi X251 hx (hb y at_329) rfl 331 rfl ?_
    refine qN X251 hx (hb y at_331) ((if0 _ _).trans (feq (by decide : ¬ ((1 : Int32) = (0 : Int32)))).1) 334 rfl ?_
    refine qC X251 hx (hb y at_334) (1 : Int32) rfl 335 rfl ?_
    refine qG X251 hx (hb y at_335) 339 (by decide) (by decide) ?_
    exact o_retZ X251 hx hk hret (hb y at_339) rfl ⟨rfl, N224⟩ (by decide) (by decide)
  · rw [q67]
    refine qi X65 hx (hb y at_113) rfl 115 rfl ?_
    refine qC X65 hx (hb y at_115) (1 : Int32) rfl 116 rfl ?_
    refine qn X65 hx (hb y at_116) (flt (by decide : ¬ ((2 : Int32) < (1 : Int32)))).1 119 rfl ?_
    refine qa X65 hx (hb y at_119) rfl rfl 121 rfl ?_
    refine qa X65 hx (hb y at_121) rfl rfl 123 rfl ?_
    have f253 := (((((f53.wr W52).wr W56).wr W60).ext E63).keep Kq65)
    refine o_kV X65 hx hZ hown (w hw 227 rfl) (w hw 228 rfl) (notFace_of_selects (args := #[]) (mvT hZ (w hw 230 rfl))) (w hw 230 rfl) (w hw 229 rfl) (w hw 32 rfl) (w hw 231 rfl) (by decide) a63 [(.ref a1)] [] 0 (rm_add_28 l Z a0 T65.heap n0 hw H O66 a63 a1 p65_0 p65_1 p65_2 p65_3 g_a63 f253) (by decide) (by decide) rfl p65_0 (by rw [hml]; rfl) (lenOf pd_20 rfl) (Nat.le_of_eq rfl) (hb y at_123) (by decide) (by decide) 126 rfl fun v252 T252 L252 X252 hQ252 => ?_
    obtain ⟨q252_0, qk252_0, rfl, Nq252, Kq252, le_q252_0, p252_0, p252_1, p252_2, p252_3, p252_4, p252_5, p252_6⟩ := hQ252
    have g_q252_0 : n0 ≤ q252_0 := Nat.le_trans (o_osz O66) le_q252_0
    have O254 := O66.keep Kq252 (allS g_a63 all0)
    have N254 := Fr.app N66 Nq252
    refine o_nR ?_
    refine o_pop X252 hx (hb y at_126) rfl 127 rfl ?_
    refine qi X252 hx (hb y at_127) rfl 129 rfl ?_
    refine qC X252 hx (hb y at_129) (2 : Int32) rfl 130 rfl ?_
    refine qn X252 hx (hb y at_130) (flt (by decide : ¬ ((2 : Int32) < (2 : Int32)))).1 133 rfl ?_
    refine qa X252 hx (hb y at_133) rfl rfl 135 rfl ?_
    refine qa X252 hx (hb y at_135) rfl rfl 137 rfl ?_
    have f256 := (((((f57.wr W56).wr W60).ext E63).keep Kq65).keep Kq252)
    have ne257 := o_nl A63.lt Kq65.1 le_q252_0
    refine o_kV X252 hx hZ hown (w hw 227 rfl) (w hw 228 rfl) (notFace_of_selects (args := #[]) (mvT hZ (w hw 230 rfl))) (w hw 230 rfl) (w hw 229 rfl) (w hw 32 rfl) (w hw 231 rfl) (by decide) a63 [(.ref a17)] [] 0 (rm_add_66 l Z a0 T252.heap n0 hw O254 a63 a17 q252_0 a1 qk252_0 p252_0 p252_1 p252_2 p252_3 g_a63 f256 p252_4 p252_5 p252_6 g_q252_0 ne257) (by decide) (by decide) rfl p252_0 (by rw [hml]; rfl) (lenOf pd_20 rfl) (Nat.le_of_eq rfl) (hb y at_137) (by decide) (by decide) 140 rfl fun v255 T255 L255 X255 hQ255 => ?_
    obtain ⟨rfl, Nq255, Kq255, p255_0, p255_1, p255_2, p255_3, p255_4, p255_5⟩ := hQ255
    have O258 := O254.keep Kq255 (allS g_a63 (allS g_q252_0 all0))
    have N258 := Fr.app N254 Nq255
    refine o_nR ?_
    refine o_pop X255 hx (hb y at_140) rfl 141 rfl ?_
    refine qi X255 hx (hb y at_141) rfl 143 rfl ?_
    refine qC X255 hx (hb y at_143) (3 : Int32) rfl 144 rfl ?_
    refine o_icmpY X255 hx (hb y at_144) (tlt (by decide : (2 : Int32) < (3 : Int32))).1 155 (by decide) (by decide) ?_
    refine nO X255 hx hZ hown (w hw 100 rfl) (w hw 101 rfl) (w hw 102 rfl) rfl (hb y at_155) 158 rfl (by decide) (by decide) fun T259 a259 g259 X259 E259 A259 D259 => ?_
    have g_a259 : n0 ≤ a259 := Nat.le_trans (o_osz O258) (Nat.le_of_eq g259)
    have O260 := O258.ext E259
    have F259_numbers : Fld Z T259.heap a259 s3 "numbers" s59 .null := D259 (Or.inr (w hw 124 rfl)) (ty := (.object s64)) (by decide)
    have F259_processes : Fld Z T259.heap a259 s3 s72 s17 .null := D259 (Or.inr (w hw 127 rfl)) (ty := (.object s21)) (by decide)
    have F259_segments : Fld Z T259.heap a259 s3 s35 s17 .null := D259 (Or.inr (w hw 129 rfl)) (ty := (.object s21)) (by decide)
    refine qD X259 hx (hb y at_158) rfl 159 rfl ?_
    refine nO X259 hx hZ hown (w hw 30 rfl) (w hw 31 rfl) (w hw 32 rfl) rfl (hb y at_159) 162 rfl (by decide) (by decide) fun T261 a261 g261 X261 E261 A261 D261 => ?_
    have g_a261 : n0 ≤ a261 := Nat.le_trans (o_osz O260) (Nat.le_of_eq g261)
    have O262 := O260.ext E261
    have F261_modCount : Fld Z T261.heap a261 s24 s29 "I" (.int 0) := D261 (Or.inl (w hw 50 rfl)) (ty := .int) (by decide)
    have F261_elementData : Fld Z T261.heap a261 s6 s27 s10 .null := D261 (Or.inl (w hw 53 rfl)) (ty := (.array (.object s8))) (by decide)
    have F261_size : Fld Z T261.heap a261 s6 s26 "I" (.int 0) := D261 (Or.inl (w hw 91 rfl)) (ty := .int) (by decide)
    refine qD X261 hx (hb y at_162) rfl 163 rfl ?_
    refine kN X261 hx hZ rfl hown (w hw 33 rfl) (w hw 34 rfl) (w hw 32 rfl) (w hw 35 rfl) (by decide) a261 [] [(.ref a261), (.ref a259), (.ref a259)] 3 (rm__init__5 l Z a0 T261.heap n0 hw H O262 a261 A261 F261_modCount F261_elementData F261_size g_a261) (by decide) (by decide) rfl (by rw [hml]; rfl) (lenOf pd_4 rfl) (Nat.le_of_eq rfl) (hb y at_163) (by decide) (by decide) 166 rfl fun v263 T263 L263 X263 hQ263 => ?_
    obtain ⟨rfl, Nq263, Kq263, p263_0, p263_1, p263_2, p263_3⟩ := hQ263
    have O264 := O262.keep Kq263 (allS g_a261 all0)
    have N264 := Fr.app N258 Nq263
    refine o_nV ?_
    refine qa X263 hx (hb y at_166) rfl rfl 168 rfl ?_
    have f266 := ((A259.ext E261).keep Kq263)
    have ne267 := o_nl A259.lt (Nat.le_refl _) (Nat.le_of_eq g261)
    have f268 := ((F259_numbers.ext E261).keep Kq263 (ninS ne267 nin0))
    have f269 := ((F259_processes.ext E261).keep Kq263 (ninS ne267 nin0))
    have f270 := ((F259_segments.ext E261).keep Kq263 (ninS ne267 nin0))
    have f271 := (((p255_0.ext E259).ext E261).keep Kq263)
    have l273 := (Nat.le_trans (Nat.le_trans (Nat.le_trans Kq65.1 Kq252.1) Kq255.1) E259.1)
    have ne272 := o_nl A63.lt l273 (Nat.le_of_eq g261)
    have f274 := (((p255_2.ext E259).ext E261).keep Kq263 (ninS ne272 nin0))
    have f275 := (((p255_3.ext E259).ext E261).keep Kq263 (ninS ne272 nin0))
    have l277 := (Nat.le_trans Kq255.1 E259.1)
    have ne276 := o_nl p252_5.lt l277 (Nat.le_of_eq g261)
    have f278 := (((p255_4.ext E259).ext E261).keep Kq263 (ninS ne276 nin0))
    have f279 := (((p255_5.ext E259).ext E261).keep Kq263)
    have f280 := (((((f253.keep Kq252).keep Kq255).ext E259).ext E261).keep Kq263)
    have l282 := (Nat.le_trans (Nat.le_trans (Nat.le_trans (Nat.le_trans (Nat.le_trans Kq3.1 E5.1) Kq7.1) Kq9.1) E17.1) Kq19.1)
    have ne281 := o_nl A1.lt l282 (Nat.le_of_eq g21)
    have l284 := (Nat.le_trans (Nat.le_trans (Nat.le_trans Kq3.1 E5.1) Kq7.1) Kq9.1)
    have ne283 := o_nl A1.lt l284 (Nat.le_of_eq g17)
    have l286 := (Nat.le_trans (Nat.le_trans (Nat.le_trans (Nat.le_trans (Nat.le_trans l282 E21.1) Kq23.1) Kq25.1) E33.1) Kq35.1)
    have ne285 := o_nl A1.lt l286 (Nat.le_of_eq g37)
    have l288 := (Nat.le_trans (Nat.le_trans (Nat.le_trans l282 E21.1) Kq23.1) Kq25.1)
    have ne287 := o_nl A1.lt l288 (Nat.le_of_eq g33)
    have l290 := (Nat.le_trans (Nat.le_trans (Nat.le_trans l286 E37.1) Kq39.1) Kq41.1)
    have ne289 := o_nl A1.lt l290 (Nat.le_of_eq g49)
    have l292 := (Nat.le_trans (Nat.le_trans (Nat.le_trans (Nat.le_trans l290 E49.1) (Nat.le_of_eq (Wr.size W52).symm)) (Nat.le_of_eq (Wr.size W56).symm)) (Nat.le_of_eq (Wr.size W60).symm))
    have ne291 := o_nl A1.lt l292 (Nat.le_of_eq g63)
    have l294 := (Nat.le_trans (Nat.le_trans l292 E63.1) Kq65.1)
    have ne293 := o_nl A1.lt l294 le_q252_0
    have l296 := (Nat.le_trans (Nat.le_trans (Nat.le_trans l294 Kq252.1) Kq255.1) E259.1)
    have ne295 := o_nl A1.lt l296 (Nat.le_of_eq g261)
    have f297 := (((((((((((((((((((((p9_1.ext E17).keep Kq19 nin0).ext E21).keep Kq23 (ninS ne281 nin0)).keep Kq25 (ninS ne283 nin0)).ext E33).keep Kq35 nin0).ext E37).keep Kq39 (ninS ne285 nin0)).keep Kq41 (ninS ne287 nin0)).ext E49).other W52 (Or.inl ne289)).other W56 (Or.inl ne289)).other W60 (Or.inl ne289)).ext E63).keep Kq65 (ninS ne291 nin0)).keep Kq252 (ninS ne291 nin0)).keep Kq255 (ninS ne291 (ninS ne293 nin0))).ext E259).ext E261).keep Kq263 (ninS ne295 nin0))
    have f298 := ((((f256.keep Kq255).ext E259).ext E261).keep Kq263)
    have l300 := (Nat.le_trans (Nat.le_trans (Nat.le_trans (Nat.le_trans (Nat.le_trans Kq19.1 E21.1) Kq23.1) Kq25.1) E33.1) Kq35.1)
    have ne299 := o_nl A17.lt l300 (Nat.le_of_eq g37)
    have l302 := (Nat.le_trans (Nat.le_trans (Nat.le_trans Kq19.1 E21.1) Kq23.1) Kq25.1)
    have ne301 := o_nl A17.lt l302 (Nat.le_of_eq g33)
    have l304 := (Nat.le_trans (Nat.le_trans (Nat.le_trans l300 E37.1) Kq39.1) Kq41.1)
    have ne303 := o_nl A17.lt l304 (Nat.le_of_eq g49)
    have l306 := (Nat.le_trans (Nat.le_trans (Nat.le_trans (Nat.le_trans l304 E49.1) (Nat.le_of_eq (Wr.size W52).symm)) (Nat.le_of_eq (Wr.size W56).symm)) (Nat.le_of_eq (Wr.size W60).symm))
    have ne305 := o_nl A17.lt l306 (Nat.le_of_eq g63)
    have l308 := (Nat.le_trans (Nat.le_trans l306 E63.1) Kq65.1)
    have ne307 := o_nl A17.lt l308 le_q252_0
    have l310 := (Nat.le_trans (Nat.le_trans (Nat.le_trans l308 Kq252.1) Kq255.1) E259.1)
    have ne309 := o_nl A17.lt l310 (Nat.le_of_eq g261)
    have f311 := ((((((((((((((((p25_1.ext E33).keep Kq35 nin0).ext E37).keep Kq39 (ninS ne299 nin0)).keep Kq41 (ninS ne301 nin0)).ext E49).other W52 (Or.inl ne303)).other W56 (Or.inl ne303)).other W60 (Or.inl ne303)).ext E63).keep Kq65 (ninS ne305 nin0)).keep Kq252 (ninS ne305 nin0)).keep Kq255 (ninS ne305 (ninS ne307 nin0))).ext E259).ext E261).keep Kq263 (ninS ne309 nin0))
    have f312 := ((((((((((((((((((((((((p3_0.ext E5).keep Kq7).keep Kq9).ext E17).keep Kq19).ext E21).keep Kq23).keep Kq25).ext E33).keep Kq35).ext E37).keep Kq39).keep Kq41).ext E49).wr W52).wr W56).wr W60).ext E63).keep Kq65).keep Kq252).keep Kq255).ext E259).ext E261).keep Kq263)
    have ne313 := o_nl p3_0.lt (Nat.le_refl _) (Nat.le_of_eq g5)
    have ne315 := o_nl A1.lt (Nat.le_refl _) le_q3_0
    have l317 := (Nat.le_trans (Nat.le_trans (Nat.le_trans (Nat.le_trans E5.1 Kq7.1) Kq9.1) E17.1) Kq19.1)
    have ne316 := o_nl p3_0.lt l317 (Nat.le_of_eq g21)
    have l319 := (Nat.le_trans (Nat.le_trans E5.1 Kq7.1) Kq9.1)
    have ne318 := o_nl p3_0.lt l319 (Nat.le_of_eq g17)
    have l321 := (Nat.le_trans (Nat.le_trans (Nat.le_trans (Nat.le_trans (Nat.le_trans l317 E21.1) Kq23.1) Kq25.1) E33.1) Kq35.1)
    have ne320 := o_nl p3_0.lt l321 (Nat.le_of_eq g37)
    have l323 := (Nat.le_trans (Nat.le_trans (Nat.le_trans l317 E21.1) Kq23.1) Kq25.1)
    have ne322 := o_nl p3_0.lt l323 (Nat.le_of_eq g33)
    have l325 := (Nat.le_trans (Nat.le_trans (Nat.le_trans l321 E37.1) Kq39.1) Kq41.1)
    have ne324 := o_nl p3_0.lt l325 (Nat.le_of_eq g49)
    have l327 := (Nat.le_trans (Nat.le_trans (Nat.le_trans (Nat.le_trans l325 E49.1) (Nat.le_of_eq (Wr.size W52).symm)) (Nat.le_of_eq (Wr.size W56).symm)) (Nat.le_of_eq (Wr.size W60).symm))
    have ne326 := o_nl p3_0.lt l327 (Nat.le_of_eq g63)
    have l329 := (Nat.le_trans (Nat.le_trans l327 E63.1) Kq65.1)
    have ne328 := o_nl p3_0.lt l329 le_q252_0
    have l331 := (Nat.le_trans (Nat.le_trans (Nat.le_trans l329 Kq252.1) Kq255.1) E259.1)
    have ne330 := o_nl p3_0.lt l331 (Nat.le_of_eq g261)
    have f332 := ((((((((((((((((((((((((p3_1.ext E5).keep Kq7 (ninS ne313 nin0)).keep Kq9 (ninS (Ne.symm ne315) nin0)).ext E17).keep Kq19 nin0).ext E21).keep Kq23 (ninS ne316 nin0)).keep Kq25 (ninS ne318 nin0)).ext E33).keep Kq35 nin0).ext E37).keep Kq39 (ninS ne320 nin0)).keep Kq41 (ninS ne322 nin0)).ext E49).other W52 (Or.inl ne324)).other W56 (Or.inl ne324)).other W60 (Or.inl ne324)).ext E63).keep Kq65 (ninS ne326 nin0)).keep Kq252 (ninS ne326 nin0)).keep Kq255 (ninS ne326 (ninS ne328 nin0))).ext E259).ext E261).keep Kq263 (ninS ne330 nin0))
    have f333 := ((((((((((((((((((((((((p3_2.ext E5).keep Kq7 (ninS ne313 nin0)).keep Kq9 (ninS (Ne.symm ne315) nin0)).ext E17).keep Kq19 nin0).ext E21).keep Kq23 (ninS ne316 nin0)).keep Kq25 (ninS ne318 nin0)).ext E33).keep Kq35 nin0).ext E37).keep Kq39 (ninS ne320 nin0)).keep Kq41 (ninS ne322 nin0)).ext E49).other W52 (Or.inl ne324)).other W56 (Or.inl ne324)).other W60 (Or.inl ne324)).ext E63).keep Kq65 (ninS ne326 nin0)).keep Kq252 (ninS ne326 nin0)).keep Kq255 (ninS ne326 (ninS ne328 nin0))).ext E259).ext E261).keep Kq263 (ninS ne330 nin0))
    have f334 := ((((((((((((((((((((((((p3_3.ext E5).keep Kq7 (ninS ne313 nin0)).keep Kq9 (ninS (Ne.symm ne315) nin0)).ext E17).keep Kq19 nin0).ext E21).keep Kq23 (ninS ne316 nin0)).keep Kq25 (ninS ne318 nin0)).ext E33).keep Kq35 nin0).ext E37).keep Kq39 (ninS ne320 nin0)).keep Kq41 (ninS ne322 nin0)).ext E49).other W52 (Or.inl ne324)).other W56 (Or.inl ne324)).other W60 (Or.inl ne324)).ext E63).keep Kq65 (ninS ne326 nin0)).keep Kq252 (ninS ne326 nin0)).keep Kq255 (ninS ne326 (ninS ne328 nin0))).ext E259).ext E261).keep Kq263 (ninS ne330 nin0))
    have f335 := ((((((((((((((((((((((((p3_4.ext E5).keep Kq7 (ninS ne313 nin0)).keep Kq9 (ninS (Ne.symm ne315) nin0)).ext E17).keep Kq19 nin0).ext E21).keep Kq23 (ninS ne316 nin0)).keep Kq25 (ninS ne318 nin0)).ext E33).keep Kq35 nin0).ext E37).keep Kq39 (ninS ne320 nin0)).keep Kq41 (ninS ne322 nin0)).ext E49).other W52 (Or.inl ne324)).other W56 (Or.inl ne324)).other W60 (Or.inl ne324)).ext E63).keep Kq65 (ninS ne326 nin0)).keep Kq252 (ninS ne326 nin0)).keep Kq255 (ninS ne326 (ninS ne328 nin0))).ext E259).ext E261).keep Kq263 (ninS ne330 nin0))
    have f336 := (((((((((((((((((((p19_0.ext E21).keep Kq23).keep Kq25).ext E33).keep Kq35).ext E37).keep Kq39).keep Kq41).ext E49).wr W52).wr W56).wr W60).ext E63).keep Kq65).keep Kq252).keep Kq255).ext E259).ext E261).keep Kq263)
    have ne337 := o_nl p19_0.lt (Nat.le_refl _) (Nat.le_of_eq g21)
    have ne339 := o_nl A17.lt (Nat.le_refl _) le_q19_0
    have l341 := (Nat.le_trans (Nat.le_trans (Nat.le_trans (Nat.le_trans E21.1 Kq23.1) Kq25.1) E33.1) Kq35.1)
    have ne340 := o_nl p19_0.lt l341 (Nat.le_of_eq g37)
    have l343 := (Nat.le_trans (Nat.le_trans E21.1 Kq23.1) Kq25.1)
    have ne342 := o_nl p19_0.lt l343 (Nat.le_of_eq g33)
    have l345 := (Nat.le_trans (Nat.le_trans (Nat.le_trans l341 E37.1) Kq39.1) Kq41.1)
    have ne344 := o_nl p19_0.lt l345 (Nat.le_of_eq g49)
    have l347 := (Nat.le_trans (Nat.le_trans (Nat.le_trans (Nat.le_trans l345 E49.1) (Nat.le_of_eq (Wr.size W52).symm)) (Nat.le_of_eq (Wr.size W56).symm)) (Nat.le_of_eq (Wr.size W60).symm))
    have ne346 := o_nl p19_0.lt l347 (Nat.le_of_eq g63)
    have l349 := (Nat.le_trans (Nat.le_trans l347 E63.1) Kq65.1)
    have ne348 := o_nl p19_0.lt l349 le_q252_0
    have l351 := (Nat.le_trans (Nat.le_trans (Nat.le_trans l349 Kq252.1) Kq255.1) E259.1)
    have ne350 := o_nl p19_0.lt l351 (Nat.le_of_eq g261)
    have f352 := (((((((((((((((((((p19_1.ext E21).keep Kq23 (ninS ne337 nin0)).keep Kq25 (ninS (Ne.symm ne339) nin0)).ext E33).keep Kq35 nin0).ext E37).keep Kq39 (ninS ne340 nin0)).keep Kq41 (ninS ne342 nin0)).ext E49).other W52 (Or.inl ne344)).other W56 (Or.inl ne344)).other W60 (Or.inl ne344)).ext E63).keep Kq65 (ninS ne346 nin0)).keep Kq252 (ninS ne346 nin0)).keep Kq255 (ninS ne346 (ninS ne348 nin0))).ext E259).ext E261).keep Kq263 (ninS ne350 nin0))
    have f353 := (((((((((((((((((((p19_2.ext E21).keep Kq23 (ninS ne337 nin0)).keep Kq25 (ninS (Ne.symm ne339) nin0)).ext E33).keep Kq35 nin0).ext E37).keep Kq39 (ninS ne340 nin0)).keep Kq41 (ninS ne342 nin0)).ext E49).other W52 (Or.inl ne344)).other W56 (Or.inl ne344)).other W60 (Or.inl ne344)).ext E63).keep Kq65 (ninS ne346 nin0)).keep Kq252 (ninS ne346 nin0)).keep Kq255 (ninS ne346 (ninS ne348 nin0))).ext E259).ext E261).keep Kq263 (ninS ne350 nin0))
    have f354 := (((((((((((((((((((p19_3.ext E21).keep Kq23 (ninS ne337 nin0)).keep Kq25 (ninS (Ne.symm ne339) nin0)).ext E33).keep Kq35 nin0).ext E37).keep Kq39 (ninS ne340 nin0)).keep Kq41 (ninS ne342 nin0)).ext E49).other W52 (Or.inl ne344)).other W56 (Or.inl ne344)).other W60 (Or.inl ne344)).ext E63).keep Kq65 (ninS ne346 nin0)).keep Kq252 (ninS ne346 nin0)).keep Kq255 (ninS ne346 (ninS ne348 nin0))).ext E259).ext E261).keep Kq263 (ninS ne350 nin0))
    have f355 := (((((((((((((((((((p19_4.ext E21).keep Kq23 (ninS ne337 nin0)).keep Kq25 (ninS (Ne.symm ne339) nin0)).ext E33).keep Kq35 nin0).ext E37).keep Kq39 (ninS ne340 nin0)).keep Kq41 (ninS ne342 nin0)).ext E49).other W52 (Or.inl ne344)).other W56 (Or.inl ne344)).other W60 (Or.inl ne344)).ext E63).keep Kq65 (ninS ne346 nin0)).keep Kq252 (ninS ne346 nin0)).keep Kq255 (ninS ne346 (ninS ne348 nin0))).ext E259).ext E261).keep Kq263 (ninS ne350 nin0))
    have ne356 := o_nl p3_6.lt (Nat.le_refl _) (Nat.le_of_eq g5)
    have ne358 := o_nl A1.lt (Nat.le_refl _) le_q3_1
    have ne359 := o_nl p3_6.lt l317 (Nat.le_of_eq g21)
    have ne360 := o_nl p3_6.lt l319 (Nat.le_of_eq g17)
    have ne361 := o_nl p3_6.lt l321 (Nat.le_of_eq g37)
    have ne362 := o_nl p3_6.lt l323 (Nat.le_of_eq g33)
    have ne363 := o_nl p3_6.lt l325 (Nat.le_of_eq g49)
    have ne364 := o_nl p3_6.lt l327 (Nat.le_of_eq g63)
    have ne365 := o_nl p3_6.lt l329 le_q252_0
    have ne366 := o_nl p3_6.lt l331 (Nat.le_of_eq g261)
    have f367 := ((((((((((((((((((((((((p3_5.ext E5).keep Kq7 (ninS ne356 nin0)).keep Kq9 (ninS (Ne.symm ne358) nin0)).ext E17).keep Kq19 nin0).ext E21).keep Kq23 (ninS ne359 nin0)).keep Kq25 (ninS ne360 nin0)).ext E33).keep Kq35 nin0).ext E37).keep Kq39 (ninS ne361 nin0)).keep Kq41 (ninS ne362 nin0)).ext E49).other W52 ne363).other W56 ne363).other W60 ne363).ext E63).keep Kq65 (ninS ne364 nin0)).keep Kq252 (ninS ne364 nin0)).keep Kq255 (ninS ne364 (ninS ne365 nin0))).ext E259).ext E261).keep Kq263 (ninS ne366 nin0))
    have f368 := ((((((((((((((((((((((((p3_6.ext E5).keep Kq7).keep Kq9).ext E17).keep Kq19).ext E21).keep Kq23).keep Kq25).ext E33).keep Kq35).ext E37).keep Kq39).keep Kq41).ext E49).wr W52).wr W56).wr W60).ext E63).keep Kq65).keep Kq252).keep Kq255).ext E259).ext E261).keep Kq263)
    have ne369 := o_nl p19_6.lt (Nat.le_refl _) (Nat.le_of_eq g21)
    have ne371 := o_nl A17.lt (Nat.le_refl _) le_q19_1
    have ne372 := o_nl p19_6.lt l341 (Nat.le_of_eq g37)
    have ne373 := o_nl p19_6.lt l343 (Nat.le_of_eq g33)
    have ne374 := o_nl p19_6.lt l345 (Nat.le_of_eq g49)
    have ne375 := o_nl p19_6.lt l347 (Nat.le_of_eq g63)
    have ne376 := o_nl p19_6.lt l349 le_q252_0
    have ne377 := o_nl p19_6.lt l351 (Nat.le_of_eq g261)
    have f378 := (((((((((((((((((((p19_5.ext E21).keep Kq23 (ninS ne369 nin0)).keep Kq25 (ninS (Ne.symm ne371) nin0)).ext E33).keep Kq35 nin0).ext E37).keep Kq39 (ninS ne372 nin0)).keep Kq41 (ninS ne373 nin0)).ext E49).other W52 ne374).other W56 ne374).other W60 ne374).ext E63).keep Kq65 (ninS ne375 nin0)).keep Kq252 (ninS ne375 nin0)).keep Kq255 (ninS ne375 (ninS ne376 nin0))).ext E259).ext E261).keep Kq263 (ninS ne377 nin0))
    have f379 := (((((((((((((((((((p19_6.ext E21).keep Kq23).keep Kq25).ext E33).keep Kq35).ext E37).keep Kq39).keep Kq41).ext E49).wr W52).wr W56).wr W60).ext E63).keep Kq65).keep Kq252).keep Kq255).ext E259).ext E261).keep Kq263)
    have l382 := (Nat.le_trans (Nat.le_trans Kq65.1 Kq252.1) Kq255.1)
    have ne381 := o_nl A63.lt l382 (Nat.le_of_eq g259)
    have ne384 := o_nl p252_5.lt Kq255.1 (Nat.le_of_eq g259)
    have l387 := (Nat.le_trans (Nat.le_trans l294 Kq252.1) Kq255.1)
    have ne386 := o_nl A1.lt l387 (Nat.le_of_eq g259)
    have l390 := (Nat.le_trans (Nat.le_trans l308 Kq252.1) Kq255.1)
    have ne389 := o_nl A17.lt l390 (Nat.le_of_eq g259)
    have l393 := (Nat.le_trans (Nat.le_trans l329 Kq252.1) Kq255.1)
    have ne392 := o_nl p3_0.lt l393 (Nat.le_of_eq g259)
    have l396 := (Nat.le_trans (Nat.le_trans l349 Kq252.1) Kq255.1)
    have ne395 := o_nl p19_0.lt l396 (Nat.le_of_eq g259)
    have ne398 := o_nl p3_6.lt l393 (Nat.le_of_eq g259)
    have ne400 := o_nl p19_6.lt l396 (Nat.le_of_eq g259)
    have l402 := (Nat.le_trans l319 E17.1)
    have ne401 := o_nl p3_0.lt l402 le_q19_0
    have ne403 := o_nl p3_0.lt l402 le_q19_1
    refine kN X263 hx hZ rfl hown (w hw 103 rfl) (w hw 104 rfl) (w hw 102 rfl) (w hw 105 rfl) (by decide) a259 [(.ref a261), (.ref a63)] [(.ref a259)] 1 (rm__init__68 l Z a0 T263.heap n0 hw H O264 a259 a261 a63 q252_0 a1 a17 q3_0 q19_0 q3_1 q19_1 qk252_0 qk3_0 qk19_0 f266 f268 f269 f270 g_a259 p263_0 p263_3 f271 f274 f275 f278 f279 f280 f297 f298 f311 g_a17 f312 f332 f333 f334 f335 g_q3_0 f336 f352 f353 f354 f355 g_q19_0 f367 f368 f378 f379 ne267 (Ne.symm ne381) (Ne.symm ne384) (Ne.symm ne386) (Ne.symm ne389) (Ne.symm ne392) (Ne.symm ne395) (Ne.symm ne398) (Ne.symm ne400) (Ne.symm ne318) ne401 ne403) (by decide) (by decide) rfl (by rw [hml]; rfl) (lenOf pd_10 rfl) (Nat.le_of_eq rfl) (hb y at_168) (by decide) (by decide) 171 rfl fun v265 T265 L265 X265 hQ265 => ?_
    obtain ⟨q265_0, rfl, Nq265, Kq265, le_q265_0, p265_0, p265_1, p265_2, p265_3, p265_4, p265_5, p265_6, p265_7, p265_8, p265_9, p265_10, p265_11, p265_12, p265_13, p265_14⟩ := hQ265
    have O404 := O264.keep Kq265 (allS g_a259 (allS g_q3_0 (allS g_q19_0 all0)))
    have N404 := Fr.app N264 Nq265
    refine o_nV ?_
    refine qt X265 hx (hb y at_171) #[.val (.int x0), .val (.int x1), .val (.int x2), .val (.int x3), .val (.int 2), .val (.int ln), .val (.ref a1), .val (.ref a17), .val (.ref a33), .val (.ref a49), .val (.ref a63), .val (.ref a259), .unset, .unset, .unset, .unset, .unset, .unset, .unset] rfl rfl 173 rfl ?_
    refine nO X265 hx hZ hown (w hw 142 rfl) (w hw 143 rfl) (w hw 144 rfl) rfl (hb y at_173) 176 rfl (by decide) (by decide) fun T405 a405 g405 X405 E405 A405 D405 => ?_
    have g_a405 : n0 ≤ a405 := Nat.le_trans (o_osz O404) (Nat.le_of_eq g405)
    have O406 := O404.ext E405
    have F405_stacks : Fld Z T405.heap a405 s0 s66 "[I" .null := D405 (Or.inr (w hw 151 rfl)) (ty := (.array .int)) (by decide)
    have F405_x : Fld Z T405.heap a405 s0 "x" "[I" .null := D405 (Or.inr (w hw 153 rfl)) (ty := (.array .int)) (by decide)
    have F405_pointers : Fld Z T405.heap a405 s0 s60 "[J" .null := D405 (Or.inr (w hw 158 rfl)) (ty := (.array .long)) (by decide)
    have F405_registerWords : Fld Z T405.heap a405 s0 s47 "[J" .null := D405 (Or.inr (w hw 160 rfl)) (ty := (.array .long)) (by decide)
    have F405_declaration : Fld Z T405.heap a405 s0 s49 s18 .null := D405 (Or.inr (w hw 162 rfl)) (ty := (.object s19)) (by decide)
    have F405_image : Fld Z T405.heap a405 s0 "image" s22 .null := D405 (Or.inr (w hw 164 rfl)) (ty := (.object s3)) (by decide)
    have F405_imageSegments : Fld Z T405.heap a405 s0 s48 "I" (.int 0) := D405 (Or.inr (w hw 172 rfl)) (ty := .int) (by decide)
    have F405_segments : Fld Z T405.heap a405 s0 s35 s12 .null := D405 (Or.inr (w hw 175 rfl)) (ty := (.array (.object s1))) (by decide)
    have F405_access : Fld Z T405.heap a405 s0 s67 s14 .null := D405 (Or.inr (w hw 217 rfl)) (ty := (.array (.array (.object s16)))) (by decide)
    have F405_lastSegment : Fld Z T405.heap a405 s0 s53 "I" (.int 0) := D405 (Or.inl (w hw 423 rfl)) (ty := .int) (by decide)
    refine qD X405 hx (hb y at_176) rfl 177 rfl ?_
    refine o_aconst_null X405 hx (hb y at_177) 178 rfl ?_
    refine qa X405 hx (hb y at_178) rfl rfl 180 rfl ?_
    have f408 := (p265_0.ext E405)
    have f409 := (p265_1.ext E405)
    have f410 := (p265_12.ext E405)
    have f411 := (p265_13.ext E405)
    have f412 := (p265_14.ext E405)
    have f413 := ((f280.keep Kq265).ext E405)
    have f414 := ((f298.keep Kq265).ext E405)
    have l417 := (Nat.le_trans (Nat.le_trans E261.1 Kq263.1) Kq265.1)
    have ne416 := o_nl A259.lt l417 (Nat.le_of_eq g405)
    have ne419 := o_nl p265_12.lt (Nat.le_refl _) (Nat.le_of_eq g405)
    refine kN X405 hx hZ rfl hown (w hw 145 rfl) (w hw 146 rfl) (w hw 144 rfl) (w hw 147 rfl) (by decide) a405 [.null, (.ref a259)] [(.ref a405)] 1 (rm__init__87 l Z a0 T405.heap n0 hw H O406 a405 a259 q265_0 a1 a17 A405 F405_access F405_declaration F405_image F405_imageSegments F405_lastSegment F405_pointers F405_registerWords F405_segments F405_stacks F405_x g_a405 f408 f409 f410 f411 f412 f413 f414 g_a17 (Ne.symm ne416) (Ne.symm ne419)) (by decide) (by decide) rfl (by rw [hml]; rfl) (lenOf pd_13 rfl) (Nat.le_of_eq rfl) (hb y at_180) (by decide) (by decide) 183 rfl fun v407 T407 L407 X407 hQ407 => ?_
    obtain ⟨q407_0, qk407_0, rfl, Nq407, Kq407, le_q407_0, p407_0, p407_1, p407_2, p407_3, p407_4⟩ := hQ407
    have N420 := Fr.app N404 Nq407
    refine o_nV ?_
    refine qt X407 hx (hb y at_183) #[.val (.int x0), .val (.int x1), .val (.int x2), .val (.int x3), .val (.int 2), .val (.int ln), .val (.ref a1), .val (.ref a17), .val (.ref a33), .val (.ref a49), .val (.ref a63), .val (.ref a259), .val (.ref a405), .unset, .unset, .unset, .unset, .unset, .unset] rfl rfl 185 rfl ?_
    refine qI X407 hx (hb y at_185) rfl 186 rfl ?_
    refine o_bipush X407 hx (hb y at_186) (127 : Int32) rfl 188 rfl ?_
    refine o_iand X407 hx (hb y at_188) 189 rfl ?_
    refine qC X407 hx (hb y at_189) (2 : Int32) rfl 190 rfl ?_
    refine o_isub X407 hx (hb y at_190) 191 rfl ?_
    obtain ⟨mm, h_mm⟩ : ∃ z : Int32, z = ((x2 &&& (127 : Int32)) - (2 : Int32)) := ⟨_, rfl⟩
    rw [← h_mm]
    refine qs X407 hx (hb y at_191) #[.val (.int x0), .val (.int x1), .val (.int x2), .val (.int x3), .val (.int 2), .val (.int ln), .val (.ref a1), .val (.ref a17), .val (.ref a33), .val (.ref a49), .val (.ref a63), .val (.ref a259), .val (.ref a405), .val (.int mm), .unset, .unset, .unset, .unset, .unset] rfl 193 rfl ?_
    have l422 := (Nat.le_trans (Nat.le_trans (Nat.le_of_eq (Wr.size W52).symm) (Nat.le_of_eq (Wr.size W56).symm)) (Nat.le_of_eq (Wr.size W60).symm))
    have ne421 := o_nl A49.lt l422 (Nat.le_of_eq g63)
    have l424 := (Nat.le_trans (Nat.le_trans l422 E63.1) Kq65.1)
    have ne423 := o_nl A49.lt l424 le_q252_0
    have l426 := (Nat.le_trans (Nat.le_trans (Nat.le_trans l424 Kq252.1) Kq255.1) E259.1)
    have ne425 := o_nl A49.lt l426 (Nat.le_of_eq g261)
    have l428 := (Nat.le_trans (Nat.le_trans l424 Kq252.1) Kq255.1)
    have ne427 := o_nl A49.lt l428 (Nat.le_of_eq g259)
    have l430 := (Nat.le_trans (Nat.le_trans (Nat.le_trans l426 E261.1) Kq263.1) Kq265.1)
    have ne429 := o_nl A49.lt l430 (Nat.le_of_eq g405)
    have f431 := ((((((((((V60.ext E63).keep Kq65 (ninS ne421 nin0)).keep Kq252 (ninS ne421 nin0)).keep Kq255 (ninS ne421 (ninS ne423 nin0))).ext E259).ext E261).keep Kq263 (ninS ne425 nin0)).keep Kq265 (ninS ne427 (ninS (Ne.symm ne324) (ninS (Ne.symm ne344) nin0)))).ext E405).keep Kq407 (ninS ne429 nin0))
    obtain ⟨v432, hr432, hS432, hE432⟩ : ∃ v : Value, v.isRef = true ∧ o_Met l (⟨s0, s74, s25⟩ : MethodName) B21 2 (some (.object s1)) [] (o_rm 0 0 0 0) Z #[(.ref a405), (.int x1)] T407.heap (o_R (some v) T407.heap) ∧ o_Met l (⟨s20, s73, s15⟩ : MethodName) B22 4 (some (.object s1)) [] (o_rm 0 0 0 0) Z #[(.ref a49), (.int 2), (.int x1)] T407.heap (o_R (some v) T407.heap) := by
      rcases o_cases2 x1 with ⟨q432a, q432b⟩ | q432 | q432 | q432 | ⟨q432a, q432b, q432c, q432d⟩ | ⟨q432a, q432b, q432c, q432d⟩
      · exact ⟨.null, rfl, rm_segment_neg l Z a0 T407.heap hw q432a, rm_expected_lo l Z a0 T407.heap hw q432b⟩
      · subst q432
        exact ⟨.null, rfl, rm_segment_nul l Z a0 T407.heap hw p407_1 p407_2 (by decide : ¬ ((0 : Int32) < (0 : Int32))) (by decide : (0 : Int32) < (68 : Int32)) rfl, rm_expected_lo l Z a0 T407.heap hw (by decide : (0 : Int32) < (1 : Int32))⟩
      · subst q432
        exact ⟨(.ref a1), rfl, rm_segment_ref l Z a0 T407.heap hw p407_1 p407_2 (by decide : ¬ ((1 : Int32) < (0 : Int32))) (by decide : (1 : Int32) < (68 : Int32)) rfl, rm_expected_in l Z a0 T407.heap hw f431 (by decide : ¬ ((1 : Int32) < (1 : Int32))) (by decide : ¬ ((2 : Int32) < (1 : Int32))) (by decide) rfl⟩
      · subst q432
        exact ⟨(.ref a17), rfl, rm_segment_ref l Z a0 T407.heap hw p407_1 p407_2 (by decide : ¬ ((2 : Int32) < (0 : Int32))) (by decide : (2 : Int32) < (68 : Int32)) rfl, rm_expected_in l Z a0 T407.heap hw f431 (by decide : ¬ ((2 : Int32) < (1 : Int32))) (by decide : ¬ ((2 : Int32) < (2 : Int32))) (by decide) rfl⟩
      · exact ⟨.null, rfl, rm_segment_nul l Z a0 T407.heap hw p407_1 p407_2 q432a q432b (o_far q432d 3 rfl (by decide) (by decide)), rm_expected_hi l Z a0 T407.heap hw q432c q432d⟩
      · exact ⟨.null, rfl, rm_segment_out l Z a0 T407.heap hw p407_1 p407_2 q432a q432b, rm_expected_hi l Z a0 T407.heap hw q432c q432d⟩
    refine qa X407 hx (hb y at_193) rfl rfl 195 rfl ?_
    refine qI X407 hx (hb y at_195) rfl 196 rfl ?_
    refine qV X407 hx hZ hown (w hw 218 rfl) (w hw 219 rfl) (notFace_of_selects (args := #[]) (mvT hZ (w hw 221 rfl))) (w hw 221 rfl) (w hw 220 rfl) (w hw 144 rfl) (w hw 222 rfl) (by decide) a405 [(.int x1)] [] 0 (hS432) (by decide) (by decide) rfl rfl rfl p407_0 (by rw [hml]; rfl) (lenOf pd_14 rfl) (Nat.le_of_eq rfl) (hb y at_196) 199 rfl rfl (by decide) (by decide) fun T434 X434 e434 => ?_
    refine qa X434 hx (hb y at_199) rfl rfl 201 rfl ?_
    refine qi X434 hx (hb y at_201) rfl 203 rfl ?_
    refine qI X434 hx (hb y at_203) rfl 204 rfl ?_
    refine qS X434 hx hZ hown (w hw 223 rfl) (w hw 224 rfl) (w hw 225 rfl) (w hw 226 rfl) (by decide) [(.ref a49), (.int 2), (.int x1)] [v432] 1 (hE432) (by decide) (by decide) rfl rfl e434 (by rw [hml]; rfl) (lenOf pd_15 rfl) (o_cat hr432) (hb y at_204) 207 rfl rfl (by decide) (by decide) fun T436 X436 e436 => ?_
    refine qm X436 hx true (hb y at_207) hr432 hr432 (decide_eq_true rfl) 210 (by decide) (by decide) ?_
    refine qC X436 hx (hb y at_210) (1 : Int32) rfl 211 rfl ?_
    refine qG X436 hx (hb y at_211) 215 (by decide) (by decide) ?_
    refine qs X436 hx (hb y at_215) #[.val (.int x0), .val (.int x1), .val (.int x2), .val (.int x3), .val (.int 2), .val (.int ln), .val (.ref a1), .val (.ref a17), .val (.ref a33), .val (.ref a49), .val (.ref a63), .val (.ref a259), .val (.ref a405), .val (.int mm), .val (.int 1), .unset, .unset, .unset, .unset] rfl 217 rfl ?_
    obtain ⟨v437, hr437, hS437, hE437⟩ : ∃ v : Value, v.isRef = true ∧ o_Met l (⟨s0, s74, s25⟩ : MethodName) B21 2 (some (.object s1)) [] (o_rm 0 0 0 0) Z #[(.ref a405), (.int mm)] T407.heap (o_R (some v) T407.heap) ∧ o_Met l (⟨s20, s73, s15⟩ : MethodName) B22 4 (some (.object s1)) [] (o_rm 0 0 0 0) Z #[(.ref a49), (.int 2), (.int mm)] T407.heap (o_R (some v) T407.heap) := by
      rcases o_cases2 mm with ⟨q437a, q437b⟩ | q437 | q437 | q437 | ⟨q437a, q437b, q437c, q437d⟩ | ⟨q437a, q437b, q437c, q437d⟩
      · exact ⟨.null, rfl, rm_segment_neg l Z a0 T407.heap hw q437a, rm_expected_lo l Z a0 T407.heap hw q437b⟩
      · subst q437
        exact ⟨.null, rfl, rm_segment_nul l Z a0 T407.heap hw p407_1 p407_2 (by decide : ¬ ((0 : Int32) < (0 : Int32))) (by decide : (0 : Int32) < (68 : Int32)) rfl, rm_expected_lo l Z a0 T407.heap hw (by decide : (0 : Int32) < (1 : Int32))⟩
      · subst q437
        exact ⟨(.ref a1), rfl, rm_segment_ref l Z a0 T407.heap hw p407_1 p407_2 (by decide : ¬ ((1 : Int32) < (0 : Int32))) (by decide : (1 : Int32) < (68 : Int32)) rfl, rm_expected_in l Z a0 T407.heap hw f431 (by decide : ¬ ((1 : Int32) < (1 : Int32))) (by decide : ¬ ((2 : Int32) < (1 : Int32))) (by decide) rfl⟩
      · subst q437
        exact ⟨(.ref a17), rfl, rm_segment_ref l Z a0 T407.heap hw p407_1 p407_2 (by decide : ¬ ((2 : Int32) < (0 : Int32))) (by decide : (2 : Int32) < (68 : Int32)) rfl, rm_expected_in l Z a0 T407.heap hw f431 (by decide : ¬ ((2 : Int32) < (1 : Int32))) (by decide : ¬ ((2 : Int32) < (2 : Int32))) (by decide) rfl⟩
      · exact ⟨.null, rfl, rm_segment_nul l Z a0 T407.heap hw p407_1 p407_2 q437a q437b (o_far q437d 3 rfl (by decide) (by decide)), rm_expected_hi l Z a0 T407.heap hw q437c q437d⟩
      · exact ⟨.null, rfl, rm_segment_out l Z a0 T407.heap hw p407_1 p407_2 q437a q437b, rm_expected_hi l Z a0 T407.heap hw q437c q437d⟩
    refine qa X436 hx (hb y at_217) rfl rfl 219 rfl ?_
    refine qi X436 hx (hb y at_219) rfl 221 rfl ?_
    refine qV X436 hx hZ hown (w hw 218 rfl) (w hw 219 rfl) (notFace_of_selects (args := #[]) (mvT hZ (w hw 221 rfl))) (w hw 221 rfl) (w hw 220 rfl) (w hw 144 rfl) (w hw 222 rfl) (by decide) a405 [(.int mm)] [] 0 (hS437) (by decide) (by decide) rfl rfl e436 p407_0 (by rw [hml]; rfl) (lenOf pd_14 rfl) (Nat.le_of_eq rfl) (hb y at_221) 224 rfl rfl (by decide) (by decide) fun T439 X439 e439 => ?_
    refine qa X439 hx (hb y at_224) rfl rfl 226 rfl ?_
    refine qi X439 hx (hb y at_226) rfl 228 rfl ?_
    refine qi X439 hx (hb y at_228) rfl 230 rfl ?_
    refine qS X439 hx hZ hown (w hw 223 rfl) (w hw 224 rfl) (w hw 225 rfl) (w hw 226 rfl) (by decide) [(.ref a49), (.int 2), (.int mm)] [v437] 1 (hE437) (by decide) (by decide) rfl rfl e439 (by rw [hml]; rfl) (lenOf pd_15 rfl) (o_cat hr437) (hb y at_230) 233 rfl rfl (by decide) (by decide) fun T441 X441 e441 => ?_
    refine qm X441 hx true (hb y at_233) hr437 hr437 (decide_eq_true rfl) 236 (by decide) (by decide) ?_
    refine qC X441 hx (hb y at_236) (1 : Int32) rfl 237 rfl ?_
    refine qG X441 hx (hb y at_237) 241 (by decide) (by decide) ?_
    refine qs X441 hx (hb y at_241) #[.val (.int x0), .val (.int x1), .val (.int x2), .val (.int x3), .val (.int 2), .val (.int ln), .val (.ref a1), .val (.ref a17), .val (.ref a33), .val (.ref a49), .val (.ref a63), .val (.ref a259), .val (.ref a405), .val (.int mm), .val (.int 1), .val (.int 1), .unset, .unset, .unset] rfl 243 rfl ?_
    refine qa X441 hx (hb y at_243) rfl rfl 245 rfl ?_
    refine qi X441 hx (hb y at_245) rfl 247 rfl ?_
    refine qV X441 hx hZ hown (w hw 218 rfl) (w hw 219 rfl) (notFace_of_selects (args := #[]) (mvT hZ (w hw 221 rfl))) (w hw 221 rfl) (w hw 220 rfl) (w hw 144 rfl) (w hw 222 rfl) (by decide) a405 [(.int 2)] [] 0 (rm_segment_ref l Z a0 T407.heap hw p407_1 p407_2 (by decide : ¬ ((2 : Int32) < (0 : Int32))) (by decide : (2 : Int32) < (68 : Int32)) rfl) (by decide) (by decide) rfl rfl e441 p407_0 (by rw [hml]; rfl) (lenOf pd_14 rfl) (Nat.le_of_eq rfl) (hb y at_247) 250 rfl rfl (by decide) (by decide) fun T443 X443 e443 => ?_
    refine qa X443 hx (hb y at_250) rfl rfl 252 rfl ?_
    refine qi X443 hx (hb y at_252) rfl 254 rfl ?_
    refine qi X443 hx (hb y at_254) rfl 256 rfl ?_
    refine qS X443 hx hZ hown (w hw 223 rfl) (w hw 224 rfl) (w hw 225 rfl) (w hw 226 rfl) (by decide) [(.ref a49), (.int 2), (.int 2)] [(.ref a17)] 1 (rm_expected_in l Z a0 T407.heap hw f431 (by decide : ¬ ((2 : Int32) < (1 : Int32))) (by decide : ¬ ((2 : Int32) < (2 : Int32))) (by decide) rfl) (by decide) (by decide) rfl rfl e443 (by rw [hml]; rfl) (lenOf pd_15 rfl) (Nat.le_of_eq rfl) (hb y at_256) 259 rfl rfl (by decide) (by decide) fun T445 X445 e445 => ?_
    refine qm X445 hx true (hb y at_259) rfl rfl (decide_eq_true rfl) 262 (by decide) (by decide) ?_
    refine qC X445 hx (hb y at_262) (1 : Int32) rfl 263 rfl ?_
    refine qG X445 hx (hb y at_263) 267 (by decide) (by decide) ?_
    refine qs X445 hx (hb y at_267) #[.val (.int x0), .val (.int x1), .val (.int x2), .val (.int x3), .val (.int 2), .val (.int ln), .val (.ref a1), .val (.ref a17), .val (.ref a33), .val (.ref a49), .val (.ref a63), .val (.ref a259), .val (.ref a405), .val (.int mm), .val (.int 1), .val (.int 1), .val (.int 1), .unset, .unset] rfl 269 rfl ?_
    refine qa X445 hx (hb y at_269) rfl rfl 271 rfl ?_
    refine qi X445 hx (hb y at_271) rfl 273 rfl ?_
    refine o_bipush X445 hx (hb y at_273) (65 : Int32) rfl 275 rfl ?_
    refine o_iadd X445 hx (hb y at_275) 276 rfl ?_
    refine o_topI (67 : Int32) (by decide) ?_
    refine qV X445 hx hZ hown (w hw 218 rfl) (w hw 219 rfl) (notFace_of_selects (args := #[]) (mvT hZ (w hw 221 rfl))) (w hw 221 rfl) (w hw 220 rfl) (w hw 144 rfl) (w hw 222 rfl) (by decide) a405 [(.int 67)] [] 0 (rm_segment_nul l Z a0 T407.heap hw p407_1 p407_2 (by decide : ¬ ((67 : Int32) < (0 : Int32))) (by decide : (67 : Int32) < (68 : Int32)) rfl) (by decide) (by decide) rfl rfl e445 p407_0 (by rw [hml]; rfl) (lenOf pd_14 rfl) (Nat.le_of_eq rfl) (hb y at_276) 279 rfl rfl (by decide) (by decide) fun T447 X447 e447 => ?_
    refine o_ifnonnullN X447 hx (hb y at_279) 282 rfl ?_
    refine qC X447 hx (hb y at_282) (1 : Int32) rfl 283 rfl ?_
    refine qG X447 hx (hb y at_283) 287 (by decide) (by decide) ?_
    refine qs X447 hx (hb y at_287) #[.val (.int x0), .val (.int x1), .val (.int x2), .val (.int x3), .val (.int 2), .val (.int ln), .val (.ref a1), .val (.ref a17), .val (.ref a33), .val (.ref a49), .val (.ref a63), .val (.ref a259), .val (.ref a405), .val (.int mm), .val (.int 1), .val (.int 1), .val (.int 1), .val (.int 1), .unset] rfl 289 rfl ?_
    refine qa X447 hx (hb y at_289) rfl rfl 291 rfl ?_
    refine qi X447 hx (hb y at_291) rfl 293 rfl ?_
    refine o_bipush X447 hx (hb y at_293) (66 : Int32) rfl 295 rfl ?_
    refine o_iadd X447 hx (hb y at_295) 296 rfl ?_
    refine o_topI (68 : Int32) (by decide) ?_
    refine qV X447 hx hZ hown (w hw 218 rfl) (w hw 219 rfl) (notFace_of_selects (args := #[]) (mvT hZ (w hw 221 rfl))) (w hw 221 rfl) (w hw 220 rfl) (w hw 144 rfl) (w hw 222 rfl) (by decide) a405 [(.int 68)] [] 0 (rm_segment_out l Z a0 T407.heap hw p407_1 p407_2 (by decide : ¬ ((68 : Int32) < (0 : Int32))) (by decide : ¬ ((68 : Int32) < (68 : Int32)))) (by decide) (by decide) rfl rfl e447 p407_0 (by rw [hml]; rfl) (lenOf pd_14 rfl) (Nat.le_of_eq rfl) (hb y at_296) 299 rfl rfl (by decide) (by decide) fun T449 X449 e449 => ?_
    refine o_ifnonnullN X449 hx (hb y at_299) 302 rfl ?_
    refine qC X449 hx (hb y at_302) (1 : Int32) rfl 303 rfl ?_
    refine qG X449 hx (hb y at_303) 307 (by decide) (by decide) ?_
    refine qs X449 hx (hb y at_307) #[.val (.int x0), .val (.int x1), .val (.int x2), .val (.int x3), .val (.int 2), .val (.int ln), .val (.ref a1), .val (.ref a17), .val (.ref a33), .val (.ref a49), .val (.ref a63), .val (.ref a259), .val (.ref a405), .val (.int mm), .val (.int 1), .val (.int 1), .val (.int 1), .val (.int 1), .val (.int 1)] rfl 309 rfl ?_
    refine qi X449 hx (hb y at_309) rfl 311 rfl ?_
    refine qN X449 hx (hb y at_311) ((if0 _ _).trans (feq (by decide : ¬ ((1 : Int32) = (0 : Int32)))).1) 314 rfl ?_
    refine qi X449 hx (hb y at_314) rfl 316 rfl ?_
    refine qN X449 hx (hb y at_316) ((if0 _ _).trans (feq (by decide : ¬ ((1 : Int32) = (0 : Int32)))).1) 319 rfl ?_
    refine qi X449 hx (hb y at_319) rfl 321 rfl ?_
    refine qN X449 hx (hb y at_321) ((if0 _ _).trans (feq (by decide : ¬ ((1 : Int32) = (0 : Int32)))).1) 324 rfl ?_
    refine qi X449 hx (hb y at_324) rfl 326 rfl ?_
    refine qN X449 hx (hb y at_326) ((if0 _ _).trans (feq (by decide : ¬ ((1 : Int32) = (0 : Int32)))).1) 329 rfl ?_
    refine qi X449 hx (hb y at_329) rfl 331 rfl ?_
    refine qN X449 hx (hb y at_331) ((if0 _ _).trans (feq (by decide : ¬ ((1 : Int32) = (0 : Int32)))).1) 334 rfl ?_
    refine qC X449 hx (hb y at_334) (1 : Int32) rfl 335 rfl ?_
    refine qG X449 hx (hb y at_335) 339 (by decide) (by decide) ?_
    exact o_retZ X449 hx hk hret (hb y at_339) rfl ⟨rfl, N420⟩ (by decide) (by decide)
  · rw [q67]
    refine qi X65 hx (hb y at_113) rfl 115 rfl ?_
    refine qC X65 hx (hb y at_115) (1 : Int32) rfl 116 rfl ?_
    refine qn X65 hx (hb y at_116) (flt (by decide : ¬ ((3 : Int32) < (1 : Int32)))).1 119 rfl ?_
    refine qa X65 hx (hb y at_119) rfl rfl 121 rfl ?_
    refine qa X65 hx (hb y at_121) rfl rfl 123 rfl ?_
    have f451 := (((((f53.wr W52).wr W56).wr W60).ext E63).keep Kq65)
    refine o_kV X65 hx hZ hown (w hw 227 rfl) (w hw 228 rfl) (notFace_of_selects (args := #[]) (mvT hZ (w hw 230 rfl))) (w hw 230 rfl) (w hw 229 rfl) (w hw 32 rfl) (w hw 231 rfl) (by decide) a63 [(.ref a1)] [] 0 (rm_add_28 l Z a0 T65.heap n0 hw H O66 a63 a1 p65_0 p65_1 p65_2 p65_3 g_a63 f451) (by decide) (by decide) rfl p65_0 (by rw [hml]; rfl) (lenOf pd_20 rfl) (Nat.le_of_eq rfl) (hb y at_123) (by decide) (by decide) 126 rfl fun v450 T450 L450 X450 hQ450 => ?_
    obtain ⟨q450_0, qk450_0, rfl, Nq450, Kq450, le_q450_0, p450_0, p450_1, p450_2, p450_3, p450_4, p450_5, p450_6⟩ := hQ450
    have g_q450_0 : n0 ≤ q450_0 := Nat.le_trans (o_osz O66) le_q450_0
    have O452 := O66.keep Kq450 (allS g_a63 all0)
    have N452 := Fr.app N66 Nq450
    refine o_nR ?_
    refine o_pop X450 hx (hb y at_126) rfl 127 rfl ?_
    refine qi X450 hx (hb y at_127) rfl 129 rfl ?_
    refine qC X450 hx (hb y at_129) (2 : Int32) rfl 130 rfl ?_
    refine qn X450 hx (hb y at_130) (flt (by decide : ¬ ((3 : Int32) < (2 : Int32)))).1 133 rfl ?_
    refine qa X450 hx (hb y at_133) rfl rfl 135 rfl ?_
    refine qa X450 hx (hb y at_135) rfl rfl 137 rfl ?_
    have f454 := (((((f57.wr W56).wr W60).ext E63).keep Kq65).keep Kq450)
    have ne455 := o_nl A63.lt Kq65.1 le_q450_0
    refine o_kV X450 hx hZ hown (w hw 227 rfl) (w hw 228 rfl) (notFace_of_selects (args := #[]) (mvT hZ (w hw 230 rfl))) (w hw 230 rfl) (w hw 229 rfl) (w hw 32 rfl) (w hw 231 rfl) (by decide) a63 [(.ref a17)] [] 0 (rm_add_66 l Z a0 T450.heap n0 hw O452 a63 a17 q450_0 a1 qk450_0 p450_0 p450_1 p450_2 p450_3 g_a63 f454 p450_4 p450_5 p450_6 g_q450_0 ne455) (by decide) (by decide) rfl p450_0 (by rw [hml]; rfl) (lenOf pd_20 rfl) (Nat.le_of_eq rfl) (hb y at_137) (by decide) (by decide) 140 rfl fun v453 T453 L453 X453 hQ453 => ?_
    obtain ⟨rfl, Nq453, Kq453, p453_0, p453_1, p453_2, p453_3, p453_4, p453_5⟩ := hQ453
    have O456 := O452.keep Kq453 (allS g_a63 (allS g_q450_0 all0))
    have N456 := Fr.app N452 Nq453
    refine o_nR ?_
    refine o_pop X453 hx (hb y at_140) rfl 141 rfl ?_
    refine qi X453 hx (hb y at_141) rfl 143 rfl ?_
    refine qC X453 hx (hb y at_143) (3 : Int32) rfl 144 rfl ?_
    refine qn X453 hx (hb y at_144) (flt (by decide : ¬ ((3 : Int32) < (3 : Int32)))).1 147 rfl ?_
    refine qa X453 hx (hb y at_147) rfl rfl 149 rfl ?_
    refine qa X453 hx (hb y at_149) rfl rfl 151 rfl ?_
    have f458 := (((((f61.wr W60).ext E63).keep Kq65).keep Kq450).keep Kq453)
    refine o_kV X453 hx hZ hown (w hw 227 rfl) (w hw 228 rfl) (notFace_of_selects (args := #[]) (mvT hZ (w hw 230 rfl))) (w hw 230 rfl) (w hw 229 rfl) (w hw 32 rfl) (w hw 231 rfl) (by decide) a63 [(.ref a33)] [] 0 (rm_add_95 l Z a0 T453.heap n0 hw O456 a63 a33 q450_0 a1 a17 qk450_0 p453_0 p453_1 p453_2 p453_3 g_a63 f458 p453_4 p453_5 p450_6 g_q450_0 ne455) (by decide) (by decide) rfl p453_0 (by rw [hml]; rfl) (lenOf pd_20 rfl) (Nat.le_of_eq rfl) (hb y at_151) (by decide) (by decide) 154 rfl fun v457 T457 L457 X457 hQ457 => ?_
    obtain ⟨rfl, Nq457, Kq457, p457_0, p457_1, p457_2, p457_3, p457_4, p457_5⟩ := hQ457
    have O459 := O456.keep Kq457 (allS g_a63 (allS g_q450_0 all0))
    have N459 := Fr.app N456 Nq457
    refine o_nR ?_
    refine o_pop X457 hx (hb y at_154) rfl 155 rfl ?_
    refine nO X457 hx hZ hown (w hw 100 rfl) (w hw 101 rfl) (w hw 102 rfl) rfl (hb y at_155) 158 rfl (by decide) (by decide) fun T460 a460 g460 X460 E460 A460 D460 => ?_
    have g_a460 : n0 ≤ a460 := Nat.le_trans (o_osz O459) (Nat.le_of_eq g460)
    have O461 := O459.ext E460
    have F460_numbers : Fld Z T460.heap a460 s3 "numbers" s59 .null := D460 (Or.inr (w hw 124 rfl)) (ty := (.object s64)) (by decide)
    have F460_processes : Fld Z T460.heap a460 s3 s72 s17 .null := D460 (Or.inr (w hw 127 rfl)) (ty := (.object s21)) (by decide)
    have F460_segments : Fld Z T460.heap a460 s3 s35 s17 .null := D460 (Or.inr (w hw 129 rfl)) (ty := (.object s21)) (by decide)
    refine qD X460 hx (hb y at_158) rfl 159 rfl ?_
    refine nO X460 hx hZ hown (w hw 30 rfl) (w hw 31 rfl) (w hw 32 rfl) rfl (hb y at_159) 162 rfl (by decide) (by decide) fun T462 a462 g462 X462 E462 A462 D462 => ?_
    have g_a462 : n0 ≤ a462 := Nat.le_trans (o_osz O461) (Nat.le_of_eq g462)
    have O463 := O461.ext E462
    have F462_modCount : Fld Z T462.heap a462 s24 s29 "I" (.int 0) := D462 (Or.inl (w hw 50 rfl)) (ty := .int) (by decide)
    have F462_elementData : Fld Z T462.heap a462 s6 s27 s10 .null := D462 (Or.inl (w hw 53 rfl)) (ty := (.array (.object s8))) (by decide)
    have F462_size : Fld Z T462.heap a462 s6 s26 "I" (.int 0) := D462 (Or.inl (w hw 91 rfl)) (ty := .int) (by decide)
    refine qD X462 hx (hb y at_162) rfl 163 rfl ?_
    refine kN X462 hx hZ rfl hown (w hw 33 rfl) (w hw 34 rfl) (w hw 32 rfl) (w hw 35 rfl) (by decide) a462 [] [(.ref a462), (.ref a460), (.ref a460)] 3 (rm__init__5 l Z a0 T462.heap n0 hw H O463 a462 A462 F462_modCount F462_elementData F462_size g_a462) (by decide) (by decide) rfl (by rw [hml]; rfl) (lenOf pd_4 rfl) (Nat.le_of_eq rfl) (hb y at_163) (by decide) (by decide) 166 rfl fun v464 T464 L464 X464 hQ464 => ?_
    obtain ⟨rfl, Nq464, Kq464, p464_0, p464_1, p464_2, p464_3⟩ := hQ464
    have O465 := O463.keep Kq464 (allS g_a462 all0)
    have N465 := Fr.app N459 Nq464
    refine o_nV ?_
    refine qa X464 hx (hb y at_166) rfl rfl 168 rfl ?_
    have f467 := ((A460.ext E462).keep Kq464)
    have ne468 := o_nl A460.lt (Nat.le_refl _) (Nat.le_of_eq g462)
    have f469 := ((F460_numbers.ext E462).keep Kq464 (ninS ne468 nin0))
    have f470 := ((F460_processes.ext E462).keep Kq464 (ninS ne468 nin0))
    have f471 := ((F460_segments.ext E462).keep Kq464 (ninS ne468 nin0))
    have f472 := (((p457_0.ext E460).ext E462).keep Kq464)
    have l474 := (Nat.le_trans (Nat.le_trans (Nat.le_trans (Nat.le_trans Kq65.1 Kq450.1) Kq453.1) Kq457.1) E460.1)
    have ne473 := o_nl A63.lt l474 (Nat.le_of_eq g462)
    have f475 := (((p457_2.ext E460).ext E462).keep Kq464 (ninS ne473 nin0))
    have f476 := (((p457_3.ext E460).ext E462).keep Kq464 (ninS ne473 nin0))
    have l478 := (Nat.le_trans (Nat.le_trans Kq453.1 Kq457.1) E460.1)
    have ne477 := o_nl p450_5.lt l478 (Nat.le_of_eq g462)
    have f479 := (((p457_4.ext E460).ext E462).keep Kq464 (ninS ne477 nin0))
    have f480 := (((p457_5.ext E460).ext E462).keep Kq464)
    have f481 := ((((((f451.keep Kq450).keep Kq453).keep Kq457).ext E460).ext E462).keep Kq464)
    have l483 := (Nat.le_trans (Nat.le_trans (Nat.le_trans (Nat.le_trans (Nat.le_trans Kq3.1 E5.1) Kq7.1) Kq9.1) E17.1) Kq19.1)
    have ne482 := o_nl A1.lt l483 (Nat.le_of_eq g21)
    have l485 := (Nat.le_trans (Nat.le_trans (Nat.le_trans Kq3.1 E5.1) Kq7.1) Kq9.1)
    have ne484 := o_nl A1.lt l485 (Nat.le_of_eq g17)
    have l487 := (Nat.le_trans (Nat.le_trans (Nat.le_trans (Nat.le_trans (Nat.le_trans l483 E21.1) Kq23.1) Kq25.1) E33.1) Kq35.1)
    have ne486 := o_nl A1.lt l487 (Nat.le_of_eq g37)
    have l489 := (Nat.le_trans (Nat.le_trans (Nat.le_trans l483 E21.1) Kq23.1) Kq25.1)
    have ne488 := o_nl A1.lt l489 (Nat.le_of_eq g33)
    have l491 := (Nat.le_trans (Nat.le_trans (Nat.le_trans l487 E37.1) Kq39.1) Kq41.1)
    have ne490 := o_nl A1.lt l491 (Nat.le_of_eq g49)
    have l493 := (Nat.le_trans (Nat.le_trans (Nat.le_trans (Nat.le_trans l491 E49.1) (Nat.le_of_eq (Wr.size W52).symm)) (Nat.le_of_eq (Wr.size W56).symm)) (Nat.le_of_eq (Wr.size W60).symm))
    have ne492 := o_nl A1.lt l493 (Nat.le_of_eq g63)
    have l495 := (Nat.le_trans (Nat.le_trans l493 E63.1) Kq65.1)
    have ne494 := o_nl A1.lt l495 le_q450_0
    have l497 := (Nat.le_trans (Nat.le_trans (Nat.le_trans (Nat.le_trans l495 Kq450.1) Kq453.1) Kq457.1) E460.1)
    have ne496 := o_nl A1.lt l497 (Nat.le_of_eq g462)
    have f498 := ((((((((((((((((((((((p9_1.ext E17).keep Kq19 nin0).ext E21).keep Kq23 (ninS ne482 nin0)).keep Kq25 (ninS ne484 nin0)).ext E33).keep Kq35 nin0).ext E37).keep Kq39 (ninS ne486 nin0)).keep Kq41 (ninS ne488 nin0)).ext E49).other W52 (Or.inl ne490)).other W56 (Or.inl ne490)).other W60 (Or.inl ne490)).ext E63).keep Kq65 (ninS ne492 nin0)).keep Kq450 (ninS ne492 nin0)).keep Kq453 (ninS ne492 (ninS ne494 nin0))).keep Kq457 (ninS ne492 (ninS ne494 nin0))).ext E460).ext E462).keep Kq464 (ninS ne496 nin0))
    have f499 := (((((f454.keep Kq453).keep Kq457).ext E460).ext E462).keep Kq464)
    have l501 := (Nat.le_trans (Nat.le_trans (Nat.le_trans (Nat.le_trans (Nat.le_trans Kq19.1 E21.1) Kq23.1) Kq25.1) E33.1) Kq35.1)
    have ne500 := o_nl A17.lt l501 (Nat.le_of_eq g37)
    have l503 := (Nat.le_trans (Nat.le_trans (Nat.le_trans Kq19.1 E21.1) Kq23.1) Kq25.1)
    have ne502 := o_nl A17.lt l503 (Nat.le_of_eq g33)
    have l505 := (Nat.le_trans (Nat.le_trans (Nat.le_trans l501 E37.1) Kq39.1) Kq41.1)
    have ne504 := o_nl A17.lt l505 (Nat.le_of_eq g49)
    have l507 := (Nat.le_trans (Nat.le_trans (Nat.le_trans (Nat.le_trans l505 E49.1) (Nat.le_of_eq (Wr.size W52).symm)) (Nat.le_of_eq (Wr.size W56).symm)) (Nat.le_of_eq (Wr.size W60).symm))
    have ne506 := o_nl A17.lt l507 (Nat.le_of_eq g63)
    have l509 := (Nat.le_trans (Nat.le_trans l507 E63.1) Kq65.1)
    have ne508 := o_nl A17.lt l509 le_q450_0
    have l511 := (Nat.le_trans (Nat.le_trans (Nat.le_trans (Nat.le_trans l509 Kq450.1) Kq453.1) Kq457.1) E460.1)
    have ne510 := o_nl A17.lt l511 (Nat.le_of_eq g462)
    have f512 := (((((((((((((((((p25_1.ext E33).keep Kq35 nin0).ext E37).keep Kq39 (ninS ne500 nin0)).keep Kq41 (ninS ne502 nin0)).ext E49).other W52 (Or.inl ne504)).other W56 (Or.inl ne504)).other W60 (Or.inl ne504)).ext E63).keep Kq65 (ninS ne506 nin0)).keep Kq450 (ninS ne506 nin0)).keep Kq453 (ninS ne506 (ninS ne508 nin0))).keep Kq457 (ninS ne506 (ninS ne508 nin0))).ext E460).ext E462).keep Kq464 (ninS ne510 nin0))
    have f513 := ((((f458.keep Kq457).ext E460).ext E462).keep Kq464)
    have l515 := (Nat.le_trans (Nat.le_trans (Nat.le_trans Kq35.1 E37.1) Kq39.1) Kq41.1)
    have ne514 := o_nl A33.lt l515 (Nat.le_of_eq g49)
    have l517 := (Nat.le_trans (Nat.le_trans (Nat.le_trans (Nat.le_trans l515 E49.1) (Nat.le_of_eq (Wr.size W52).symm)) (Nat.le_of_eq (Wr.size W56).symm)) (Nat.le_of_eq (Wr.size W60).symm))
    have ne516 := o_nl A33.lt l517 (Nat.le_of_eq g63)
    have l519 := (Nat.le_trans (Nat.le_trans l517 E63.1) Kq65.1)
    have ne518 := o_nl A33.lt l519 le_q450_0
    have l521 := (Nat.le_trans (Nat.le_trans (Nat.le_trans (Nat.le_trans l519 Kq450.1) Kq453.1) Kq457.1) E460.1)
    have ne520 := o_nl A33.lt l521 (Nat.le_of_eq g462)
    have f522 := ((((((((((((p41_1.ext E49).other W52 (Or.inl ne514)).other W56 (Or.inl ne514)).other W60 (Or.inl ne514)).ext E63).keep Kq65 (ninS ne516 nin0)).keep Kq450 (ninS ne516 nin0)).keep Kq453 (ninS ne516 (ninS ne518 nin0))).keep Kq457 (ninS ne516 (ninS ne518 nin0))).ext E460).ext E462).keep Kq464 (ninS ne520 nin0))
    have f523 := (((((((((((((((((((((((((p3_0.ext E5).keep Kq7).keep Kq9).ext E17).keep Kq19).ext E21).keep Kq23).keep Kq25).ext E33).keep Kq35).ext E37).keep Kq39).keep Kq41).ext E49).wr W52).wr W56).wr W60).ext E63).keep Kq65).keep Kq450).keep Kq453).keep Kq457).ext E460).ext E462).keep Kq464)
    have ne524 := o_nl p3_0.lt (Nat.le_refl _) (Nat.le_of_eq g5)
    have ne526 := o_nl A1.lt (Nat.le_refl _) le_q3_0
    have l528 := (Nat.le_trans (Nat.le_trans (Nat.le_trans (Nat.le_trans E5.1 Kq7.1) Kq9.1) E17.1) Kq19.1)
    have ne527 := o_nl p3_0.lt l528 (Nat.le_of_eq g21)
    have l530 := (Nat.le_trans (Nat.le_trans E5.1 Kq7.1) Kq9.1)
    have ne529 := o_nl p3_0.lt l530 (Nat.le_of_eq g17)
    have l532 := (Nat.le_trans (Nat.le_trans (Nat.le_trans (Nat.le_trans (Nat.le_trans l528 E21.1) Kq23.1) Kq25.1) E33.1) Kq35.1)
    have ne531 := o_nl p3_0.lt l532 (Nat.le_of_eq g37)
    have l534 := (Nat.le_trans (Nat.le_trans (Nat.le_trans l528 E21.1) Kq23.1) Kq25.1)
    have ne533 := o_nl p3_0.lt l534 (Nat.le_of_eq g33)
    have l536 := (Nat.le_trans (Nat.le_trans (Nat.le_trans l532 E37.1) Kq39.1) Kq41.1)
    have ne535 := o_nl p3_0.lt l536 (Nat.le_of_eq g49)
    have l538 := (Nat.le_trans (Nat.le_trans (Nat.le_trans (Nat.le_trans l536 E49.1) (Nat.le_of_eq (Wr.size W52).symm)) (Nat.le_of_eq (Wr.size W56).symm)) (Nat.le_of_eq (Wr.size W60).symm))
    have ne537 := o_nl p3_0.lt l538 (Nat.le_of_eq g63)
    have l540 := (Nat.le_trans (Nat.le_trans l538 E63.1) Kq65.1)
    have ne539 := o_nl p3_0.lt l540 le_q450_0
    have l542 := (Nat.le_trans (Nat.le_trans (Nat.le_trans (Nat.le_trans l540 Kq450.1) Kq453.1) Kq457.1) E460.1)
    have ne541 := o_nl p3_0.lt l542 (Nat.le_of_eq g462)
    have f543 := (((((((((((((((((((((((((p3_1.ext E5).keep Kq7 (ninS ne524 nin0)).keep Kq9 (ninS (Ne.symm ne526) nin0)).ext E17).keep Kq19 nin0).ext E21).keep Kq23 (ninS ne527 nin0)).keep Kq25 (ninS ne529 nin0)).ext E33).keep Kq35 nin0).ext E37).keep Kq39 (ninS ne531 nin0)).keep Kq41 (ninS ne533 nin0)).ext E49).other W52 (Or.inl ne535)).other W56 (Or.inl ne535)).other W60 (Or.inl ne535)).ext E63).keep Kq65 (ninS ne537 nin0)).keep Kq450 (ninS ne537 nin0)).keep Kq453 (ninS ne537 (ninS ne539 nin0))).keep Kq457 (ninS ne537 (ninS ne539 nin0))).ext E460).ext E462).keep Kq464 (ninS ne541 nin0))
    have f544 := (((((((((((((((((((((((((p3_2.ext E5).keep Kq7 (ninS ne524 nin0)).keep Kq9 (ninS (Ne.symm ne526) nin0)).ext E17).keep Kq19 nin0).ext E21).keep Kq23 (ninS ne527 nin0)).keep Kq25 (ninS ne529 nin0)).ext E33).keep Kq35 nin0).ext E37).keep Kq39 (ninS ne531 nin0)).keep Kq41 (ninS ne533 nin0)).ext E49).other W52 (Or.inl ne535)).other W56 (Or.inl ne535)).other W60 (Or.inl ne535)).ext E63).keep Kq65 (ninS ne537 nin0)).keep Kq450 (ninS ne537 nin0)).keep Kq453 (ninS ne537 (ninS ne539 nin0))).keep Kq457 (ninS ne537 (ninS ne539 nin0))).ext E460).ext E462).keep Kq464 (ninS ne541 nin0))
    have f545 := (((((((((((((((((((((((((p3_3.ext E5).keep Kq7 (ninS ne524 nin0)).keep Kq9 (ninS (Ne.symm ne526) nin0)).ext E17).keep Kq19 nin0).ext E21).keep Kq23 (ninS ne527 nin0)).keep Kq25 (ninS ne529 nin0)).ext E33).keep Kq35 nin0).ext E37).keep Kq39 (ninS ne531 nin0)).keep Kq41 (ninS ne533 nin0)).ext E49).other W52 (Or.inl ne535)).other W56 (Or.inl ne535)).other W60 (Or.inl ne535)).ext E63).keep Kq65 (ninS ne537 nin0)).keep Kq450 (ninS ne537 nin0)).keep Kq453 (ninS ne537 (ninS ne539 nin0))).keep Kq457 (ninS ne537 (ninS ne539 nin0))).ext E460).ext E462).keep Kq464 (ninS ne541 nin0))
    have f546 := (((((((((((((((((((((((((p3_4.ext E5).keep Kq7 (ninS ne524 nin0)).keep Kq9 (ninS (Ne.symm ne526) nin0)).ext E17).keep Kq19 nin0).ext E21).keep Kq23 (ninS ne527 nin0)).keep Kq25 (ninS ne529 nin0)).ext E33).keep Kq35 nin0).ext E37).keep Kq39 (ninS ne531 nin0)).keep Kq41 (ninS ne533 nin0)).ext E49).other W52 (Or.inl ne535)).other W56 (Or.inl ne535)).other W60 (Or.inl ne535)).ext E63).keep Kq65 (ninS ne537 nin0)).keep Kq450 (ninS ne537 nin0)).keep Kq453 (ninS ne537 (ninS ne539 nin0))).keep Kq457 (ninS ne537 (ninS ne539 nin0))).ext E460).ext E462).keep Kq464 (ninS ne541 nin0))
    have f547 := ((((((((((((((((((((p19_0.ext E21).keep Kq23).keep Kq25).ext E33).keep Kq35).ext E37).keep Kq39).keep Kq41).ext E49).wr W52).wr W56).wr W60).ext E63).keep Kq65).keep Kq450).keep Kq453).keep Kq457).ext E460).ext E462).keep Kq464)
    have ne548 := o_nl p19_0.lt (Nat.le_refl _) (Nat.le_of_eq g21)
    have ne550 := o_nl A17.lt (Nat.le_refl _) le_q19_0
    have l552 := (Nat.le_trans (Nat.le_trans (Nat.le_trans (Nat.le_trans E21.1 Kq23.1) Kq25.1) E33.1) Kq35.1)
    have ne551 := o_nl p19_0.lt l552 (Nat.le_of_eq g37)
    have l554 := (Nat.le_trans (Nat.le_trans E21.1 Kq23.1) Kq25.1)
    have ne553 := o_nl p19_0.lt l554 (Nat.le_of_eq g33)
    have l556 := (Nat.le_trans (Nat.le_trans (Nat.le_trans l552 E37.1) Kq39.1) Kq41.1)
    have ne555 := o_nl p19_0.lt l556 (Nat.le_of_eq g49)
    have l558 := (Nat.le_trans (Nat.le_trans (Nat.le_trans (Nat.le_trans l556 E49.1) (Nat.le_of_eq (Wr.size W52).symm)) (Nat.le_of_eq (Wr.size W56).symm)) (Nat.le_of_eq (Wr.size W60).symm))
    have ne557 := o_nl p19_0.lt l558 (Nat.le_of_eq g63)
    have l560 := (Nat.le_trans (Nat.le_trans l558 E63.1) Kq65.1)
    have ne559 := o_nl p19_0.lt l560 le_q450_0
    have l562 := (Nat.le_trans (Nat.le_trans (Nat.le_trans (Nat.le_trans l560 Kq450.1) Kq453.1) Kq457.1) E460.1)
    have ne561 := o_nl p19_0.lt l562 (Nat.le_of_eq g462)
    have f563 := ((((((((((((((((((((p19_1.ext E21).keep Kq23 (ninS ne548 nin0)).keep Kq25 (ninS (Ne.symm ne550) nin0)).ext E33).keep Kq35 nin0).ext E37).keep Kq39 (ninS ne551 nin0)).keep Kq41 (ninS ne553 nin0)).ext E49).other W52 (Or.inl ne555)).other W56 (Or.inl ne555)).other W60 (Or.inl ne555)).ext E63).keep Kq65 (ninS ne557 nin0)).keep Kq450 (ninS ne557 nin0)).keep Kq453 (ninS ne557 (ninS ne559 nin0))).keep Kq457 (ninS ne557 (ninS ne559 nin0))).ext E460).ext E462).keep Kq464 (ninS ne561 nin0))
    have f564 := ((((((((((((((((((((p19_2.ext E21).keep Kq23 (ninS ne548 nin0)).keep Kq25 (ninS (Ne.symm ne550) nin0)).ext E33).keep Kq35 nin0).ext E37).keep Kq39 (ninS ne551 nin0)).keep Kq41 (ninS ne553 nin0)).ext E49).other W52 (Or.inl ne555)).other W56 (Or.inl ne555)).other W60 (Or.inl ne555)).ext E63).keep Kq65 (ninS ne557 nin0)).keep Kq450 (ninS ne557 nin0)).keep Kq453 (ninS ne557 (ninS ne559 nin0))).keep Kq457 (ninS ne557 (ninS ne559 nin0))).ext E460).ext E462).keep Kq464 (ninS ne561 nin0))
    have f565 := ((((((((((((((((((((p19_3.ext E21).keep Kq23 (ninS ne548 nin0)).keep Kq25 (ninS (Ne.symm ne550) nin0)).ext E33).keep Kq35 nin0).ext E37).keep Kq39 (ninS ne551 nin0)).keep Kq41 (ninS ne553 nin0)).ext E49).other W52 (Or.inl ne555)).other W56 (Or.inl ne555)).other W60 (Or.inl ne555)).ext E63).keep Kq65 (ninS ne557 nin0)).keep Kq450 (ninS ne557 nin0)).keep Kq453 (ninS ne557 (ninS ne559 nin0))).keep Kq457 (ninS ne557 (ninS ne559 nin0))).ext E460).ext E462).keep Kq464 (ninS ne561 nin0))
    have f566 := ((((((((((((((((((((p19_4.ext E21).keep Kq23 (ninS ne548 nin0)).keep Kq25 (ninS (Ne.symm ne550) nin0)).ext E33).keep Kq35 nin0).ext E37).keep Kq39 (ninS ne551 nin0)).keep Kq41 (ninS ne553 nin0)).ext E49).other W52 (Or.inl ne555)).other W56 (Or.inl ne555)).other W60 (Or.inl ne555)).ext E63).keep Kq65 (ninS ne557 nin0)).keep Kq450 (ninS ne557 nin0)).keep Kq453 (ninS ne557 (ninS ne559 nin0))).keep Kq457 (ninS ne557 (ninS ne559 nin0))).ext E460).ext E462).keep Kq464 (ninS ne561 nin0))
    have f567 := (((((((((((((((p35_0.ext E37).keep Kq39).keep Kq41).ext E49).wr W52).wr W56).wr W60).ext E63).keep Kq65).keep Kq450).keep Kq453).keep Kq457).ext E460).ext E462).keep Kq464)
    have ne568 := o_nl p35_0.lt (Nat.le_refl _) (Nat.le_of_eq g37)
    have ne570 := o_nl A33.lt (Nat.le_refl _) le_q35_0
    have l572 := (Nat.le_trans (Nat.le_trans E37.1 Kq39.1) Kq41.1)
    have ne571 := o_nl p35_0.lt l572 (Nat.le_of_eq g49)
    have l574 := (Nat.le_trans (Nat.le_trans (Nat.le_trans (Nat.le_trans l572 E49.1) (Nat.le_of_eq (Wr.size W52).symm)) (Nat.le_of_eq (Wr.size W56).symm)) (Nat.le_of_eq (Wr.size W60).symm))
    have ne573 := o_nl p35_0.lt l574 (Nat.le_of_eq g63)
    have l576 := (Nat.le_trans (Nat.le_trans l574 E63.1) Kq65.1)
    have ne575 := o_nl p35_0.lt l576 le_q450_0
    have l578 := (Nat.le_trans (Nat.le_trans (Nat.le_trans (Nat.le_trans l576 Kq450.1) Kq453.1) Kq457.1) E460.1)
    have ne577 := o_nl p35_0.lt l578 (Nat.le_of_eq g462)
    have f579 := (((((((((((((((p35_1.ext E37).keep Kq39 (ninS ne568 nin0)).keep Kq41 (ninS (Ne.symm ne570) nin0)).ext E49).other W52 (Or.inl ne571)).other W56 (Or.inl ne571)).other W60 (Or.inl ne571)).ext E63).keep Kq65 (ninS ne573 nin0)).keep Kq450 (ninS ne573 nin0)).keep Kq453 (ninS ne573 (ninS ne575 nin0))).keep Kq457 (ninS ne573 (ninS ne575 nin0))).ext E460).ext E462).keep Kq464 (ninS ne577 nin0))
    have f580 := (((((((((((((((p35_2.ext E37).keep Kq39 (ninS ne568 nin0)).keep Kq41 (ninS (Ne.symm ne570) nin0)).ext E49).other W52 (Or.inl ne571)).other W56 (Or.inl ne571)).other W60 (Or.inl ne571)).ext E63).keep Kq65 (ninS ne573 nin0)).keep Kq450 (ninS ne573 nin0)).keep Kq453 (ninS ne573 (ninS ne575 nin0))).keep Kq457 (ninS ne573 (ninS ne575 nin0))).ext E460).ext E462).keep Kq464 (ninS ne577 nin0))
    have f581 := (((((((((((((((p35_3.ext E37).keep Kq39 (ninS ne568 nin0)).keep Kq41 (ninS (Ne.symm ne570) nin0)).ext E49).other W52 (Or.inl ne571)).other W56 (Or.inl ne571)).other W60 (Or.inl ne571)).ext E63).keep Kq65 (ninS ne573 nin0)).keep Kq450 (ninS ne573 nin0)).keep Kq453 (ninS ne573 (ninS ne575 nin0))).keep Kq457 (ninS ne573 (ninS ne575 nin0))).ext E460).ext E462).keep Kq464 (ninS ne577 nin0))
    have f582 := (((((((((((((((p35_4.ext E37).keep Kq39 (ninS ne568 nin0)).keep Kq41 (ninS (Ne.symm ne570) nin0)).ext E49).other W52 (Or.inl ne571)).other W56 (Or.inl ne571)).other W60 (Or.inl ne571)).ext E63).keep Kq65 (ninS ne573 nin0)).keep Kq450 (ninS ne573 nin0)).keep Kq453 (ninS ne573 (ninS ne575 nin0))).keep Kq457 (ninS ne573 (ninS ne575 nin0))).ext E460).ext E462).keep Kq464 (ninS ne577 nin0))
    have ne583 := o_nl p3_6.lt (Nat.le_refl _) (Nat.le_of_eq g5)
    have ne585 := o_nl A1.lt (Nat.le_refl _) le_q3_1
    have ne586 := o_nl p3_6.lt l528 (Nat.le_of_eq g21)
    have ne587 := o_nl p3_6.lt l530 (Nat.le_of_eq g17)
    have ne588 := o_nl p3_6.lt l532 (Nat.le_of_eq g37)
    have ne589 := o_nl p3_6.lt l534 (Nat.le_of_eq g33)
    have ne590 := o_nl p3_6.lt l536 (Nat.le_of_eq g49)
    have ne591 := o_nl p3_6.lt l538 (Nat.le_of_eq g63)
    have ne592 := o_nl p3_6.lt l540 le_q450_0
    have ne593 := o_nl p3_6.lt l542 (Nat.le_of_eq g462)
    have f594 := (((((((((((((((((((((((((p3_5.ext E5).keep Kq7 (ninS ne583 nin0)).keep Kq9 (ninS (Ne.symm ne585) nin0)).ext E17).keep Kq19 nin0).ext E21).keep Kq23 (ninS ne586 nin0)).keep Kq25 (ninS ne587 nin0)).ext E33).keep Kq35 nin0).ext E37).keep Kq39 (ninS ne588 nin0)).keep Kq41 (ninS ne589 nin0)).ext E49).other W52 ne590).other W56 ne590).other W60 ne590).ext E63).keep Kq65 (ninS ne591 nin0)).keep Kq450 (ninS ne591 nin0)).keep Kq453 (ninS ne591 (ninS ne592 nin0))).keep Kq457 (ninS ne591 (ninS ne592 nin0))).ext E460).ext E462).keep Kq464 (ninS ne593 nin0))
    have f595 := (((((((((((((((((((((((((p3_6.ext E5).keep Kq7).keep Kq9).ext E17).keep Kq19).ext E21).keep Kq23).keep Kq25).ext E33).keep Kq35).ext E37).keep Kq39).keep Kq41).ext E49).wr W52).wr W56).wr W60).ext E63).keep Kq65).keep Kq450).keep Kq453).keep Kq457).ext E460).ext E462).keep Kq464)
    have ne596 := o_nl p19_6.lt (Nat.le_refl _) (Nat.le_of_eq g21)
    have ne598 := o_nl A17.lt (Nat.le_refl _) le_q19_1
    have ne599 := o_nl p19_6.lt l552 (Nat.le_of_eq g37)
    have ne600 := o_nl p19_6.lt l554 (Nat.le_of_eq g33)
    have ne601 := o_nl p19_6.lt l556 (Nat.le_of_eq g49)
    have ne602 := o_nl p19_6.lt l558 (Nat.le_of_eq g63)
    have ne603 := o_nl p19_6.lt l560 le_q450_0
    have ne604 := o_nl p19_6.lt l562 (Nat.le_of_eq g462)
    have f605 := ((((((((((((((((((((p19_5.ext E21).keep Kq23 (ninS ne596 nin0)).keep Kq25 (ninS (Ne.symm ne598) nin0)).ext E33).keep Kq35 nin0).ext E37).keep Kq39 (ninS ne599 nin0)).keep Kq41 (ninS ne600 nin0)).ext E49).other W52 ne601).other W56 ne601).other W60 ne601).ext E63).keep Kq65 (ninS ne602 nin0)).keep Kq450 (ninS ne602 nin0)).keep Kq453 (ninS ne602 (ninS ne603 nin0))).keep Kq457 (ninS ne602 (ninS ne603 nin0))).ext E460).ext E462).keep Kq464 (ninS ne604 nin0))
    have f606 := ((((((((((((((((((((p19_6.ext E21).keep Kq23).keep Kq25).ext E33).keep Kq35).ext E37).keep Kq39).keep Kq41).ext E49).wr W52).wr W56).wr W60).ext E63).keep Kq65).keep Kq450).keep Kq453).keep Kq457).ext E460).ext E462).keep Kq464)
    have ne607 := o_nl p35_6.lt (Nat.le_refl _) (Nat.le_of_eq g37)
    have ne609 := o_nl A33.lt (Nat.le_refl _) le_q35_1
    have ne610 := o_nl p35_6.lt l572 (Nat.le_of_eq g49)
    have ne611 := o_nl p35_6.lt l574 (Nat.le_of_eq g63)
    have ne612 := o_nl p35_6.lt l576 le_q450_0
    have ne613 := o_nl p35_6.lt l578 (Nat.le_of_eq g462)
    have f614 := (((((((((((((((p35_5.ext E37).keep Kq39 (ninS ne607 nin0)).keep Kq41 (ninS (Ne.symm ne609) nin0)).ext E49).other W52 ne610).other W56 ne610).other W60 ne610).ext E63).keep Kq65 (ninS ne611 nin0)).keep Kq450 (ninS ne611 nin0)).keep Kq453 (ninS ne611 (ninS ne612 nin0))).keep Kq457 (ninS ne611 (ninS ne612 nin0))).ext E460).ext E462).keep Kq464 (ninS ne613 nin0))
    have f615 := (((((((((((((((p35_6.ext E37).keep Kq39).keep Kq41).ext E49).wr W52).wr W56).wr W60).ext E63).keep Kq65).keep Kq450).keep Kq453).keep Kq457).ext E460).ext E462).keep Kq464)
    have l618 := (Nat.le_trans (Nat.le_trans (Nat.le_trans Kq65.1 Kq450.1) Kq453.1) Kq457.1)
    have ne617 := o_nl A63.lt l618 (Nat.le_of_eq g460)
    have l621 := (Nat.le_trans Kq453.1 Kq457.1)
    have ne620 := o_nl p450_5.lt l621 (Nat.le_of_eq g460)
    have l624 := (Nat.le_trans (Nat.le_trans (Nat.le_trans l495 Kq450.1) Kq453.1) Kq457.1)
    have ne623 := o_nl A1.lt l624 (Nat.le_of_eq g460)
    have l627 := (Nat.le_trans (Nat.le_trans (Nat.le_trans l509 Kq450.1) Kq453.1) Kq457.1)
    have ne626 := o_nl A17.lt l627 (Nat.le_of_eq g460)
    have l630 := (Nat.le_trans (Nat.le_trans (Nat.le_trans l519 Kq450.1) Kq453.1) Kq457.1)
    have ne629 := o_nl A33.lt l630 (Nat.le_of_eq g460)
    have l633 := (Nat.le_trans (Nat.le_trans (Nat.le_trans l540 Kq450.1) Kq453.1) Kq457.1)
    have ne632 := o_nl p3_0.lt l633 (Nat.le_of_eq g460)
    have l636 := (Nat.le_trans (Nat.le_trans (Nat.le_trans l560 Kq450.1) Kq453.1) Kq457.1)
    have ne635 := o_nl p19_0.lt l636 (Nat.le_of_eq g460)
    have l639 := (Nat.le_trans (Nat.le_trans (Nat.le_trans l576 Kq450.1) Kq453.1) Kq457.1)
    have ne638 := o_nl p35_0.lt l639 (Nat.le_of_eq g460)
    have ne641 := o_nl p3_6.lt l633 (Nat.le_of_eq g460)
    have ne643 := o_nl p19_6.lt l636 (Nat.le_of_eq g460)
    have ne645 := o_nl p35_6.lt l639 (Nat.le_of_eq g460)
    have l647 := (Nat.le_trans l530 E17.1)
    have ne646 := o_nl p3_0.lt l647 le_q19_0
    have l649 := (Nat.le_trans l534 E33.1)
    have ne648 := o_nl p3_0.lt l649 le_q35_0
    have ne650 := o_nl p3_0.lt l647 le_q19_1
    have ne651 := o_nl p3_0.lt l649 le_q35_1
    have l653 := (Nat.le_trans l554 E33.1)
    have ne652 := o_nl p19_0.lt l653 le_q35_0
    have ne654 := o_nl p19_0.lt l653 le_q35_1
    refine kN X464 hx hZ rfl hown (w hw 103 rfl) (w hw 104 rfl) (w hw 102 rfl) (w hw 105 rfl) (by decide) a460 [(.ref a462), (.ref a63)] [(.ref a460)] 1 (rm__init__97 l Z a0 T464.heap n0 hw H O465 a460 a462 a63 q450_0 a1 a17 a33 q3_0 q19_0 q35_0 q3_1 q19_1 q35_1 qk450_0 qk3_0 qk19_0 qk35_0 f467 f469 f470 f471 g_a460 p464_0 p464_3 f472 f475 f476 f479 f480 f481 f498 f499 f512 f513 f522 f523 f543 f544 f545 f546 g_q3_0 f547 f563 f564 f565 f566 g_q19_0 f567 f579 f580 f581 f582 g_q35_0 f594 f595 f605 f606 f614 f615 ne468 (Ne.symm ne617) (Ne.symm ne620) (Ne.symm ne623) (Ne.symm ne626) (Ne.symm ne629) (Ne.symm ne632) (Ne.symm ne635) (Ne.symm ne638) (Ne.symm ne641) (Ne.symm ne643) (Ne.symm ne645) (Ne.symm ne529) (Ne.symm ne533) (Ne.symm ne553) ne646 ne648 ne650 ne651 ne652 ne654) (by decide) (by decide) rfl (by rw [hml]; rfl) (lenOf pd_10 rfl) (Nat.le_of_eq rfl) (hb y at_168) (by decide) (by decide) 171 rfl fun v466 T466 L466 X466 hQ466 => ?_
    obtain ⟨q466_0, q466_1, qk466_0, rfl, Nq466, Kq466, le_q466_0, le_q466_1, ne_q466_0_q466_1, p466_0, p466_1, p466_2, p466_3, p466_4, p466_5, p466_6, p466_7, p466_8, p466_9, p466_10, p466_11, p466_12, p466_13, p466_14, p466_15, p466_16, p466_17, p466_18, p466_19, p466_20, p466_21, p466_22⟩ := hQ466
    have O655 := O465.keep Kq466 (allS g_a460 (allS g_q3_0 (allS g_q19_0 (allS g_q35_0 all0))))
    have N655 := Fr.app N465 Nq466
    refine o_nV ?_
    refine qt X466 hx (hb y at_171) #[.val (.int x0), .val (.int x1), .val (.int x2), .val (.int x3), .val (.int 3), .val (.int ln), .val (.ref a1), .val (.ref a17), .val (.ref a33), .val (.ref a49), .val (.ref a63), .val (.ref a460), .unset, .unset, .unset, .unset, .unset, .unset, .unset] rfl rfl 173 rfl ?_
    refine nO X466 hx hZ hown (w hw 142 rfl) (w hw 143 rfl) (w hw 144 rfl) rfl (hb y at_173) 176 rfl (by decide) (by decide) fun T656 a656 g656 X656 E656 A656 D656 => ?_
    have g_a656 : n0 ≤ a656 := Nat.le_trans (o_osz O655) (Nat.le_of_eq g656)
    have O657 := O655.ext E656
    have F656_stacks : Fld Z T656.heap a656 s0 s66 "[I" .null := D656 (Or.inr (w hw 151 rfl)) (ty := (.array .int)) (by decide)
    have F656_x : Fld Z T656.heap a656 s0 "x" "[I" .null := D656 (Or.inr (w hw 153 rfl)) (ty := (.array .int)) (by decide)
    have F656_pointers : Fld Z T656.heap a656 s0 s60 "[J" .null := D656 (Or.inr (w hw 158 rfl)) (ty := (.array .long)) (by decide)
    have F656_registerWords : Fld Z T656.heap a656 s0 s47 "[J" .null := D656 (Or.inr (w hw 160 rfl)) (ty := (.array .long)) (by decide)
    have F656_declaration : Fld Z T656.heap a656 s0 s49 s18 .null := D656 (Or.inr (w hw 162 rfl)) (ty := (.object s19)) (by decide)
    have F656_image : Fld Z T656.heap a656 s0 "image" s22 .null := D656 (Or.inr (w hw 164 rfl)) (ty := (.object s3)) (by decide)
    have F656_imageSegments : Fld Z T656.heap a656 s0 s48 "I" (.int 0) := D656 (Or.inr (w hw 172 rfl)) (ty := .int) (by decide)
    have F656_segments : Fld Z T656.heap a656 s0 s35 s12 .null := D656 (Or.inr (w hw 175 rfl)) (ty := (.array (.object s1))) (by decide)
    have F656_access : Fld Z T656.heap a656 s0 s67 s14 .null := D656 (Or.inr (w hw 217 rfl)) (ty := (.array (.array (.object s16)))) (by decide)
    have F656_lastSegment : Fld Z T656.heap a656 s0 s53 "I" (.int 0) := D656 (Or.inl (w hw 423 rfl)) (ty := .int) (by decide)
    refine qD X656 hx (hb y at_176) rfl 177 rfl ?_
    refine o_aconst_null X656 hx (hb y at_177) 178 rfl ?_
    refine qa X656 hx (hb y at_178) rfl rfl 180 rfl ?_
    have f659 := (p466_0.ext E656)
    have f660 := (p466_1.ext E656)
    have f661 := (p466_17.ext E656)
    have f662 := (p466_19.ext E656)
    have f663 := (p466_20.ext E656)
    have f664 := (p466_21.ext E656)
    have f665 := ((f481.keep Kq466).ext E656)
    have f666 := ((f499.keep Kq466).ext E656)
    have f667 := ((f513.keep Kq466).ext E656)
    have l670 := (Nat.le_trans (Nat.le_trans E462.1 Kq464.1) Kq466.1)
    have ne669 := o_nl A460.lt l670 (Nat.le_of_eq g656)
    have ne672 := o_nl p466_17.lt (Nat.le_refl _) (Nat.le_of_eq g656)
    have ne674 := o_nl p466_21.lt (Nat.le_refl _) (Nat.le_of_eq g656)
    refine kN X656 hx hZ rfl hown (w hw 145 rfl) (w hw 146 rfl) (w hw 144 rfl) (w hw 147 rfl) (by decide) a656 [.null, (.ref a460)] [(.ref a656)] 1 (rm__init__119 l Z a0 T656.heap n0 hw H O657 a656 a460 q466_0 q466_1 a1 a17 a33 qk466_0 A656 F656_access F656_declaration F656_image F656_imageSegments F656_lastSegment F656_pointers F656_registerWords F656_segments F656_stacks F656_x g_a656 f659 f660 f661 f662 f663 f664 f665 f666 f667 (Ne.symm ne669) (Ne.symm ne672) (Ne.symm ne674)) (by decide) (by decide) rfl (by rw [hml]; rfl) (lenOf pd_13 rfl) (Nat.le_of_eq rfl) (hb y at_180) (by decide) (by decide) 183 rfl fun v658 T658 L658 X658 hQ658 => ?_
    obtain ⟨q658_0, qk658_0, rfl, Nq658, Kq658, le_q658_0, p658_0, p658_1, p658_2, p658_3, p658_4⟩ := hQ658
    have N675 := Fr.app N655 Nq658
    refine o_nV ?_
    refine qt X658 hx (hb y at_183) #[.val (.int x0), .val (.int x1), .val (.int x2), .val (.int x3), .val (.int 3), .val (.int ln), .val (.ref a1), .val (.ref a17), .val (.ref a33), .val (.ref a49), .val (.ref a63), .val (.ref a460), .val (.ref a656), .unset, .unset, .unset, .unset, .unset, .unset] rfl rfl 185 rfl ?_
    refine qI X658 hx (hb y at_185) rfl 186 rfl ?_
    refine o_bipush X658 hx (hb y at_186) (127 : Int32) rfl 188 rfl ?_
    refine o_iand X658 hx (hb y at_188) 189 rfl ?_
    refine qC X658 hx (hb y at_189) (2 : Int32) rfl 190 rfl ?_
    refine o_isub X658 hx (hb y at_190) 191 rfl ?_
    obtain ⟨mm, h_mm⟩ : ∃ z : Int32, z = ((x2 &&& (127 : Int32)) - (2 : Int32)) := ⟨_, rfl⟩
    rw [← h_mm]
    refine qs X658 hx (hb y at_191) #[.val (.int x0), .val (.int x1), .val (.int x2), .val (.int x3), .val (.int 3), .val (.int ln), .val (.ref a1), .val (.ref a17), .val (.ref a33), .val (.ref a49), .val (.ref a63), .val (.ref a460), .val (.ref a656), .val (.int mm), .unset, .unset, .unset, .unset, .unset] rfl 193 rfl ?_
    have l677 := (Nat.le_trans (Nat.le_trans (Nat.le_of_eq (Wr.size W52).symm) (Nat.le_of_eq (Wr.size W56).symm)) (Nat.le_of_eq (Wr.size W60).symm))
    have ne676 := o_nl A49.lt l677 (Nat.le_of_eq g63)
    have l679 := (Nat.le_trans (Nat.le_trans l677 E63.1) Kq65.1)
    have ne678 := o_nl A49.lt l679 le_q450_0
    have l681 := (Nat.le_trans (Nat.le_trans (Nat.le_trans (Nat.le_trans l679 Kq450.1) Kq453.1) Kq457.1) E460.1)
    have ne680 := o_nl A49.lt l681 (Nat.le_of_eq g462)
    have l683 := (Nat.le_trans (Nat.le_trans (Nat.le_trans l679 Kq450.1) Kq453.1) Kq457.1)
    have ne682 := o_nl A49.lt l683 (Nat.le_of_eq g460)
    have l685 := (Nat.le_trans (Nat.le_trans (Nat.le_trans l681 E462.1) Kq464.1) Kq466.1)
    have ne684 := o_nl A49.lt l685 (Nat.le_of_eq g656)
    have f686 := (((((((((((V60.ext E63).keep Kq65 (ninS ne676 nin0)).keep Kq450 (ninS ne676 nin0)).keep Kq453 (ninS ne676 (ninS ne678 nin0))).keep Kq457 (ninS ne676 (ninS ne678 nin0))).ext E460).ext E462).keep Kq464 (ninS ne680 nin0)).keep Kq466 (ninS ne682 (ninS (Ne.symm ne535) (ninS (Ne.symm ne555) (ninS (Ne.symm ne571) nin0))))).ext E656).keep Kq658 (ninS ne684 nin0))
    obtain ⟨v687, hr687, hS687, hE687⟩ : ∃ v : Value, v.isRef = true ∧ o_Met l (⟨s0, s74, s25⟩ : MethodName) B21 2 (some (.object s1)) [] (o_rm 0 0 0 0) Z #[(.ref a656), (.int x1)] T658.heap (o_R (some v) T658.heap) ∧ o_Met l (⟨s20, s73, s15⟩ : MethodName) B22 4 (some (.object s1)) [] (o_rm 0 0 0 0) Z #[(.ref a49), (.int 3), (.int x1)] T658.heap (o_R (some v) T658.heap) := by
      rcases o_cases3 x1 with ⟨q687a, q687b⟩ | q687 | q687 | q687 | q687 | ⟨q687a, q687b, q687c, q687d⟩ | ⟨q687a, q687b, q687c, q687d⟩
      · exact ⟨.null, rfl, rm_segment_neg l Z a0 T658.heap hw q687a, rm_expected_lo l Z a0 T658.heap hw q687b⟩
      · subst q687
        exact ⟨.null, rfl, rm_segment_nul l Z a0 T658.heap hw p658_1 p658_2 (by decide : ¬ ((0 : Int32) < (0 : Int32))) (by decide : (0 : Int32) < (69 : Int32)) rfl, rm_expected_lo l Z a0 T658.heap hw (by decide : (0 : Int32) < (1 : Int32))⟩
      · subst q687
        exact ⟨(.ref a1), rfl, rm_segment_ref l Z a0 T658.heap hw p658_1 p658_2 (by decide : ¬ ((1 : Int32) < (0 : Int32))) (by decide : (1 : Int32) < (69 : Int32)) rfl, rm_expected_in l Z a0 T658.heap hw f686 (by decide : ¬ ((1 : Int32) < (1 : Int32))) (by decide : ¬ ((3 : Int32) < (1 : Int32))) (by decide) rfl⟩
      · subst q687
        exact ⟨(.ref a17), rfl, rm_segment_ref l Z a0 T658.heap hw p658_1 p658_2 (by decide : ¬ ((2 : Int32) < (0 : Int32))) (by decide : (2 : Int32) < (69 : Int32)) rfl, rm_expected_in l Z a0 T658.heap hw f686 (by decide : ¬ ((2 : Int32) < (1 : Int32))) (by decide : ¬ ((3 : Int32) < (2 : Int32))) (by decide) rfl⟩
      · subst q687
        exact ⟨(.ref a33), rfl, rm_segment_ref l Z a0 T658.heap hw p658_1 p658_2 (by decide : ¬ ((3 : Int32) < (0 : Int32))) (by decide : (3 : Int32) < (69 : Int32)) rfl, rm_expected_in l Z a0 T658.heap hw f686 (by decide : ¬ ((3 : Int32) < (1 : Int32))) (by decide : ¬ ((3 : Int32) < (3 : Int32))) (by decide) rfl⟩
      · exact ⟨.null, rfl, rm_segment_nul l Z a0 T658.heap hw p658_1 p658_2 q687a q687b (o_far q687d 4 rfl (by decide) (by decide)), rm_expected_hi l Z a0 T658.heap hw q687c q687d⟩
      · exact ⟨.null, rfl, rm_segment_out l Z a0 T658.heap hw p658_1 p658_2 q687a q687b, rm_expected_hi l Z a0 T658.heap hw q687c q687d⟩
    refine qa X658 hx (hb y at_193) rfl rfl 195 rfl ?_
    refine qI X658 hx (hb y at_195) rfl 196 rfl ?_
    refine qV X658 hx hZ hown (w hw 218 rfl) (w hw 219 rfl) (notFace_of_selects (args := #[]) (mvT hZ (w hw 221 rfl))) (w hw 221 rfl) (w hw 220 rfl) (w hw 144 rfl) (w hw 222 rfl) (by decide) a656 [(.int x1)] [] 0 (hS687) (by decide) (by decide) rfl rfl rfl p658_0 (by rw [hml]; rfl) (lenOf pd_14 rfl) (Nat.le_of_eq rfl) (hb y at_196) 199 rfl rfl (by decide) (by decide) fun T689 X689 e689 => ?_
    refine qa X689 hx (hb y at_199) rfl rfl 201 rfl ?_
    refine qi X689 hx (hb y at_201) rfl 203 rfl ?_
    refine qI X689 hx (hb y at_203) rfl 204 rfl ?_
    refine qS X689 hx hZ hown (w hw 223 rfl) (w hw 224 rfl) (w hw 225 rfl) (w hw 226 rfl) (by decide) [(.ref a49), (.int 3), (.int x1)] [v687] 1 (hE687) (by decide) (by decide) rfl rfl e689 (by rw [hml]; rfl) (lenOf pd_15 rfl) (o_cat hr687) (hb y at_204) 207 rfl rfl (by decide) (by decide) fun T691 X691 e691 => ?_
    refine qm X691 hx true (hb y at_207) hr687 hr687 (decide_eq_true rfl) 210 (by decide) (by decide) ?_
    refine qC X691 hx (hb y at_210) (1 : Int32) rfl 211 rfl ?_
    refine qG X691 hx (hb y at_211) 215 (by decide) (by decide) ?_
    refine qs X691 hx (hb y at_215) #[.val (.int x0), .val (.int x1), .val (.int x2), .val (.int x3), .val (.int 3), .val (.int ln), .val (.ref a1), .val (.ref a17), .val (.ref a33), .val (.ref a49), .val (.ref a63), .val (.ref a460), .val (.ref a656), .val (.int mm), .val (.int 1), .unset, .unset, .unset, .unset] rfl 217 rfl ?_
    obtain ⟨v692, hr692, hS692, hE692⟩ : ∃ v : Value, v.isRef = true ∧ o_Met l (⟨s0, s74, s25⟩ : MethodName) B21 2 (some (.object s1)) [] (o_rm 0 0 0 0) Z #[(.ref a656), (.int mm)] T658.heap (o_R (some v) T658.heap) ∧ o_Met l (⟨s20, s73, s15⟩ : MethodName) B22 4 (some (.object s1)) [] (o_rm 0 0 0 0) Z #[(.ref a49), (.int 3), (.int mm)] T658.heap (o_R (some v) T658.heap) := by
      rcases o_cases3 mm with ⟨q692a, q692b⟩ | q692 | q692 | q692 | q692 | ⟨q692a, q692b, q692c, q692d⟩ | ⟨q692a, q692b, q692c, q692d⟩
      · exact ⟨.null, rfl, rm_segment_neg l Z a0 T658.heap hw q692a, rm_expected_lo l Z a0 T658.heap hw q692b⟩
      · subst q692
        exact ⟨.null, rfl, rm_segment_nul l Z a0 T658.heap hw p658_1 p658_2 (by decide : ¬ ((0 : Int32) < (0 : Int32))) (by decide : (0 : Int32) < (69 : Int32)) rfl, rm_expected_lo l Z a0 T658.heap hw (by decide : (0 : Int32) < (1 : Int32))⟩
      · subst q692
        exact ⟨(.ref a1), rfl, rm_segment_ref l Z a0 T658.heap hw p658_1 p658_2 (by decide : ¬ ((1 : Int32) < (0 : Int32))) (by decide : (1 : Int32) < (69 : Int32)) rfl, rm_expected_in l Z a0 T658.heap hw f686 (by decide : ¬ ((1 : Int32) < (1 : Int32))) (by decide : ¬ ((3 : Int32) < (1 : Int32))) (by decide) rfl⟩
      · subst q692
        exact ⟨(.ref a17), rfl, rm_segment_ref l Z a0 T658.heap hw p658_1 p658_2 (by decide : ¬ ((2 : Int32) < (0 : Int32))) (by decide : (2 : Int32) < (69 : Int32)) rfl, rm_expected_in l Z a0 T658.heap hw f686 (by decide : ¬ ((2 : Int32) < (1 : Int32))) (by decide : ¬ ((3 : Int32) < (2 : Int32))) (by decide) rfl⟩
      · subst q692
        exact ⟨(.ref a33), rfl, rm_segment_ref l Z a0 T658.heap hw p658_1 p658_2 (by decide : ¬ ((3 : Int32) < (0 : Int32))) (by decide : (3 : Int32) < (69 : Int32)) rfl, rm_expected_in l Z a0 T658.heap hw f686 (by decide : ¬ ((3 : Int32) < (1 : Int32))) (by decide : ¬ ((3 : Int32) < (3 : Int32))) (by decide) rfl⟩
      · exact ⟨.null, rfl, rm_segment_nul l Z a0 T658.heap hw p658_1 p658_2 q692a q692b (o_far q692d 4 rfl (by decide) (by decide)), rm_expected_hi l Z a0 T658.heap hw q692c q692d⟩
      · exact ⟨.null, rfl, rm_segment_out l Z a0 T658.heap hw p658_1 p658_2 q692a q692b, rm_expected_hi l Z a0 T658.heap hw q692c q692d⟩
    refine qa X691 hx (hb y at_217) rfl rfl 219 rfl ?_
    refine qi X691 hx (hb y at_219) rfl 221 rfl ?_
    refine qV X691 hx hZ hown (w hw 218 rfl) (w hw 219 rfl) (notFace_of_selects (args := #[]) (mvT hZ (w hw 221 rfl))) (w hw 221 rfl) (w hw 220 rfl) (w hw 144 rfl) (w hw 222 rfl) (by decide) a656 [(.int mm)] [] 0 (hS692) (by decide) (by decide) rfl rfl e691 p658_0 (by rw [hml]; rfl) (lenOf pd_14 rfl) (Nat.le_of_eq rfl) (hb y at_221) 224 rfl rfl (by decide) (by decide) fun T694 X694 e694 => ?_
    refine qa X694 hx (hb y at_224) rfl rfl 226 rfl ?_
    refine qi X694 hx (hb y at_226) rfl 228 rfl ?_
    refine qi X694 hx (hb y at_228) rfl 230 rfl ?_
    refine qS X694 hx hZ hown (w hw 223 rfl) (w hw 224 rfl) (w hw 225 rfl) (w hw 226 rfl) (by decide) [(.ref a49), (.int 3), (.int mm)] [v692] 1 (hE692) (by decide) (by decide) rfl rfl e694 (by rw [hml]; rfl) (lenOf pd_15 rfl) (o_cat hr692) (hb y at_230) 233 rfl rfl (by decide) (by decide) fun T696 X696 e696 => ?_
    refine qm X696 hx true (hb y at_233) hr692 hr692 (decide_eq_true rfl) 236 (by decide) (by decide) ?_
    refine qC X696 hx (hb y at_236) (1 : Int32) rfl 237 rfl ?_
    refine qG X696 hx (hb y at_237) 241 (by decide) (by decide) ?_
    refine qs X696 hx (hb y at_241) #[.val (.int x0), .val (.int x1), .val (.int x2), .val (.int x3), .val (.int 3), .val (.int ln), .val (.ref a1), .val (.ref a17), .val (.ref a33), .val (.ref a49), .val (.ref a63), .val (.ref a460), .val (.ref a656), .val (.int mm), .val (.int 1), .val (.int 1), .unset, .unset, .unset] rfl 243 rfl ?_
    refine qa X696 hx (hb y at_243) rfl rfl 245 rfl ?_
    refine qi X696 hx (hb y at_245) rfl 247 rfl ?_
    refine qV X696 hx hZ hown (w hw 218 rfl) (w hw 219 rfl) (notFace_of_selects (args := #[]) (mvT hZ (w hw 221 rfl))) (w hw 221 rfl) (w hw 220 rfl) (w hw 144 rfl) (w hw 222 rfl) (by decide) a656 [(.int 3)] [] 0 (rm_segment_ref l Z a0 T658.heap hw p658_1 p658_2 (by decide : ¬ ((3 : Int32) < (0 : Int32))) (by decide : (3 : Int32) < (69 : Int32)) rfl) (by decide) (by decide) rfl rfl e696 p658_0 (by rw [hml]; rfl) (lenOf pd_14 rfl) (Nat.le_of_eq rfl) (hb y at_247) 250 rfl rfl (by decide) (by decide) fun T698 X698 e698 => ?_
    refine qa X698 hx (hb y at_250) rfl rfl 252 rfl ?_
    refine qi X698 hx (hb y at_252) rfl 254 rfl ?_
    refine qi X698 hx (hb y at_254) rfl 256 rfl ?_
    refine qS X698 hx hZ hown (w hw 223 rfl) (w hw 224 rfl) (w hw 225 rfl) (w hw 226 rfl) (by decide) [(.ref a49), (.int 3), (.int 3)] [(.ref a33)] 1 (rm_expected_in l Z a0 T658.heap hw f686 (by decide : ¬ ((3 : Int32) < (1 : Int32))) (by decide : ¬ ((3 : Int32) < (3 : Int32))) (by decide) rfl) (by decide) (by decide) rfl rfl e698 (by rw [hml]; rfl) (lenOf pd_15 rfl) (Nat.le_of_eq rfl) (hb y at_256) 259 rfl rfl (by decide) (by decide) fun T700 X700 e700 => ?_
    refine qm X700 hx true (hb y at_259) rfl rfl (decide_eq_true rfl) 262 (by decide) (by decide) ?_
    refine qC X700 hx (hb y at_262) (1 : Int32) rfl 263 rfl ?_
    refine qG X700 hx (hb y at_263) 267 (by decide) (by decide) ?_
    refine qs X700 hx (hb y at_267) #[.val (.int x0), .val (.int x1), .val (.int x2), .val (.int x3), .val (.int 3), .val (.int ln), .val (.ref a1), .val (.ref a17), .val (.ref a33), .val (.ref a49), .val (.ref a63), .val (.ref a460), .val (.ref a656), .val (.int mm), .val (.int 1), .val (.int 1), .val (.int 1), .unset, .unset] rfl 269 rfl ?_
    refine qa X700 hx (hb y at_269) rfl rfl 271 rfl ?_
    refine qi X700 hx (hb y at_271) rfl 273 rfl ?_
    refine o_bipush X700 hx (hb y at_273) (65 : Int32) rfl 275 rfl ?_
    refine o_iadd X700 hx (hb y at_275) 276 rfl ?_
    refine o_topI (68 : Int32) (by decide) ?_
    refine qV X700 hx hZ hown (w hw 218 rfl) (w hw 219 rfl) (notFace_of_selects (args := #[]) (mvT hZ (w hw 221 rfl))) (w hw 221 rfl) (w hw 220 rfl) (w hw 144 rfl) (w hw 222 rfl) (by decide) a656 [(.int 68)] [] 0 (rm_segment_nul l Z a0 T658.heap hw p658_1 p658_2 (by decide : ¬ ((68 : Int32) < (0 : Int32))) (by decide : (68 : Int32) < (69 : Int32)) rfl) (by decide) (by decide) rfl rfl e700 p658_0 (by rw [hml]; rfl) (lenOf pd_14 rfl) (Nat.le_of_eq rfl) (hb y at_276) 279 rfl rfl (by decide) (by decide) fun T702 X702 e702 => ?_
    refine o_ifnonnullN X702 hx (hb y at_279) 282 rfl ?_
    refine qC X702 hx (hb y at_282) (1 : Int32) rfl 283 rfl ?_
    refine qG X702 hx (hb y at_283) 287 (by decide) (by decide) ?_
    refine qs X702 hx (hb y at_287) #[.val (.int x0), .val (.int x1), .val (.int x2), .val (.int x3), .val (.int 3), .val (.int ln), .val (.ref a1), .val (.ref a17), .val (.ref a33), .val (.ref a49), .val (.ref a63), .val (.ref a460), .val (.ref a656), .val (.int mm), .val (.int 1), .val (.int 1), .val (.int 1), .val (.int 1), .unset] rfl 289 rfl ?_
    refine qa X702 hx (hb y at_289) rfl rfl 291 rfl ?_
    refine qi X702 hx (hb y at_291) rfl 293 rfl ?_
    refine o_bipush X702 hx (hb y at_293) (66 : Int32) rfl 295 rfl ?_
    refine o_iadd X702 hx (hb y at_295) 296 rfl ?_
    refine o_topI (69 : Int32) (by decide) ?_
    refine qV X702 hx hZ hown (w hw 218 rfl) (w hw 219 rfl) (notFace_of_selects (args := #[]) (mvT hZ (w hw 221 rfl))) (w hw 221 rfl) (w hw 220 rfl) (w hw 144 rfl) (w hw 222 rfl) (by decide) a656 [(.int 69)] [] 0 (rm_segment_out l Z a0 T658.heap hw p658_1 p658_2 (by decide : ¬ ((69 : Int32) < (0 : Int32))) (by decide : ¬ ((69 : Int32) < (69 : Int32)))) (by decide) (by decide) rfl rfl e702 p658_0 (by rw [hml]; rfl) (lenOf pd_14 rfl) (Nat.le_of_eq rfl) (hb y at_296) 299 rfl rfl (by decide) (by decide) fun T704 X704 e704 => ?_
    refine o_ifnonnullN X704 hx (hb y at_299) 302 rfl ?_
    refine qC X704 hx (hb y at_302) (1 : Int32) rfl 303 rfl ?_
    refine qG X704 hx (hb y at_303) 307 (by decide) (by decide) ?_
    refine qs X704 hx (hb y at_307) #[.val (.int x0), .val (.int x1), .val (.int x2), .val (.int x3), .val (.int 3), .val (.int ln), .val (.ref a1), .val (.ref a17), .val (.ref a33), .val (.ref a49), .val (.ref a63), .val (.ref a460), .val (.ref a656), .val (.int mm), .val (.int 1), .val (.int 1), .val (.int 1), .val (.int 1), .val (.int 1)] rfl 309 rfl ?_
    refine qi X704 hx (hb y at_309) rfl 311 rfl ?_
    refine qN X704 hx (hb y at_311) ((if0 _ _).trans (feq (by decide : ¬ ((1 : Int32) = (0 : Int32)))).1) 314 rfl ?_
    refine qi X704 hx (hb y at_314) rfl 316 rfl ?_
    refine qN X704 hx (hb y at_316) ((if0 _ _).trans (feq (by decide : ¬ ((1 : Int32) = (0 : Int32)))).1) 319 rfl ?_
    refine qi X704 hx (hb y at_319) rfl 321 rfl ?_
    refine qN X704 hx (hb y at_321) ((if0 _ _).trans (feq (by decide : ¬ ((1 : Int32) = (0 : Int32)))).1) 324 rfl ?_
    refine qi X704 hx (hb y at_324) rfl 326 rfl ?_
    refine qN X704 hx (hb y at_326) ((if0 _ _).trans (feq (by decide : ¬ ((1 : Int32) = (0 : Int32)))).1) 329 rfl ?_
    refine qi X704 hx (hb y at_329) rfl 331 rfl ?_
    refine qN X704 hx (hb y at_331) ((if0 _ _).trans (feq (by decide : ¬ ((1 : Int32) = (0 : Int32)))).1) 334 rfl ?_
    refine qC X704 hx (hb y at_334) (1 : Int32) rfl 335 rfl ?_
    refine qG X704 hx (hb y at_335) 339 (by decide) (by decide) ?_
    exact o_retZ X704 hx hk hret (hb y at_339) rfl ⟨rfl, N675⟩ (by decide) (by decide)
set_option maxRecDepth 65536 in
set_option maxHeartbeats 40000000 in
theorem comes_1 {Post : Tables → Env → Array Value → State → Outcome → State → Prop} (hpost : ∀ tb e args s v u, (limb_1_1.after args s (.returned v) u = true ∧ limb_1_2.after args s (.returned v) u = true ∧ True) → FrameEnd s (.returned v) u (Jvm.fieldLocs frame_1_writes args s ++ Jvm.arrayLocs frame_1_arrays args s ++ Jvm.staticLocs frame_1_statics s) 80 768 → Post tb e args s (.returned v) u) :
    ArmFor flags0 classFile x code maxLocals ret World_1 tables_1 room_1 Calls_1 rest_1 Pre_1 Post := by
  intro l hfl _ _ p e ha hc hk s m args below hf hA hF happ hP
  obtain ⟨hcalls, hrest, hpre⟩ := hP
  obtain ⟨-, -, -, hnamed, -, -, -, hat⟩ := (Spec.applies_iff hf).mp happ
  obtain ⟨hg, hn⟩ := and_e (Cond.before_iff.mp (show (Jvm.Cond.and given_1 narrow_1).before args s = true from hpre))
  obtain ⟨hn101a, hn101b⟩ := and_e hg
  obtain ⟨hn102a, hn102b⟩ := and_e hn101b
  obtain ⟨hn103a, hn103b⟩ := and_e hn102b
  obtain ⟨hn104a, hn104b⟩ := and_e hn103b
  obtain ⟨w0, w1, w2, w3, rfl⟩ : ∃ w0 w1 w2 w3 : Value, args = #[w0, w1, w2, w3] := by
    have hs : args.size = 4 := by simpa [Cond.value, given_1] using hn101a
    obtain ⟨L⟩ := args
    match L, hs with
    | [w0, w1, w2, w3], _ => exact ⟨w0, w1, w2, w3, rfl⟩
  have hw := fun d (hd : d ∈ tables_1) => atoms_spec (ws := Jvm.Cond.code x code maxLocals ret :: tables_1) hat d (List.mem_cons_of_mem _ hd)
  have hfit : Fit s := fun {y c} hc i hi => by
    obtain ⟨ha, rfl⟩ := Array.getElem?_eq_some_iff.mp hc
    have q := List.all_eq_true.mp ((Array.all_eq_true_iff_forall_mem.mp hF) _ (Array.getElem_mem ha)) i (List.mem_range.mpr hi)
    simpa [Array.getElem?_eq_getElem hi] using q
  obtain ⟨hsets, hown0⟩ := atoms_of _ (rest_1_c_eq ▸ (show rest_1_c.before _ s = true from hrest))
  have hr0 := Cond.before_iff.mp hown0
  obtain ⟨i0, ei0⟩ := is_v hn102a
  obtain rfl : w0 = (.int i0) := Option.some.inj ei0
  obtain ⟨i1, ei1⟩ := is_v hn103a
  obtain rfl : w1 = (.int i1) := Option.some.inj ei1
  obtain ⟨i2, ei2⟩ := is_v hn104a
  obtain rfl : w2 = (.int i2) := Option.some.inj ei2
  obtain ⟨i3, ei3⟩ := is_v hn104b
  obtain rfl : w3 = (.int i3) := Option.some.inj ei3
  obtain ⟨hn1a, hn1b⟩ := and_e hn
  obtain ⟨hn2a, hn2b⟩ := and_e hn1b
  obtain ⟨w_NW, ev_NW⟩ := arr_v hn1a
  have S_NW := Sta.start ev_NW (Or.inr ⟨(w hw 3 rfl), (w hw 59 rfl)⟩)
  have ev_PW := eqv_i (F := .int 8) rfl hn2b
  have S_PW := Sta.start ev_PW (Or.inr ⟨(w hw 144 rfl), (w hw 155 rfl)⟩)
  obtain ⟨z_CS, ev_CS⟩ := is_v (Cond.before_iff.mp (hsets _ (List.mem_of_getElem? (i := 1) rfl)))
  have S_CS := Sta.start ev_CS (Or.inl (hsets _ (List.mem_of_getElem? (i := 0) rfl)))
  have N_CS : ¬ (z_CS = (0 : Int32)) := o_ne0 ev_CS (Cond.before_iff.mp (hsets _ (List.mem_of_getElem? (i := 2) rfl)))
  obtain ⟨w_DC, ev_DC⟩ := arr_v (Cond.before_iff.mp (hsets _ (List.mem_of_getElem? (i := 15) rfl)))
  have S_DC := Sta.start ev_DC (Or.inr ⟨(w hw 32 rfl), (hsets _ (List.mem_of_getElem? (i := 11) rfl))⟩)
  have E_DC := Exa.start ev_DC (Cond.before_iff.mp (hsets _ (List.mem_of_getElem? (i := 16) rfl)))
  obtain ⟨k_DC, V_DC⟩ := o_arv0 hfit ev_DC (Cond.before_iff.mp (hsets _ (List.mem_of_getElem? (i := 15) rfl))) (Cond.before_iff.mp (hsets _ (List.mem_of_getElem? (i := 17) rfl))) .null
  obtain ⟨w_EL, ev_EL⟩ := exa_v (Cond.before_iff.mp (hsets _ (List.mem_of_getElem? (i := 20) rfl)))
  have S_EL := Sta.start ev_EL (Or.inl (hsets _ (List.mem_of_getElem? (i := 19) rfl)))
  have E_EL := Exa.start ev_EL (Cond.before_iff.mp (hsets _ (List.mem_of_getElem? (i := 20) rfl)))
  obtain ⟨w_EA, ev_EA⟩ := arr_v (Cond.before_iff.mp (hsets _ (List.mem_of_getElem? (i := 21) rfl)))
  have F_EL_elements : Fld s s.heap w_EL "java/util/ImmutableCollections$ListN" "elements" "[Ljava/lang/Object;" (.ref w_EA) := Fld.start ((fld_at ev_EL).symm.trans ev_EA)
  have E_EA := Exa.start ev_EA (Cond.before_iff.mp (hsets _ (List.mem_of_getElem? (i := 22) rfl)))
  obtain ⟨k_EA, V_EA⟩ := o_arv0 hfit ev_EA (Cond.before_iff.mp (hsets _ (List.mem_of_getElem? (i := 21) rfl))) (Cond.before_iff.mp (hsets _ (List.mem_of_getElem? (i := 23) rfl))) .null
  have F_EL_allowNulls := o_fldI ev_EL (Cond.before_iff.mp (hsets _ (List.mem_of_getElem? (i := 24) rfl)))
  obtain ⟨w_EM, ev_EM⟩ := exa_v (Cond.before_iff.mp (hsets _ (List.mem_of_getElem? (i := 35) rfl)))
  have S_EM := Sta.start ev_EM (Or.inl (hsets _ (List.mem_of_getElem? (i := 34) rfl)))
  have E_EM := Exa.start ev_EM (Cond.before_iff.mp (hsets _ (List.mem_of_getElem? (i := 35) rfl)))
  obtain ⟨hmir, -⟩ := hcalls
  obtain ⟨cM, kM, w_MO, hM1, hM2, hM3⟩ := hmir
  have M_OA : o_Mi s "[Ljava/lang/Object;" w_MO := ⟨cM, kM, hM1, hM2, by first | exact hM3 | exact hM3.1⟩
  have q_w_cacheI := Cond.before_iff.mp (hsets _ (List.mem_of_getElem? (i := 29) rfl))
  obtain ⟨w_cacheI, ev_w_cacheI⟩ := arr_v q_w_cacheI
  have S_w_cacheI := Sta.start ev_w_cacheI (Or.inr ⟨(w hw 336 rfl), (hsets _ (List.mem_of_getElem? (i := 27) rfl))⟩)
  obtain ⟨c_cacheI, B_w_cacheI⟩ := o_boxI ev_w_cacheI q_w_cacheI (Cond.before_iff.mp (hsets _ (List.mem_of_getElem? (i := 31) rfl))) (Cond.before_iff.mp (hsets _ (List.mem_of_getElem? (i := 32) rfl)))
  have ev_high := eqv_i (F := .int 127) rfl (Cond.before_iff.mp (hsets _ (List.mem_of_getElem? (i := 28) rfl)))
  have S_high := Sta.start ev_high (Or.inl (hsets _ (List.mem_of_getElem? (i := 26) rfl)))
  obtain ⟨n, o, h1, h2, h3, _, L, rfl, ⟨rfl, N⟩, hq⟩ := rm0 l s _ hw tables_1 i0 i1 i2 i3 s.heap s.heap.size (show o_C s s.heap w_NW w_DC w_EL w_EA w_EM w_MO w_cacheI c_cacheI k_DC k_EA z_CS from ⟨S_NW, S_PW, S_CS, N_CS, S_DC, E_DC, V_DC, S_EL, E_EL, F_EL_elements, E_EA, V_EA, F_EL_allowNulls, S_EM, E_EM, M_OA, S_w_cacheI, B_w_cacheI, S_high⟩) (Old.start s) p e ha hc hk s m _ below hf ((Spec.applies_iff_loose hf).mp happ).1 ⟨rfl, State.Warmed39.refl s, rfl⟩ trivial
  refine ⟨n, _, h1, h2, h3, hpost _ _ _ _ _ _ ⟨Cond.after_iff.mpr rfl, Cond.after_iff.mpr (eq_i res_at (Term.int_eval (1)) rfl), trivial⟩ ⟨hq.1, hq.2.1, (hq.2.2.sift fun y hy => Or.inr (N y hy)).mono (by decide) (by decide)⟩⟩
theorem main_1_1 : Claimed_1_1 := comes_1 fun _ _ _ _ _ _ h hF => ⟨h.1, hF⟩
theorem main_1_2 : Claimed_1_2 := comes_1 fun _ _ _ _ _ _ h hF => ⟨h.2.1, hF⟩
end Jvm.Pilot.@@N@@
namespace Jvm.Pilot.@@N@@
open Jvm Jvm.ClassFile Sem Op Lib Jvm.Free Jvm.Stand Jvm.Pilot.@@N@@.Jvm.D
/-! MADE BY PROGRAM (witnessworld.py) out of the Statement's table words and the real class files: 54 classes; the members and pool entries that the words name. The judged class is class 1, her method 1. -/
namespace start1
open Jvm.ClassFile
def mI (a n d : Nat) : MethodInfo := { accessFlags := a, nameIndex := n, descriptorIndex := d, attributes := #[] }
def fI (a n d : Nat) : FieldInfo := { accessFlags := a, nameIndex := n, descriptorIndex := d, attributes := #[] }
def fD (n : String) (t : FieldType) (a s : Nat) : Field := { name := n, type := t, accessFlags := a, slot := s, constantValue := 0 }
def mD (n d : String) (ps : List FieldType) (r : Option FieldType) (a : Nat) (c : Option Code) : Method := { name := n, desc := d, sig := { parameters := ps, returnType := r }, accessFlags := a, code := c }
def u (s : String) : CpInfo := .utf8 (stringToUtf16 s)
/-- a pool by its gaps: so many unusable entries, then the entry; so many at the end -/
def gap : Nat → List CpInfo → List CpInfo
  | 0, r => r
  | n + 1, r => .unusable :: gap n r
def poolList (es : List (Nat × CpInfo)) (last : Nat) : List CpInfo := es.foldr (fun e r => gap e.1 (e.2 :: r)) (gap last [])
def pool (es : List (Nat × CpInfo)) (last : Nat) : Array CpInfo := ⟨poolList es last⟩
def fileOf (pool : Array CpInfo) (this : Nat) (attrs : Array Attribute := #[]) (ms : Array MethodInfo := #[]) (fl : Nat := 33) (sup : Nat := 0) (ifs : Array Nat := #[]) (fds : Array FieldInfo := #[]) : ClassFile where
  minorVersion := 0
  majorVersion := 65
  constantPool := pool
  accessFlags := fl
  thisClass := this
  superClass := sup
  interfaces := ifs
  fields := fds
  methods := ms
  attributes := attrs
def plain (name : String) (sup : Option ClassId) : Class where
  name := name
  kind := .ordinary
  loader := none
  accessFlags := 33
  super := sup
  interfaces := #[]
  cf := none
  fields := #[]
  methods := #[]
  instanceTypes := #[]
  staticTypes := #[]
  resolved := #[]
  callSites := []
  init := .initialized
  statics := none
  mirror := none

def pool0 : Array CpInfo := pool [(5, u s50), (0, u "()V"), (1, .class_ 10), (1, u s8), (0, u "getClass"), (0, u "()Ljava/lang/Class;"), (14, u "hashCode"), (0, u "()I")] 95

def k0c0 : Code := { maxStack := 0, maxLocals := 1, code := object_method_1_code, exceptionTable := #[], attributes := #[] }
def k0m0 : Method := mD s50 "()V" [] none 1 (some k0c0)
def k0m1 : Method := mD "getClass" "()Ljava/lang/Class;" [] (some (.object "java/lang/Class")) 273 none
def k0m2 : Method := mD "hashCode" "()I" [] (some .int) 257 none
/-- java/lang/Object -/
def k0 : Class := { plain s8 none with
  accessFlags := 33
  interfaces := #[]
  cf := some (fileOf pool0 8 #[] #[mI 1 5 6, mI 273 11 12, mI 257 27 28] 33 0 #[] #[])
  fields := #[]
  methods := #[k0m0, k0m1, k0m2]
  instanceTypes := #[]
  staticTypes := #[]
  resolved := Array.replicate 124 none
  statics := none }

def pool1 : Array CpInfo := pool [(2, .class_ 4), (0, .nameAndType 5 6), (0, u s8), (0, u s50), (0, u "()V"), (0, .integer 262143), (0, .class_ 9), (0, u s1), (0, .methodref 11 12), (0, .class_ 13), (0, .nameAndType 14 15), (0, u s4), (0, u "valueOf"), (0, u "(C)Ljava/lang/String;"), (0, .class_ 17), (0, u s6), (0, .methodref 16 3), (0, .methodref 8 20), (0, .nameAndType 5 21), (0, u "(Ljava/lang/String;ILjava/util/List;)V"), (0, .methodref 16 23), (0, .nameAndType 24 25), (0, u "add"), (0, u "(Ljava/lang/Object;)Z"), (0, .class_ 27), (0, u s3), (0, .methodref 26 29), (0, .nameAndType 5 30), (0, u s65), (0, .class_ 32), (0, u s0), (0, .methodref 31 34), (0, .nameAndType 5 35), (0, u s31), (0, .methodref 31 37), (0, .nameAndType 38 39), (0, u s74), (0, u s25), (0, .methodref 41 42), (0, .class_ 43), (0, .nameAndType 44 45), (0, u s20), (0, u s73), (0, u s15), (2, u "law"), (0, u "(IIII)Z")] 5

def k1m0 : Method := mD s50 "()V" [] none 2 none
def k1c1 : Code := { maxStack := 6, maxLocals := 19, code := code, exceptionTable := #[], attributes := #[] }
def k1m1 : Method := mD "law" "(IIII)Z" [.int, .int, .int, .int] (some .boolean) 9 (some k1c1)
def k1c2 : Code := { maxStack := 3, maxLocals := 4, code := method_3_code, exceptionTable := #[], attributes := #[] }
def k1m2 : Method := mD s73 s15 [(.array (.object s1)), .int, .int] (some (.object s1)) 10 (some k1c2)
/-- com/example/lawful_crossing/lawfulcrossing/service/ProcessStateSegmentPinLaw -/
def k1 : Class := { plain s20 (some 0) with
  accessFlags := 49
  interfaces := #[]
  cf := some (fileOf pool1 41 #[] #[mI 2 5 6, mI 9 48 49, mI 10 44 45] 49 2 #[] #[])
  fields := #[]
  methods := #[k1m0, k1m1, k1m2]
  instanceTypes := #[]
  staticTypes := #[]
  resolved := Array.replicate 55 none
  statics := none }

def pool2 : Array CpInfo := pool [(1, .class_ 2), (0, u s1), (0, .methodref 4 5), (0, .class_ 6), (0, .nameAndType 7 8), (0, u s8), (0, u s50), (0, u "()V"), (0, .fieldref 1 10), (0, .nameAndType 11 12), (0, u "NO_WORDS"), (0, u "[J"), (0, .fieldref 1 14), (0, .nameAndType 15 12), (0, u "near"), (0, .integer 262144), (9, .fieldref 1 27), (0, .nameAndType 28 29), (0, u "name"), (0, u s42), (0, .fieldref 1 31), (0, .nameAndType 32 33), (0, u "length"), (0, u "I"), (0, .interfaceMethodref 35 36), (0, .class_ 37), (0, .nameAndType 38 39), (0, u s21), (0, u "copyOf"), (0, u s40), (0, .fieldref 1 41), (0, .nameAndType 42 43), (0, u "accessList"), (0, u s17), (2, u "NAME"), (0, u "Ljava/util/regex/Pattern;"), (44, u "far"), (0, u "[[J"), (41, u "$assertionsDisabled"), (0, u "Z"), (49, u "MAX_LENGTH"), (1, u "RETURN_STACK"), (0, u "STACK_PREFIX"), (0, u "BLOCK_BITS"), (1, u "BLOCK_WORDS"), (3, u "(Ljava/lang/String;ILjava/util/List;)V"), (8, u "()Ljava/lang/String;")] 27

def k2c0 : Code := { maxStack := 3, maxLocals := 4, code := prog_38_method_1_code, exceptionTable := #[], attributes := #[] }
def k2m0 : Method := mD s50 "(Ljava/lang/String;ILjava/util/List;)V" [(.object s4), .int, (.object s21)] none 1 (some k2c0)
def k2c1 : Code := { maxStack := 1, maxLocals := 1, code := prog_38_method_6_code, exceptionTable := #[], attributes := #[] }
def k2m1 : Method := mD "name" "()Ljava/lang/String;" [] (some (.object s4)) 1 (some k2c1)
/-- com/example/lawful_crossing/lawfulcrossing/model/Segment -/
def k2 : Class := { plain s1 (some 0) with
  accessFlags := 33
  interfaces := #[]
  cf := some (fileOf pool2 1 #[] #[mI 1 7 196, mI 1 28 205] 33 4 #[] #[fI 25 186 33, fI 25 188 29, fI 26 189 29, fI 26 46 47, fI 26 190 33, fI 26 192 33, fI 26 11 12, fI 18 28 29, fI 18 32 33, fI 18 42 43, fI 2 15 12, fI 2 92 93, fI 4120 135 136])
  fields := #[fD "MAX_LENGTH" .int 25 0, fD "RETURN_STACK" (.object s4) 25 1, fD "STACK_PREFIX" (.object s4) 26 2, fD "NAME" (.object "java/util/regex/Pattern") 26 3, fD "BLOCK_BITS" .int 26 4, fD "BLOCK_WORDS" .int 26 5, fD "NO_WORDS" (.array .long) 26 6, fD "name" (.object s4) 18 0, fD "length" .int 18 1, fD "accessList" (.object s21) 18 2, fD "near" (.array .long) 2 3, fD "far" (.array (.array .long)) 2 4, fD "$assertionsDisabled" .boolean 4120 7]
  methods := #[k2m0, k2m1]
  instanceTypes := #[(.object s4), .int, (.object s21), (.array .long), (.array (.array .long))]
  staticTypes := #[.int, (.object s4), (.object s4), (.object "java/util/regex/Pattern"), .int, .int, (.array .long), .boolean]
  resolved := Array.replicate 233 none
  statics := some 0 }

def pool3 : Array CpInfo := pool [(1, .class_ 2), (0, u "java/io/Serializable"), (0, .class_ 4), (0, u s8)] 2

/-- java/io/Serializable -/
def k3 : Class := { plain "java/io/Serializable" (some 0) with
  accessFlags := 1537
  interfaces := #[]
  cf := some (fileOf pool3 1 #[] #[] 1537 3 #[] #[])
  fields := #[]
  methods := #[]
  instanceTypes := #[]
  staticTypes := #[]
  resolved := Array.replicate 7 none
  statics := none }

def pool4 : Array CpInfo := pool [(1, .class_ 2), (0, u "java/lang/Comparable"), (0, .class_ 4), (0, u s8)] 7

/-- java/lang/Comparable -/
def k4 : Class := { plain "java/lang/Comparable" (some 0) with
  accessFlags := 1537
  interfaces := #[]
  cf := some (fileOf pool4 1 #[] #[] 1537 3 #[] #[])
  fields := #[]
  methods := #[]
  instanceTypes := #[]
  staticTypes := #[]
  resolved := Array.replicate 12 none
  statics := none }

def pool5 : Array CpInfo := pool [(2, .class_ 4), (1, u "java/lang/CharSequence"), (42, .class_ 48), (0, u "java/lang/CharSequence$1CodePointIterator"), (10, .class_ 60), (0, u "java/lang/CharSequence$1CharIterator"), (5, .class_ 67), (0, u s8)] 63

/-- java/lang/CharSequence -/
def k5 : Class := { plain "java/lang/CharSequence" (some 0) with
  accessFlags := 1537
  interfaces := #[]
  cf := some (fileOf pool5 2 #[.nestMembers #[47, 59]] #[] 1537 66 #[] #[])
  fields := #[]
  methods := #[]
  instanceTypes := #[]
  staticTypes := #[]
  resolved := Array.replicate 131 none
  statics := none }

def pool6 : Array CpInfo := pool [(1, .class_ 2), (0, u "java/lang/constant/Constable"), (0, .class_ 4), (0, u s8)] 6

/-- java/lang/constant/Constable -/
def k6 : Class := { plain "java/lang/constant/Constable" (some 0) with
  accessFlags := 1537
  interfaces := #[]
  cf := some (fileOf pool6 1 #[] #[] 1537 3 #[] #[])
  fields := #[]
  methods := #[]
  instanceTypes := #[]
  staticTypes := #[]
  resolved := Array.replicate 11 none
  statics := none }

def pool7 : Array CpInfo := pool [(1, .class_ 2), (0, u "java/lang/constant/ConstantDesc"), (0, .class_ 4), (0, u s8)] 32

/-- java/lang/constant/ConstantDesc -/
def k7 : Class := { plain "java/lang/constant/ConstantDesc" (some 0) with
  accessFlags := 1537
  interfaces := #[]
  cf := some (fileOf pool7 1 #[] #[] 1537 3 #[] #[])
  fields := #[]
  methods := #[]
  instanceTypes := #[]
  staticTypes := #[]
  resolved := Array.replicate 37 none
  statics := none }

def pool8 : Array CpInfo := pool [(1, .methodref 2 3), (0, .class_ 4), (0, .nameAndType 5 6), (0, u s8), (0, u s50), (0, u "()V"), (2, .fieldref 10 11), (0, .class_ 12), (0, .nameAndType 13 14), (0, u s4), (0, u s34), (0, u "[B"), (0, .fieldref 10 16), (0, .nameAndType 17 18), (0, u s43), (0, u "B"), (0, .fieldref 10 20), (0, .nameAndType 21 22), (0, u "hash"), (0, u "I"), (0, .fieldref 10 24), (0, .nameAndType 25 26), (0, u s33), (0, u "Z"), (11, .fieldref 10 39), (0, .nameAndType 40 26), (0, u "COMPACT_STRINGS"), (12, u "toBytes"), (53, .class_ 109), (1, u s36), (32, u "()Z"), (66, .methodref 10 210), (0, .nameAndType 5 211), (0, u "([BB)V"), (122, u "()I"), (34, u "(C)Z"), (122, .methodref 10 493), (0, .nameAndType 494 142), (0, u "isLatin1"), (80, .class_ 576), (0, u "java/lang/CharSequence"), (22, u "CASE_INSENSITIVE_ORDER"), (0, u "Ljava/util/Comparator;"), (27, .methodref 107 629), (0, .nameAndType 630 631), (0, u "hashCode"), (0, u "([B)I"), (150, u "valueOf"), (0, u "(C)Ljava/lang/String;"), (231, .methodref 107 1016), (0, .nameAndType 1017 369), (0, u "canEncode"), (0, .methodref 107 1019), (0, .nameAndType 53 1020), (0, u "(C)[B"), (80, u "serialPersistentFields"), (0, u "[Ljava/io/ObjectStreamField;"), (0, .class_ 1104), (0, u "java/lang/String$CaseInsensitiveComparator"), (1, .class_ 1107), (0, u "java/io/Serializable"), (0, .class_ 1109), (0, u "java/lang/Comparable"), (0, .class_ 1111), (0, u "java/lang/constant/Constable"), (0, .class_ 1113), (0, u "java/lang/constant/ConstantDesc"), (2, u "serialVersionUID"), (0, u "J"), (3, u "REPL"), (0, u "C"), (2, u "LATIN1"), (1, u "UTF16")] 323

def k8m0 : Method := mD s50 "()V" [] none 1 none
def k8c1 : Code := { maxStack := 2, maxLocals := 2, code := jdk_42_method_78_code, exceptionTable := #[], attributes := #[] }
def k8m1 : Method := mD "hashCode" "()I" [] (some .int) 1 (some k8c1)
def k8c2 : Code := { maxStack := 4, maxLocals := 1, code := jdk_42_method_139_code, exceptionTable := #[], attributes := #[] }
def k8m2 : Method := mD "valueOf" "(C)Ljava/lang/String;" [.char] (some (.object s4)) 9 (some k8c2)
def k8c3 : Code := { maxStack := 2, maxLocals := 3, code := jdk_42_method_151_code, exceptionTable := #[], attributes := #[] }
def k8m3 : Method := mD s50 "([BB)V" [(.array .byte), .byte] none 0 (some k8c3)
def k8c4 : Code := { maxStack := 1, maxLocals := 1, code := jdk_42_method_154_code, exceptionTable := #[], attributes := #[] }
def k8m4 : Method := mD "isLatin1" "()Z" [] (some .boolean) 0 (some k8c4)
/-- java/lang/String -/
def k8 : Class := { plain s4 (some 0) with
  accessFlags := 49
  interfaces := #[3, 4, 5, 6, 7]
  cf := some (fileOf pool8 10 #[.nestMembers #[1103]] #[mI 1 5 6, mI 1 630 334, mI 9 782 783, mI 0 5 211, mI 0 494 142] 49 2 #[1106, 1108, 575, 1110, 1112] #[fI 18 13 14, fI 18 17 18, fI 2 21 22, fI 2 25 26, fI 26 1116 1117, fI 24 40 26, fI 26 1101 1102, fI 26 1121 1122, fI 25 599 600, fI 24 1125 18, fI 24 1127 18])
  fields := #[fD s34 (.array .byte) 18 0, fD s43 .byte 18 1, fD "hash" .int 2 2, fD s33 .boolean 2 3, fD "serialVersionUID" .long 26 0, fD "COMPACT_STRINGS" .boolean 24 1, fD "serialPersistentFields" (.array (.object "java/io/ObjectStreamField")) 26 2, fD "REPL" .char 26 3, fD "CASE_INSENSITIVE_ORDER" (.object "java/util/Comparator") 25 4, fD "LATIN1" .byte 24 5, fD "UTF16" .byte 24 6]
  methods := #[k8m0, k8m1, k8m2, k8m3, k8m4]
  instanceTypes := #[(.array .byte), .byte, .int, .boolean]
  staticTypes := #[.long, .boolean, (.array (.object "java/io/ObjectStreamField")), .char, (.object "java/util/Comparator"), .byte, .byte]
  resolved := Array.replicate 1451 none
  statics := some 1 }

def pool9 : Array CpInfo := pool [(4, .class_ 6), (1, u s8), (0, u s50), (0, u "()V"), (5, .class_ 16), (1, u s36), (40, u "([B)I"), (32, u "canEncode"), (14, u "(C)Z"), (15, u "$assertionsDisabled"), (0, u "Z"), (98, .class_ 223), (1, u "java/lang/StringLatin1$LinesSpliterator"), (74, u "hashCode"), (81, u "toBytes"), (1, u "(C)[B"), (7, .class_ 391), (0, u "java/lang/StringLatin1$CharsSpliterator")] 3

def k9m0 : Method := mD s50 "()V" [] none 0 none
def k9c1 : Code := { maxStack := 2, maxLocals := 1, code := jdk_43_method_3_code, exceptionTable := #[], attributes := #[] }
def k9m1 : Method := mD "canEncode" "(C)Z" [.char] (some .boolean) 9 (some k9c1)
def k9c2 : Code := { maxStack := 5, maxLocals := 1, code := jdk_43_method_21_code, exceptionTable := #[], attributes := #[] }
def k9m2 : Method := mD "hashCode" "([B)I" [(.array .byte)] (some .int) 9 (some k9c2)
def k9c3 : Code := { maxStack := 4, maxLocals := 1, code := jdk_43_method_46_code, exceptionTable := #[], attributes := #[] }
def k9m3 : Method := mD "toBytes" "(C)[B" [.char] (some (.array .byte)) 9 (some k9c3)
/-- java/lang/StringLatin1 -/
def k9 : Class := { plain s36 (some 0) with
  accessFlags := 48
  interfaces := #[]
  cf := some (fileOf pool9 14 #[.nestMembers #[390, 221]] #[mI 0 7 8, mI 9 90 105, mI 9 298 57, mI 9 380 382] 48 4 #[] #[fI 4120 121 122])
  fields := #[fD "$assertionsDisabled" .boolean 4120 0]
  methods := #[k9m0, k9m1, k9m2, k9m3]
  instanceTypes := #[]
  staticTypes := #[.boolean]
  resolved := Array.replicate 395 none
  statics := none }

def pool10 : Array CpInfo := pool [(8, .class_ 10), (1, u "java/lang/Iterable"), (24, .class_ 36), (0, u s8)] 25

/-- java/lang/Iterable -/
def k10 : Class := { plain "java/lang/Iterable" (some 0) with
  accessFlags := 1537
  interfaces := #[]
  cf := some (fileOf pool10 8 #[] #[] 1537 35 #[] #[])
  fields := #[]
  methods := #[]
  instanceTypes := #[]
  staticTypes := #[]
  resolved := Array.replicate 62 none
  statics := none }

def pool11 : Array CpInfo := pool [(10, .class_ 12), (1, u "java/util/Collection"), (0, u "toArray"), (16, u "()Z"), (29, .class_ 61), (0, u s8), (0, .class_ 63), (0, u "java/lang/Iterable"), (2, u "isEmpty"), (3, u "()[Ljava/lang/Object;")] 44

def k11m0 : Method := mD "isEmpty" "()Z" [] (some .boolean) 1025 none
def k11m1 : Method := mD "toArray" "()[Ljava/lang/Object;" [] (some (.array (.object s8))) 1025 none
/-- java/util/Collection -/
def k11 : Class := { plain "java/util/Collection" (some 0) with
  accessFlags := 1537
  interfaces := #[10]
  cf := some (fileOf pool11 10 #[] #[mI 1025 66 30, mI 1025 13 70] 1537 60 #[62] #[])
  fields := #[]
  methods := #[k11m0, k11m1]
  instanceTypes := #[]
  staticTypes := #[]
  resolved := Array.replicate 115 none
  statics := none }

def pool12 : Array CpInfo := pool [(1, .methodref 2 3), (0, .class_ 4), (0, .nameAndType 5 6), (0, u s8), (0, u s50), (0, u "()V"), (1, .class_ 10), (1, u "java/util/AbstractCollection"), (0, u "size"), (0, u "()I"), (64, .class_ 78), (0, u "java/util/Collection")] 81

def k12c0 : Code := { maxStack := 1, maxLocals := 1, code := jdk_22_method_1_code, exceptionTable := #[], attributes := #[] }
def k12m0 : Method := mD s50 "()V" [] none 4 (some k12c0)
def k12m1 : Method := mD "size" "()I" [] (some .int) 1025 none
/-- java/util/AbstractCollection -/
def k12 : Class := { plain "java/util/AbstractCollection" (some 0) with
  accessFlags := 1057
  interfaces := #[11]
  cf := some (fileOf pool12 8 #[] #[mI 4 5 6, mI 1025 11 12] 1057 2 #[77] #[])
  fields := #[]
  methods := #[k12m0, k12m1]
  instanceTypes := #[]
  staticTypes := #[]
  resolved := Array.replicate 160 none
  statics := none }

def pool13 : Array CpInfo := pool [(8, .class_ 10), (1, u "java/util/SequencedCollection"), (15, .class_ 27), (0, u s8), (0, .class_ 29), (0, u "java/util/Collection")] 27

/-- java/util/SequencedCollection -/
def k13 : Class := { plain "java/util/SequencedCollection" (some 0) with
  accessFlags := 1537
  interfaces := #[11]
  cf := some (fileOf pool13 8 #[] #[] 1537 26 #[28] #[])
  fields := #[]
  methods := #[]
  instanceTypes := #[]
  staticTypes := #[]
  resolved := Array.replicate 57 none
  statics := none }

def pool14 : Array CpInfo := pool [(8, .class_ 10), (1, u s21), (20, u "(Ljava/lang/Object;)V"), (16, u s50), (26, u "get"), (0, u s71), (2, u "size"), (0, u "()I"), (7, u "of"), (1, .fieldref 91 92), (0, .class_ 93), (0, .nameAndType 94 95), (0, u s38), (0, u "EMPTY_LIST"), (0, u "Ljava/util/ImmutableCollections$ListN;"), (0, .class_ 97), (0, u s9), (0, .methodref 96 99), (0, .nameAndType 48 31), (0, .methodref 96 101), (0, .nameAndType 48 102), (0, u "(Ljava/lang/Object;Ljava/lang/Object;)V"), (0, .class_ 104), (0, u s8), (3, u s63), (0, .methodref 91 110), (0, .nameAndType 111 108), (0, u "listFromArray"), (0, .methodref 91 113), (0, .nameAndType 114 115), (0, u "listCopy"), (0, u s40), (3, u "()Ljava/util/List;"), (0, .class_ 121), (0, u "java/util/SequencedCollection"), (1, u "iterator"), (0, u "()Ljava/util/Iterator;"), (109, u "copyOf")] 16

def k14m0 : Method := mD "size" "()I" [] (some .int) 1025 none
def k14m1 : Method := mD "iterator" "()Ljava/util/Iterator;" [] (some (.object "java/util/Iterator")) 1025 none
def k14m2 : Method := mD "get" s71 [.int] (some (.object s8)) 1025 none
def k14c3 : Code := { maxStack := 1, maxLocals := 0, code := jdk_40_method_36_code, exceptionTable := #[], attributes := #[] }
def k14m3 : Method := mD "of" "()Ljava/util/List;" [] (some (.object s21)) 9 (some k14c3)
def k14c4 : Code := { maxStack := 5, maxLocals := 2, code := jdk_40_method_47_code, exceptionTable := #[], attributes := #[] }
def k14m4 : Method := mD "of" s63 [(.array (.object s8))] (some (.object s21)) 137 (some k14c4)
def k14c5 : Code := { maxStack := 1, maxLocals := 1, code := jdk_40_method_48_code, exceptionTable := #[], attributes := #[] }
def k14m5 : Method := mD "copyOf" s40 [(.object "java/util/Collection")] (some (.object s21)) 9 (some k14c5)
/-- java/util/List -/
def k14 : Class := { plain s21 (some 0) with
  accessFlags := 1537
  interfaces := #[13]
  cf := some (fileOf pool14 8 #[] #[mI 1025 79 80, mI 1025 123 124, mI 1025 75 76, mI 9 88 119, mI 137 88 108, mI 9 234 115] 1537 103 #[120] #[])
  fields := #[]
  methods := #[k14m0, k14m1, k14m2, k14m3, k14m4, k14m5]
  instanceTypes := #[]
  staticTypes := #[]
  resolved := Array.replicate 251 none
  statics := none }

def pool15 : Array CpInfo := pool [(1, .methodref 2 3), (0, .class_ 4), (0, .nameAndType 5 6), (0, u "java/util/AbstractCollection"), (0, u s50), (0, u "()V"), (0, .fieldref 8 9), (0, .class_ 10), (0, .nameAndType 11 12), (0, u s24), (0, u s29), (0, u "I"), (64, .class_ 78), (0, u "java/util/AbstractList$Itr"), (3, .class_ 83), (0, u "java/util/AbstractList$ListItr"), (9, .class_ 94), (0, u "java/util/AbstractList$RandomAccessSubList"), (3, .class_ 99), (0, u "java/util/AbstractList$SubList"), (33, .class_ 134), (0, u s21), (73, .class_ 209), (0, u "java/util/AbstractList$SubList$1"), (0, .class_ 211), (0, u "java/util/AbstractList$RandomAccessSpliterator")] 6

def k15c0 : Code := { maxStack := 2, maxLocals := 1, code := jdk_39_method_1_code, exceptionTable := #[], attributes := #[] }
def k15m0 : Method := mD s50 "()V" [] none 4 (some k15c0)
/-- java/util/AbstractList -/
def k15 : Class := { plain s24 (some 12) with
  accessFlags := 1057
  interfaces := #[14]
  cf := some (fileOf pool15 8 #[.nestMembers #[93, 98, 208, 210, 82, 77]] #[mI 4 5 6] 1057 2 #[133] #[fI 132 11 12])
  fields := #[fD s29 .int 132 0]
  methods := #[k15m0]
  instanceTypes := #[.int]
  staticTypes := #[]
  resolved := Array.replicate 218 none
  statics := none }

def pool16 : Array CpInfo := pool [(1, .class_ 2), (0, u "java/util/RandomAccess"), (0, .class_ 4), (0, u s8)] 2

/-- java/util/RandomAccess -/
def k16 : Class := { plain "java/util/RandomAccess" (some 0) with
  accessFlags := 1537
  interfaces := #[]
  cf := some (fileOf pool16 1 #[] #[] 1537 3 #[] #[])
  fields := #[]
  methods := #[]
  instanceTypes := #[]
  staticTypes := #[]
  resolved := Array.replicate 7 none
  statics := none }

def pool17 : Array CpInfo := pool [(1, .class_ 2), (0, u "java/lang/Cloneable"), (0, .class_ 4), (0, u s8)] 2

/-- java/lang/Cloneable -/
def k17 : Class := { plain "java/lang/Cloneable" (some 0) with
  accessFlags := 1537
  interfaces := #[]
  cf := some (fileOf pool17 1 #[] #[] 1537 3 #[] #[])
  fields := #[]
  methods := #[]
  instanceTypes := #[]
  staticTypes := #[]
  resolved := Array.replicate 7 none
  statics := none }

def pool18 : Array CpInfo := pool [(1, .methodref 2 3), (0, .class_ 4), (0, .nameAndType 5 6), (0, u s24), (0, u s50), (0, u "()V"), (0, .class_ 8), (0, u s8), (0, .fieldref 10 11), (0, .class_ 12), (0, .nameAndType 13 14), (0, u s6), (0, u s27), (0, u s10), (2, u "EMPTY_ELEMENTDATA"), (21, .fieldref 10 40), (0, .nameAndType 41 14), (0, u "DEFAULTCAPACITY_EMPTY_ELEMENTDATA"), (4, u "toArray"), (0, u "()[Ljava/lang/Object;"), (0, .fieldref 10 49), (0, .nameAndType 50 51), (0, u "size"), (0, u "I"), (6, .class_ 60), (1, u s51), (0, u "copyOf"), (1, .fieldref 10 64), (0, .nameAndType 65 51), (0, u s29), (0, .methodref 58 67), (0, .nameAndType 61 68), (0, u "([Ljava/lang/Object;I)[Ljava/lang/Object;"), (0, .methodref 10 70), (0, .nameAndType 71 72), (0, u "grow"), (0, u "(I)[Ljava/lang/Object;"), (6, .methodref 80 81), (0, .class_ 82), (0, .nameAndType 83 84), (0, u s69), (0, u "max"), (0, u "(II)I"), (11, u "(Ljava/lang/Object;)Z"), (32, .methodref 10 130), (0, .nameAndType 71 47), (0, .methodref 10 132), (0, .nameAndType 133 134), (0, u "add"), (0, u "(Ljava/lang/Object;[Ljava/lang/Object;I)V"), (13, .class_ 149), (0, u s21), (23, u "()Z"), (88, .class_ 263), (0, u "java/util/ArrayList$ListItr"), (3, .class_ 268), (0, u "java/util/ArrayList$Itr"), (7, .class_ 277), (0, u "java/util/ArrayList$SubList"), (12, .class_ 291), (0, u "java/util/ArrayList$ArrayListSpliterator"), (37, .class_ 330), (0, u "java/util/RandomAccess"), (0, .class_ 332), (0, u "java/lang/Cloneable"), (0, .class_ 334), (0, u "java/io/Serializable"), (0, u "serialVersionUID"), (0, u "J"), (3, u "DEFAULT_CAPACITY"), (22, u "isEmpty"), (136, .class_ 501), (0, u "java/util/ArrayList$SubList$2"), (0, .class_ 503), (0, u "java/util/ArrayList$SubList$1")] 5

def k18c0 : Code := { maxStack := 2, maxLocals := 1, code := jdk_38_method_2_code, exceptionTable := #[], attributes := #[] }
def k18m0 : Method := mD s50 "()V" [] none 1 (some k18c0)
def k18c1 : Code := { maxStack := 4, maxLocals := 4, code := jdk_38_method_6_code, exceptionTable := #[], attributes := #[] }
def k18m1 : Method := mD "grow" "(I)[Ljava/lang/Object;" [.int] (some (.array (.object s8))) 2 (some k18c1)
def k18c2 : Code := { maxStack := 3, maxLocals := 1, code := jdk_38_method_7_code, exceptionTable := #[], attributes := #[] }
def k18m2 : Method := mD "grow" "()[Ljava/lang/Object;" [] (some (.array (.object s8))) 2 (some k18c2)
def k18c3 : Code := { maxStack := 1, maxLocals := 1, code := jdk_38_method_9_code, exceptionTable := #[], attributes := #[] }
def k18m3 : Method := mD "isEmpty" "()Z" [] (some .boolean) 1 (some k18c3)
def k18c4 : Code := { maxStack := 2, maxLocals := 1, code := jdk_38_method_16_code, exceptionTable := #[], attributes := #[] }
def k18m4 : Method := mD "toArray" "()[Ljava/lang/Object;" [] (some (.array (.object s8))) 1 (some k18c4)
def k18c5 : Code := { maxStack := 3, maxLocals := 4, code := jdk_38_method_24_code, exceptionTable := #[], attributes := #[] }
def k18m5 : Method := mD "add" "(Ljava/lang/Object;[Ljava/lang/Object;I)V" [(.object s8), (.array (.object s8)), .int] none 2 (some k18c5)
def k18c6 : Code := { maxStack := 4, maxLocals := 2, code := jdk_38_method_25_code, exceptionTable := #[], attributes := #[] }
def k18m6 : Method := mD "add" "(Ljava/lang/Object;)Z" [(.object s8)] (some .boolean) 1 (some k18c6)
/-- java/util/ArrayList -/
def k18 : Class := { plain s6 (some 15) with
  accessFlags := 33
  interfaces := #[14, 16, 17, 3]
  cf := some (fileOf pool18 10 #[.nestMembers #[290, 276, 500, 502, 262, 267]] #[mI 1 5 6, mI 2 71 72, mI 2 71 47, mI 1 363 173, mI 1 46 47, mI 2 133 134, mI 1 133 96] 33 2 #[148, 329, 331, 333] #[fI 26 335 336, fI 26 340 51, fI 26 17 14, fI 26 41 14, fI 128 13 14, fI 2 50 51])
  fields := #[fD "serialVersionUID" .long 26 0, fD "DEFAULT_CAPACITY" .int 26 1, fD "EMPTY_ELEMENTDATA" (.array (.object s8)) 26 2, fD "DEFAULTCAPACITY_EMPTY_ELEMENTDATA" (.array (.object s8)) 26 3, fD s27 (.array (.object s8)) 128 1, fD "size" .int 2 2]
  methods := #[k18m0, k18m1, k18m2, k18m3, k18m4, k18m5, k18m6]
  instanceTypes := #[.int, (.array (.object s8)), .int]
  staticTypes := #[.long, .int, (.array (.object s8)), (.array (.object s8))]
  resolved := Array.replicate 509 none
  statics := some 2 }

def pool19 : Array CpInfo := pool [(2, .class_ 4), (1, u s8), (0, u s50), (0, u "()V"), (3, .class_ 11), (0, u s9), (0, .class_ 13), (0, u s11), (3, u "Z"), (0, .class_ 19), (0, u s21), (0, .interfaceMethodref 21 22), (0, .class_ 23), (0, .nameAndType 24 25), (0, u "java/util/Collection"), (0, u "isEmpty"), (0, u "()Z"), (0, .interfaceMethodref 18 27), (0, .nameAndType 28 29), (0, u "of"), (0, u "()Ljava/util/List;"), (0, .interfaceMethodref 21 31), (0, .nameAndType 32 33), (0, u "toArray"), (0, u "()[Ljava/lang/Object;"), (0, .interfaceMethodref 18 35), (0, .nameAndType 28 36), (0, u s63), (0, .methodref 38 39), (0, .class_ 40), (0, .nameAndType 41 42), (0, u "java/util/Objects"), (0, u "requireNonNull"), (0, u "(Ljava/lang/Object;)Ljava/lang/Object;"), (0, .methodref 12 44), (0, .nameAndType 5 45), (0, u "([Ljava/lang/Object;Z)V"), (1, .class_ 49), (1, u s38), (0, u "$assertionsDisabled"), (5, u s10), (5, u "EMPTY_LIST"), (0, u "Ljava/util/ImmutableCollections$ListN;"), (8, u "EMPTY_LIST_NULLS"), (22, u "SALT32L"), (0, u "J"), (2, u "REVERSE"), (6, u "archivedObjects"), (2, u "EMPTY"), (0, u s13), (0, .class_ 112), (0, u "java/util/ImmutableCollections$SetN"), (5, u "EMPTY_SET"), (0, u "Ljava/util/ImmutableCollections$SetN;"), (0, .class_ 121), (0, u "java/util/ImmutableCollections$MapN"), (3, u "EMPTY_MAP"), (0, u "Ljava/util/ImmutableCollections$MapN;"), (4, u "EXPAND_FACTOR"), (0, u "I"), (9, u "listCopy"), (0, u s40), (7, u "listFromArray"), (17, .class_ 170), (0, u "java/util/ImmutableCollections$MapN$MapNIterator"), (0, .class_ 172), (0, u "java/util/ImmutableCollections$MapN$1"), (0, .class_ 174), (0, u "java/util/ImmutableCollections$Map1"), (0, .class_ 176), (0, u "java/util/ImmutableCollections$AbstractImmutableMap"), (0, .class_ 178), (0, u "java/util/ImmutableCollections$SetN$SetNIterator"), (0, .class_ 180), (0, u "java/util/ImmutableCollections$Set12"), (0, .class_ 182), (0, u "java/util/ImmutableCollections$Set12$1"), (0, .class_ 184), (0, u "java/util/ImmutableCollections$AbstractImmutableSet"), (0, .class_ 186), (0, u "java/util/ImmutableCollections$SubList"), (0, .class_ 188), (0, u s2), (0, .class_ 190), (0, u s30), (0, .class_ 192), (0, u "java/util/ImmutableCollections$AbstractImmutableCollection"), (0, .class_ 194), (0, u "java/util/ImmutableCollections$Access"), (0, .class_ 196), (0, u "java/util/ImmutableCollections$Access$1")] 16

def k19m0 : Method := mD s50 "()V" [] none 2 none
def k19c1 : Code := { maxStack := 1, maxLocals := 2, code := jdk_56_method_3_code, exceptionTable := #[], attributes := #[] }
def k19m1 : Method := mD "listCopy" s40 [(.object "java/util/Collection")] (some (.object s21)) 8 (some k19c1)
def k19c2 : Code := { maxStack := 4, maxLocals := 3, code := jdk_56_method_4_code, exceptionTable := #[], attributes := #[] }
def k19m2 : Method := mD "listFromArray" s63 [(.array (.object s8))] (some (.object s21)) 136 (some k19c2)
/-- java/util/ImmutableCollections -/
def k19 : Class := { plain s38 (some 0) with
  accessFlags := 32
  interfaces := #[]
  cf := some (fileOf pool19 47 #[.nestMembers #[120, 169, 171, 173, 175, 111, 177, 179, 181, 183, 12, 10, 185, 187, 189, 191, 193, 195]] #[mI 2 5 6, mI 8 142 143, mI 136 151 36] 32 2 #[] #[fI 26 95 96, fI 26 99 17, fI 10 106 56, fI 26 109 110, fI 24 62 63, fI 24 72 63, fI 24 118 119, fI 24 125 126, fI 24 131 132, fI 4120 50 17])
  fields := #[fD "SALT32L" .long 26 0, fD "REVERSE" .boolean 26 1, fD "archivedObjects" (.array (.object s8)) 10 2, fD "EMPTY" (.object s8) 26 3, fD "EMPTY_LIST" (.object s11) 24 4, fD "EMPTY_LIST_NULLS" (.object s11) 24 5, fD "EMPTY_SET" (.object "java/util/ImmutableCollections$SetN") 24 6, fD "EMPTY_MAP" (.object "java/util/ImmutableCollections$MapN") 24 7, fD "EXPAND_FACTOR" .int 24 8, fD "$assertionsDisabled" .boolean 4120 9]
  methods := #[k19m0, k19m1, k19m2]
  instanceTypes := #[]
  staticTypes := #[.long, .boolean, (.array (.object s8)), (.object s8), (.object s11), (.object s11), (.object "java/util/ImmutableCollections$SetN"), (.object "java/util/ImmutableCollections$MapN"), .int, .boolean]
  resolved := Array.replicate 213 none
  statics := some 3 }

def pool20 : Array CpInfo := pool [(1, .methodref 2 3), (0, .class_ 4), (0, .nameAndType 5 6), (0, u "java/util/AbstractCollection"), (0, u s50), (0, u "()V"), (1, .class_ 10), (1, u s38), (2, .class_ 14), (0, u "java/util/ImmutableCollections$AbstractImmutableCollection")] 41

def k20c0 : Code := { maxStack := 1, maxLocals := 1, code := jdk_47_method_1_code, exceptionTable := #[], attributes := #[] }
def k20m0 : Method := mD s50 "()V" [] none 0 (some k20c0)
/-- java/util/ImmutableCollections$AbstractImmutableCollection -/
def k20 : Class := { plain "java/util/ImmutableCollections$AbstractImmutableCollection" (some 12) with
  accessFlags := 1056
  interfaces := #[]
  cf := some (fileOf pool20 13 #[.nestHost 8] #[mI 0 5 6] 1056 2 #[] #[])
  fields := #[]
  methods := #[k20m0]
  instanceTypes := #[]
  staticTypes := #[]
  resolved := Array.replicate 56 none
  statics := none }

def pool21 : Array CpInfo := pool [(1, .methodref 2 3), (0, .class_ 4), (0, .nameAndType 5 6), (0, u "java/util/ImmutableCollections$AbstractImmutableCollection"), (0, u s50), (0, u "()V"), (1, .class_ 10), (1, u s38), (2, .methodref 14 15), (0, .class_ 16), (0, .nameAndType 17 18), (0, u s30), (0, u "size"), (0, u "()I"), (42, .class_ 62), (0, u s2), (0, .methodref 61 64), (0, .nameAndType 5 65), (0, u "(Ljava/util/List;I)V"), (11, .class_ 78), (0, u s21), (2, u "iterator"), (0, u "()Ljava/util/Iterator;"), (41, .class_ 125), (0, u "java/util/RandomAccess")] 70

def k21c0 : Code := { maxStack := 1, maxLocals := 1, code := jdk_46_method_1_code, exceptionTable := #[], attributes := #[] }
def k21m0 : Method := mD s50 "()V" [] none 0 (some k21c0)
def k21c1 : Code := { maxStack := 4, maxLocals := 1, code := jdk_46_method_10_code, exceptionTable := #[], attributes := #[] }
def k21m1 : Method := mD "iterator" "()Ljava/util/Iterator;" [] (some (.object "java/util/Iterator")) 1 (some k21c1)
/-- java/util/ImmutableCollections$AbstractImmutableList -/
def k21 : Class := { plain s30 (some 20) with
  accessFlags := 1056
  interfaces := #[14, 16]
  cf := some (fileOf pool21 14 #[.nestHost 8] #[mI 0 5 6, mI 1 81 82] 1056 2 #[77, 124] #[])
  fields := #[]
  methods := #[k21m0, k21m1]
  instanceTypes := #[]
  staticTypes := #[]
  resolved := Array.replicate 196 none
  statics := none }

def pool22 : Array CpInfo := pool [(1, .methodref 2 3), (0, .class_ 4), (0, .nameAndType 5 6), (0, u s30), (0, u s50), (0, u "()V"), (0, .methodref 8 9), (0, .class_ 10), (0, .nameAndType 11 12), (0, u "java/util/Objects"), (0, u "requireNonNull"), (0, u "(Ljava/lang/Object;)Ljava/lang/Object;"), (0, .fieldref 14 15), (0, .class_ 16), (0, .nameAndType 17 18), (0, u s9), (0, u "e0"), (0, u s13), (0, .fieldref 20 21), (0, .class_ 22), (0, .nameAndType 23 18), (0, u s38), (0, u "EMPTY"), (0, .fieldref 14 25), (0, .nameAndType 26 18), (0, u "e1"), (24, u "size"), (0, u "()I"), (17, .class_ 71), (0, u "java/io/Serializable"), (4, u "(Ljava/lang/Object;)V"), (8, u "(Ljava/lang/Object;Ljava/lang/Object;)V"), (4, u "get"), (0, u s71)] 33

def k22c0 : Code := { maxStack := 2, maxLocals := 2, code := jdk_44_method_1_code, exceptionTable := #[], attributes := #[] }
def k22m0 : Method := mD s50 "(Ljava/lang/Object;)V" [(.object s8)] none 0 (some k22c0)
def k22c1 : Code := { maxStack := 2, maxLocals := 3, code := jdk_44_method_2_code, exceptionTable := #[], attributes := #[] }
def k22m1 : Method := mD s50 "(Ljava/lang/Object;Ljava/lang/Object;)V" [(.object s8), (.object s8)] none 0 (some k22c1)
def k22c2 : Code := { maxStack := 2, maxLocals := 1, code := jdk_44_method_3_code, exceptionTable := #[], attributes := #[] }
def k22m2 : Method := mD "size" "()I" [] (some .int) 1 (some k22c2)
def k22c3 : Code := { maxStack := 2, maxLocals := 2, code := jdk_44_method_5_code, exceptionTable := #[], attributes := #[] }
def k22m3 : Method := mD "get" s71 [.int] (some (.object s8)) 1 (some k22c3)
/-- java/util/ImmutableCollections$List12 -/
def k22 : Class := { plain s9 (some 21) with
  accessFlags := 48
  interfaces := #[3]
  cf := some (fileOf pool22 14 #[.nestHost 20] #[mI 0 5 76, mI 0 5 85, mI 1 51 52, mI 1 90 91] 48 2 #[70] #[fI 18 17 18, fI 18 26 18])
  fields := #[fD "e0" (.object s8) 18 0, fD "e1" (.object s8) 18 1]
  methods := #[k22m0, k22m1, k22m2, k22m3]
  instanceTypes := #[(.object s8), (.object s8)]
  staticTypes := #[]
  resolved := Array.replicate 125 none
  statics := none }

def pool23 : Array CpInfo := pool [(1, .methodref 2 3), (0, .class_ 4), (0, .nameAndType 5 6), (0, u s30), (0, u s50), (0, u "()V"), (0, .fieldref 8 9), (0, .class_ 10), (0, .nameAndType 11 12), (0, u s11), (0, u s54), (0, u s10), (0, .fieldref 8 14), (0, .nameAndType 15 16), (0, u s70), (0, u "Z"), (42, .class_ 60), (0, u "java/io/Serializable"), (4, u "([Ljava/lang/Object;Z)V"), (11, u "size"), (0, u "()I"), (0, u "get"), (0, u s71), (33, .class_ 115), (0, u s38)] 3

def k23c0 : Code := { maxStack := 2, maxLocals := 3, code := jdk_45_method_1_code, exceptionTable := #[], attributes := #[] }
def k23m0 : Method := mD s50 "([Ljava/lang/Object;Z)V" [(.array (.object s8)), .boolean] none 2 (some k23c0)
def k23c1 : Code := { maxStack := 1, maxLocals := 1, code := jdk_45_method_3_code, exceptionTable := #[], attributes := #[] }
def k23m1 : Method := mD "size" "()I" [] (some .int) 1 (some k23c1)
def k23c2 : Code := { maxStack := 2, maxLocals := 2, code := jdk_45_method_4_code, exceptionTable := #[], attributes := #[] }
def k23m2 : Method := mD "get" s71 [.int] (some (.object s8)) 1 (some k23c2)
/-- java/util/ImmutableCollections$ListN -/
def k23 : Class := { plain s11 (some 21) with
  accessFlags := 48
  interfaces := #[3]
  cf := some (fileOf pool23 8 #[.nestHost 114] #[mI 2 5 65, mI 1 77 78, mI 1 79 80] 48 2 #[59] #[fI 18 11 12, fI 18 15 16])
  fields := #[fD s54 (.array (.object s8)) 18 0, fD s70 .boolean 18 1]
  methods := #[k23m0, k23m1, k23m2]
  instanceTypes := #[(.array (.object s8)), .boolean]
  staticTypes := #[]
  resolved := Array.replicate 119 none
  statics := none }

def pool24 : Array CpInfo := pool [(1, .methodref 2 3), (0, .class_ 4), (0, .nameAndType 5 6), (0, u s8), (0, u s50), (0, u "()V"), (0, .class_ 8), (0, u s7), (0, .methodref 7 3), (0, .fieldref 11 12), (0, .class_ 13), (0, .nameAndType 14 15), (0, u s3), (0, u "numbers"), (0, u s59), (0, .interfaceMethodref 17 18), (0, .class_ 19), (0, .nameAndType 20 21), (0, u s21), (0, u "copyOf"), (0, u s40), (0, .fieldref 11 23), (0, .nameAndType 24 25), (0, u s72), (0, u s17), (0, .fieldref 11 27), (0, .nameAndType 28 25), (0, u s35), (0, .interfaceMethodref 17 30), (0, .nameAndType 31 32), (0, u "size"), (0, u "()I"), (0, .interfaceMethodref 17 34), (0, .nameAndType 35 36), (0, u "get"), (0, u s71), (0, .class_ 38), (0, u s1), (0, .methodref 37 40), (0, .nameAndType 41 42), (0, u "name"), (0, u "()Ljava/lang/String;"), (0, .methodref 44 45), (0, .class_ 46), (0, .nameAndType 47 48), (0, u s39), (0, u "valueOf"), (0, u "(I)Ljava/lang/Integer;"), (0, .interfaceMethodref 50 51), (0, .class_ 52), (0, .nameAndType 53 54), (0, u s64), (0, u "put"), (0, u s58), (10, u s65), (4, u "()Ljava/util/List;")] 6

def k24c0 : Code := { maxStack := 4, maxLocals := 4, code := prog_29_method_1_code, exceptionTable := #[], attributes := #[] }
def k24m0 : Method := mD s50 s65 [(.object s21), (.object s21)] none 1 (some k24c0)
def k24c1 : Code := { maxStack := 1, maxLocals := 1, code := prog_29_method_3_code, exceptionTable := #[], attributes := #[] }
def k24m1 : Method := mD s35 "()Ljava/util/List;" [] (some (.object s21)) 1 (some k24c1)
/-- com/example/lawful_crossing/lawfulcrossing/model/Image -/
def k24 : Class := { plain s3 (some 0) with
  accessFlags := 33
  interfaces := #[]
  cf := some (fileOf pool24 11 #[] #[mI 1 5 65, mI 1 28 70] 33 2 #[] #[fI 18 24 25, fI 18 28 25, fI 18 14 15])
  fields := #[fD s72 (.object s21) 18 0, fD s35 (.object s21) 18 1, fD "numbers" (.object s64) 18 2]
  methods := #[k24m0, k24m1]
  instanceTypes := #[(.object s21), (.object s21), (.object s64)]
  staticTypes := #[]
  resolved := Array.replicate 77 none
  statics := none }

def pool25 : Array CpInfo := pool [(2, .class_ 4), (1, u s64), (31, .class_ 37), (0, u "java/util/Map$Entry"), (25, u s58), (5, u "put"), (23, .class_ 94), (0, u s8)] 168

def k25m0 : Method := mD "put" s58 [(.object s8), (.object s8)] (some (.object s8)) 1025 none
/-- java/util/Map -/
def k25 : Class := { plain s64 (some 0) with
  accessFlags := 1537
  interfaces := #[]
  cf := some (fileOf pool25 2 #[.nestMembers #[36]] #[mI 1025 69 63] 1537 93 #[] #[])
  fields := #[]
  methods := #[k25m0]
  instanceTypes := #[]
  staticTypes := #[]
  resolved := Array.replicate 263 none
  statics := none }

def pool26 : Array CpInfo := pool [(1, .methodref 2 3), (0, .class_ 4), (0, .nameAndType 5 6), (0, u s8), (0, u s50), (0, u "()V"), (1, .class_ 10), (1, u "java/util/AbstractMap"), (42, .class_ 54), (0, u s64), (9, u "keySet"), (0, u "Ljava/util/Set;"), (0, .class_ 67), (0, u "java/util/AbstractMap$1"), (5, u "values"), (0, u "Ljava/util/Collection;"), (0, .class_ 76), (0, u "java/util/AbstractMap$2"), (104, .class_ 182), (0, u "java/util/AbstractMap$ViewCollection"), (0, .class_ 184), (0, u "java/util/AbstractMap$SimpleImmutableEntry"), (0, .class_ 186), (0, u "java/util/AbstractMap$SimpleEntry"), (0, .class_ 188), (0, u "java/util/AbstractMap$2$1"), (0, .class_ 190), (0, u "java/util/AbstractMap$1$1")] 5

def k26c0 : Code := { maxStack := 1, maxLocals := 1, code := jdk_71_method_1_code, exceptionTable := #[], attributes := #[] }
def k26m0 : Method := mD s50 "()V" [] none 4 (some k26c0)
/-- java/util/AbstractMap -/
def k26 : Class := { plain "java/util/AbstractMap" (some 0) with
  accessFlags := 1057
  interfaces := #[25]
  cf := some (fileOf pool26 8 #[.nestMembers #[181, 183, 185, 75, 187, 66, 189]] #[mI 4 5 6] 1057 2 #[53] #[fI 128 64 65, fI 128 73 74])
  fields := #[fD "keySet" (.object "java/util/Set") 128 0, fD "values" (.object "java/util/Collection") 128 1]
  methods := #[k26m0]
  instanceTypes := #[(.object "java/util/Set"), (.object "java/util/Collection")]
  staticTypes := #[]
  resolved := Array.replicate 196 none
  statics := none }

def pool27 : Array CpInfo := pool [(1, .methodref 2 3), (0, .class_ 4), (0, .nameAndType 5 6), (0, u s8), (0, u "hashCode"), (0, u "()I"), (26, u "(Ljava/lang/Object;)I"), (6, .class_ 41), (0, u s7), (1, .methodref 44 45), (0, .class_ 46), (0, .nameAndType 47 48), (0, u "java/util/AbstractMap"), (0, u s50), (0, u "()V"), (32, .fieldref 40 82), (0, .nameAndType 83 84), (0, u s44), (0, u "F"), (3, .fieldref 40 89), (0, .nameAndType 90 91), (0, u s46), (0, u "I"), (0, .float 1061158912), (8, .class_ 103), (1, u s64), (0, u "size"), (0, .fieldref 40 106), (0, .nameAndType 107 108), (0, u s61), (0, u s23), (8, .methodref 40 118), (0, .nameAndType 119 120), (0, u "resize"), (0, u "()[Ljava/util/HashMap$Node;"), (2, u "entrySet"), (25, .methodref 40 150), (0, .nameAndType 151 33), (0, u "hash"), (0, .methodref 40 153), (0, .nameAndType 154 155), (0, u "putVal"), (0, u s56), (0, .fieldref 40 157), (0, .nameAndType 104 91), (5, .class_ 165), (1, u s5), (14, .class_ 181), (0, u "java/util/HashMap$TreeNode"), (4, .methodref 40 187), (0, .nameAndType 188 189), (0, u "newNode"), (0, u s45), (12, .fieldref 40 203), (0, .nameAndType 204 91), (0, u s29), (0, .methodref 40 206), (0, .nameAndType 207 208), (0, u "afterNodeInsertion"), (0, u "(Z)V"), (33, u "Ljava/util/Set;"), (0, .class_ 244), (0, u "java/util/HashMap$KeySet"), (18, .class_ 264), (0, u "java/util/HashMap$Values"), (3, .class_ 269), (0, u "java/util/HashMap$EntrySet"), (17, u s58), (58, .class_ 348), (1, u "java/util/HashMap$UnsafeHolder"), (26, .methodref 163 376), (0, .nameAndType 47 377), (0, u s52), (14, .class_ 393), (0, u "java/lang/Cloneable"), (0, .class_ 395), (0, u "java/io/Serializable"), (0, u "serialVersionUID"), (0, u "J"), (3, u "DEFAULT_INITIAL_CAPACITY"), (1, u "MAXIMUM_CAPACITY"), (0, u "DEFAULT_LOAD_FACTOR"), (0, u "TREEIFY_THRESHOLD"), (1, u "UNTREEIFY_THRESHOLD"), (1, u "MIN_TREEIFY_CAPACITY"), (60, u "put"), (125, .class_ 597), (0, u "java/util/HashMap$EntrySpliterator"), (0, .class_ 599), (0, u "java/util/HashMap$ValueSpliterator"), (0, .class_ 601), (0, u "java/util/HashMap$KeySpliterator"), (0, .class_ 603), (0, u "java/util/HashMap$HashMapSpliterator"), (0, .class_ 605), (0, u "java/util/HashMap$EntryIterator"), (0, .class_ 607), (0, u "java/util/HashMap$ValueIterator"), (0, .class_ 609), (0, u "java/util/HashMap$KeyIterator"), (0, .class_ 611), (0, u "java/util/HashMap$HashIterator")] 17

def k27c0 : Code := { maxStack := 3, maxLocals := 2, code := jdk_69_method_1_code, exceptionTable := #[], attributes := #[] }
def k27m0 : Method := mD "hash" "(Ljava/lang/Object;)I" [(.object s8)] (some .int) 24 (some k27c0)
def k27c1 : Code := { maxStack := 2, maxLocals := 1, code := jdk_69_method_7_code, exceptionTable := #[], attributes := #[] }
def k27m1 : Method := mD s50 "()V" [] none 1 (some k27c1)
def k27c2 : Code := { maxStack := 6, maxLocals := 3, code := jdk_69_method_15_code, exceptionTable := #[], attributes := #[] }
def k27m2 : Method := mD "put" s58 [(.object s8), (.object s8)] (some (.object s8)) 1 (some k27c2)
def k27c3 : Code := { maxStack := 7, maxLocals := 13, code := jdk_69_method_16_code, exceptionTable := #[], attributes := #[] }
def k27m3 : Method := mD "putVal" s56 [.int, (.object s8), (.object s8), .boolean, .boolean] (some (.object s8)) 16 (some k27c3)
def k27c4 : Code := { maxStack := 5, maxLocals := 14, code := jdk_69_method_17_code, exceptionTable := #[], attributes := #[] }
def k27m4 : Method := mD "resize" "()[Ljava/util/HashMap$Node;" [] (some (.array (.object s5))) 16 (some k27c4)
def k27c5 : Code := { maxStack := 6, maxLocals := 5, code := jdk_69_method_46_code, exceptionTable := #[], attributes := #[] }
def k27m5 : Method := mD "newNode" s45 [.int, (.object s8), (.object s8), (.object s5)] (some (.object s5)) 0 (some k27c5)
def k27c6 : Code := { maxStack := 0, maxLocals := 2, code := jdk_69_method_52_code, exceptionTable := #[], attributes := #[] }
def k27m6 : Method := mD "afterNodeInsertion" "(Z)V" [.boolean] none 0 (some k27c6)
/-- java/util/HashMap -/
def k27 : Class := { plain s7 (some 26) with
  accessFlags := 33
  interfaces := #[25, 17, 3]
  cf := some (fileOf pool27 40 #[.nestMembers #[180, 596, 598, 600, 602, 604, 606, 608, 610, 346, 268, 263, 243, 163]] #[mI 24 151 33, mI 1 47 48, mI 1 470 287, mI 16 154 155, mI 16 119 120, mI 0 188 189, mI 0 207 208] 33 44 #[101, 392, 394] #[fI 26 396 397, fI 24 401 91, fI 24 403 91, fI 24 404 84, fI 24 405 91, fI 24 407 91, fI 24 409 91, fI 128 107 108, fI 128 123 242, fI 128 104 91, fI 128 204 91, fI 0 90 91, fI 16 83 84])
  fields := #[fD "serialVersionUID" .long 26 0, fD "DEFAULT_INITIAL_CAPACITY" .int 24 1, fD "MAXIMUM_CAPACITY" .int 24 2, fD "DEFAULT_LOAD_FACTOR" .float 24 3, fD "TREEIFY_THRESHOLD" .int 24 4, fD "UNTREEIFY_THRESHOLD" .int 24 5, fD "MIN_TREEIFY_CAPACITY" .int 24 6, fD s61 (.array (.object s5)) 128 2, fD "entrySet" (.object "java/util/Set") 128 3, fD "size" .int 128 4, fD s29 .int 128 5, fD s46 .int 0 6, fD s44 .float 16 7]
  methods := #[k27m0, k27m1, k27m2, k27m3, k27m4, k27m5, k27m6]
  instanceTypes := #[(.object "java/util/Set"), (.object "java/util/Collection"), (.array (.object s5)), (.object "java/util/Set"), .int, .int, .int, .float]
  staticTypes := #[.long, .int, .int, .float, .int, .int, .int]
  resolved := Array.replicate 629 none
  statics := none }

def pool28 : Array CpInfo := pool [(3, .class_ 4), (0, u s0), (0, .methodref 6 7), (0, .class_ 8), (0, .nameAndType 9 10), (0, u s8), (0, u s50), (0, u "()V"), (0, .fieldref 3 12), (0, .nameAndType 13 14), (0, u s66), (0, u "[I"), (0, .fieldref 3 16), (0, .nameAndType 17 14), (0, u "x"), (0, .fieldref 3 19), (0, .nameAndType 20 21), (0, u "POINTER_WORDS"), (0, u "I"), (0, .fieldref 3 23), (0, .nameAndType 24 25), (0, u s60), (0, u "[J"), (0, .fieldref 3 27), (0, .nameAndType 28 25), (0, u s47), (0, .fieldref 3 30), (0, .nameAndType 31 32), (0, u s49), (0, u s18), (0, .fieldref 3 34), (0, .nameAndType 35 36), (0, u "image"), (0, u s22), (0, .methodref 38 39), (0, .class_ 40), (0, .nameAndType 41 42), (0, u s3), (0, u s35), (0, u "()Ljava/util/List;"), (0, .interfaceMethodref 44 45), (0, .class_ 46), (0, .nameAndType 47 48), (0, u s21), (0, u "size"), (0, u "()I"), (0, .fieldref 3 50), (0, .nameAndType 51 21), (0, u s48), (0, .class_ 53), (0, u s1), (0, .fieldref 3 55), (0, .nameAndType 41 56), (0, u s12), (0, .interfaceMethodref 44 58), (0, .nameAndType 59 60), (0, u "iterator"), (0, u "()Ljava/util/Iterator;"), (0, .interfaceMethodref 62 63), (0, .class_ 64), (0, .nameAndType 65 66), (0, u "java/util/Iterator"), (0, u "hasNext"), (0, u "()Z"), (0, .interfaceMethodref 62 68), (0, .nameAndType 69 70), (0, u "next"), (0, u s68), (0, .fieldref 3 72), (0, .nameAndType 73 21), (0, u s53), (0, .class_ 75), (0, u "[Lcom/example/lawful_crossing/lawfulcrossing/service/RingAccess;"), (0, .fieldref 3 77), (0, .nameAndType 78 79), (0, u s67), (0, u s14), (12, u "ring"), (2, u "halted"), (0, u "Z"), (2, u "refused"), (2, u "returnStack"), (0, u "Lcom/example/lawful_crossing/lawfulcrossing/service/ReturnStack;"), (13, u s74), (0, u s25), (131, u "counterSegment"), (2, u "counterOffset"), (2, u "executing"), (0, u "Lcom/example/lawful_crossing/lawfulcrossing/model/Segment;"), (27, u "OWN_MODE"), (0, u "Lcom/example/lawful_crossing/lawfulcrossing/model/AccessMode;"), (19, u "LOADED_POINTERS"), (4, u "a"), (0, u "J"), (2, u "q"), (2, u "zero"), (2, u "negative"), (17, u "MAX_OWN_SEGMENTS"), (2, u "REGISTER_WORDS"), (1, u "LOADED_REGISTERS"), (1, u "ZERO_INDICATOR"), (2, u "NEGATIVE_INDICATOR"), (0, u s31)] 24

def k28c0 : Code := { maxStack := 4, maxLocals := 5, code := prog_50_method_1_code, exceptionTable := #[], attributes := #[] }
def k28m0 : Method := mD s50 s31 [(.object s19), (.object s3)] none 0 (some k28c0)
def k28c1 : Code := { maxStack := 2, maxLocals := 2, code := prog_50_method_9_code, exceptionTable := #[], attributes := #[] }
def k28m1 : Method := mD s74 s25 [.int] (some (.object s1)) 1 (some k28c1)
/-- com/example/lawful_crossing/lawfulcrossing/service/ProcessState -/
def k28 : Class := { plain s0 (some 0) with
  accessFlags := 33
  interfaces := #[]
  cf := some (fileOf pool28 3 #[] #[mI 0 9 350, mI 1 117 118] 33 6 #[] #[fI 26 285 286, fI 26 339 21, fI 24 20 21, fI 24 306 21, fI 24 342 21, fI 24 344 21, fI 26 346 312, fI 26 349 312, fI 18 31 32, fI 18 35 36, fI 18 51 21, fI 18 41 56, fI 2 73 21, fI 18 78 79, fI 18 13 14, fI 2 102 103, fI 0 311 312, fI 0 315 312, fI 16 17 14, fI 0 318 96, fI 0 321 96, fI 16 24 25, fI 18 28 25, fI 0 250 21, fI 0 253 21, fI 2 256 257, fI 0 92 21, fI 2 95 96, fI 2 99 96])
  fields := #[fD "OWN_MODE" (.object "com/example/lawful_crossing/lawfulcrossing/model/AccessMode") 26 0, fD "MAX_OWN_SEGMENTS" .int 26 1, fD "POINTER_WORDS" .int 24 2, fD "LOADED_POINTERS" .int 24 3, fD "REGISTER_WORDS" .int 24 4, fD "LOADED_REGISTERS" .int 24 5, fD "ZERO_INDICATOR" .long 26 6, fD "NEGATIVE_INDICATOR" .long 26 7, fD s49 (.object s19) 18 0, fD "image" (.object s3) 18 1, fD s48 .int 18 2, fD s35 (.array (.object s1)) 18 3, fD s53 .int 2 4, fD s67 (.array (.array (.object s16))) 18 5, fD s66 (.array .int) 18 6, fD "returnStack" (.object "com/example/lawful_crossing/lawfulcrossing/service/ReturnStack") 2 7, fD "a" .long 0 8, fD "q" .long 0 9, fD "x" (.array .int) 16 10, fD "zero" .boolean 0 11, fD "negative" .boolean 0 12, fD s60 (.array .long) 16 13, fD s47 (.array .long) 18 14, fD "counterSegment" .int 0 15, fD "counterOffset" .int 0 16, fD "executing" (.object s1) 2 17, fD "ring" .int 0 18, fD "halted" .boolean 2 19, fD "refused" .boolean 2 20]
  methods := #[k28m0, k28m1]
  instanceTypes := #[(.object s19), (.object s3), .int, (.array (.object s1)), .int, (.array (.array (.object s16))), (.array .int), (.object "com/example/lawful_crossing/lawfulcrossing/service/ReturnStack"), .long, .long, (.array .int), .boolean, .boolean, (.array .long), (.array .long), .int, .int, (.object s1), .int, .boolean, .boolean]
  staticTypes := #[(.object "com/example/lawful_crossing/lawfulcrossing/model/AccessMode"), .int, .int, .int, .int, .int, .long, .long]
  resolved := Array.replicate 375 none
  statics := some 4 }

def pool29 : Array CpInfo := pool [(16, .class_ 18), (1, u "java/util/Iterator"), (0, u "hasNext"), (0, u "()Z"), (2, u "next"), (0, u s68), (6, .class_ 32), (0, u s8)] 20

def k29m0 : Method := mD "hasNext" "()Z" [] (some .boolean) 1025 none
def k29m1 : Method := mD "next" s68 [] (some (.object s8)) 1025 none
/-- java/util/Iterator -/
def k29 : Class := { plain "java/util/Iterator" (some 0) with
  accessFlags := 1537
  interfaces := #[]
  cf := some (fileOf pool29 16 #[] #[mI 1025 19 20, mI 1025 23 24] 1537 31 #[] #[])
  fields := #[]
  methods := #[k29m0, k29m1]
  instanceTypes := #[]
  staticTypes := #[]
  resolved := Array.replicate 53 none
  statics := none }

def pool30 : Array CpInfo := pool [(1, .class_ 2), (0, u "java/util/ListIterator"), (0, .class_ 4), (0, u s8), (0, .class_ 6), (0, u "java/util/Iterator")] 20

/-- java/util/ListIterator -/
def k30 : Class := { plain "java/util/ListIterator" (some 0) with
  accessFlags := 1537
  interfaces := #[29]
  cf := some (fileOf pool30 1 #[] #[] 1537 3 #[5] #[])
  fields := #[]
  methods := #[]
  instanceTypes := #[]
  staticTypes := #[]
  resolved := Array.replicate 27 none
  statics := none }

def pool31 : Array CpInfo := pool [(1, .methodref 2 3), (0, .class_ 4), (0, .nameAndType 5 6), (0, u s8), (0, u s50), (0, u "()V"), (0, .fieldref 8 9), (0, .class_ 10), (0, .nameAndType 11 12), (0, u s2), (0, u "list"), (0, u s17), (0, .fieldref 8 14), (0, .nameAndType 15 16), (0, u "size"), (0, u "I"), (0, .fieldref 8 18), (0, .nameAndType 19 16), (0, u s41), (0, .fieldref 8 21), (0, .nameAndType 22 23), (0, u s32), (0, u "Z"), (0, .interfaceMethodref 25 26), (0, .class_ 27), (0, .nameAndType 28 29), (0, u s21), (0, u "get"), (0, u s71), (6, .class_ 38), (1, u s38), (2, .class_ 42), (0, u "java/util/ListIterator"), (4, u "(Ljava/util/List;I)V"), (11, u "hasNext"), (0, u "()Z"), (1, u "next"), (0, u s68)] 22

def k31c0 : Code := { maxStack := 2, maxLocals := 3, code := jdk_53_method_1_code, exceptionTable := #[], attributes := #[] }
def k31m0 : Method := mD s50 "(Ljava/util/List;I)V" [(.object s21), .int] none 0 (some k31c0)
def k31c1 : Code := { maxStack := 2, maxLocals := 1, code := jdk_53_method_3_code, exceptionTable := #[], attributes := #[] }
def k31m1 : Method := mD "hasNext" "()Z" [] (some .boolean) 1 (some k31c1)
def k31c2 : Code := { maxStack := 3, maxLocals := 3, code := jdk_53_method_4_code, exceptionTable := #[{ startPc := 0, endPc := 24, handlerPc := 25, catchType := 30 }], attributes := #[] }
def k31m2 : Method := mD "next" s68 [] (some (.object s8)) 1 (some k31c2)
/-- java/util/ImmutableCollections$ListItr -/
def k31 : Class := { plain s2 (some 0) with
  accessFlags := 48
  interfaces := #[30]
  cf := some (fileOf pool31 8 #[.nestHost 36] #[mI 0 5 47, mI 1 59 60, mI 1 62 63] 48 2 #[41] #[fI 18 11 12, fI 18 15 16, fI 18 22 23, fI 2 19 16])
  fields := #[fD "list" (.object s21) 18 0, fD "size" .int 18 1, fD s32 .boolean 18 2, fD s41 .int 2 3]
  methods := #[k31m0, k31m1, k31m2]
  instanceTypes := #[(.object s21), .int, .boolean, .int]
  staticTypes := #[]
  resolved := Array.replicate 86 none
  statics := none }

def pool32 : Array CpInfo := pool [(1, .class_ 2), (0, u s69), (1, .class_ 6), (1, u s8), (0, u s50), (0, u "()V"), (89, .class_ 100), (1, u "java/lang/Math$RandomNumberGeneratorHolder"), (71, u "negativeZeroFloatBits"), (0, u "J"), (2, u "negativeZeroDoubleBits"), (21, u "max"), (2, u "min"), (43, u "$assertionsDisabled"), (0, u "Z"), (88, u "(II)I"), (2, u "twoToTheDoubleScaleDown"), (0, u "D"), (4, u "twoToTheDoubleScaleUp"), (9, u "E"), (3, u "PI"), (2, u "TAU"), (2, u "DEGREES_TO_RADIANS"), (0, u "RADIANS_TO_DEGREES")] 94

def k32m0 : Method := mD s50 "()V" [] none 2 none
def k32c1 : Code := { maxStack := 2, maxLocals := 2, code := jdk_29_method_65_code, exceptionTable := #[], attributes := #[] }
def k32m1 : Method := mD "max" "(II)I" [.int, .int] (some .int) 9 (some k32c1)
def k32c2 : Code := { maxStack := 2, maxLocals := 2, code := jdk_29_method_69_code, exceptionTable := #[], attributes := #[] }
def k32m2 : Method := mD "min" "(II)I" [.int, .int] (some .int) 9 (some k32c2)
/-- java/lang/Math -/
def k32 : Class := { plain s69 (some 0) with
  accessFlags := 49
  interfaces := #[]
  cf := some (fileOf pool32 1 #[.nestMembers #[98]] #[mI 2 7 8, mI 9 198 335, mI 9 201 335] 49 4 #[] #[fI 25 354 339, fI 25 358 339, fI 25 361 339, fI 26 364 339, fI 26 365 339, fI 26 172 173, fI 26 176 173, fI 8 344 339, fI 8 338 339, fI 4120 245 246])
  fields := #[fD "E" .double 25 0, fD "PI" .double 25 1, fD "TAU" .double 25 2, fD "DEGREES_TO_RADIANS" .double 26 3, fD "RADIANS_TO_DEGREES" .double 26 4, fD "negativeZeroFloatBits" .long 26 5, fD "negativeZeroDoubleBits" .long 26 6, fD "twoToTheDoubleScaleUp" .double 8 7, fD "twoToTheDoubleScaleDown" .double 8 8, fD "$assertionsDisabled" .boolean 4120 9]
  methods := #[k32m0, k32m1, k32m2]
  instanceTypes := #[]
  staticTypes := #[.double, .double, .double, .double, .double, .long, .long, .double, .double, .boolean]
  resolved := Array.replicate 460 none
  statics := none }

def pool33 : Array CpInfo := pool [(2, .class_ 4), (1, u s8), (0, u s50), (0, u "()V"), (7, .class_ 16), (1, u s51), (57, .class_ 76), (1, u "java/util/Arrays$NaturalOrder"), (9, .methodref 2 87), (0, .nameAndType 88 89), (0, u "getClass"), (0, u "()Ljava/lang/Class;"), (20, .class_ 111), (0, u s10), (1, .class_ 115), (1, u "java/util/Arrays$LegacyMergeSort"), (1, u "Z"), (32, .methodref 151 152), (0, .class_ 153), (0, .nameAndType 154 155), (0, u "java/lang/System"), (0, u "arraycopy"), (0, u "(Ljava/lang/Object;ILjava/lang/Object;II)V"), (144, .methodref 14 301), (0, .nameAndType 302 303), (0, u "copyOf"), (0, u s57), (0, .methodref 305 306), (0, .class_ 307), (0, .nameAndType 308 309), (0, u s69), (0, u "min"), (0, u "(II)I"), (65, .class_ 376), (0, u "java/util/Arrays$ArrayList"), (68, u "$assertionsDisabled"), (269, u "MIN_ARRAY_SORT_GRAN"), (0, u "I"), (2, u "INSERTIONSORT_THRESHOLD"), (140, u "([Ljava/lang/Object;I)[Ljava/lang/Object;"), (114, .class_ 976), (0, u "java/util/Arrays$ArrayItr")] 52

def k33m0 : Method := mD s50 "()V" [] none 2 none
def k33c1 : Code := { maxStack := 3, maxLocals := 2, code := jdk_65_method_119_code, exceptionTable := #[], attributes := #[] }
def k33m1 : Method := mD "copyOf" "([Ljava/lang/Object;I)[Ljava/lang/Object;" [(.array (.object s8)), .int] (some (.array (.object s8))) 9 (some k33c1)
def k33c2 : Code := { maxStack := 6, maxLocals := 4, code := jdk_65_method_120_code, exceptionTable := #[], attributes := #[] }
def k33m2 : Method := mD "copyOf" s57 [(.array (.object s8)), .int, (.object "java/lang/Class")] (some (.array (.object s8))) 9 (some k33c2)
/-- java/util/Arrays -/
def k33 : Class := { plain s51 (some 0) with
  accessFlags := 49
  interfaces := #[]
  cf := some (fileOf pool33 14 #[.nestMembers #[975, 375, 113, 74]] #[mI 2 5 6, mI 9 302 860, mI 9 302 303] 49 2 #[] #[fI 26 715 716, fI 26 719 716, fI 4120 445 117])
  fields := #[fD "MIN_ARRAY_SORT_GRAN" .int 26 0, fD "INSERTIONSORT_THRESHOLD" .int 26 1, fD "$assertionsDisabled" .boolean 4120 2]
  methods := #[k33m0, k33m1, k33m2]
  instanceTypes := #[]
  staticTypes := #[.int, .int, .boolean]
  resolved := Array.replicate 1029 none
  statics := none }

def pool34 : Array CpInfo := pool [(2, .class_ 4), (1, u s8), (0, u s50), (0, u "()V"), (1, .class_ 10), (1, u "java/lang/System"), (0, u "allowSecurityManager"), (0, u "I"), (16, u "cons"), (0, u "Ljava/io/Console;"), (77, .class_ 110), (1, u "java/lang/System$CallersHolder"), (43, u "initialErrStream"), (0, u "Ljava/io/PrintStream;"), (19, u "security"), (0, u "Ljava/lang/SecurityManager;"), (31, .class_ 209), (0, u "java/lang/System$1"), (7, u "props"), (0, u "Ljava/util/Properties;"), (2, u "lineSeparator"), (0, u s42), (96, .class_ 321), (1, u "java/lang/System$LoggerFinder"), (5, .class_ 328), (0, u "java/lang/System$Logger"), (67, u "err"), (2, u "out"), (91, u "notSupportedJnuEncoding"), (15, u "in"), (17, u "initialIn"), (0, u "Ljava/io/InputStream;"), (35, u "bootLayer"), (0, u "Ljava/lang/ModuleLayer;"), (99, .class_ 664), (0, u "java/lang/System$2"), (9, u "NEVER"), (2, u "MAYBE"), (49, u "arraycopy"), (0, u "(Ljava/lang/Object;ILjava/lang/Object;II)V"), (72, .class_ 802), (0, u "java/lang/System$Logger$Level")] 31

def k34m0 : Method := mD s50 "()V" [] none 2 none
def k34m1 : Method := mD "arraycopy" "(Ljava/lang/Object;ILjava/lang/Object;II)V" [(.object s8), .int, (.object s8), .int, .int] none 265 none
/-- java/lang/System -/
def k34 : Class := { plain "java/lang/System" (some 0) with
  accessFlags := 49
  interfaces := #[]
  cf := some (fileOf pool34 8 #[.nestMembers #[319, 327, 801, 108, 663, 208]] #[mI 2 5 6, mI 265 727 728] 49 2 #[] #[fI 25 507 526, fI 25 399 155, fI 25 396 155, fI 10 525 526, fI 26 674 12, fI 26 677 12, fI 10 11 12, fI 74 175 176, fI 10 491 222, fI 74 29 30, fI 74 154 155, fI 10 217 218, fI 10 221 222, fI 8 562 563])
  fields := #[fD "in" (.object "java/io/InputStream") 25 0, fD "out" (.object "java/io/PrintStream") 25 1, fD "err" (.object "java/io/PrintStream") 25 2, fD "initialIn" (.object "java/io/InputStream") 10 3, fD "NEVER" .int 26 4, fD "MAYBE" .int 26 5, fD "allowSecurityManager" .int 10 6, fD "security" (.object "java/lang/SecurityManager") 74 7, fD "notSupportedJnuEncoding" (.object s4) 10 8, fD "cons" (.object "java/io/Console") 74 9, fD "initialErrStream" (.object "java/io/PrintStream") 74 10, fD "props" (.object "java/util/Properties") 10 11, fD "lineSeparator" (.object s4) 10 12, fD "bootLayer" (.object "java/lang/ModuleLayer") 8 13]
  methods := #[k34m0, k34m1]
  instanceTypes := #[]
  staticTypes := #[(.object "java/io/InputStream"), (.object "java/io/PrintStream"), (.object "java/io/PrintStream"), (.object "java/io/InputStream"), .int, .int, .int, (.object "java/lang/SecurityManager"), (.object s4), (.object "java/io/Console"), (.object "java/io/PrintStream"), (.object "java/util/Properties"), (.object s4), (.object "java/lang/ModuleLayer")]
  resolved := Array.replicate 834 none
  statics := none }

def pool35 : Array CpInfo := pool [(2, .class_ 4), (1, u s8), (0, u s50), (0, u "()V"), (35, .class_ 44), (1, u "java/util/Objects"), (0, u "requireNonNull"), (0, u "(Ljava/lang/Object;)Ljava/lang/Object;")] 137

def k35m0 : Method := mD s50 "()V" [] none 2 none
def k35c1 : Code := { maxStack := 2, maxLocals := 1, code := jdk_31_method_10_code, exceptionTable := #[], attributes := #[] }
def k35m1 : Method := mD "requireNonNull" "(Ljava/lang/Object;)Ljava/lang/Object;" [(.object s8)] (some (.object s8)) 9 (some k35c1)
/-- java/util/Objects -/
def k35 : Class := { plain "java/util/Objects" (some 0) with
  accessFlags := 49
  interfaces := #[]
  cf := some (fileOf pool35 42 #[] #[mI 2 5 6, mI 9 45 46] 49 2 #[] #[])
  fields := #[]
  methods := #[k35m0, k35m1]
  instanceTypes := #[]
  staticTypes := #[]
  resolved := Array.replicate 184 none
  statics := none }

def pool36 : Array CpInfo := pool [(2, .class_ 4), (1, u s8), (0, u s50), (0, u "()V"), (1, .class_ 10), (1, u "java/lang/Number"), (2, .class_ 14), (0, u "java/io/Serializable"), (0, u "serialVersionUID"), (0, u "J")] 20

def k36m0 : Method := mD s50 "()V" [] none 1 none
/-- java/lang/Number -/
def k36 : Class := { plain "java/lang/Number" (some 0) with
  accessFlags := 1057
  interfaces := #[3]
  cf := some (fileOf pool36 8 #[] #[mI 1 5 6] 1057 2 #[13] #[fI 26 15 16])
  fields := #[fD "serialVersionUID" .long 26 0]
  methods := #[k36m0]
  instanceTypes := #[]
  staticTypes := #[.long]
  resolved := Array.replicate 37 none
  statics := none }

def pool37 : Array CpInfo := pool [(1, .class_ 2), (0, u s39), (16, u "digits"), (0, u "[C"), (64, u "DigitOnes"), (0, u "[B"), (2, u "DigitTens"), (97, u "valueOf"), (0, u "(I)Ljava/lang/Integer;"), (0, .class_ 190), (0, u "java/lang/Integer$IntegerCache"), (0, .fieldref 189 192), (0, .nameAndType 193 194), (0, u "high"), (0, u "I"), (0, .fieldref 189 196), (0, .nameAndType 197 198), (0, u "cache"), (0, u "[Ljava/lang/Integer;"), (4, .class_ 204), (0, u "java/lang/Number"), (2, u s34), (94, u "TYPE"), (0, u "Ljava/lang/Class;"), (0, .class_ 305), (0, u "java/lang/Comparable"), (0, .class_ 307), (0, u "java/lang/constant/Constable"), (0, .class_ 309), (0, u "java/lang/constant/ConstantDesc"), (0, u "MIN_VALUE"), (1, u "MAX_VALUE"), (3, u "SIZE"), (1, u "BYTES"), (1, u "serialVersionUID"), (0, u "J")] 131

def k37c0 : Code := { maxStack := 3, maxLocals := 1, code := jdk_33_method_22_code, exceptionTable := #[], attributes := #[] }
def k37m0 : Method := mD "valueOf" "(I)Ljava/lang/Integer;" [.int] (some (.object s39)) 9 (some k37c0)
/-- java/lang/Integer -/
def k37 : Class := { plain s39 (some 36) with
  accessFlags := 49
  interfaces := #[4, 6, 7]
  cf := some (fileOf pool37 1 #[.nestMembers #[189]] #[mI 9 187 188] 49 203 #[304, 306, 308] #[fI 25 310 194, fI 25 312 194, fI 25 302 303, fI 24 19 20, fI 24 89 86, fI 24 85 86, fI 18 207 194, fI 25 316 194, fI 25 318 194, fI 26 320 321])
  fields := #[fD "MIN_VALUE" .int 25 0, fD "MAX_VALUE" .int 25 1, fD "TYPE" (.object "java/lang/Class") 25 2, fD "digits" (.array .char) 24 3, fD "DigitTens" (.array .byte) 24 4, fD "DigitOnes" (.array .byte) 24 5, fD s34 .int 18 0, fD "SIZE" .int 25 6, fD "BYTES" .int 25 7, fD "serialVersionUID" .long 26 8]
  methods := #[k37m0]
  instanceTypes := #[.int]
  staticTypes := #[.int, .int, (.object "java/lang/Class"), (.array .char), (.array .byte), (.array .byte), .int, .int, .long]
  resolved := Array.replicate 453 none
  statics := none }

def pool38 : Array CpInfo := pool [(2, .class_ 4), (1, u s8), (0, u s50), (0, u "()V"), (0, .class_ 8), (0, u s39), (7, .class_ 18), (1, u "java/lang/Integer$IntegerCache"), (0, u "$assertionsDisabled"), (0, u "Z"), (26, u "high"), (0, u "I"), (8, u "archivedCache"), (0, u "[Ljava/lang/Integer;"), (12, u "cache"), (0, u "low")] 27

def k38m0 : Method := mD s50 "()V" [] none 2 none
/-- java/lang/Integer$IntegerCache -/
def k38 : Class := { plain "java/lang/Integer$IntegerCache" (some 0) with
  accessFlags := 48
  interfaces := #[]
  cf := some (fileOf pool38 16 #[.nestHost 7] #[mI 2 5 6] 48 2 #[] #[fI 24 72 48, fI 24 47 48, fI 24 71 58, fI 8 57 58, fI 4120 19 20])
  fields := #[fD "low" .int 24 0, fD "high" .int 24 1, fD "cache" (.array (.object s39)) 24 2, fD "archivedCache" (.array (.object s39)) 8 3, fD "$assertionsDisabled" .boolean 4120 4]
  methods := #[k38m0]
  instanceTypes := #[]
  staticTypes := #[.int, .int, (.array (.object s39)), (.array (.object s39)), .boolean]
  resolved := Array.replicate 100 none
  statics := some 5 }

def pool39 : Array CpInfo := pool [(23, .class_ 25), (1, u "java/util/Map$Entry"), (6, .class_ 34), (1, u s64), (34, .class_ 70), (0, u s8)] 107

/-- java/util/Map$Entry -/
def k39 : Class := { plain "java/util/Map$Entry" (some 0) with
  accessFlags := 1537
  interfaces := #[]
  cf := some (fileOf pool39 23 #[.nestHost 32] #[] 1537 69 #[] #[])
  fields := #[]
  methods := #[]
  instanceTypes := #[]
  staticTypes := #[]
  resolved := Array.replicate 178 none
  statics := none }

def pool40 : Array CpInfo := pool [(1, .methodref 2 3), (0, .class_ 4), (0, .nameAndType 5 6), (0, u s8), (0, u s50), (0, u "()V"), (0, .fieldref 8 9), (0, .class_ 10), (0, .nameAndType 11 12), (0, u s5), (0, u "hash"), (0, u "I"), (0, .fieldref 8 14), (0, .nameAndType 15 16), (0, u "key"), (0, u s13), (0, .fieldref 8 18), (0, .nameAndType 19 16), (0, u s34), (0, .fieldref 8 21), (0, .nameAndType 22 23), (0, u "next"), (0, u s28), (22, .class_ 47), (0, u "java/util/Map$Entry"), (15, u s52), (24, .class_ 89), (0, u s7)] 5

def k40c0 : Code := { maxStack := 2, maxLocals := 5, code := jdk_70_method_1_code, exceptionTable := #[], attributes := #[] }
def k40m0 : Method := mD s50 s52 [.int, (.object s8), (.object s8), (.object s5)] none 0 (some k40c0)
/-- java/util/HashMap$Node -/
def k40 : Class := { plain s5 (some 0) with
  accessFlags := 32
  interfaces := #[39]
  cf := some (fileOf pool40 8 #[.nestHost 88] #[mI 0 5 63] 32 2 #[46] #[fI 16 11 12, fI 16 15 16, fI 0 19 16, fI 0 22 23])
  fields := #[fD "hash" .int 16 0, fD "key" (.object s8) 16 1, fD s34 (.object s8) 0 2, fD "next" (.object s5) 0 3]
  methods := #[k40m0]
  instanceTypes := #[.int, (.object s8), (.object s8), (.object s5)]
  staticTypes := #[]
  resolved := Array.replicate 95 none
  statics := none }

def pool41 : Array CpInfo := pool [(2, .class_ 4), (1, u s8), (0, u s50), (0, u "()V"), (17, .class_ 26), (1, u "jdk/internal/util/Preconditions"), (28, .class_ 56), (0, u "jdk/internal/util/Preconditions$4"), (57, .class_ 115), (0, u "jdk/internal/util/Preconditions$1"), (7, u "SIOOBE_FORMATTER"), (0, u "Ljava/util/function/BiFunction;"), (0, .class_ 126), (0, u "jdk/internal/util/Preconditions$2"), (3, u "AIOOBE_FORMATTER"), (0, .class_ 132), (0, u "jdk/internal/util/Preconditions$3"), (3, u "IOOBE_FORMATTER")] 57

def k41m0 : Method := mD s50 "()V" [] none 1 none
/-- jdk/internal/util/Preconditions -/
def k41 : Class := { plain "jdk/internal/util/Preconditions" (some 0) with
  accessFlags := 33
  interfaces := #[]
  cf := some (fileOf pool41 24 #[.nestMembers #[55, 131, 125, 114]] #[mI 1 5 6] 33 2 #[] #[fI 25 123 124, fI 25 130 124, fI 25 136 124])
  fields := #[fD "SIOOBE_FORMATTER" (.object "java/util/function/BiFunction") 25 0, fD "AIOOBE_FORMATTER" (.object "java/util/function/BiFunction") 25 1, fD "IOOBE_FORMATTER" (.object "java/util/function/BiFunction") 25 2]
  methods := #[k41m0]
  instanceTypes := #[]
  staticTypes := #[(.object "java/util/function/BiFunction"), (.object "java/util/function/BiFunction"), (.object "java/util/function/BiFunction")]
  resolved := Array.replicate 194 none
  statics := some 6 }

def pool42 : Array CpInfo := pool [(9, u s50), (6, .class_ 18), (1, u s8), (0, u "()V"), (1, .class_ 23), (1, u "jdk/internal/util/ArraysSupport"), (0, u "LOG2_ARRAY_LONG_INDEX_SCALE"), (0, u "I"), (2, u "U"), (0, u "Ljdk/internal/misc/Unsafe;"), (8, u "BIG_ENDIAN"), (0, u "Z"), (8, u "LOG2_BYTE_BIT_SIZE"), (4, u "LOG2_ARRAY_INT_INDEX_SCALE"), (54, u "JLA"), (0, u "Ljdk/internal/access/JavaLangAccess;"), (11, u "LOG2_ARRAY_BOOLEAN_INDEX_SCALE"), (9, u "LOG2_ARRAY_BYTE_INDEX_SCALE"), (5, u "LOG2_ARRAY_CHAR_INDEX_SCALE"), (5, u "LOG2_ARRAY_SHORT_INDEX_SCALE"), (18, u "LOG2_ARRAY_FLOAT_INDEX_SCALE"), (24, u "LOG2_ARRAY_DOUBLE_INDEX_SCALE"), (89, u "T_BOOLEAN"), (2, u "T_CHAR"), (1, u "T_FLOAT"), (1, u "T_DOUBLE"), (1, u "T_BYTE"), (1, u "T_SHORT"), (1, u "T_INT"), (1, u "T_LONG"), (1, u "SOFT_MAX_ARRAY_LENGTH")] 83

def k42m0 : Method := mD s50 "()V" [] none 2 none
/-- jdk/internal/util/ArraysSupport -/
def k42 : Class := { plain "jdk/internal/util/ArraysSupport" (some 0) with
  accessFlags := 33
  interfaces := #[]
  cf := some (fileOf pool42 21 #[] #[mI 2 9 19] 33 16 #[] #[fI 24 28 29, fI 26 38 39, fI 25 121 25, fI 25 131 25, fI 25 137 25, fI 25 143 25, fI 25 53 25, fI 25 24 25, fI 25 162 25, fI 25 187 25, fI 26 48 25, fI 25 277 25, fI 25 280 25, fI 25 282 25, fI 25 284 25, fI 25 286 25, fI 25 288 25, fI 25 290 25, fI 25 292 25, fI 26 108 109, fI 25 294 25])
  fields := #[fD "U" (.object "jdk/internal/misc/Unsafe") 24 0, fD "BIG_ENDIAN" .boolean 26 1, fD "LOG2_ARRAY_BOOLEAN_INDEX_SCALE" .int 25 2, fD "LOG2_ARRAY_BYTE_INDEX_SCALE" .int 25 3, fD "LOG2_ARRAY_CHAR_INDEX_SCALE" .int 25 4, fD "LOG2_ARRAY_SHORT_INDEX_SCALE" .int 25 5, fD "LOG2_ARRAY_INT_INDEX_SCALE" .int 25 6, fD "LOG2_ARRAY_LONG_INDEX_SCALE" .int 25 7, fD "LOG2_ARRAY_FLOAT_INDEX_SCALE" .int 25 8, fD "LOG2_ARRAY_DOUBLE_INDEX_SCALE" .int 25 9, fD "LOG2_BYTE_BIT_SIZE" .int 26 10, fD "T_BOOLEAN" .int 25 11, fD "T_CHAR" .int 25 12, fD "T_FLOAT" .int 25 13, fD "T_DOUBLE" .int 25 14, fD "T_BYTE" .int 25 15, fD "T_SHORT" .int 25 16, fD "T_INT" .int 25 17, fD "T_LONG" .int 25 18, fD "JLA" (.object "jdk/internal/access/JavaLangAccess") 26 19, fD "SOFT_MAX_ARRAY_LENGTH" .int 25 20]
  methods := #[k42m0]
  instanceTypes := #[]
  staticTypes := #[(.object "jdk/internal/misc/Unsafe"), .boolean, .int, .int, .int, .int, .int, .int, .int, .int, .int, .int, .int, .int, .int, .int, .int, .int, .int, (.object "jdk/internal/access/JavaLangAccess"), .int]
  resolved := Array.replicate 378 none
  statics := none }

def pool43 : Array CpInfo := pool [(1, u "java/lang/Class"), (0, .class_ 1), (0, u s8), (0, .class_ 3)] 0

/-- java/lang/Class -/
def k43 : Class := { plain "java/lang/Class" (some 0) with
  accessFlags := 49
  interfaces := #[]
  cf := some (fileOf pool43 2 #[] #[] 49 4 #[] #[])
  fields := #[]
  methods := #[]
  instanceTypes := #[]
  staticTypes := #[]
  resolved := Array.replicate 5 none
  statics := none }

/-- the primitive byte -/
def k44 : Class := { plain "byte" none with kind := .primitive 'B', accessFlags := 0x411 }
/-- [B -/
def k45 : Class := { plain "[B" (some 0) with kind := .array 44 .byte, interfaces := #[17, 3], accessFlags := 1041 }

/-- the primitive int -/
def k46 : Class := { plain "int" none with kind := .primitive 'I', accessFlags := 0x411 }
/-- [I -/
def k47 : Class := { plain "[I" (some 0) with kind := .array 46 .int, interfaces := #[17, 3], accessFlags := 1041 }

/-- the primitive long -/
def k48 : Class := { plain "long" none with kind := .primitive 'J', accessFlags := 0x411 }
/-- [J -/
def k49 : Class := { plain "[J" (some 0) with kind := .array 48 .long, interfaces := #[17, 3], accessFlags := 1041 }

/-- [Lcom/example/lawful_crossing/lawfulcrossing/model/Segment; -/
def k50 : Class := { plain s12 (some 0) with kind := .array 2 (.object s1), interfaces := #[17, 3], accessFlags := 1041 }

/-- [Ljava/lang/Integer; -/
def k51 : Class := { plain "[Ljava/lang/Integer;" (some 0) with kind := .array 37 (.object s39), interfaces := #[17, 3], accessFlags := 1041 }

/-- [Ljava/lang/Object; -/
def k52 : Class := { plain s10 (some 0) with mirror := some 7, kind := .array 0 (.object s8), interfaces := #[17, 3], accessFlags := 1041 }

/-- [Ljava/util/HashMap$Node; -/
def k53 : Class := { plain s23 (some 0) with kind := .array 40 (.object s5), interfaces := #[17, 3], accessFlags := 1041 }

/-- its class, bare -/
def k54 : Class := plain s16 (some 0)
/-- an array of arrays -/
def k55 : Class := { plain "[Lcom/example/lawful_crossing/lawfulcrossing/service/RingAccess;" (some 0) with kind := .array 54 (.object s16), interfaces := #[17, 3], accessFlags := 1041 }
/-- an array of arrays -/
def k56 : Class := { plain s14 (some 0) with kind := .array 55 (.array (.object s16)), interfaces := #[17, 3], accessFlags := 1041 }
def heap : Heap := #[{ cls := 2, slots := #[.int 0, .null, .null, .null, .int 0, .int 0, .ref 267, .int 0], vm := .statics 2 },
  { cls := 8, slots := #[.long 0, .int 1, .null, .int 0, .null, .int 0, .int 0], vm := .statics 8 },
  { cls := 18, slots := #[.long 0, .int 0, .ref 268, .ref 269], vm := .statics 18 },
  { cls := 19, slots := #[.long 0, .int 0, .null, .ref 270, .ref 266, .null, .null, .null, .int 0, .int 1], vm := .statics 19 },
  { cls := 28, slots := #[.null, .int 0, .int 8, .int 0, .int 0, .int 0, .long 0, .long 0], vm := .statics 28 },
  { cls := 38, slots := #[.int 0, .int 127, .ref 8, .null, .int 0], vm := .statics 38 },
  { cls := 41, slots := #[.null, .null, .null], vm := .statics 41 },
  { cls := 43, slots := #[], vm := .mirror 52 },
  { cls := 51, slots := #[.ref 10, .ref 11, .ref 12, .ref 13, .ref 14, .ref 15, .ref 16, .ref 17, .ref 18, .ref 19, .ref 20, .ref 21, .ref 22, .ref 23, .ref 24, .ref 25, .ref 26, .ref 27, .ref 28, .ref 29, .ref 30, .ref 31, .ref 32, .ref 33, .ref 34, .ref 35, .ref 36, .ref 37, .ref 38, .ref 39, .ref 40, .ref 41, .ref 42, .ref 43, .ref 44, .ref 45, .ref 46, .ref 47, .ref 48, .ref 49, .ref 50, .ref 51, .ref 52, .ref 53, .ref 54, .ref 55, .ref 56, .ref 57, .ref 58, .ref 59, .ref 60, .ref 61, .ref 62, .ref 63, .ref 64, .ref 65, .ref 66, .ref 67, .ref 68, .ref 69, .ref 70, .ref 71, .ref 72, .ref 73, .ref 74, .ref 75, .ref 76, .ref 77, .ref 78, .ref 79, .ref 80, .ref 81, .ref 82, .ref 83, .ref 84, .ref 85, .ref 86, .ref 87, .ref 88, .ref 89, .ref 90, .ref 91, .ref 92, .ref 93, .ref 94, .ref 95, .ref 96, .ref 97, .ref 98, .ref 99, .ref 100, .ref 101, .ref 102, .ref 103, .ref 104, .ref 105, .ref 106, .ref 107, .ref 108, .ref 109, .ref 110, .ref 111, .ref 112, .ref 113, .ref 114, .ref 115, .ref 116, .ref 117, .ref 118, .ref 119, .ref 120, .ref 121, .ref 122, .ref 123, .ref 124, .ref 125, .ref 126, .ref 127, .ref 128, .ref 129, .ref 130, .ref 131, .ref 132, .ref 133, .ref 134, .ref 135, .ref 136, .ref 137, .ref 138, .ref 139, .ref 140, .ref 141, .ref 142, .ref 143, .ref 144, .ref 145, .ref 146, .ref 147, .ref 148, .ref 149, .ref 150, .ref 151, .ref 152, .ref 153, .ref 154, .ref 155, .ref 156, .ref 157, .ref 158, .ref 159, .ref 160, .ref 161, .ref 162, .ref 163, .ref 164, .ref 165, .ref 166, .ref 167, .ref 168, .ref 169, .ref 170, .ref 171, .ref 172, .ref 173, .ref 174, .ref 175, .ref 176, .ref 177, .ref 178, .ref 179, .ref 180, .ref 181, .ref 182, .ref 183, .ref 184, .ref 185, .ref 186, .ref 187, .ref 188, .ref 189, .ref 190, .ref 191, .ref 192, .ref 193, .ref 194, .ref 195, .ref 196, .ref 197, .ref 198, .ref 199, .ref 200, .ref 201, .ref 202, .ref 203, .ref 204, .ref 205, .ref 206, .ref 207, .ref 208, .ref 209, .ref 210, .ref 211, .ref 212, .ref 213, .ref 214, .ref 215, .ref 216, .ref 217, .ref 218, .ref 219, .ref 220, .ref 221, .ref 222, .ref 223, .ref 224, .ref 225, .ref 226, .ref 227, .ref 228, .ref 229, .ref 230, .ref 231, .ref 232, .ref 233, .ref 234, .ref 235, .ref 236, .ref 237, .ref 238, .ref 239, .ref 240, .ref 241, .ref 242, .ref 243, .ref 244, .ref 245, .ref 246, .ref 247, .ref 248, .ref 249, .ref 250, .ref 251, .ref 252, .ref 253, .ref 254, .ref 255, .ref 256, .ref 257, .ref 258, .ref 259, .ref 260, .ref 261, .ref 262, .ref 263, .ref 264, .ref 265], vm := .none },
  { cls := 52, slots := #[], vm := .none },
  { cls := 37, slots := #[.int (-128)], vm := .none },
  { cls := 37, slots := #[.int (-127)], vm := .none },
  { cls := 37, slots := #[.int (-126)], vm := .none },
  { cls := 37, slots := #[.int (-125)], vm := .none },
  { cls := 37, slots := #[.int (-124)], vm := .none },
  { cls := 37, slots := #[.int (-123)], vm := .none },
  { cls := 37, slots := #[.int (-122)], vm := .none },
  { cls := 37, slots := #[.int (-121)], vm := .none },
  { cls := 37, slots := #[.int (-120)], vm := .none },
  { cls := 37, slots := #[.int (-119)], vm := .none },
  { cls := 37, slots := #[.int (-118)], vm := .none },
  { cls := 37, slots := #[.int (-117)], vm := .none },
  { cls := 37, slots := #[.int (-116)], vm := .none },
  { cls := 37, slots := #[.int (-115)], vm := .none },
  { cls := 37, slots := #[.int (-114)], vm := .none },
  { cls := 37, slots := #[.int (-113)], vm := .none },
  { cls := 37, slots := #[.int (-112)], vm := .none },
  { cls := 37, slots := #[.int (-111)], vm := .none },
  { cls := 37, slots := #[.int (-110)], vm := .none },
  { cls := 37, slots := #[.int (-109)], vm := .none },
  { cls := 37, slots := #[.int (-108)], vm := .none },
  { cls := 37, slots := #[.int (-107)], vm := .none },
  { cls := 37, slots := #[.int (-106)], vm := .none },
  { cls := 37, slots := #[.int (-105)], vm := .none },
  { cls := 37, slots := #[.int (-104)], vm := .none },
  { cls := 37, slots := #[.int (-103)], vm := .none },
  { cls := 37, slots := #[.int (-102)], vm := .none },
  { cls := 37, slots := #[.int (-101)], vm := .none },
  { cls := 37, slots := #[.int (-100)], vm := .none },
  { cls := 37, slots := #[.int (-99)], vm := .none },
  { cls := 37, slots := #[.int (-98)], vm := .none },
  { cls := 37, slots := #[.int (-97)], vm := .none },
  { cls := 37, slots := #[.int (-96)], vm := .none },
  { cls := 37, slots := #[.int (-95)], vm := .none },
  { cls := 37, slots := #[.int (-94)], vm := .none },
  { cls := 37, slots := #[.int (-93)], vm := .none },
  { cls := 37, slots := #[.int (-92)], vm := .none },
  { cls := 37, slots := #[.int (-91)], vm := .none },
  { cls := 37, slots := #[.int (-90)], vm := .none },
  { cls := 37, slots := #[.int (-89)], vm := .none },
  { cls := 37, slots := #[.int (-88)], vm := .none },
  { cls := 37, slots := #[.int (-87)], vm := .none },
  { cls := 37, slots := #[.int (-86)], vm := .none },
  { cls := 37, slots := #[.int (-85)], vm := .none },
  { cls := 37, slots := #[.int (-84)], vm := .none },
  { cls := 37, slots := #[.int (-83)], vm := .none },
  { cls := 37, slots := #[.int (-82)], vm := .none },
  { cls := 37, slots := #[.int (-81)], vm := .none },
  { cls := 37, slots := #[.int (-80)], vm := .none },
  { cls := 37, slots := #[.int (-79)], vm := .none },
  { cls := 37, slots := #[.int (-78)], vm := .none },
  { cls := 37, slots := #[.int (-77)], vm := .none },
  { cls := 37, slots := #[.int (-76)], vm := .none },
  { cls := 37, slots := #[.int (-75)], vm := .none },
  { cls := 37, slots := #[.int (-74)], vm := .none },
  { cls := 37, slots := #[.int (-73)], vm := .none },
  { cls := 37, slots := #[.int (-72)], vm := .none },
  { cls := 37, slots := #[.int (-71)], vm := .none },
  { cls := 37, slots := #[.int (-70)], vm := .none },
  { cls := 37, slots := #[.int (-69)], vm := .none },
  { cls := 37, slots := #[.int (-68)], vm := .none },
  { cls := 37, slots := #[.int (-67)], vm := .none },
  { cls := 37, slots := #[.int (-66)], vm := .none },
  { cls := 37, slots := #[.int (-65)], vm := .none },
  { cls := 37, slots := #[.int (-64)], vm := .none },
  { cls := 37, slots := #[.int (-63)], vm := .none },
  { cls := 37, slots := #[.int (-62)], vm := .none },
  { cls := 37, slots := #[.int (-61)], vm := .none },
  { cls := 37, slots := #[.int (-60)], vm := .none },
  { cls := 37, slots := #[.int (-59)], vm := .none },
  { cls := 37, slots := #[.int (-58)], vm := .none },
  { cls := 37, slots := #[.int (-57)], vm := .none },
  { cls := 37, slots := #[.int (-56)], vm := .none },
  { cls := 37, slots := #[.int (-55)], vm := .none },
  { cls := 37, slots := #[.int (-54)], vm := .none },
  { cls := 37, slots := #[.int (-53)], vm := .none },
  { cls := 37, slots := #[.int (-52)], vm := .none },
  { cls := 37, slots := #[.int (-51)], vm := .none },
  { cls := 37, slots := #[.int (-50)], vm := .none },
  { cls := 37, slots := #[.int (-49)], vm := .none },
  { cls := 37, slots := #[.int (-48)], vm := .none },
  { cls := 37, slots := #[.int (-47)], vm := .none },
  { cls := 37, slots := #[.int (-46)], vm := .none },
  { cls := 37, slots := #[.int (-45)], vm := .none },
  { cls := 37, slots := #[.int (-44)], vm := .none },
  { cls := 37, slots := #[.int (-43)], vm := .none },
  { cls := 37, slots := #[.int (-42)], vm := .none },
  { cls := 37, slots := #[.int (-41)], vm := .none },
  { cls := 37, slots := #[.int (-40)], vm := .none },
  { cls := 37, slots := #[.int (-39)], vm := .none },
  { cls := 37, slots := #[.int (-38)], vm := .none },
  { cls := 37, slots := #[.int (-37)], vm := .none },
  { cls := 37, slots := #[.int (-36)], vm := .none },
  { cls := 37, slots := #[.int (-35)], vm := .none },
  { cls := 37, slots := #[.int (-34)], vm := .none },
  { cls := 37, slots := #[.int (-33)], vm := .none },
  { cls := 37, slots := #[.int (-32)], vm := .none },
  { cls := 37, slots := #[.int (-31)], vm := .none },
  { cls := 37, slots := #[.int (-30)], vm := .none },
  { cls := 37, slots := #[.int (-29)], vm := .none },
  { cls := 37, slots := #[.int (-28)], vm := .none },
  { cls := 37, slots := #[.int (-27)], vm := .none },
  { cls := 37, slots := #[.int (-26)], vm := .none },
  { cls := 37, slots := #[.int (-25)], vm := .none },
  { cls := 37, slots := #[.int (-24)], vm := .none },
  { cls := 37, slots := #[.int (-23)], vm := .none },
  { cls := 37, slots := #[.int (-22)], vm := .none },
  { cls := 37, slots := #[.int (-21)], vm := .none },
  { cls := 37, slots := #[.int (-20)], vm := .none },
  { cls := 37, slots := #[.int (-19)], vm := .none },
  { cls := 37, slots := #[.int (-18)], vm := .none },
  { cls := 37, slots := #[.int (-17)], vm := .none },
  { cls := 37, slots := #[.int (-16)], vm := .none },
  { cls := 37, slots := #[.int (-15)], vm := .none },
  { cls := 37, slots := #[.int (-14)], vm := .none },
  { cls := 37, slots := #[.int (-13)], vm := .none },
  { cls := 37, slots := #[.int (-12)], vm := .none },
  { cls := 37, slots := #[.int (-11)], vm := .none },
  { cls := 37, slots := #[.int (-10)], vm := .none },
  { cls := 37, slots := #[.int (-9)], vm := .none },
  { cls := 37, slots := #[.int (-8)], vm := .none },
  { cls := 37, slots := #[.int (-7)], vm := .none },
  { cls := 37, slots := #[.int (-6)], vm := .none },
  { cls := 37, slots := #[.int (-5)], vm := .none },
  { cls := 37, slots := #[.int (-4)], vm := .none },
  { cls := 37, slots := #[.int (-3)], vm := .none },
  { cls := 37, slots := #[.int (-2)], vm := .none },
  { cls := 37, slots := #[.int (-1)], vm := .none },
  { cls := 37, slots := #[.int 0], vm := .none },
  { cls := 37, slots := #[.int 1], vm := .none },
  { cls := 37, slots := #[.int 2], vm := .none },
  { cls := 37, slots := #[.int 3], vm := .none },
  { cls := 37, slots := #[.int 4], vm := .none },
  { cls := 37, slots := #[.int 5], vm := .none },
  { cls := 37, slots := #[.int 6], vm := .none },
  { cls := 37, slots := #[.int 7], vm := .none },
  { cls := 37, slots := #[.int 8], vm := .none },
  { cls := 37, slots := #[.int 9], vm := .none },
  { cls := 37, slots := #[.int 10], vm := .none },
  { cls := 37, slots := #[.int 11], vm := .none },
  { cls := 37, slots := #[.int 12], vm := .none },
  { cls := 37, slots := #[.int 13], vm := .none },
  { cls := 37, slots := #[.int 14], vm := .none },
  { cls := 37, slots := #[.int 15], vm := .none },
  { cls := 37, slots := #[.int 16], vm := .none },
  { cls := 37, slots := #[.int 17], vm := .none },
  { cls := 37, slots := #[.int 18], vm := .none },
  { cls := 37, slots := #[.int 19], vm := .none },
  { cls := 37, slots := #[.int 20], vm := .none },
  { cls := 37, slots := #[.int 21], vm := .none },
  { cls := 37, slots := #[.int 22], vm := .none },
  { cls := 37, slots := #[.int 23], vm := .none },
  { cls := 37, slots := #[.int 24], vm := .none },
  { cls := 37, slots := #[.int 25], vm := .none },
  { cls := 37, slots := #[.int 26], vm := .none },
  { cls := 37, slots := #[.int 27], vm := .none },
  { cls := 37, slots := #[.int 28], vm := .none },
  { cls := 37, slots := #[.int 29], vm := .none },
  { cls := 37, slots := #[.int 30], vm := .none },
  { cls := 37, slots := #[.int 31], vm := .none },
  { cls := 37, slots := #[.int 32], vm := .none },
  { cls := 37, slots := #[.int 33], vm := .none },
  { cls := 37, slots := #[.int 34], vm := .none },
  { cls := 37, slots := #[.int 35], vm := .none },
  { cls := 37, slots := #[.int 36], vm := .none },
  { cls := 37, slots := #[.int 37], vm := .none },
  { cls := 37, slots := #[.int 38], vm := .none },
  { cls := 37, slots := #[.int 39], vm := .none },
  { cls := 37, slots := #[.int 40], vm := .none },
  { cls := 37, slots := #[.int 41], vm := .none },
  { cls := 37, slots := #[.int 42], vm := .none },
  { cls := 37, slots := #[.int 43], vm := .none },
  { cls := 37, slots := #[.int 44], vm := .none },
  { cls := 37, slots := #[.int 45], vm := .none },
  { cls := 37, slots := #[.int 46], vm := .none },
  { cls := 37, slots := #[.int 47], vm := .none },
  { cls := 37, slots := #[.int 48], vm := .none },
  { cls := 37, slots := #[.int 49], vm := .none },
  { cls := 37, slots := #[.int 50], vm := .none },
  { cls := 37, slots := #[.int 51], vm := .none },
  { cls := 37, slots := #[.int 52], vm := .none },
  { cls := 37, slots := #[.int 53], vm := .none },
  { cls := 37, slots := #[.int 54], vm := .none },
  { cls := 37, slots := #[.int 55], vm := .none },
  { cls := 37, slots := #[.int 56], vm := .none },
  { cls := 37, slots := #[.int 57], vm := .none },
  { cls := 37, slots := #[.int 58], vm := .none },
  { cls := 37, slots := #[.int 59], vm := .none },
  { cls := 37, slots := #[.int 60], vm := .none },
  { cls := 37, slots := #[.int 61], vm := .none },
  { cls := 37, slots := #[.int 62], vm := .none },
  { cls := 37, slots := #[.int 63], vm := .none },
  { cls := 37, slots := #[.int 64], vm := .none },
  { cls := 37, slots := #[.int 65], vm := .none },
  { cls := 37, slots := #[.int 66], vm := .none },
  { cls := 37, slots := #[.int 67], vm := .none },
  { cls := 37, slots := #[.int 68], vm := .none },
  { cls := 37, slots := #[.int 69], vm := .none },
  { cls := 37, slots := #[.int 70], vm := .none },
  { cls := 37, slots := #[.int 71], vm := .none },
  { cls := 37, slots := #[.int 72], vm := .none },
  { cls := 37, slots := #[.int 73], vm := .none },
  { cls := 37, slots := #[.int 74], vm := .none },
  { cls := 37, slots := #[.int 75], vm := .none },
  { cls := 37, slots := #[.int 76], vm := .none },
  { cls := 37, slots := #[.int 77], vm := .none },
  { cls := 37, slots := #[.int 78], vm := .none },
  { cls := 37, slots := #[.int 79], vm := .none },
  { cls := 37, slots := #[.int 80], vm := .none },
  { cls := 37, slots := #[.int 81], vm := .none },
  { cls := 37, slots := #[.int 82], vm := .none },
  { cls := 37, slots := #[.int 83], vm := .none },
  { cls := 37, slots := #[.int 84], vm := .none },
  { cls := 37, slots := #[.int 85], vm := .none },
  { cls := 37, slots := #[.int 86], vm := .none },
  { cls := 37, slots := #[.int 87], vm := .none },
  { cls := 37, slots := #[.int 88], vm := .none },
  { cls := 37, slots := #[.int 89], vm := .none },
  { cls := 37, slots := #[.int 90], vm := .none },
  { cls := 37, slots := #[.int 91], vm := .none },
  { cls := 37, slots := #[.int 92], vm := .none },
  { cls := 37, slots := #[.int 93], vm := .none },
  { cls := 37, slots := #[.int 94], vm := .none },
  { cls := 37, slots := #[.int 95], vm := .none },
  { cls := 37, slots := #[.int 96], vm := .none },
  { cls := 37, slots := #[.int 97], vm := .none },
  { cls := 37, slots := #[.int 98], vm := .none },
  { cls := 37, slots := #[.int 99], vm := .none },
  { cls := 37, slots := #[.int 100], vm := .none },
  { cls := 37, slots := #[.int 101], vm := .none },
  { cls := 37, slots := #[.int 102], vm := .none },
  { cls := 37, slots := #[.int 103], vm := .none },
  { cls := 37, slots := #[.int 104], vm := .none },
  { cls := 37, slots := #[.int 105], vm := .none },
  { cls := 37, slots := #[.int 106], vm := .none },
  { cls := 37, slots := #[.int 107], vm := .none },
  { cls := 37, slots := #[.int 108], vm := .none },
  { cls := 37, slots := #[.int 109], vm := .none },
  { cls := 37, slots := #[.int 110], vm := .none },
  { cls := 37, slots := #[.int 111], vm := .none },
  { cls := 37, slots := #[.int 112], vm := .none },
  { cls := 37, slots := #[.int 113], vm := .none },
  { cls := 37, slots := #[.int 114], vm := .none },
  { cls := 37, slots := #[.int 115], vm := .none },
  { cls := 37, slots := #[.int 116], vm := .none },
  { cls := 37, slots := #[.int 117], vm := .none },
  { cls := 37, slots := #[.int 118], vm := .none },
  { cls := 37, slots := #[.int 119], vm := .none },
  { cls := 37, slots := #[.int 120], vm := .none },
  { cls := 37, slots := #[.int 121], vm := .none },
  { cls := 37, slots := #[.int 122], vm := .none },
  { cls := 37, slots := #[.int 123], vm := .none },
  { cls := 37, slots := #[.int 124], vm := .none },
  { cls := 37, slots := #[.int 125], vm := .none },
  { cls := 37, slots := #[.int 126], vm := .none },
  { cls := 37, slots := #[.int 127], vm := .none },
  { cls := 23, slots := #[.ref 9, .int 0], vm := .none },
  { cls := 49, slots := #[], vm := .none },
  { cls := 52, slots := #[], vm := .none },
  { cls := 52, slots := #[], vm := .none },
  { cls := 0, slots := #[], vm := .none }]
def classes : Array Class := #[k0, k1, k2, k3, k4, k5, k6, k7, k8, k9, k10, k11, k12, k13, k14, k15, k16, k17, k18, k19, k20, k21, k22, k23, k24, k25, k26, k27, k28, k29, k30, k31, k32, k33, k34, k35, k36, k37, k38, k39, k40, k41, k42, k43, k44, k45, k46, k47, k48, k49, k50, k51, k52, k53, k54, k55, k56]
def interned : List (Array UInt16 × Addr) := []
def slotsUsed : Nat := 559
def theMethod : MethodId := ⟨1, 1⟩
def args0 : Array Value := #[.int 2, .int 1, .int 3, .int 5]
def aboutOver (below : List Frame) : State where
  vm := { classes := classes, interned := interned.toArray }
  heap := heap
  slotsUsed := slotsUsed
  threads := #[{ frames := .invoking theMethod args0 :: below }]
def below0 : List Frame := [.native { method := ⟨0, 0⟩, args := #[] }]
def about1 : State := aboutOver below0
def p0 : Program := .bare "" "" ""
def e0 : Env := launch0.env 0 0 0
theorem w_frames : about1.frames = Frame.invoking theMethod args0 :: below0 := rfl
set_option maxRecDepth 65536 in
theorem w_args : argsFit about1.vm theMethod args0 = true := by decide +kernel
set_option maxRecDepth 65536 in
theorem w_heap : heapFits about1 = true := by decide +kernel
set_option maxRecDepth 65536 in
theorem w_runnable : about1.curStatus? = some .runnable := by decide +kernel
set_option maxRecDepth 65536 in
theorem w_alone : about1.alone = true := by decide +kernel
set_option maxRecDepth 65536 in
theorem w_named : about1.methodNamed? x = some theMethod := by decide +kernel
set_option maxRecDepth 65536 in
theorem w_hears : about1.hears theMethod below0 = true := by decide +kernel
set_option maxRecDepth 65536 in
theorem w_ripe : about1.ripe theMethod args0 below0 = true := by decide +kernel
theorem w_running : about1.status = .running := rfl
set_option maxRecDepth 65536 in
theorem w_room : about1.hasRoom e0.platform room_1 = true :=
  launch0.hasRoom_least _ room_1 (by decide +kernel) (by decide +kernel) (by decide +kernel) (by decide +kernel) (by decide +kernel) (by decide +kernel)
theorem allAtoms_all (ts : List Jvm.Cond) (a : Array Jvm.Value) (st : Jvm.State) : (allAtoms ts).before a st = ts.all (fun c => c.before a st) := by
  induction ts with
  | nil => rfl
  | cons c t ih =>
    show (Jvm.Cond.and c (allAtoms t)).before a st = _
    rw [Jvm.Cond.before_and, ih, List.all_cons]
def words1 : List Jvm.Cond := Jvm.Cond.code x code maxLocals ret :: tables_1
/-- a 'code' word, met by the world's own term for the bytes: nothing is compared byte by byte -/
theorem code_word {y : MethodName} {bytes : ByteArray} {mx : Nat} {rt : Option FieldType} {a : Array Value} {s : State} {m : MethodId} {meth : Method} {c : Code} (h1 : s.methodNamed? y = some m) (h2 : s.vm.method? m = some meth) (h3 : meth.code = some c) (h4 : c.code = bytes)
    (h5 : (c.maxLocals == mx && c.exceptionTable.isEmpty && decide (c.maxStack ≤ mostOperands) && decide (meth.sig.returnType = rt) && !meth.locks && decide (parseMethodDescriptor y.desc = some meth.sig)) = true) : (Jvm.Cond.code y bytes mx rt).before a s = true := by
  simp only [Bool.and_eq_true, beq_iff_eq, Bool.not_eq_true', decide_eq_true_eq] at h5
  obtain ⟨⟨⟨⟨⟨g1, g2⟩, g3⟩, g4⟩, g5⟩, g6⟩ := h5
  simp [Cond.before, Cond.holds, Cond.value, h1, h2, h3, h4, g1, g2, g3, g4, g5, g6]
def isCode : Jvm.Cond → Bool
  | .code _ _ _ _ => true
  | _ => false
theorem all_split {L : List Jvm.Cond} {P : Jvm.Cond → Bool} (h1 : L.all (fun c => isCode c || P c) = true) (h2 : ∀ c ∈ L.filter isCode, P c = true) : L.all P = true := by
  refine List.all_eq_true.mpr fun c hc => ?_
  have h := List.all_eq_true.mp h1 c hc
  rcases Bool.eq_false_or_eq_true (isCode c) with hi | hi
  · exact h2 c (List.mem_filter.mpr ⟨hc, hi⟩)
  · simpa [hi] using h
set_option maxRecDepth 65536 in
theorem w_c0 : (Jvm.Cond.code x code maxLocals ret).before args0 about1 = true := code_word (m := ⟨1, 1⟩) (meth := k1m1) (c := k1c1) (by decide +kernel) rfl rfl rfl (by decide +kernel)
set_option maxRecDepth 65536 in
theorem w_c1 : (Jvm.Cond.code ({ cls := s4, name := "valueOf", desc := "(C)Ljava/lang/String;" } : Jvm.MethodName) jdk_42_method_139_code (1 : Nat) (Option.some (Jvm.ClassFile.FieldType.object s4))).before args0 about1 = true := code_word (m := ⟨8, 2⟩) (meth := k8m2) (c := k8c2) (by decide +kernel) rfl rfl rfl (by decide +kernel)
set_option maxRecDepth 65536 in
theorem w_c2 : (Jvm.Cond.code ({ cls := s36, name := "canEncode", desc := "(C)Z" } : Jvm.MethodName) jdk_43_method_3_code (1 : Nat) (Option.some Jvm.ClassFile.FieldType.boolean)).before args0 about1 = true := code_word (m := ⟨9, 1⟩) (meth := k9m1) (c := k9c1) (by decide +kernel) rfl rfl rfl (by decide +kernel)
set_option maxRecDepth 65536 in
theorem w_c3 : (Jvm.Cond.code ({ cls := s36, name := "toBytes", desc := "(C)[B" } : Jvm.MethodName) jdk_43_method_46_code (1 : Nat) (Option.some (Jvm.ClassFile.FieldType.array Jvm.ClassFile.FieldType.byte))).before args0 about1 = true := code_word (m := ⟨9, 3⟩) (meth := k9m3) (c := k9c3) (by decide +kernel) rfl rfl rfl (by decide +kernel)
set_option maxRecDepth 65536 in
theorem w_c4 : (Jvm.Cond.code ({ cls := s4, name := s50, desc := "([BB)V" } : Jvm.MethodName) jdk_42_method_151_code (3 : Nat) (Option.none : Option Jvm.ClassFile.FieldType)).before args0 about1 = true := code_word (m := ⟨8, 3⟩) (meth := k8m3) (c := k8c3) (by decide +kernel) rfl rfl rfl (by decide +kernel)
set_option maxRecDepth 65536 in
theorem w_c5 : (Jvm.Cond.code ({ cls := s8, name := s50, desc := "()V" } : Jvm.MethodName) object_method_1_code (1 : Nat) (Option.none : Option Jvm.ClassFile.FieldType)).before args0 about1 = true := code_word (m := ⟨0, 0⟩) (meth := k0m0) (c := k0c0) (by decide +kernel) rfl rfl rfl (by decide +kernel)
set_option maxRecDepth 65536 in
theorem w_c6 : (Jvm.Cond.code ({ cls := s6, name := s50, desc := "()V" } : Jvm.MethodName) jdk_38_method_2_code (1 : Nat) (Option.none : Option Jvm.ClassFile.FieldType)).before args0 about1 = true := code_word (m := ⟨18, 0⟩) (meth := k18m0) (c := k18c0) (by decide +kernel) rfl rfl rfl (by decide +kernel)
set_option maxRecDepth 65536 in
theorem w_c7 : (Jvm.Cond.code ({ cls := s24, name := s50, desc := "()V" } : Jvm.MethodName) jdk_39_method_1_code (1 : Nat) (Option.none : Option Jvm.ClassFile.FieldType)).before args0 about1 = true := code_word (m := ⟨15, 0⟩) (meth := k15m0) (c := k15c0) (by decide +kernel) rfl rfl rfl (by decide +kernel)
set_option maxRecDepth 65536 in
theorem w_c8 : (Jvm.Cond.code ({ cls := "java/util/AbstractCollection", name := s50, desc := "()V" } : Jvm.MethodName) jdk_22_method_1_code (1 : Nat) (Option.none : Option Jvm.ClassFile.FieldType)).before args0 about1 = true := code_word (m := ⟨12, 0⟩) (meth := k12m0) (c := k12c0) (by decide +kernel) rfl rfl rfl (by decide +kernel)
set_option maxRecDepth 65536 in
theorem w_c9 : (Jvm.Cond.code ({ cls := s1, name := s50, desc := "(Ljava/lang/String;ILjava/util/List;)V" } : Jvm.MethodName) prog_38_method_1_code (4 : Nat) (Option.none : Option Jvm.ClassFile.FieldType)).before args0 about1 = true := code_word (m := ⟨2, 0⟩) (meth := k2m0) (c := k2c0) (by decide +kernel) rfl rfl rfl (by decide +kernel)
set_option maxRecDepth 65536 in
theorem w_c10 : (Jvm.Cond.code ({ cls := s21, name := "copyOf", desc := s40 } : Jvm.MethodName) jdk_40_method_48_code (1 : Nat) (Option.some (Jvm.ClassFile.FieldType.object s21))).before args0 about1 = true := code_word (m := ⟨14, 5⟩) (meth := k14m5) (c := k14c5) (by decide +kernel) rfl rfl rfl (by decide +kernel)
set_option maxRecDepth 65536 in
theorem w_c11 : (Jvm.Cond.code ({ cls := s38, name := "listCopy", desc := s40 } : Jvm.MethodName) jdk_56_method_3_code (2 : Nat) (Option.some (Jvm.ClassFile.FieldType.object s21))).before args0 about1 = true := code_word (m := ⟨19, 1⟩) (meth := k19m1) (c := k19c1) (by decide +kernel) rfl rfl rfl (by decide +kernel)
set_option maxRecDepth 65536 in
theorem w_c12 : (Jvm.Cond.code ({ cls := s6, name := "isEmpty", desc := "()Z" } : Jvm.MethodName) jdk_38_method_9_code (1 : Nat) (Option.some Jvm.ClassFile.FieldType.boolean)).before args0 about1 = true := code_word (m := ⟨18, 3⟩) (meth := k18m3) (c := k18c3) (by decide +kernel) rfl rfl rfl (by decide +kernel)
set_option maxRecDepth 65536 in
theorem w_c13 : (Jvm.Cond.code ({ cls := s21, name := "of", desc := "()Ljava/util/List;" } : Jvm.MethodName) jdk_40_method_36_code (0 : Nat) (Option.some (Jvm.ClassFile.FieldType.object s21))).before args0 about1 = true := code_word (m := ⟨14, 3⟩) (meth := k14m3) (c := k14c3) (by decide +kernel) rfl rfl rfl (by decide +kernel)
set_option maxRecDepth 65536 in
theorem w_c14 : (Jvm.Cond.code ({ cls := s3, name := s50, desc := s65 } : Jvm.MethodName) prog_29_method_1_code (4 : Nat) (Option.none : Option Jvm.ClassFile.FieldType)).before args0 about1 = true := code_word (m := ⟨24, 0⟩) (meth := k24m0) (c := k24c0) (by decide +kernel) rfl rfl rfl (by decide +kernel)
set_option maxRecDepth 65536 in
theorem w_c15 : (Jvm.Cond.code ({ cls := s7, name := s50, desc := "()V" } : Jvm.MethodName) jdk_69_method_7_code (1 : Nat) (Option.none : Option Jvm.ClassFile.FieldType)).before args0 about1 = true := code_word (m := ⟨27, 1⟩) (meth := k27m1) (c := k27c1) (by decide +kernel) rfl rfl rfl (by decide +kernel)
set_option maxRecDepth 65536 in
theorem w_c16 : (Jvm.Cond.code ({ cls := "java/util/AbstractMap", name := s50, desc := "()V" } : Jvm.MethodName) jdk_71_method_1_code (1 : Nat) (Option.none : Option Jvm.ClassFile.FieldType)).before args0 about1 = true := code_word (m := ⟨26, 0⟩) (meth := k26m0) (c := k26c0) (by decide +kernel) rfl rfl rfl (by decide +kernel)
set_option maxRecDepth 65536 in
theorem w_c17 : (Jvm.Cond.code ({ cls := s11, name := "size", desc := "()I" } : Jvm.MethodName) jdk_45_method_3_code (1 : Nat) (Option.some Jvm.ClassFile.FieldType.int)).before args0 about1 = true := code_word (m := ⟨23, 1⟩) (meth := k23m1) (c := k23c1) (by decide +kernel) rfl rfl rfl (by decide +kernel)
set_option maxRecDepth 65536 in
theorem w_c18 : (Jvm.Cond.code ({ cls := s0, name := s50, desc := s31 } : Jvm.MethodName) prog_50_method_1_code (5 : Nat) (Option.none : Option Jvm.ClassFile.FieldType)).before args0 about1 = true := code_word (m := ⟨28, 0⟩) (meth := k28m0) (c := k28c0) (by decide +kernel) rfl rfl rfl (by decide +kernel)
set_option maxRecDepth 65536 in
theorem w_c19 : (Jvm.Cond.code ({ cls := s3, name := s35, desc := "()Ljava/util/List;" } : Jvm.MethodName) prog_29_method_3_code (1 : Nat) (Option.some (Jvm.ClassFile.FieldType.object s21))).before args0 about1 = true := code_word (m := ⟨24, 1⟩) (meth := k24m1) (c := k24c1) (by decide +kernel) rfl rfl rfl (by decide +kernel)
set_option maxRecDepth 65536 in
theorem w_c20 : (Jvm.Cond.code ({ cls := s30, name := "iterator", desc := "()Ljava/util/Iterator;" } : Jvm.MethodName) jdk_46_method_10_code (1 : Nat) (Option.some (Jvm.ClassFile.FieldType.object "java/util/Iterator"))).before args0 about1 = true := code_word (m := ⟨21, 1⟩) (meth := k21m1) (c := k21c1) (by decide +kernel) rfl rfl rfl (by decide +kernel)
set_option maxRecDepth 65536 in
theorem w_c21 : (Jvm.Cond.code ({ cls := s2, name := s50, desc := "(Ljava/util/List;I)V" } : Jvm.MethodName) jdk_53_method_1_code (3 : Nat) (Option.none : Option Jvm.ClassFile.FieldType)).before args0 about1 = true := code_word (m := ⟨31, 0⟩) (meth := k31m0) (c := k31c0) (by decide +kernel) rfl rfl rfl (by decide +kernel)
set_option maxRecDepth 65536 in
theorem w_c22 : (Jvm.Cond.code ({ cls := s2, name := "hasNext", desc := "()Z" } : Jvm.MethodName) jdk_53_method_3_code (1 : Nat) (Option.some Jvm.ClassFile.FieldType.boolean)).before args0 about1 = true := code_word (m := ⟨31, 1⟩) (meth := k31m1) (c := k31c1) (by decide +kernel) rfl rfl rfl (by decide +kernel)
set_option maxRecDepth 65536 in
theorem w_c23 : (Jvm.Cond.code ({ cls := s0, name := s74, desc := s25 } : Jvm.MethodName) prog_50_method_9_code (2 : Nat) (Option.some (Jvm.ClassFile.FieldType.object s1))).before args0 about1 = true := code_word (m := ⟨28, 1⟩) (meth := k28m1) (c := k28c1) (by decide +kernel) rfl rfl rfl (by decide +kernel)
set_option maxRecDepth 65536 in
theorem w_c24 : (Jvm.Cond.code ({ cls := s20, name := s73, desc := s15 } : Jvm.MethodName) method_3_code (4 : Nat) (Option.some (Jvm.ClassFile.FieldType.object s1))).before args0 about1 = true := code_word (m := ⟨1, 2⟩) (meth := k1m2) (c := k1c2) (by decide +kernel) rfl rfl rfl (by decide +kernel)
set_option maxRecDepth 65536 in
theorem w_c25 : (Jvm.Cond.code ({ cls := s6, name := "add", desc := "(Ljava/lang/Object;)Z" } : Jvm.MethodName) jdk_38_method_25_code (2 : Nat) (Option.some Jvm.ClassFile.FieldType.boolean)).before args0 about1 = true := code_word (m := ⟨18, 6⟩) (meth := k18m6) (c := k18c6) (by decide +kernel) rfl rfl rfl (by decide +kernel)
set_option maxRecDepth 65536 in
theorem w_c26 : (Jvm.Cond.code ({ cls := s6, name := "add", desc := "(Ljava/lang/Object;[Ljava/lang/Object;I)V" } : Jvm.MethodName) jdk_38_method_24_code (4 : Nat) (Option.none : Option Jvm.ClassFile.FieldType)).before args0 about1 = true := code_word (m := ⟨18, 5⟩) (meth := k18m5) (c := k18c5) (by decide +kernel) rfl rfl rfl (by decide +kernel)
set_option maxRecDepth 65536 in
theorem w_c27 : (Jvm.Cond.code ({ cls := s6, name := "grow", desc := "()[Ljava/lang/Object;" } : Jvm.MethodName) jdk_38_method_7_code (1 : Nat) (Option.some (Jvm.ClassFile.FieldType.array (Jvm.ClassFile.FieldType.object s8)))).before args0 about1 = true := code_word (m := ⟨18, 2⟩) (meth := k18m2) (c := k18c2) (by decide +kernel) rfl rfl rfl (by decide +kernel)
set_option maxRecDepth 65536 in
theorem w_c28 : (Jvm.Cond.code ({ cls := s6, name := "grow", desc := "(I)[Ljava/lang/Object;" } : Jvm.MethodName) jdk_38_method_6_code (4 : Nat) (Option.some (Jvm.ClassFile.FieldType.array (Jvm.ClassFile.FieldType.object s8)))).before args0 about1 = true := code_word (m := ⟨18, 1⟩) (meth := k18m1) (c := k18c1) (by decide +kernel) rfl rfl rfl (by decide +kernel)
set_option maxRecDepth 65536 in
theorem w_c29 : (Jvm.Cond.code ({ cls := s69, name := "max", desc := "(II)I" } : Jvm.MethodName) jdk_29_method_65_code (2 : Nat) (Option.some Jvm.ClassFile.FieldType.int)).before args0 about1 = true := code_word (m := ⟨32, 1⟩) (meth := k32m1) (c := k32c1) (by decide +kernel) rfl rfl rfl (by decide +kernel)
set_option maxRecDepth 65536 in
theorem w_c30 : (Jvm.Cond.code ({ cls := s6, name := "toArray", desc := "()[Ljava/lang/Object;" } : Jvm.MethodName) jdk_38_method_16_code (1 : Nat) (Option.some (Jvm.ClassFile.FieldType.array (Jvm.ClassFile.FieldType.object s8)))).before args0 about1 = true := code_word (m := ⟨18, 4⟩) (meth := k18m4) (c := k18c4) (by decide +kernel) rfl rfl rfl (by decide +kernel)
set_option maxRecDepth 65536 in
theorem w_c31 : (Jvm.Cond.code ({ cls := s51, name := "copyOf", desc := "([Ljava/lang/Object;I)[Ljava/lang/Object;" } : Jvm.MethodName) jdk_65_method_119_code (2 : Nat) (Option.some (Jvm.ClassFile.FieldType.array (Jvm.ClassFile.FieldType.object s8)))).before args0 about1 = true := code_word (m := ⟨33, 1⟩) (meth := k33m1) (c := k33c1) (by decide +kernel) rfl rfl rfl (by decide +kernel)
set_option maxRecDepth 65536 in
theorem w_c32 : (Jvm.Cond.code ({ cls := s51, name := "copyOf", desc := s57 } : Jvm.MethodName) jdk_65_method_120_code (4 : Nat) (Option.some (Jvm.ClassFile.FieldType.array (Jvm.ClassFile.FieldType.object s8)))).before args0 about1 = true := code_word (m := ⟨33, 2⟩) (meth := k33m2) (c := k33c2) (by decide +kernel) rfl rfl rfl (by decide +kernel)
set_option maxRecDepth 65536 in
theorem w_c33 : (Jvm.Cond.code ({ cls := s69, name := "min", desc := "(II)I" } : Jvm.MethodName) jdk_29_method_69_code (2 : Nat) (Option.some Jvm.ClassFile.FieldType.int)).before args0 about1 = true := code_word (m := ⟨32, 2⟩) (meth := k32m2) (c := k32c2) (by decide +kernel) rfl rfl rfl (by decide +kernel)
set_option maxRecDepth 65536 in
theorem w_c34 : (Jvm.Cond.code ({ cls := s21, name := "of", desc := s63 } : Jvm.MethodName) jdk_40_method_47_code (2 : Nat) (Option.some (Jvm.ClassFile.FieldType.object s21))).before args0 about1 = true := code_word (m := ⟨14, 4⟩) (meth := k14m4) (c := k14c4) (by decide +kernel) rfl rfl rfl (by decide +kernel)
set_option maxRecDepth 65536 in
theorem w_c35 : (Jvm.Cond.code ({ cls := s38, name := "listFromArray", desc := s63 } : Jvm.MethodName) jdk_56_method_4_code (3 : Nat) (Option.some (Jvm.ClassFile.FieldType.object s21))).before args0 about1 = true := code_word (m := ⟨19, 2⟩) (meth := k19m2) (c := k19c2) (by decide +kernel) rfl rfl rfl (by decide +kernel)
set_option maxRecDepth 65536 in
theorem w_c36 : (Jvm.Cond.code ({ cls := "java/util/Objects", name := "requireNonNull", desc := "(Ljava/lang/Object;)Ljava/lang/Object;" } : Jvm.MethodName) jdk_31_method_10_code (1 : Nat) (Option.some (Jvm.ClassFile.FieldType.object s8))).before args0 about1 = true := code_word (m := ⟨35, 1⟩) (meth := k35m1) (c := k35c1) (by decide +kernel) rfl rfl rfl (by decide +kernel)
set_option maxRecDepth 65536 in
theorem w_c37 : (Jvm.Cond.code ({ cls := s11, name := s50, desc := "([Ljava/lang/Object;Z)V" } : Jvm.MethodName) jdk_45_method_1_code (3 : Nat) (Option.none : Option Jvm.ClassFile.FieldType)).before args0 about1 = true := code_word (m := ⟨23, 0⟩) (meth := k23m0) (c := k23c0) (by decide +kernel) rfl rfl rfl (by decide +kernel)
set_option maxRecDepth 65536 in
theorem w_c38 : (Jvm.Cond.code ({ cls := s30, name := s50, desc := "()V" } : Jvm.MethodName) jdk_46_method_1_code (1 : Nat) (Option.none : Option Jvm.ClassFile.FieldType)).before args0 about1 = true := code_word (m := ⟨21, 0⟩) (meth := k21m0) (c := k21c0) (by decide +kernel) rfl rfl rfl (by decide +kernel)
set_option maxRecDepth 65536 in
theorem w_c39 : (Jvm.Cond.code ({ cls := "java/util/ImmutableCollections$AbstractImmutableCollection", name := s50, desc := "()V" } : Jvm.MethodName) jdk_47_method_1_code (1 : Nat) (Option.none : Option Jvm.ClassFile.FieldType)).before args0 about1 = true := code_word (m := ⟨20, 0⟩) (meth := k20m0) (c := k20c0) (by decide +kernel) rfl rfl rfl (by decide +kernel)
set_option maxRecDepth 65536 in
theorem w_c40 : (Jvm.Cond.code ({ cls := s11, name := "get", desc := s71 } : Jvm.MethodName) jdk_45_method_4_code (2 : Nat) (Option.some (Jvm.ClassFile.FieldType.object s8))).before args0 about1 = true := code_word (m := ⟨23, 2⟩) (meth := k23m2) (c := k23c2) (by decide +kernel) rfl rfl rfl (by decide +kernel)
set_option maxRecDepth 65536 in
theorem w_c41 : (Jvm.Cond.code ({ cls := s1, name := "name", desc := "()Ljava/lang/String;" } : Jvm.MethodName) prog_38_method_6_code (1 : Nat) (Option.some (Jvm.ClassFile.FieldType.object s4))).before args0 about1 = true := code_word (m := ⟨2, 1⟩) (meth := k2m1) (c := k2c1) (by decide +kernel) rfl rfl rfl (by decide +kernel)
set_option maxRecDepth 65536 in
theorem w_c42 : (Jvm.Cond.code ({ cls := s39, name := "valueOf", desc := "(I)Ljava/lang/Integer;" } : Jvm.MethodName) jdk_33_method_22_code (1 : Nat) (Option.some (Jvm.ClassFile.FieldType.object s39))).before args0 about1 = true := code_word (m := ⟨37, 0⟩) (meth := k37m0) (c := k37c0) (by decide +kernel) rfl rfl rfl (by decide +kernel)
set_option maxRecDepth 65536 in
theorem w_c43 : (Jvm.Cond.code ({ cls := s7, name := "put", desc := s58 } : Jvm.MethodName) jdk_69_method_15_code (3 : Nat) (Option.some (Jvm.ClassFile.FieldType.object s8))).before args0 about1 = true := code_word (m := ⟨27, 2⟩) (meth := k27m2) (c := k27c2) (by decide +kernel) rfl rfl rfl (by decide +kernel)
set_option maxRecDepth 65536 in
theorem w_c44 : (Jvm.Cond.code ({ cls := s7, name := "hash", desc := "(Ljava/lang/Object;)I" } : Jvm.MethodName) jdk_69_method_1_code (2 : Nat) (Option.some Jvm.ClassFile.FieldType.int)).before args0 about1 = true := code_word (m := ⟨27, 0⟩) (meth := k27m0) (c := k27c0) (by decide +kernel) rfl rfl rfl (by decide +kernel)
set_option maxRecDepth 65536 in
theorem w_c45 : (Jvm.Cond.code ({ cls := s4, name := "hashCode", desc := "()I" } : Jvm.MethodName) jdk_42_method_78_code (2 : Nat) (Option.some Jvm.ClassFile.FieldType.int)).before args0 about1 = true := code_word (m := ⟨8, 1⟩) (meth := k8m1) (c := k8c1) (by decide +kernel) rfl rfl rfl (by decide +kernel)
set_option maxRecDepth 65536 in
theorem w_c46 : (Jvm.Cond.code ({ cls := s4, name := "isLatin1", desc := "()Z" } : Jvm.MethodName) jdk_42_method_154_code (1 : Nat) (Option.some Jvm.ClassFile.FieldType.boolean)).before args0 about1 = true := code_word (m := ⟨8, 4⟩) (meth := k8m4) (c := k8c4) (by decide +kernel) rfl rfl rfl (by decide +kernel)
set_option maxRecDepth 65536 in
theorem w_c47 : (Jvm.Cond.code ({ cls := s36, name := "hashCode", desc := "([B)I" } : Jvm.MethodName) jdk_43_method_21_code (1 : Nat) (Option.some Jvm.ClassFile.FieldType.int)).before args0 about1 = true := code_word (m := ⟨9, 2⟩) (meth := k9m2) (c := k9c2) (by decide +kernel) rfl rfl rfl (by decide +kernel)
set_option maxRecDepth 65536 in
theorem w_c48 : (Jvm.Cond.code ({ cls := s7, name := "putVal", desc := s56 } : Jvm.MethodName) jdk_69_method_16_code (13 : Nat) (Option.some (Jvm.ClassFile.FieldType.object s8))).before args0 about1 = true := code_word (m := ⟨27, 3⟩) (meth := k27m3) (c := k27c3) (by decide +kernel) rfl rfl rfl (by decide +kernel)
set_option maxRecDepth 65536 in
theorem w_c49 : (Jvm.Cond.code ({ cls := s7, name := "resize", desc := "()[Ljava/util/HashMap$Node;" } : Jvm.MethodName) jdk_69_method_17_code (14 : Nat) (Option.some (Jvm.ClassFile.FieldType.array (Jvm.ClassFile.FieldType.object s5)))).before args0 about1 = true := code_word (m := ⟨27, 4⟩) (meth := k27m4) (c := k27c4) (by decide +kernel) rfl rfl rfl (by decide +kernel)
set_option maxRecDepth 65536 in
theorem w_c50 : (Jvm.Cond.code ({ cls := s7, name := "newNode", desc := s45 } : Jvm.MethodName) jdk_69_method_46_code (5 : Nat) (Option.some (Jvm.ClassFile.FieldType.object s5))).before args0 about1 = true := code_word (m := ⟨27, 5⟩) (meth := k27m5) (c := k27c5) (by decide +kernel) rfl rfl rfl (by decide +kernel)
set_option maxRecDepth 65536 in
theorem w_c51 : (Jvm.Cond.code ({ cls := s5, name := s50, desc := s52 } : Jvm.MethodName) jdk_70_method_1_code (5 : Nat) (Option.none : Option Jvm.ClassFile.FieldType)).before args0 about1 = true := code_word (m := ⟨40, 0⟩) (meth := k40m0) (c := k40c0) (by decide +kernel) rfl rfl rfl (by decide +kernel)
set_option maxRecDepth 65536 in
theorem w_c52 : (Jvm.Cond.code ({ cls := s7, name := "afterNodeInsertion", desc := "(Z)V" } : Jvm.MethodName) jdk_69_method_52_code (2 : Nat) (Option.none : Option Jvm.ClassFile.FieldType)).before args0 about1 = true := code_word (m := ⟨27, 6⟩) (meth := k27m6) (c := k27c6) (by decide +kernel) rfl rfl rfl (by decide +kernel)
set_option maxRecDepth 65536 in
theorem w_c53 : (Jvm.Cond.code ({ cls := s9, name := s50, desc := "(Ljava/lang/Object;Ljava/lang/Object;)V" } : Jvm.MethodName) jdk_44_method_2_code (3 : Nat) (Option.none : Option Jvm.ClassFile.FieldType)).before args0 about1 = true := code_word (m := ⟨22, 1⟩) (meth := k22m1) (c := k22c1) (by decide +kernel) rfl rfl rfl (by decide +kernel)
set_option maxRecDepth 65536 in
theorem w_c54 : (Jvm.Cond.code ({ cls := s9, name := "size", desc := "()I" } : Jvm.MethodName) jdk_44_method_3_code (1 : Nat) (Option.some Jvm.ClassFile.FieldType.int)).before args0 about1 = true := code_word (m := ⟨22, 2⟩) (meth := k22m2) (c := k22c2) (by decide +kernel) rfl rfl rfl (by decide +kernel)
set_option maxRecDepth 65536 in
theorem w_c55 : (Jvm.Cond.code ({ cls := s9, name := "get", desc := s71 } : Jvm.MethodName) jdk_44_method_5_code (2 : Nat) (Option.some (Jvm.ClassFile.FieldType.object s8))).before args0 about1 = true := code_word (m := ⟨22, 3⟩) (meth := k22m3) (c := k22c3) (by decide +kernel) rfl rfl rfl (by decide +kernel)
set_option maxRecDepth 65536 in
theorem w_c56 : (Jvm.Cond.code ({ cls := s9, name := s50, desc := "(Ljava/lang/Object;)V" } : Jvm.MethodName) jdk_44_method_1_code (2 : Nat) (Option.none : Option Jvm.ClassFile.FieldType)).before args0 about1 = true := code_word (m := ⟨22, 0⟩) (meth := k22m0) (c := k22c0) (by decide +kernel) rfl rfl rfl (by decide +kernel)
def codes1 : List Jvm.Cond := [Jvm.Cond.code x code maxLocals ret, Jvm.Cond.code ({ cls := s4, name := "valueOf", desc := "(C)Ljava/lang/String;" } : Jvm.MethodName) jdk_42_method_139_code (1 : Nat) (Option.some (Jvm.ClassFile.FieldType.object s4)), Jvm.Cond.code ({ cls := s36, name := "canEncode", desc := "(C)Z" } : Jvm.MethodName) jdk_43_method_3_code (1 : Nat) (Option.some Jvm.ClassFile.FieldType.boolean), Jvm.Cond.code ({ cls := s36, name := "toBytes", desc := "(C)[B" } : Jvm.MethodName) jdk_43_method_46_code (1 : Nat) (Option.some (Jvm.ClassFile.FieldType.array Jvm.ClassFile.FieldType.byte)), Jvm.Cond.code ({ cls := s4, name := s50, desc := "([BB)V" } : Jvm.MethodName) jdk_42_method_151_code (3 : Nat) (Option.none : Option Jvm.ClassFile.FieldType), Jvm.Cond.code ({ cls := s8, name := s50, desc := "()V" } : Jvm.MethodName) object_method_1_code (1 : Nat) (Option.none : Option Jvm.ClassFile.FieldType), Jvm.Cond.code ({ cls := s6, name := s50, desc := "()V" } : Jvm.MethodName) jdk_38_method_2_code (1 : Nat) (Option.none : Option Jvm.ClassFile.FieldType), Jvm.Cond.code ({ cls := s24, name := s50, desc := "()V" } : Jvm.MethodName) jdk_39_method_1_code (1 : Nat) (Option.none : Option Jvm.ClassFile.FieldType), Jvm.Cond.code ({ cls := "java/util/AbstractCollection", name := s50, desc := "()V" } : Jvm.MethodName) jdk_22_method_1_code (1 : Nat) (Option.none : Option Jvm.ClassFile.FieldType), Jvm.Cond.code ({ cls := s1, name := s50, desc := "(Ljava/lang/String;ILjava/util/List;)V" } : Jvm.MethodName) prog_38_method_1_code (4 : Nat) (Option.none : Option Jvm.ClassFile.FieldType), Jvm.Cond.code ({ cls := s21, name := "copyOf", desc := s40 } : Jvm.MethodName) jdk_40_method_48_code (1 : Nat) (Option.some (Jvm.ClassFile.FieldType.object s21)), Jvm.Cond.code ({ cls := s38, name := "listCopy", desc := s40 } : Jvm.MethodName) jdk_56_method_3_code (2 : Nat) (Option.some (Jvm.ClassFile.FieldType.object s21)), Jvm.Cond.code ({ cls := s6, name := "isEmpty", desc := "()Z" } : Jvm.MethodName) jdk_38_method_9_code (1 : Nat) (Option.some Jvm.ClassFile.FieldType.boolean), Jvm.Cond.code ({ cls := s21, name := "of", desc := "()Ljava/util/List;" } : Jvm.MethodName) jdk_40_method_36_code (0 : Nat) (Option.some (Jvm.ClassFile.FieldType.object s21)), Jvm.Cond.code ({ cls := s3, name := s50, desc := s65 } : Jvm.MethodName) prog_29_method_1_code (4 : Nat) (Option.none : Option Jvm.ClassFile.FieldType), Jvm.Cond.code ({ cls := s7, name := s50, desc := "()V" } : Jvm.MethodName) jdk_69_method_7_code (1 : Nat) (Option.none : Option Jvm.ClassFile.FieldType), Jvm.Cond.code ({ cls := "java/util/AbstractMap", name := s50, desc := "()V" } : Jvm.MethodName) jdk_71_method_1_code (1 : Nat) (Option.none : Option Jvm.ClassFile.FieldType), Jvm.Cond.code ({ cls := s11, name := "size", desc := "()I" } : Jvm.MethodName) jdk_45_method_3_code (1 : Nat) (Option.some Jvm.ClassFile.FieldType.int), Jvm.Cond.code ({ cls := s0, name := s50, desc := s31 } : Jvm.MethodName) prog_50_method_1_code (5 : Nat) (Option.none : Option Jvm.ClassFile.FieldType), Jvm.Cond.code ({ cls := s3, name := s35, desc := "()Ljava/util/List;" } : Jvm.MethodName) prog_29_method_3_code (1 : Nat) (Option.some (Jvm.ClassFile.FieldType.object s21)), Jvm.Cond.code ({ cls := s30, name := "iterator", desc := "()Ljava/util/Iterator;" } : Jvm.MethodName) jdk_46_method_10_code (1 : Nat) (Option.some (Jvm.ClassFile.FieldType.object "java/util/Iterator")), Jvm.Cond.code ({ cls := s2, name := s50, desc := "(Ljava/util/List;I)V" } : Jvm.MethodName) jdk_53_method_1_code (3 : Nat) (Option.none : Option Jvm.ClassFile.FieldType), Jvm.Cond.code ({ cls := s2, name := "hasNext", desc := "()Z" } : Jvm.MethodName) jdk_53_method_3_code (1 : Nat) (Option.some Jvm.ClassFile.FieldType.boolean), Jvm.Cond.code ({ cls := s0, name := s74, desc := s25 } : Jvm.MethodName) prog_50_method_9_code (2 : Nat) (Option.some (Jvm.ClassFile.FieldType.object s1)), Jvm.Cond.code ({ cls := s20, name := s73, desc := s15 } : Jvm.MethodName) method_3_code (4 : Nat) (Option.some (Jvm.ClassFile.FieldType.object s1)), Jvm.Cond.code ({ cls := s6, name := "add", desc := "(Ljava/lang/Object;)Z" } : Jvm.MethodName) jdk_38_method_25_code (2 : Nat) (Option.some Jvm.ClassFile.FieldType.boolean), Jvm.Cond.code ({ cls := s6, name := "add", desc := "(Ljava/lang/Object;[Ljava/lang/Object;I)V" } : Jvm.MethodName) jdk_38_method_24_code (4 : Nat) (Option.none : Option Jvm.ClassFile.FieldType), Jvm.Cond.code ({ cls := s6, name := "grow", desc := "()[Ljava/lang/Object;" } : Jvm.MethodName) jdk_38_method_7_code (1 : Nat) (Option.some (Jvm.ClassFile.FieldType.array (Jvm.ClassFile.FieldType.object s8))), Jvm.Cond.code ({ cls := s6, name := "grow", desc := "(I)[Ljava/lang/Object;" } : Jvm.MethodName) jdk_38_method_6_code (4 : Nat) (Option.some (Jvm.ClassFile.FieldType.array (Jvm.ClassFile.FieldType.object s8))), Jvm.Cond.code ({ cls := s69, name := "max", desc := "(II)I" } : Jvm.MethodName) jdk_29_method_65_code (2 : Nat) (Option.some Jvm.ClassFile.FieldType.int), Jvm.Cond.code ({ cls := s6, name := "toArray", desc := "()[Ljava/lang/Object;" } : Jvm.MethodName) jdk_38_method_16_code (1 : Nat) (Option.some (Jvm.ClassFile.FieldType.array (Jvm.ClassFile.FieldType.object s8))), Jvm.Cond.code ({ cls := s51, name := "copyOf", desc := "([Ljava/lang/Object;I)[Ljava/lang/Object;" } : Jvm.MethodName) jdk_65_method_119_code (2 : Nat) (Option.some (Jvm.ClassFile.FieldType.array (Jvm.ClassFile.FieldType.object s8))), Jvm.Cond.code ({ cls := s51, name := "copyOf", desc := s57 } : Jvm.MethodName) jdk_65_method_120_code (4 : Nat) (Option.some (Jvm.ClassFile.FieldType.array (Jvm.ClassFile.FieldType.object s8))), Jvm.Cond.code ({ cls := s69, name := "min", desc := "(II)I" } : Jvm.MethodName) jdk_29_method_69_code (2 : Nat) (Option.some Jvm.ClassFile.FieldType.int), Jvm.Cond.code ({ cls := s21, name := "of", desc := s63 } : Jvm.MethodName) jdk_40_method_47_code (2 : Nat) (Option.some (Jvm.ClassFile.FieldType.object s21)), Jvm.Cond.code ({ cls := s38, name := "listFromArray", desc := s63 } : Jvm.MethodName) jdk_56_method_4_code (3 : Nat) (Option.some (Jvm.ClassFile.FieldType.object s21)), Jvm.Cond.code ({ cls := "java/util/Objects", name := "requireNonNull", desc := "(Ljava/lang/Object;)Ljava/lang/Object;" } : Jvm.MethodName) jdk_31_method_10_code (1 : Nat) (Option.some (Jvm.ClassFile.FieldType.object s8)), Jvm.Cond.code ({ cls := s11, name := s50, desc := "([Ljava/lang/Object;Z)V" } : Jvm.MethodName) jdk_45_method_1_code (3 : Nat) (Option.none : Option Jvm.ClassFile.FieldType), Jvm.Cond.code ({ cls := s30, name := s50, desc := "()V" } : Jvm.MethodName) jdk_46_method_1_code (1 : Nat) (Option.none : Option Jvm.ClassFile.FieldType), Jvm.Cond.code ({ cls := "java/util/ImmutableCollections$AbstractImmutableCollection", name := s50, desc := "()V" } : Jvm.MethodName) jdk_47_method_1_code (1 : Nat) (Option.none : Option Jvm.ClassFile.FieldType), Jvm.Cond.code ({ cls := s11, name := "get", desc := s71 } : Jvm.MethodName) jdk_45_method_4_code (2 : Nat) (Option.some (Jvm.ClassFile.FieldType.object s8)), Jvm.Cond.code ({ cls := s1, name := "name", desc := "()Ljava/lang/String;" } : Jvm.MethodName) prog_38_method_6_code (1 : Nat) (Option.some (Jvm.ClassFile.FieldType.object s4)), Jvm.Cond.code ({ cls := s39, name := "valueOf", desc := "(I)Ljava/lang/Integer;" } : Jvm.MethodName) jdk_33_method_22_code (1 : Nat) (Option.some (Jvm.ClassFile.FieldType.object s39)), Jvm.Cond.code ({ cls := s7, name := "put", desc := s58 } : Jvm.MethodName) jdk_69_method_15_code (3 : Nat) (Option.some (Jvm.ClassFile.FieldType.object s8)), Jvm.Cond.code ({ cls := s7, name := "hash", desc := "(Ljava/lang/Object;)I" } : Jvm.MethodName) jdk_69_method_1_code (2 : Nat) (Option.some Jvm.ClassFile.FieldType.int), Jvm.Cond.code ({ cls := s4, name := "hashCode", desc := "()I" } : Jvm.MethodName) jdk_42_method_78_code (2 : Nat) (Option.some Jvm.ClassFile.FieldType.int), Jvm.Cond.code ({ cls := s4, name := "isLatin1", desc := "()Z" } : Jvm.MethodName) jdk_42_method_154_code (1 : Nat) (Option.some Jvm.ClassFile.FieldType.boolean), Jvm.Cond.code ({ cls := s36, name := "hashCode", desc := "([B)I" } : Jvm.MethodName) jdk_43_method_21_code (1 : Nat) (Option.some Jvm.ClassFile.FieldType.int), Jvm.Cond.code ({ cls := s7, name := "putVal", desc := s56 } : Jvm.MethodName) jdk_69_method_16_code (13 : Nat) (Option.some (Jvm.ClassFile.FieldType.object s8)), Jvm.Cond.code ({ cls := s7, name := "resize", desc := "()[Ljava/util/HashMap$Node;" } : Jvm.MethodName) jdk_69_method_17_code (14 : Nat) (Option.some (Jvm.ClassFile.FieldType.array (Jvm.ClassFile.FieldType.object s5))), Jvm.Cond.code ({ cls := s7, name := "newNode", desc := s45 } : Jvm.MethodName) jdk_69_method_46_code (5 : Nat) (Option.some (Jvm.ClassFile.FieldType.object s5)), Jvm.Cond.code ({ cls := s5, name := s50, desc := s52 } : Jvm.MethodName) jdk_70_method_1_code (5 : Nat) (Option.none : Option Jvm.ClassFile.FieldType), Jvm.Cond.code ({ cls := s7, name := "afterNodeInsertion", desc := "(Z)V" } : Jvm.MethodName) jdk_69_method_52_code (2 : Nat) (Option.none : Option Jvm.ClassFile.FieldType), Jvm.Cond.code ({ cls := s9, name := s50, desc := "(Ljava/lang/Object;Ljava/lang/Object;)V" } : Jvm.MethodName) jdk_44_method_2_code (3 : Nat) (Option.none : Option Jvm.ClassFile.FieldType), Jvm.Cond.code ({ cls := s9, name := "size", desc := "()I" } : Jvm.MethodName) jdk_44_method_3_code (1 : Nat) (Option.some Jvm.ClassFile.FieldType.int), Jvm.Cond.code ({ cls := s9, name := "get", desc := s71 } : Jvm.MethodName) jdk_44_method_5_code (2 : Nat) (Option.some (Jvm.ClassFile.FieldType.object s8)), Jvm.Cond.code ({ cls := s9, name := s50, desc := "(Ljava/lang/Object;)V" } : Jvm.MethodName) jdk_44_method_1_code (2 : Nat) (Option.none : Option Jvm.ClassFile.FieldType)]
set_option maxRecDepth 65536 in
theorem codes_eq : words1.filter isCode = codes1 := rfl
theorem w_codes : ∀ c ∈ words1.filter isCode, c.before args0 about1 = true := by
  rw [codes_eq]
  intro c hc
  simp only [codes1, List.mem_cons, List.not_mem_nil, or_false] at hc
  rcases hc with rfl | rfl | rfl | rfl | rfl | rfl | rfl | rfl | rfl | rfl | rfl | rfl | rfl | rfl | rfl | rfl | rfl | rfl | rfl | rfl | rfl | rfl | rfl | rfl | rfl | rfl | rfl | rfl | rfl | rfl | rfl | rfl | rfl | rfl | rfl | rfl | rfl | rfl | rfl | rfl | rfl | rfl | rfl | rfl | rfl | rfl | rfl | rfl | rfl | rfl | rfl | rfl | rfl | rfl | rfl | rfl | rfl
  · exact w_c0
  · exact w_c1
  · exact w_c2
  · exact w_c3
  · exact w_c4
  · exact w_c5
  · exact w_c6
  · exact w_c7
  · exact w_c8
  · exact w_c9
  · exact w_c10
  · exact w_c11
  · exact w_c12
  · exact w_c13
  · exact w_c14
  · exact w_c15
  · exact w_c16
  · exact w_c17
  · exact w_c18
  · exact w_c19
  · exact w_c20
  · exact w_c21
  · exact w_c22
  · exact w_c23
  · exact w_c24
  · exact w_c25
  · exact w_c26
  · exact w_c27
  · exact w_c28
  · exact w_c29
  · exact w_c30
  · exact w_c31
  · exact w_c32
  · exact w_c33
  · exact w_c34
  · exact w_c35
  · exact w_c36
  · exact w_c37
  · exact w_c38
  · exact w_c39
  · exact w_c40
  · exact w_c41
  · exact w_c42
  · exact w_c43
  · exact w_c44
  · exact w_c45
  · exact w_c46
  · exact w_c47
  · exact w_c48
  · exact w_c49
  · exact w_c50
  · exact w_c51
  · exact w_c52
  · exact w_c53
  · exact w_c54
  · exact w_c55
  · exact w_c56
set_option maxRecDepth 65536 in
theorem w_t1 : (words1.take 24).all (fun c => isCode c || c.before args0 about1) = true := by decide +kernel
set_option maxRecDepth 65536 in
theorem w_t2 : ((words1.drop 24).take 24).all (fun c => isCode c || c.before args0 about1) = true := by decide +kernel
set_option maxRecDepth 65536 in
theorem w_t3 : (((words1.drop 24).drop 24).take 24).all (fun c => isCode c || c.before args0 about1) = true := by decide +kernel
set_option maxRecDepth 65536 in
theorem w_t4 : ((((words1.drop 24).drop 24).drop 24).take 24).all (fun c => isCode c || c.before args0 about1) = true := by decide +kernel
set_option maxRecDepth 65536 in
theorem w_t5 : (((((words1.drop 24).drop 24).drop 24).drop 24).take 24).all (fun c => isCode c || c.before args0 about1) = true := by decide +kernel
set_option maxRecDepth 65536 in
theorem w_t6 : ((((((words1.drop 24).drop 24).drop 24).drop 24).drop 24).take 24).all (fun c => isCode c || c.before args0 about1) = true := by decide +kernel
set_option maxRecDepth 65536 in
theorem w_t7 : (((((((words1.drop 24).drop 24).drop 24).drop 24).drop 24).drop 24).take 24).all (fun c => isCode c || c.before args0 about1) = true := by decide +kernel
set_option maxRecDepth 65536 in
theorem w_t8 : ((((((((words1.drop 24).drop 24).drop 24).drop 24).drop 24).drop 24).drop 24).take 24).all (fun c => isCode c || c.before args0 about1) = true := by decide +kernel
set_option maxRecDepth 65536 in
theorem w_t9 : (((((((((words1.drop 24).drop 24).drop 24).drop 24).drop 24).drop 24).drop 24).drop 24).take 24).all (fun c => isCode c || c.before args0 about1) = true := by decide +kernel
set_option maxRecDepth 65536 in
theorem w_t10 : ((((((((((words1.drop 24).drop 24).drop 24).drop 24).drop 24).drop 24).drop 24).drop 24).drop 24).take 24).all (fun c => isCode c || c.before args0 about1) = true := by decide +kernel
set_option maxRecDepth 65536 in
theorem w_t11 : (((((((((((words1.drop 24).drop 24).drop 24).drop 24).drop 24).drop 24).drop 24).drop 24).drop 24).drop 24).take 24).all (fun c => isCode c || c.before args0 about1) = true := by decide +kernel
set_option maxRecDepth 65536 in
theorem w_t12 : ((((((((((((words1.drop 24).drop 24).drop 24).drop 24).drop 24).drop 24).drop 24).drop 24).drop 24).drop 24).drop 24).take 24).all (fun c => isCode c || c.before args0 about1) = true := by decide +kernel
set_option maxRecDepth 65536 in
theorem w_t13 : (((((((((((((words1.drop 24).drop 24).drop 24).drop 24).drop 24).drop 24).drop 24).drop 24).drop 24).drop 24).drop 24).drop 24).take 24).all (fun c => isCode c || c.before args0 about1) = true := by decide +kernel
set_option maxRecDepth 65536 in
theorem w_t14 : ((((((((((((((words1.drop 24).drop 24).drop 24).drop 24).drop 24).drop 24).drop 24).drop 24).drop 24).drop 24).drop 24).drop 24).drop 24).take 24).all (fun c => isCode c || c.before args0 about1) = true := by decide +kernel
set_option maxRecDepth 65536 in
theorem w_t15 : (((((((((((((((words1.drop 24).drop 24).drop 24).drop 24).drop 24).drop 24).drop 24).drop 24).drop 24).drop 24).drop 24).drop 24).drop 24).drop 24).take 24).all (fun c => isCode c || c.before args0 about1) = true := by decide +kernel
set_option maxRecDepth 65536 in
theorem w_t16 : ((((((((((((((((words1.drop 24).drop 24).drop 24).drop 24).drop 24).drop 24).drop 24).drop 24).drop 24).drop 24).drop 24).drop 24).drop 24).drop 24).drop 24).take 24).all (fun c => isCode c || c.before args0 about1) = true := by decide +kernel
set_option maxRecDepth 65536 in
theorem w_t17 : (((((((((((((((((words1.drop 24).drop 24).drop 24).drop 24).drop 24).drop 24).drop 24).drop 24).drop 24).drop 24).drop 24).drop 24).drop 24).drop 24).drop 24).drop 24).take 24).all (fun c => isCode c || c.before args0 about1) = true := by decide +kernel
set_option maxRecDepth 65536 in
theorem w_t18 : ((((((((((((((((((words1.drop 24).drop 24).drop 24).drop 24).drop 24).drop 24).drop 24).drop 24).drop 24).drop 24).drop 24).drop 24).drop 24).drop 24).drop 24).drop 24).drop 24).take 24).all (fun c => isCode c || c.before args0 about1) = true := by decide +kernel
set_option maxRecDepth 65536 in
theorem w_t19 : (((((((((((((((((((words1.drop 24).drop 24).drop 24).drop 24).drop 24).drop 24).drop 24).drop 24).drop 24).drop 24).drop 24).drop 24).drop 24).drop 24).drop 24).drop 24).drop 24).drop 24).take 24).all (fun c => isCode c || c.before args0 about1) = true := by decide +kernel
set_option maxRecDepth 65536 in
theorem w_t20 : (((((((((((((((((((words1.drop 24).drop 24).drop 24).drop 24).drop 24).drop 24).drop 24).drop 24).drop 24).drop 24).drop 24).drop 24).drop 24).drop 24).drop 24).drop 24).drop 24).drop 24).drop 24).all (fun c => isCode c || c.before args0 about1) = true := by decide +kernel
theorem w_tables : (allAtoms (Jvm.Cond.code x code maxLocals ret :: tables_1)).before args0 about1 = true := by
  rw [allAtoms_all]
  show words1.all (fun c => c.before args0 about1) = true
  refine all_split ?_ w_codes
  rw [← List.take_append_drop 24 words1, List.all_append, w_t1, ← List.take_append_drop 24 (words1.drop 24), List.all_append, w_t2, ← List.take_append_drop 24 ((words1.drop 24).drop 24), List.all_append, w_t3, ← List.take_append_drop 24 (((words1.drop 24).drop 24).drop 24), List.all_append, w_t4, ← List.take_append_drop 24 ((((words1.drop 24).drop 24).drop 24).drop 24), List.all_append, w_t5, ← List.take_append_drop 24 (((((words1.drop 24).drop 24).drop 24).drop 24).drop 24), List.all_append, w_t6, ← List.take_append_drop 24 ((((((words1.drop 24).drop 24).drop 24).drop 24).drop 24).drop 24), List.all_append, w_t7, ← List.take_append_drop 24 (((((((words1.drop 24).drop 24).drop 24).drop 24).drop 24).drop 24).drop 24), List.all_append, w_t8, ← List.take_append_drop 24 ((((((((words1.drop 24).drop 24).drop 24).drop 24).drop 24).drop 24).drop 24).drop 24), List.all_append, w_t9, ← List.take_append_drop 24 (((((((((words1.drop 24).drop 24).drop 24).drop 24).drop 24).drop 24).drop 24).drop 24).drop 24), List.all_append, w_t10, ← List.take_append_drop 24 ((((((((((words1.drop 24).drop 24).drop 24).drop 24).drop 24).drop 24).drop 24).drop 24).drop 24).drop 24), List.all_append, w_t11, ← List.take_append_drop 24 (((((((((((words1.drop 24).drop 24).drop 24).drop 24).drop 24).drop 24).drop 24).drop 24).drop 24).drop 24).drop 24), List.all_append, w_t12, ← List.take_append_drop 24 ((((((((((((words1.drop 24).drop 24).drop 24).drop 24).drop 24).drop 24).drop 24).drop 24).drop 24).drop 24).drop 24).drop 24), List.all_append, w_t13, ← List.take_append_drop 24 (((((((((((((words1.drop 24).drop 24).drop 24).drop 24).drop 24).drop 24).drop 24).drop 24).drop 24).drop 24).drop 24).drop 24).drop 24), List.all_append, w_t14, ← List.take_append_drop 24 ((((((((((((((words1.drop 24).drop 24).drop 24).drop 24).drop 24).drop 24).drop 24).drop 24).drop 24).drop 24).drop 24).drop 24).drop 24).drop 24), List.all_append, w_t15, ← List.take_append_drop 24 (((((((((((((((words1.drop 24).drop 24).drop 24).drop 24).drop 24).drop 24).drop 24).drop 24).drop 24).drop 24).drop 24).drop 24).drop 24).drop 24).drop 24), List.all_append, w_t16, ← List.take_append_drop 24 ((((((((((((((((words1.drop 24).drop 24).drop 24).drop 24).drop 24).drop 24).drop 24).drop 24).drop 24).drop 24).drop 24).drop 24).drop 24).drop 24).drop 24).drop 24), List.all_append, w_t17, ← List.take_append_drop 24 (((((((((((((((((words1.drop 24).drop 24).drop 24).drop 24).drop 24).drop 24).drop 24).drop 24).drop 24).drop 24).drop 24).drop 24).drop 24).drop 24).drop 24).drop 24).drop 24), List.all_append, w_t18, ← List.take_append_drop 24 ((((((((((((((((((words1.drop 24).drop 24).drop 24).drop 24).drop 24).drop 24).drop 24).drop 24).drop 24).drop 24).drop 24).drop 24).drop 24).drop 24).drop 24).drop 24).drop 24).drop 24), List.all_append, w_t19, w_t20]
  rfl
set_option maxRecDepth 65536 in
theorem w_rest : rest_1_c.before args0 about1 = true := by decide +kernel
set_option maxRecDepth 65536 in
theorem w_case : (Jvm.Cond.and given_1 narrow_1).before args0 about1 = true := by decide +kernel
theorem w_applies : (headSpec (Jvm.Cond.code x code maxLocals ret :: tables_1) room_1).applies x e0.platform about1 = true :=
  (Spec.applies_iff w_frames).mpr ⟨w_running, w_runnable, w_alone, w_named, w_hears, w_ripe, w_room, w_tables⟩
theorem atStart : AtStart classFile x code maxLocals ret World_1 tables_1 room_1 Calls_1 rest_1 Pre_1 launch0 p0 e0 about1 theMethod args0 below0 :=
  ⟨lists_1, trivial, launch0.admits_env _ _ _, launch0.least_env, fairChoices_fair.cas, fairChoices_fair.clock, w_frames, w_args, w_heap, w_applies, ⟨⟨52, k52, 7, by decide +kernel, rfl, rfl, _, rfl, rfl⟩, trivial⟩, w_rest, w_case⟩
end start1
theorem witness_1 : WitnessClaimed_1 := ⟨start1.p0, start1.e0, start1.about1, start1.theMethod, start1.args0, start1.below0, start1.atStart⟩
end Jvm.Pilot.@@N@@
