import JvmDerived
import JvmDerived.Pilot.@@N@@Statement
import JvmDerived.Pilot.@@N@@Code
set_option linter.unusedVariables false
set_option linter.unusedSimpArgs false
set_option maxRecDepth 65536
set_option maxHeartbeats 40000000
@@BLOCK:NumsL.lean.txt@@
namespace Jvm.Pilot.@@N@@
open Jvm Jvm.ClassFile Sem Op Lib Jvm.Free Jvm.Stand Jvm.LawKit Jvm.RoadKit Bundle Jvm.Pilot.@@N@@.Jvm.D
section OwnHead
variable {p : Program} {l : Launch} {e : Env} {R : Room} {s : State} {m : MethodId} {args : Array Value} {below : List Frame} {meth : Method} {c : Code} {T : State} {locs : List Loc} {cells slots : Nat} {Z : State} {a0 : Array Value} {h : Heap}
/-- from here the run comes to a state of which F holds -/
def own_Go (tb : Tables) (e : Env) (below : List Frame) (F : State → Prop) (U : State) : Prop := ∃ t, Steps tb e below U t ∧ F t
theorem own_by {tb : Tables} {F : State → Prop} {U U' : State} (q : ∀ t, Steps tb e below U' t → Steps tb e below U t) (k : own_Go tb e below F U') : own_Go tb e below F U := by
  obtain ⟨t, a, b⟩ := k
  exact ⟨t, q t a, b⟩
theorem own_ent {tb : Tables} {F : State → Prop} {T : State} {f g : JFrame} (q : f = g) (k : own_Go tb e below F (T.setTop g)) : own_Go tb e below F (T.setTop f) := by
  rw [q]
  exact k
abbrev own_rm (f c s l : Nat) : Room := { frames := f, cells := c, slots := s, locals := l }
theorem own_nR {tb : Tables} {F : State → Prop} {T : State} {m : MethodId} {pc : Nat} {Ls : Array Slot} {v : Value} {rest : List Value} (k : own_Go tb e below F (T.setTop (mkF m pc Ls (v :: rest)))) : own_Go tb e below F (T.setTop (mkF m pc Ls ((some v).toList ++ rest))) := k
theorem own_nV {tb : Tables} {F : State → Prop} {T : State} {m : MethodId} {pc : Nat} {Ls : Array Slot} {rest : List Value} (k : own_Go tb e below F (T.setTop (mkF m pc Ls rest))) : own_Go tb e below F (T.setTop (mkF m pc Ls ((none : Option Value).toList ++ rest))) := k
theorem own_byR {tb : Tables} {F : State → Prop} {T U : State} {m : MethodId} {pc : Nat} {Ls : Array Slot} {v : Value} {rest : List Value} (q : ∀ t, Steps tb e below (T.setTop (mkF m pc Ls ((some v).toList ++ rest))) t → Steps tb e below U t) (pc' : Nat) (hp : pc = pc') (k : own_Go tb e below F (T.setTop (mkF m pc' Ls (v :: rest)))) : own_Go tb e below F U := by
  subst hp
  exact own_by q k
theorem own_byV {tb : Tables} {F : State → Prop} {T U : State} {m : MethodId} {pc : Nat} {Ls : Array Slot} {rest : List Value} (q : ∀ t, Steps tb e below (T.setTop (mkF m pc Ls ((none : Option Value).toList ++ rest))) t → Steps tb e below U t) (pc' : Nat) (hp : pc = pc') (k : own_Go tb e below F (T.setTop (mkF m pc' Ls rest))) : own_Go tb e below F U := by
  subst hp
  exact own_by q k
/-- the method has returned, and what its contract says holds -/
def own_Fin (s : State) (below : List Frame) (Q : Option Value → Heap → List Loc → Prop) (C N : Nat) (t : State) : Prop := ∃ o, t.status = .running ∧ Ended t below o ∧ ∃ v L, o = .returned v ∧ Q v t.heap L ∧ FrameEnd s o t L C N
theorem own_fin (X : Stand p l e R s m args below meth c T locs cells slots) {Q : Option Value → Heap → List Loc → Prop} {C N : Nat} {v : Option Value} (hk : meth.locks = false) (hv : meth.sig.returnType = none → v = none) {U : State}
    (hst : ∀ fs, (∀ (f : JFrame) (acts : List Action), f.method = m → f.locked = none → f.entered = [] → (doReturn e (T.setTop f) acts v).1 = T.setFrames fs) → Steps p.tables e below U (T.setFrames fs)) (hQ : Q v T.heap locs) (hC : cells ≤ C) (hN : slots ≤ N) :
    own_Go p.tables e below (own_Fin s below Q C N) U := by
  obtain ⟨fs, hr, hrun, hended, hW, hsame⟩ := X.leave (v := v) hv hk
  exact ⟨_, hst fs hr, _, hrun, hended, v, locs, rfl, hQ, ⟨_, rfl⟩, hW, hsame.mono hC hN⟩
theorem own_ret (X : Stand p l e R s m args below meth c T locs cells slots) (hx : p.tables.exec = Jvm.exec) {Q : Option Value → Heap → List Loc → Prop} {C N : Nat} (hk : meth.locks = false) {pc : Nat} {Ls : Array Slot} {w : Value} {t : FieldType} {i : Instr} {rest : List Value} (hret : meth.sig.returnType = some t) (hn : narrow t w = w)
    (hi : (i = .ireturn ∧ (t = .int ∨ t = .boolean ∨ t = .byte ∨ t = .char ∨ t = .short) ∧ ∃ z, w = .int z) ∨ (i = .lreturn ∧ t = .long ∧ ∃ z, w = .long z) ∨ (i = .dreturn ∧ t = .double ∧ ∃ z, w = .double z) ∨ (i = .freturn ∧ t = .float ∧ ∃ z, w = .float z) ∨ (i = .areturn ∧ t.isReference = true ∧ w.isRef = true))
    (hd : decode c.code pc = .ok (i, 1)) (hQ : Q (some w) T.heap locs) (hC : cells ≤ C) (hN : slots ≤ N) : own_Go p.tables e below (own_Fin s below Q C N) (T.setTop (mkF m pc Ls (w :: rest))) :=
  own_fin X hk (fun q => by rw [hret] at q; cases q) (fun fs hr => retOut X hx hret hn hi hd hr) hQ hC hN
theorem own_retI (X : Stand p l e R s m args below meth c T locs cells slots) (hx : p.tables.exec = Jvm.exec) {Q : Option Value → Heap → List Loc → Prop} {C N : Nat} (hk : meth.locks = false) {pc : Nat} {Ls : Array Slot} {z : Int32} {rest : List Value} (hret : meth.sig.returnType = some .int)
    (hd : decode c.code pc = .ok (.ireturn, 1)) (hQ : Q (some (.int z)) T.heap locs) (hC : cells ≤ C) (hN : slots ≤ N) : own_Go p.tables e below (own_Fin s below Q C N) (T.setTop (mkF m pc Ls (.int z :: rest))) :=
  own_ret X hx hk hret rfl (Or.inl ⟨rfl, Or.inl rfl, z, rfl⟩) hd hQ hC hN
theorem own_retZ (X : Stand p l e R s m args below meth c T locs cells slots) (hx : p.tables.exec = Jvm.exec) {Q : Option Value → Heap → List Loc → Prop} {C N : Nat} (hk : meth.locks = false) {pc : Nat} {Ls : Array Slot} {z z' : Int32} {rest : List Value} (hret : meth.sig.returnType = some .boolean)
    (hd : decode c.code pc = .ok (.ireturn, 1)) (hz : nar .boolean z = z') (hQ : Q (some (.int z')) T.heap locs) (hC : cells ≤ C) (hN : slots ≤ N) : own_Go p.tables e below (own_Fin s below Q C N) (T.setTop (mkF m pc Ls (.int z :: rest))) := by
  subst hz
  exact own_fin X hk (fun q => by rw [hret] at q; cases q) (fun fs hr => retN X hx hret (Or.inl rfl) hd hr) hQ hC hN
theorem own_retA (X : Stand p l e R s m args below meth c T locs cells slots) (hx : p.tables.exec = Jvm.exec) {Q : Option Value → Heap → List Loc → Prop} {C N : Nat} (hk : meth.locks = false) {pc : Nat} {Ls : Array Slot} {w : Value} {t : FieldType} {rest : List Value} (hret : meth.sig.returnType = some t) (ht : t.isReference = true) (hw : w.isRef = true)
    (hd : decode c.code pc = .ok (.areturn, 1)) (hn : narrow t w = w) (hQ : Q (some w) T.heap locs) (hC : cells ≤ C) (hN : slots ≤ N) : own_Go p.tables e below (own_Fin s below Q C N) (T.setTop (mkF m pc Ls (w :: rest))) :=
  own_ret X hx hk hret hn (Or.inr (Or.inr (Or.inr (Or.inr ⟨rfl, ht, hw⟩)))) hd hQ hC hN
theorem own_retJ (X : Stand p l e R s m args below meth c T locs cells slots) (hx : p.tables.exec = Jvm.exec) {Q : Option Value → Heap → List Loc → Prop} {C N : Nat} (hk : meth.locks = false) {pc : Nat} {Ls : Array Slot} {z : Int64} {rest : List Value} (hret : meth.sig.returnType = some .long)
    (hd : decode c.code pc = .ok (.lreturn, 1)) (hQ : Q (some (.long z)) T.heap locs) (hC : cells ≤ C) (hN : slots ≤ N) : own_Go p.tables e below (own_Fin s below Q C N) (T.setTop (mkF m pc Ls (.long z :: rest))) :=
  own_ret X hx hk hret rfl (Or.inr (Or.inl ⟨rfl, rfl, z, rfl⟩)) hd hQ hC hN
theorem own_retV (X : Stand p l e R s m args below meth c T locs cells slots) (hx : p.tables.exec = Jvm.exec) {Q : Option Value → Heap → List Loc → Prop} {C N : Nat} (hk : meth.locks = false) {pc : Nat} {Ls : Array Slot} (hret : meth.sig.returnType = none)
    (hd : decode c.code pc = .ok (.return_, 1)) (hQ : Q none T.heap locs) (hC : cells ≤ C) (hN : slots ≤ N) : own_Go p.tables e below (own_Fin s below Q C N) (T.setTop (mkF m pc Ls [])) :=
  own_fin X hk (fun _ => rfl) (fun fs hr => X.returnOut hx hret hd hr) hQ hC hN
theorem own_lsw0 {tb : Tables} [Ours tb] {target : State} {g : JFrame} (q : At T m c below) (hx : tb.exec = Jvm.exec) (hg : g.method = m) {dflt : Int} {pairs : Array (Int × Int)} {len : Nat} {o : Int} {pc0 pc' : Nat} (hpc : g.pc = pc0) (hd : decode c.code g.pc = .ok (.lookupswitch dflt pairs, len)) {i : Int32} {rest : List Value} (hs : g.stack = .int i :: rest)
    (hoff : lookupswitch.offset pairs.toList dflt i.toInt = o) (hso : (pairs.toList.zip pairs.toList.tail).all (fun q => decide (q.1.1 < q.2.1)) = true) (ho : 0 ≤ (pc0 : Int) + o) (hp : ((pc0 : Int) + o).toNat = pc') (hr : Steps tb e below (T.setTop { g with pc := pc', stack := rest }) target) : Steps tb e below (T.setTop g) target := by
  subst hg hpc hp
  jvm_step q [q.top, hx, hd, hs, hoff, ho, lookupswitch.wp_chain]
  refine ⟨fun a b a1 b1 hm => ?_, hr⟩
  simpa using List.all_eq_true.mp hso _ hm
theorem own_iload_n (X : Stand p l e R s m args below meth c T locs cells slots) (hx : p.tables.exec = Jvm.exec) {F : State → Prop} {pc : Nat} {Ls : Array Slot} {St : List Value} {i : Fin 4} {z : Int32} (hd : decode c.code pc = .ok (.iload_n i, 1)) (hl : Ls[i.val]? = some (.val (.int z))) (pc' : Nat) (hp : pc + 1 = pc') (k : own_Go p.tables e below F (T.setTop (mkF m pc' Ls (.int z :: St)))) : own_Go p.tables e below F (T.setTop (mkF m pc Ls (St))) := by
  subst hp
  exact own_by (fun _ q => XS.iloadN X.here hx rfl hd hl q) k
theorem own_iload (X : Stand p l e R s m args below meth c T locs cells slots) (hx : p.tables.exec = Jvm.exec) {F : State → Prop} {pc : Nat} {Ls : Array Slot} {St : List Value} {i : Nat} {z : Int32} (hd : decode c.code pc = .ok (.iload i, 2)) (hl : Ls[i]? = some (.val (.int z))) (pc' : Nat) (hp : pc + 2 = pc') (k : own_Go p.tables e below F (T.setTop (mkF m pc' Ls (.int z :: St)))) : own_Go p.tables e below F (T.setTop (mkF m pc Ls (St))) := by
  subst hp
  exact own_by (fun _ q => XS.iload X.here hx rfl hd hl q) k
theorem own_istore_n (X : Stand p l e R s m args below meth c T locs cells slots) (hx : p.tables.exec = Jvm.exec) {F : State → Prop} {pc : Nat} {Ls : Array Slot} {St : List Value} {i : Fin 4} {z : Int32} (hd : decode c.code pc = .ok (.istore_n i, 1)) (l' : Array Slot) (hl : storeLocals Ls i.val (.int z) = some l') (pc' : Nat) (hp : pc + 1 = pc') (k : own_Go p.tables e below F (T.setTop (mkF m pc' l' (St)))) : own_Go p.tables e below F (T.setTop (mkF m pc Ls (.int z :: St))) := by
  subst hp
  exact own_by (fun _ q => XS.istoreN X.here hx rfl hd rfl hl q) k
theorem own_istore (X : Stand p l e R s m args below meth c T locs cells slots) (hx : p.tables.exec = Jvm.exec) {F : State → Prop} {pc : Nat} {Ls : Array Slot} {St : List Value} {i : Nat} {z : Int32} (hd : decode c.code pc = .ok (.istore i, 2)) (l' : Array Slot) (hl : storeLocals Ls i (.int z) = some l') (pc' : Nat) (hp : pc + 2 = pc') (k : own_Go p.tables e below F (T.setTop (mkF m pc' l' (St)))) : own_Go p.tables e below F (T.setTop (mkF m pc Ls (.int z :: St))) := by
  subst hp
  exact own_by (fun _ q => XS.istore X.here hx rfl hd rfl hl q) k
theorem own_lload_n (X : Stand p l e R s m args below meth c T locs cells slots) (hx : p.tables.exec = Jvm.exec) {F : State → Prop} {pc : Nat} {Ls : Array Slot} {St : List Value} {i : Fin 4} {z : Int64} (hd : decode c.code pc = .ok (.lload_n i, 1)) (hl : Ls[i.val]? = some (.val (.long z))) (pc' : Nat) (hp : pc + 1 = pc') (k : own_Go p.tables e below F (T.setTop (mkF m pc' Ls (.long z :: St)))) : own_Go p.tables e below F (T.setTop (mkF m pc Ls (St))) := by
  subst hp
  exact own_by (fun _ q => XS.lloadN X.here hx rfl hd hl q) k
theorem own_lload (X : Stand p l e R s m args below meth c T locs cells slots) (hx : p.tables.exec = Jvm.exec) {F : State → Prop} {pc : Nat} {Ls : Array Slot} {St : List Value} {i : Nat} {z : Int64} (hd : decode c.code pc = .ok (.lload i, 2)) (hl : Ls[i]? = some (.val (.long z))) (pc' : Nat) (hp : pc + 2 = pc') (k : own_Go p.tables e below F (T.setTop (mkF m pc' Ls (.long z :: St)))) : own_Go p.tables e below F (T.setTop (mkF m pc Ls (St))) := by
  subst hp
  exact own_by (fun _ q => XS.lload X.here hx rfl hd hl q) k
theorem own_lstore_n (X : Stand p l e R s m args below meth c T locs cells slots) (hx : p.tables.exec = Jvm.exec) {F : State → Prop} {pc : Nat} {Ls : Array Slot} {St : List Value} {i : Fin 4} {z : Int64} (hd : decode c.code pc = .ok (.lstore_n i, 1)) (l' : Array Slot) (hl : storeLocals Ls i.val (.long z) = some l') (pc' : Nat) (hp : pc + 1 = pc') (k : own_Go p.tables e below F (T.setTop (mkF m pc' l' (St)))) : own_Go p.tables e below F (T.setTop (mkF m pc Ls (.long z :: St))) := by
  subst hp
  exact own_by (fun _ q => XS.lstoreN X.here hx rfl hd rfl hl q) k
theorem own_lstore (X : Stand p l e R s m args below meth c T locs cells slots) (hx : p.tables.exec = Jvm.exec) {F : State → Prop} {pc : Nat} {Ls : Array Slot} {St : List Value} {i : Nat} {z : Int64} (hd : decode c.code pc = .ok (.lstore i, 2)) (l' : Array Slot) (hl : storeLocals Ls i (.long z) = some l') (pc' : Nat) (hp : pc + 2 = pc') (k : own_Go p.tables e below F (T.setTop (mkF m pc' l' (St)))) : own_Go p.tables e below F (T.setTop (mkF m pc Ls (.long z :: St))) := by
  subst hp
  exact own_by (fun _ q => XS.lstore X.here hx rfl hd rfl hl q) k
theorem own_aload_n (X : Stand p l e R s m args below meth c T locs cells slots) (hx : p.tables.exec = Jvm.exec) {F : State → Prop} {pc : Nat} {Ls : Array Slot} {St : List Value} {i : Fin 4} {v : Value} (hd : decode c.code pc = .ok (.aload_n i, 1)) (hl : Ls[i.val]? = some (.val v)) (hv : v.isRef = true) (pc' : Nat) (hp : pc + 1 = pc') (k : own_Go p.tables e below F (T.setTop (mkF m pc' Ls (v :: St)))) : own_Go p.tables e below F (T.setTop (mkF m pc Ls (St))) := by
  subst hp
  exact own_by (fun _ q => XS.aloadN X.here hx rfl hd hl hv q) k
theorem own_aload (X : Stand p l e R s m args below meth c T locs cells slots) (hx : p.tables.exec = Jvm.exec) {F : State → Prop} {pc : Nat} {Ls : Array Slot} {St : List Value} {i : Nat} {v : Value} (hd : decode c.code pc = .ok (.aload i, 2)) (hl : Ls[i]? = some (.val v)) (hv : v.isRef = true) (pc' : Nat) (hp : pc + 2 = pc') (k : own_Go p.tables e below F (T.setTop (mkF m pc' Ls (v :: St)))) : own_Go p.tables e below F (T.setTop (mkF m pc Ls (St))) := by
  subst hp
  exact own_by (fun _ q => XS.aload X.here hx rfl hd hl hv q) k
theorem own_astore_n (X : Stand p l e R s m args below meth c T locs cells slots) (hx : p.tables.exec = Jvm.exec) {F : State → Prop} {pc : Nat} {Ls : Array Slot} {St : List Value} {i : Fin 4} {v : Value} (hd : decode c.code pc = .ok (.astore_n i, 1)) (l' : Array Slot) (hv : v.isRef = true) (hl : storeLocals Ls i.val v = some l') (pc' : Nat) (hp : pc + 1 = pc') (k : own_Go p.tables e below F (T.setTop (mkF m pc' l' (St)))) : own_Go p.tables e below F (T.setTop (mkF m pc Ls (v :: St))) := by
  subst hp
  exact own_by (fun _ q => XS.astoreN X.here hx rfl hd rfl hv hl q) k
theorem own_astore (X : Stand p l e R s m args below meth c T locs cells slots) (hx : p.tables.exec = Jvm.exec) {F : State → Prop} {pc : Nat} {Ls : Array Slot} {St : List Value} {i : Nat} {v : Value} (hd : decode c.code pc = .ok (.astore i, 2)) (l' : Array Slot) (hv : v.isRef = true) (hl : storeLocals Ls i v = some l') (pc' : Nat) (hp : pc + 2 = pc') (k : own_Go p.tables e below F (T.setTop (mkF m pc' l' (St)))) : own_Go p.tables e below F (T.setTop (mkF m pc Ls (v :: St))) := by
  subst hp
  exact own_by (fun _ q => XS.astore X.here hx rfl hd rfl hv hl q) k
theorem own_iconst (X : Stand p l e R s m args below meth c T locs cells slots) (hx : p.tables.exec = Jvm.exec) {F : State → Prop} {pc : Nat} {Ls : Array Slot} {St : List Value} {i : Int} (hd : decode c.code pc = .ok (.iconst i, 1)) (z : Int32) (hz : Int32.ofInt i = z) (pc' : Nat) (hp : pc + 1 = pc') (k : own_Go p.tables e below F (T.setTop (mkF m pc' Ls (.int z :: St)))) : own_Go p.tables e below F (T.setTop (mkF m pc Ls (St))) := by
  subst hp hz
  exact own_by (fun _ q => XS.iconst X.here hx rfl hd  q) k
theorem own_bipush (X : Stand p l e R s m args below meth c T locs cells slots) (hx : p.tables.exec = Jvm.exec) {F : State → Prop} {pc : Nat} {Ls : Array Slot} {St : List Value} {i : Int} (hd : decode c.code pc = .ok (.bipush i, 2)) (z : Int32) (hz : (Int8.ofInt i).toInt32 = z) (pc' : Nat) (hp : pc + 2 = pc') (k : own_Go p.tables e below F (T.setTop (mkF m pc' Ls (.int z :: St)))) : own_Go p.tables e below F (T.setTop (mkF m pc Ls (St))) := by
  subst hp hz
  exact own_by (fun _ q => XS.bipush X.here hx rfl hd  q) k
theorem own_sipush (X : Stand p l e R s m args below meth c T locs cells slots) (hx : p.tables.exec = Jvm.exec) {F : State → Prop} {pc : Nat} {Ls : Array Slot} {St : List Value} {i : Int} (hd : decode c.code pc = .ok (.sipush i, 3)) (z : Int32) (hz : (Int16.ofInt i).toInt32 = z) (pc' : Nat) (hp : pc + 3 = pc') (k : own_Go p.tables e below F (T.setTop (mkF m pc' Ls (.int z :: St)))) : own_Go p.tables e below F (T.setTop (mkF m pc Ls (St))) := by
  subst hp hz
  exact own_by (fun _ q => XS.sipush X.here hx rfl hd  q) k
theorem own_lconst (X : Stand p l e R s m args below meth c T locs cells slots) (hx : p.tables.exec = Jvm.exec) {F : State → Prop} {pc : Nat} {Ls : Array Slot} {St : List Value} {i : Fin 2} (hd : decode c.code pc = .ok (.lconst i, 1)) (z : Int64) (hz : Int64.ofNat i = z) (pc' : Nat) (hp : pc + 1 = pc') (k : own_Go p.tables e below F (T.setTop (mkF m pc' Ls (.long z :: St)))) : own_Go p.tables e below F (T.setTop (mkF m pc Ls (St))) := by
  subst hp hz
  exact own_by (fun _ q => XS.lconst X.here hx rfl hd  q) k
theorem own_aconst_null (X : Stand p l e R s m args below meth c T locs cells slots) (hx : p.tables.exec = Jvm.exec) {F : State → Prop} {pc : Nat} {Ls : Array Slot} {St : List Value}  (hd : decode c.code pc = .ok (.aconst_null, 1)) (pc' : Nat) (hp : pc + 1 = pc') (k : own_Go p.tables e below F (T.setTop (mkF m pc' Ls (.null :: St)))) : own_Go p.tables e below F (T.setTop (mkF m pc Ls (St))) := by
  subst hp
  exact own_by (fun _ q => XS.aconstNull X.here hx rfl hd  q) k
theorem own_iadd (X : Stand p l e R s m args below meth c T locs cells slots) (hx : p.tables.exec = Jvm.exec) {F : State → Prop} {pc : Nat} {Ls : Array Slot} {St : List Value} {x y : Int32} (hd : decode c.code pc = .ok (.iadd, 1)) (pc' : Nat) (hp : pc + 1 = pc') (k : own_Go p.tables e below F (T.setTop (mkF m pc' Ls (.int (x + y) :: St)))) : own_Go p.tables e below F (T.setTop (mkF m pc Ls (.int y :: .int x :: St))) := by
  subst hp
  exact own_by (fun _ q => XS.iadd X.here hx rfl hd rfl q) k
theorem own_isub (X : Stand p l e R s m args below meth c T locs cells slots) (hx : p.tables.exec = Jvm.exec) {F : State → Prop} {pc : Nat} {Ls : Array Slot} {St : List Value} {x y : Int32} (hd : decode c.code pc = .ok (.isub, 1)) (pc' : Nat) (hp : pc + 1 = pc') (k : own_Go p.tables e below F (T.setTop (mkF m pc' Ls (.int (x - y) :: St)))) : own_Go p.tables e below F (T.setTop (mkF m pc Ls (.int y :: .int x :: St))) := by
  subst hp
  exact own_by (fun _ q => XS.isub X.here hx rfl hd rfl q) k
theorem own_imul (X : Stand p l e R s m args below meth c T locs cells slots) (hx : p.tables.exec = Jvm.exec) {F : State → Prop} {pc : Nat} {Ls : Array Slot} {St : List Value} {x y : Int32} (hd : decode c.code pc = .ok (.imul, 1)) (pc' : Nat) (hp : pc + 1 = pc') (k : own_Go p.tables e below F (T.setTop (mkF m pc' Ls (.int (x * y) :: St)))) : own_Go p.tables e below F (T.setTop (mkF m pc Ls (.int y :: .int x :: St))) := by
  subst hp
  exact own_by (fun _ q => XS.imul X.here hx rfl hd rfl q) k
theorem own_iand (X : Stand p l e R s m args below meth c T locs cells slots) (hx : p.tables.exec = Jvm.exec) {F : State → Prop} {pc : Nat} {Ls : Array Slot} {St : List Value} {x y : Int32} (hd : decode c.code pc = .ok (.iand, 1)) (pc' : Nat) (hp : pc + 1 = pc') (k : own_Go p.tables e below F (T.setTop (mkF m pc' Ls (.int (x &&& y) :: St)))) : own_Go p.tables e below F (T.setTop (mkF m pc Ls (.int y :: .int x :: St))) := by
  subst hp
  exact own_by (fun _ q => XS.iand X.here hx rfl hd rfl q) k
theorem own_ior (X : Stand p l e R s m args below meth c T locs cells slots) (hx : p.tables.exec = Jvm.exec) {F : State → Prop} {pc : Nat} {Ls : Array Slot} {St : List Value} {x y : Int32} (hd : decode c.code pc = .ok (.ior, 1)) (pc' : Nat) (hp : pc + 1 = pc') (k : own_Go p.tables e below F (T.setTop (mkF m pc' Ls (.int (x ||| y) :: St)))) : own_Go p.tables e below F (T.setTop (mkF m pc Ls (.int y :: .int x :: St))) := by
  subst hp
  exact own_by (fun _ q => XS.ior X.here hx rfl hd rfl q) k
theorem own_ixor (X : Stand p l e R s m args below meth c T locs cells slots) (hx : p.tables.exec = Jvm.exec) {F : State → Prop} {pc : Nat} {Ls : Array Slot} {St : List Value} {x y : Int32} (hd : decode c.code pc = .ok (.ixor, 1)) (pc' : Nat) (hp : pc + 1 = pc') (k : own_Go p.tables e below F (T.setTop (mkF m pc' Ls (.int (x ^^^ y) :: St)))) : own_Go p.tables e below F (T.setTop (mkF m pc Ls (.int y :: .int x :: St))) := by
  subst hp
  exact own_by (fun _ q => XS.ixor X.here hx rfl hd rfl q) k
theorem own_ishl (X : Stand p l e R s m args below meth c T locs cells slots) (hx : p.tables.exec = Jvm.exec) {F : State → Prop} {pc : Nat} {Ls : Array Slot} {St : List Value} {x y : Int32} (hd : decode c.code pc = .ok (.ishl, 1)) (pc' : Nat) (hp : pc + 1 = pc') (k : own_Go p.tables e below F (T.setTop (mkF m pc' Ls (.int (x <<< (y &&& 31)) :: St)))) : own_Go p.tables e below F (T.setTop (mkF m pc Ls (.int y :: .int x :: St))) := by
  subst hp
  exact own_by (fun _ q => XS.ishl X.here hx rfl hd rfl q) k
theorem own_ishr (X : Stand p l e R s m args below meth c T locs cells slots) (hx : p.tables.exec = Jvm.exec) {F : State → Prop} {pc : Nat} {Ls : Array Slot} {St : List Value} {x y : Int32} (hd : decode c.code pc = .ok (.ishr, 1)) (pc' : Nat) (hp : pc + 1 = pc') (k : own_Go p.tables e below F (T.setTop (mkF m pc' Ls (.int (x >>> (y &&& 31)) :: St)))) : own_Go p.tables e below F (T.setTop (mkF m pc Ls (.int y :: .int x :: St))) := by
  subst hp
  exact own_by (fun _ q => XS.ishr X.here hx rfl hd rfl q) k
theorem own_iushr (X : Stand p l e R s m args below meth c T locs cells slots) (hx : p.tables.exec = Jvm.exec) {F : State → Prop} {pc : Nat} {Ls : Array Slot} {St : List Value} {x y : Int32} (hd : decode c.code pc = .ok (.iushr, 1)) (pc' : Nat) (hp : pc + 1 = pc') (k : own_Go p.tables e below F (T.setTop (mkF m pc' Ls (.int ((x.toUInt32 >>> (y &&& 31).toUInt32).toInt32) :: St)))) : own_Go p.tables e below F (T.setTop (mkF m pc Ls (.int y :: .int x :: St))) := by
  subst hp
  exact own_by (fun _ q => XS.iushr X.here hx rfl hd rfl q) k
theorem own_ladd (X : Stand p l e R s m args below meth c T locs cells slots) (hx : p.tables.exec = Jvm.exec) {F : State → Prop} {pc : Nat} {Ls : Array Slot} {St : List Value} {x y : Int64} (hd : decode c.code pc = .ok (.ladd, 1)) (pc' : Nat) (hp : pc + 1 = pc') (k : own_Go p.tables e below F (T.setTop (mkF m pc' Ls (.long (x + y) :: St)))) : own_Go p.tables e below F (T.setTop (mkF m pc Ls (.long y :: .long x :: St))) := by
  subst hp
  exact own_by (fun _ q => XS.ladd X.here hx rfl hd rfl q) k
theorem own_lsub (X : Stand p l e R s m args below meth c T locs cells slots) (hx : p.tables.exec = Jvm.exec) {F : State → Prop} {pc : Nat} {Ls : Array Slot} {St : List Value} {x y : Int64} (hd : decode c.code pc = .ok (.lsub, 1)) (pc' : Nat) (hp : pc + 1 = pc') (k : own_Go p.tables e below F (T.setTop (mkF m pc' Ls (.long (x - y) :: St)))) : own_Go p.tables e below F (T.setTop (mkF m pc Ls (.long y :: .long x :: St))) := by
  subst hp
  exact own_by (fun _ q => XS.lsub X.here hx rfl hd rfl q) k
theorem own_lmul (X : Stand p l e R s m args below meth c T locs cells slots) (hx : p.tables.exec = Jvm.exec) {F : State → Prop} {pc : Nat} {Ls : Array Slot} {St : List Value} {x y : Int64} (hd : decode c.code pc = .ok (.lmul, 1)) (pc' : Nat) (hp : pc + 1 = pc') (k : own_Go p.tables e below F (T.setTop (mkF m pc' Ls (.long (x * y) :: St)))) : own_Go p.tables e below F (T.setTop (mkF m pc Ls (.long y :: .long x :: St))) := by
  subst hp
  exact own_by (fun _ q => XS.lmul X.here hx rfl hd rfl q) k
theorem own_land (X : Stand p l e R s m args below meth c T locs cells slots) (hx : p.tables.exec = Jvm.exec) {F : State → Prop} {pc : Nat} {Ls : Array Slot} {St : List Value} {x y : Int64} (hd : decode c.code pc = .ok (.land, 1)) (pc' : Nat) (hp : pc + 1 = pc') (k : own_Go p.tables e below F (T.setTop (mkF m pc' Ls (.long (x &&& y) :: St)))) : own_Go p.tables e below F (T.setTop (mkF m pc Ls (.long y :: .long x :: St))) := by
  subst hp
  exact own_by (fun _ q => XS.land X.here hx rfl hd rfl q) k
theorem own_lor (X : Stand p l e R s m args below meth c T locs cells slots) (hx : p.tables.exec = Jvm.exec) {F : State → Prop} {pc : Nat} {Ls : Array Slot} {St : List Value} {x y : Int64} (hd : decode c.code pc = .ok (.lor, 1)) (pc' : Nat) (hp : pc + 1 = pc') (k : own_Go p.tables e below F (T.setTop (mkF m pc' Ls (.long (x ||| y) :: St)))) : own_Go p.tables e below F (T.setTop (mkF m pc Ls (.long y :: .long x :: St))) := by
  subst hp
  exact own_by (fun _ q => XS.lor X.here hx rfl hd rfl q) k
theorem own_lxor (X : Stand p l e R s m args below meth c T locs cells slots) (hx : p.tables.exec = Jvm.exec) {F : State → Prop} {pc : Nat} {Ls : Array Slot} {St : List Value} {x y : Int64} (hd : decode c.code pc = .ok (.lxor, 1)) (pc' : Nat) (hp : pc + 1 = pc') (k : own_Go p.tables e below F (T.setTop (mkF m pc' Ls (.long (x ^^^ y) :: St)))) : own_Go p.tables e below F (T.setTop (mkF m pc Ls (.long y :: .long x :: St))) := by
  subst hp
  exact own_by (fun _ q => XS.lxor X.here hx rfl hd rfl q) k
theorem own_lshl (X : Stand p l e R s m args below meth c T locs cells slots) (hx : p.tables.exec = Jvm.exec) {F : State → Prop} {pc : Nat} {Ls : Array Slot} {St : List Value} {x : Int64} {y : Int32} (hd : decode c.code pc = .ok (.lshl, 1)) (pc' : Nat) (hp : pc + 1 = pc') (k : own_Go p.tables e below F (T.setTop (mkF m pc' Ls (.long (x <<< (y &&& 0x3f).toInt64) :: St)))) : own_Go p.tables e below F (T.setTop (mkF m pc Ls (.int y :: .long x :: St))) := by
  subst hp
  exact own_by (fun _ q => XS.lshl X.here hx rfl hd rfl q) k
theorem own_lshr (X : Stand p l e R s m args below meth c T locs cells slots) (hx : p.tables.exec = Jvm.exec) {F : State → Prop} {pc : Nat} {Ls : Array Slot} {St : List Value} {x : Int64} {y : Int32} (hd : decode c.code pc = .ok (.lshr, 1)) (pc' : Nat) (hp : pc + 1 = pc') (k : own_Go p.tables e below F (T.setTop (mkF m pc' Ls (.long (x >>> (y &&& 0x3f).toInt64) :: St)))) : own_Go p.tables e below F (T.setTop (mkF m pc Ls (.int y :: .long x :: St))) := by
  subst hp
  exact own_by (fun _ q => XS.lshr X.here hx rfl hd rfl q) k
theorem own_lushr (X : Stand p l e R s m args below meth c T locs cells slots) (hx : p.tables.exec = Jvm.exec) {F : State → Prop} {pc : Nat} {Ls : Array Slot} {St : List Value} {x : Int64} {y : Int32} (hd : decode c.code pc = .ok (.lushr, 1)) (pc' : Nat) (hp : pc + 1 = pc') (k : own_Go p.tables e below F (T.setTop (mkF m pc' Ls (.long ((x.toUInt64 >>> (y &&& 0x3f).toInt64.toUInt64).toInt64) :: St)))) : own_Go p.tables e below F (T.setTop (mkF m pc Ls (.int y :: .long x :: St))) := by
  subst hp
  exact own_by (fun _ q => XS.lushr X.here hx rfl hd rfl q) k
theorem own_idiv (X : Stand p l e R s m args below meth c T locs cells slots) (hx : p.tables.exec = Jvm.exec) {F : State → Prop} {pc : Nat} {Ls : Array Slot} {St : List Value} {x y : Int32} (hd : decode c.code pc = .ok (.idiv, 1)) (hy : y ≠ 0) (pc' : Nat) (hp : pc + 1 = pc') (k : own_Go p.tables e below F (T.setTop (mkF m pc' Ls (.int (x / y) :: St)))) : own_Go p.tables e below F (T.setTop (mkF m pc Ls (.int y :: .int x :: St))) := by
  subst hp
  exact own_by (fun _ q => XS.idiv X.here hx rfl hd rfl hy q) k
theorem own_ineg (X : Stand p l e R s m args below meth c T locs cells slots) (hx : p.tables.exec = Jvm.exec) {F : State → Prop} {pc : Nat} {Ls : Array Slot} {St : List Value} {x : Int32} (hd : decode c.code pc = .ok (.ineg, 1)) (pc' : Nat) (hp : pc + 1 = pc') (k : own_Go p.tables e below F (T.setTop (mkF m pc' Ls (.int (-x) :: St)))) : own_Go p.tables e below F (T.setTop (mkF m pc Ls (.int x :: St))) := by
  subst hp
  exact own_by (fun _ q => XS.ineg X.here hx rfl hd rfl q) k
theorem own_i2l (X : Stand p l e R s m args below meth c T locs cells slots) (hx : p.tables.exec = Jvm.exec) {F : State → Prop} {pc : Nat} {Ls : Array Slot} {St : List Value} {x : Int32} (hd : decode c.code pc = .ok (.i2l, 1)) (pc' : Nat) (hp : pc + 1 = pc') (k : own_Go p.tables e below F (T.setTop (mkF m pc' Ls (.long (x.toInt64) :: St)))) : own_Go p.tables e below F (T.setTop (mkF m pc Ls (.int x :: St))) := by
  subst hp
  exact own_by (fun _ q => XS.i2l X.here hx rfl hd rfl q) k
theorem own_l2i (X : Stand p l e R s m args below meth c T locs cells slots) (hx : p.tables.exec = Jvm.exec) {F : State → Prop} {pc : Nat} {Ls : Array Slot} {St : List Value} {x : Int64} (hd : decode c.code pc = .ok (.l2i, 1)) (pc' : Nat) (hp : pc + 1 = pc') (k : own_Go p.tables e below F (T.setTop (mkF m pc' Ls (.int (x.toInt32) :: St)))) : own_Go p.tables e below F (T.setTop (mkF m pc Ls (.long x :: St))) := by
  subst hp
  exact own_by (fun _ q => XS.l2i X.here hx rfl hd rfl q) k
theorem own_i2b (X : Stand p l e R s m args below meth c T locs cells slots) (hx : p.tables.exec = Jvm.exec) {F : State → Prop} {pc : Nat} {Ls : Array Slot} {St : List Value} {x : Int32} (hd : decode c.code pc = .ok (.i2b, 1)) (pc' : Nat) (hp : pc + 1 = pc') (k : own_Go p.tables e below F (T.setTop (mkF m pc' Ls (.int (x.toInt8.toInt32) :: St)))) : own_Go p.tables e below F (T.setTop (mkF m pc Ls (.int x :: St))) := by
  subst hp
  exact own_by (fun _ q => XS.i2b X.here hx rfl hd rfl q) k
theorem own_i2c (X : Stand p l e R s m args below meth c T locs cells slots) (hx : p.tables.exec = Jvm.exec) {F : State → Prop} {pc : Nat} {Ls : Array Slot} {St : List Value} {x : Int32} (hd : decode c.code pc = .ok (.i2c, 1)) (pc' : Nat) (hp : pc + 1 = pc') (k : own_Go p.tables e below F (T.setTop (mkF m pc' Ls (.int (x.toUInt32.toUInt16.toUInt32.toInt32) :: St)))) : own_Go p.tables e below F (T.setTop (mkF m pc Ls (.int x :: St))) := by
  subst hp
  exact own_by (fun _ q => XS.i2c X.here hx rfl hd rfl q) k
theorem own_i2s (X : Stand p l e R s m args below meth c T locs cells slots) (hx : p.tables.exec = Jvm.exec) {F : State → Prop} {pc : Nat} {Ls : Array Slot} {St : List Value} {x : Int32} (hd : decode c.code pc = .ok (.i2s, 1)) (pc' : Nat) (hp : pc + 1 = pc') (k : own_Go p.tables e below F (T.setTop (mkF m pc' Ls (.int (x.toInt16.toInt32) :: St)))) : own_Go p.tables e below F (T.setTop (mkF m pc Ls (.int x :: St))) := by
  subst hp
  exact own_by (fun _ q => XS.i2s X.here hx rfl hd rfl q) k
theorem own_lcmp (X : Stand p l e R s m args below meth c T locs cells slots) (hx : p.tables.exec = Jvm.exec) {F : State → Prop} {pc : Nat} {Ls : Array Slot} {St : List Value} {x y : Int64} (hd : decode c.code pc = .ok (.lcmp, 1)) (pc' : Nat) (hp : pc + 1 = pc') (k : own_Go p.tables e below F (T.setTop (mkF m pc' Ls (.int (lcmpW x y) :: St)))) : own_Go p.tables e below F (T.setTop (mkF m pc Ls (.long y :: .long x :: St))) := by
  subst hp
  exact own_by (fun _ q => XS.lcmp X.here hx rfl hd rfl q) k
theorem own_iinc (X : Stand p l e R s m args below meth c T locs cells slots) (hx : p.tables.exec = Jvm.exec) {F : State → Prop} {pc : Nat} {Ls : Array Slot} {St : List Value} {i : Nat} {cst : Int} {x : Int32} (hd : decode c.code pc = .ok (.iinc i cst, 3)) (l' : Array Slot) (hl : Ls[i]? = some (.val (.int x))) (hl' : storeLocals Ls i (.int (x + Int32.ofInt cst)) = some l') (pc' : Nat) (hp : pc + 3 = pc') (k : own_Go p.tables e below F (T.setTop (mkF m pc' l' (St)))) : own_Go p.tables e below F (T.setTop (mkF m pc Ls (St))) := by
  subst hp
  exact own_by (fun _ q => XS.iinc X.here hx rfl hd hl hl' q) k
theorem own_dup (X : Stand p l e R s m args below meth c T locs cells slots) (hx : p.tables.exec = Jvm.exec) {F : State → Prop} {pc : Nat} {Ls : Array Slot} {St : List Value} {v : Value} (hd : decode c.code pc = .ok (.dup, 1)) (hc : v.category = 1) (pc' : Nat) (hp : pc + 1 = pc') (k : own_Go p.tables e below F (T.setTop (mkF m pc' Ls (v :: v :: St)))) : own_Go p.tables e below F (T.setTop (mkF m pc Ls (v :: St))) := by
  subst hp
  exact own_by (fun _ q => XS.dup X.here hx rfl hd rfl hc q) k
theorem own_pop (X : Stand p l e R s m args below meth c T locs cells slots) (hx : p.tables.exec = Jvm.exec) {F : State → Prop} {pc : Nat} {Ls : Array Slot} {St : List Value} {v : Value} (hd : decode c.code pc = .ok (.pop, 1)) (hc : v.category = 1) (pc' : Nat) (hp : pc + 1 = pc') (k : own_Go p.tables e below F (T.setTop (mkF m pc' Ls (St)))) : own_Go p.tables e below F (T.setTop (mkF m pc Ls (v :: St))) := by
  subst hp
  exact own_by (fun _ q => XS.pop X.here hx rfl hd rfl hc q) k
theorem own_dup_x1 (X : Stand p l e R s m args below meth c T locs cells slots) (hx : p.tables.exec = Jvm.exec) {F : State → Prop} {pc : Nat} {Ls : Array Slot} {St : List Value} {v w : Value} (hd : decode c.code pc = .ok (.dup_x1, 1)) (hc : v.category = 1) (hc' : w.category = 1) (pc' : Nat) (hp : pc + 1 = pc') (k : own_Go p.tables e below F (T.setTop (mkF m pc' Ls (v :: w :: v :: St)))) : own_Go p.tables e below F (T.setTop (mkF m pc Ls (v :: w :: St))) := by
  subst hp
  exact own_by (fun _ q => XS.dupX1 X.here hx rfl hd rfl hc hc' q) k
theorem own_goto (X : Stand p l e R s m args below meth c T locs cells slots) (hx : p.tables.exec = Jvm.exec) {F : State → Prop} {pc : Nat} {Ls : Array Slot} {St : List Value}  {o : Int} (hd : decode c.code pc = .ok (.goto o, 3)) (pc' : Nat) (ho : 0 ≤ (pc : Int) + o) (hp : ((pc : Int) + o).toNat = pc') (k : own_Go p.tables e below F (T.setTop (mkF m pc' Ls (St)))) : own_Go p.tables e below F (T.setTop (mkF m pc Ls (St))) :=
  own_by (fun _ q => XS.goto X.here hx rfl (pc0 := pc) rfl hd  ho hp q) k
theorem own_ifY (X : Stand p l e R s m args below meth c T locs cells slots) (hx : p.tables.exec = Jvm.exec) {F : State → Prop} {pc : Nat} {Ls : Array Slot} {St : List Value} {cd : ClassFile.Cond} {x : Int32} {o : Int} (hd : decode c.code pc = .ok (.ifCond cd o, 3)) (hc : ifCond.holds cd x = true) (pc' : Nat) (ho : 0 ≤ (pc : Int) + o) (hp : ((pc : Int) + o).toNat = pc') (k : own_Go p.tables e below F (T.setTop (mkF m pc' Ls (St)))) : own_Go p.tables e below F (T.setTop (mkF m pc Ls (.int x :: St))) :=
  own_by (fun _ q => XS.ifYes X.here hx rfl (pc0 := pc) rfl hd rfl hc ho hp q) k
theorem own_icmpY (X : Stand p l e R s m args below meth c T locs cells slots) (hx : p.tables.exec = Jvm.exec) {F : State → Prop} {pc : Nat} {Ls : Array Slot} {St : List Value} {cd : ClassFile.Cond} {x y : Int32} {o : Int} (hd : decode c.code pc = .ok (.if_icmp cd o, 3)) (hc : if_icmp.holds cd x y = true) (pc' : Nat) (ho : 0 ≤ (pc : Int) + o) (hp : ((pc : Int) + o).toNat = pc') (k : own_Go p.tables e below F (T.setTop (mkF m pc' Ls (St)))) : own_Go p.tables e below F (T.setTop (mkF m pc Ls (.int y :: .int x :: St))) :=
  own_by (fun _ q => XS.icmpYes X.here hx rfl (pc0 := pc) rfl hd rfl hc ho hp q) k
theorem own_ifnullY (X : Stand p l e R s m args below meth c T locs cells slots) (hx : p.tables.exec = Jvm.exec) {F : State → Prop} {pc : Nat} {Ls : Array Slot} {St : List Value}  {o : Int} (hd : decode c.code pc = .ok (.ifnull o, 3)) (pc' : Nat) (ho : 0 ≤ (pc : Int) + o) (hp : ((pc : Int) + o).toNat = pc') (k : own_Go p.tables e below F (T.setTop (mkF m pc' Ls (St)))) : own_Go p.tables e below F (T.setTop (mkF m pc Ls (.null :: St))) :=
  own_by (fun _ q => XS.ifnullYes X.here hx rfl (pc0 := pc) rfl hd rfl ho hp q) k
theorem own_ifnonnullY (X : Stand p l e R s m args below meth c T locs cells slots) (hx : p.tables.exec = Jvm.exec) {F : State → Prop} {pc : Nat} {Ls : Array Slot} {St : List Value} {b : Addr} {o : Int} (hd : decode c.code pc = .ok (.ifnonnull o, 3)) (pc' : Nat) (ho : 0 ≤ (pc : Int) + o) (hp : ((pc : Int) + o).toNat = pc') (k : own_Go p.tables e below F (T.setTop (mkF m pc' Ls (St)))) : own_Go p.tables e below F (T.setTop (mkF m pc Ls (.ref b :: St))) :=
  own_by (fun _ q => XS.ifnonnullYes X.here hx rfl (pc0 := pc) rfl hd rfl ho hp q) k
theorem own_ifN (X : Stand p l e R s m args below meth c T locs cells slots) (hx : p.tables.exec = Jvm.exec) {F : State → Prop} {pc : Nat} {Ls : Array Slot} {St : List Value} {o : Int} {cd : ClassFile.Cond} {x : Int32} (hd : decode c.code pc = .ok (.ifCond cd o, 3)) (hc : ifCond.holds cd x = false) (pc' : Nat) (hp : pc + 3 = pc') (k : own_Go p.tables e below F (T.setTop (mkF m pc' Ls (St)))) : own_Go p.tables e below F (T.setTop (mkF m pc Ls (.int x :: St))) := by
  subst hp
  exact own_by (fun _ q => XS.ifNo X.here hx rfl hd rfl hc q) k
theorem own_icmpN (X : Stand p l e R s m args below meth c T locs cells slots) (hx : p.tables.exec = Jvm.exec) {F : State → Prop} {pc : Nat} {Ls : Array Slot} {St : List Value} {o : Int} {cd : ClassFile.Cond} {x y : Int32} (hd : decode c.code pc = .ok (.if_icmp cd o, 3)) (hc : if_icmp.holds cd x y = false) (pc' : Nat) (hp : pc + 3 = pc') (k : own_Go p.tables e below F (T.setTop (mkF m pc' Ls (St)))) : own_Go p.tables e below F (T.setTop (mkF m pc Ls (.int y :: .int x :: St))) := by
  subst hp
  exact own_by (fun _ q => XS.icmpNo X.here hx rfl hd rfl hc q) k
theorem own_ifnullN (X : Stand p l e R s m args below meth c T locs cells slots) (hx : p.tables.exec = Jvm.exec) {F : State → Prop} {pc : Nat} {Ls : Array Slot} {St : List Value} {o : Int} {b : Addr} (hd : decode c.code pc = .ok (.ifnull o, 3)) (pc' : Nat) (hp : pc + 3 = pc') (k : own_Go p.tables e below F (T.setTop (mkF m pc' Ls (St)))) : own_Go p.tables e below F (T.setTop (mkF m pc Ls (.ref b :: St))) := by
  subst hp
  exact own_by (fun _ q => XS.ifnullNo X.here hx rfl hd rfl q) k
theorem own_ifnonnullN (X : Stand p l e R s m args below meth c T locs cells slots) (hx : p.tables.exec = Jvm.exec) {F : State → Prop} {pc : Nat} {Ls : Array Slot} {St : List Value} {o : Int} (hd : decode c.code pc = .ok (.ifnonnull o, 3)) (pc' : Nat) (hp : pc + 3 = pc') (k : own_Go p.tables e below F (T.setTop (mkF m pc' Ls (St)))) : own_Go p.tables e below F (T.setTop (mkF m pc Ls (.null :: St))) := by
  subst hp
  exact own_by (fun _ q => XS.ifnonnullNo X.here hx rfl hd rfl q) k
theorem own_irem (X : Stand p l e R s m args below meth c T locs cells slots) (hx : p.tables.exec = Jvm.exec) {F : State → Prop} {pc : Nat} {Ls : Array Slot} {St : List Value} {x y : Int32} (hd : decode c.code pc = .ok (.irem, 1)) (hy : y ≠ 0) (pc' : Nat) (hp : pc + 1 = pc') (k : own_Go p.tables e below F (T.setTop (mkF m pc' Ls (.int (x % y) :: St)))) : own_Go p.tables e below F (T.setTop (mkF m pc Ls (.int y :: .int x :: St))) := by
  subst hp
  exact own_by (fun _ q => iremM X hx rfl hd rfl hy q) k
theorem own_acmp (X : Stand p l e R s m args below meth c T locs cells slots) (hx : p.tables.exec = Jvm.exec) {F : State → Prop} {pc : Nat} {Ls : Array Slot} {St : List Value} {cd : ACond} {x y : Value} {o : Int} (same : Bool) (hd : decode c.code pc = .ok (.if_acmp cd o, 3)) (h1 : x.isRef = true) (h2 : y.isRef = true) (hq : decide (x = y) = same) (pc' : Nat) (ho : 0 ≤ (pc : Int) + o) (hp : pc' = if acV cd same = true then ((pc : Int) + o).toNat else pc + 3) (k : own_Go p.tables e below F (T.setTop (mkF m pc' Ls St))) : own_Go p.tables e below F (T.setTop (mkF m pc Ls (y :: x :: St))) :=
  own_by (fun _ q => Jvm.RoadKit.acmp (g := mkF m pc Ls (y :: x :: St)) X hx rfl h1 h2 (pc0 := pc) rfl hd rfl hq ho hp q) k
theorem own_ldc (X : Stand p l e R s m args below meth c T locs cells slots) (hx : p.tables.exec = Jvm.exec) {F : State → Prop} {pc : Nat} {Ls : Array Slot} {St : List Value} (hZ : Z.Warmed39 s.vm) {own : String} {i : Nat} {z : Int32} (hown : s.vm.findClass own = some m.cls) (w : (Cond.constant own i z).before a0 Z = true) (hd : decode c.code pc = .ok (.ldc i, 2)) (pc' : Nat) (hp : pc + 2 = pc') (k : own_Go p.tables e below F (T.setTop (mkF m pc' Ls (.int z :: St)))) : own_Go p.tables e below F (T.setTop (mkF m pc Ls St)) := by
  subst hp
  exact own_by (fun _ q => X.ldcInt hx hown (mvT hZ w) (g := mkF m pc Ls St) rfl hd _ q) k
theorem own_getS (X : Stand p l e R s m args below meth c T locs cells slots) (hx : p.tables.exec = Jvm.exec) {F : State → Prop} {pc : Nat} {Ls : Array Slot} {St : List Value} (hZ : Z.Warmed39 s.vm) {own R0 O n d host : String} {i : Nat} (hown : s.vm.findClass own = some m.cls) (w : (Cond.fieldLink own i R0 n d).before a0 Z = true ∨ (Cond.fieldLinkNest own i R0 n d host).before a0 Z = true) (via : Via Z R0 O n d) (eT : T.heap = h) {v : Value} (S : Sta Z h O n d v) (hd : decode c.code pc = .ok (.getstatic i, 3)) (pc' : Nat) (hp : pc + 3 = pc')
    (k : ∀ T', Stand p l e R s m args below meth c T' locs cells slots → T'.heap = h → own_Go p.tables e below F (T'.setTop (mkF m pc' Ls (v :: St)))) : own_Go p.tables e below F (T.setTop (mkF m pc Ls St)) := by
  subst hp
  obtain ⟨T', X', e', st⟩ := getS2 X hx hZ hown w via eT S (g := mkF m pc Ls St) rfl hd
  exact own_by st (k T' X' e')
theorem own_getF (X : Stand p l e R s m args below meth c T locs cells slots) (hx : p.tables.exec = Jvm.exec) {F : State → Prop} {pc : Nat} {Ls : Array Slot} {St : List Value} (hZ : Z.Warmed39 s.vm) {own R0 O n d host : String} {i : Nat} (hown : s.vm.findClass own = some m.cls) (w : (Cond.fieldLink own i R0 n d).before a0 Z = true ∨ (Cond.fieldLinkNest own i R0 n d host).before a0 Z = true) (via : Via Z R0 O n d) (eT : T.heap = h) {a : Addr} {v : Value} (S : Fld Z h a O n d v) (hd : decode c.code pc = .ok (.getfield i, 3)) (pc' : Nat) (hp : pc + 3 = pc')
    (k : ∀ T', Stand p l e R s m args below meth c T' locs cells slots → T'.heap = h → own_Go p.tables e below F (T'.setTop (mkF m pc' Ls (v :: St)))) : own_Go p.tables e below F (T.setTop (mkF m pc Ls (.ref a :: St))) := by
  subst hp
  obtain ⟨T', X', e', st⟩ := getF X hx hZ hown w via eT S (g := mkF m pc Ls (.ref a :: St)) rfl rfl hd
  exact own_by st (k T' X' e')
theorem own_lsw (X : Stand p l e R s m args below meth c T locs cells slots) (hx : p.tables.exec = Jvm.exec) {F : State → Prop} {pc : Nat} {Ls : Array Slot} {St : List Value} {dflt : Int} {pairs : Array (Int × Int)} {len : Nat} {i : Int32} (o : Int) (hd : decode c.code pc = .ok (.lookupswitch dflt pairs, len)) (hoff : lookupswitch.offset pairs.toList dflt i.toInt = o) (hso : (pairs.toList.zip pairs.toList.tail).all (fun q => decide (q.1.1 < q.2.1)) = true) (pc' : Nat) (ho : 0 ≤ (pc : Int) + o) (hp : ((pc : Int) + o).toNat = pc') (k : own_Go p.tables e below F (T.setTop (mkF m pc' Ls St))) : own_Go p.tables e below F (T.setTop (mkF m pc Ls (.int i :: St))) :=
  own_by (fun _ q => own_lsw0 X.here hx rfl (pc0 := pc) rfl hd rfl hoff hso ho hp q) k
theorem own_tsw (X : Stand p l e R s m args below meth c T locs cells slots) (hx : p.tables.exec = Jvm.exec) {F : State → Prop} {pc : Nat} {Ls : Array Slot} {St : List Value} {dflt lo hi : Int} {offs : Array Int} {len : Nat} {i : Int32} (o : Int) (hd : decode c.code pc = .ok (.tableswitch dflt lo hi offs, len)) (hin : ¬ (i.toInt < lo ∨ i.toInt > hi)) (hoff : offs[(i.toInt - lo).toNat]? = some o) (pc' : Nat) (ho : 0 ≤ (pc : Int) + o) (hp : ((pc : Int) + o).toNat = pc') (k : own_Go p.tables e below F (T.setTop (mkF m pc' Ls St))) : own_Go p.tables e below F (T.setTop (mkF m pc Ls (.int i :: St))) :=
  own_by (fun _ q => XS.tswIn X.here hx rfl (pc0 := pc) rfl hd rfl hin hoff ho hp q) k
theorem own_tswD (X : Stand p l e R s m args below meth c T locs cells slots) (hx : p.tables.exec = Jvm.exec) {F : State → Prop} {pc : Nat} {Ls : Array Slot} {St : List Value} {dflt lo hi : Int} {offs : Array Int} {len : Nat} {i : Int32} (hd : decode c.code pc = .ok (.tableswitch dflt lo hi offs, len)) (hout : i.toInt < lo ∨ i.toInt > hi) (pc' : Nat) (ho : 0 ≤ (pc : Int) + dflt) (hp : ((pc : Int) + dflt).toNat = pc') (k : own_Go p.tables e below F (T.setTop (mkF m pc' Ls St))) : own_Go p.tables e below F (T.setTop (mkF m pc Ls (.int i :: St))) :=
  own_by (fun _ q => XS.tswOut X.here hx rfl (pc0 := pc) rfl hd rfl hout ho hp q) k

theorem own_topI {F : State → Prop} {pc : Nat} {Ls : Array Slot} {St : List Value} {x : Int32} (z : Int32) (hz : x = z) (k : own_Go p.tables e below F (T.setTop (mkF m pc Ls (.int z :: St)))) : own_Go p.tables e below F (T.setTop (mkF m pc Ls (.int x :: St))) := by
  subst hz
  exact k
theorem own_topJ {F : State → Prop} {pc : Nat} {Ls : Array Slot} {St : List Value} {x : Int64} (z : Int64) (hz : x = z) (k : own_Go p.tables e below F (T.setTop (mkF m pc Ls (.long z :: St)))) : own_Go p.tables e below F (T.setTop (mkF m pc Ls (.long x :: St))) := by
  subst hz
  exact k
theorem own_lcmp0 (x : Int64) : lcmpW x x = 0 := by simp [lcmpW]
theorem own_lceq (x y : Int64) : lcmpW x y = (0 : Int32) ↔ x = y := by rw [lcW]; exact lc_eq x y
theorem own_iincC (X : Stand p l e R s m args below meth c T locs cells slots) (hx : p.tables.exec = Jvm.exec) {F : State → Prop} {pc : Nat} {Ls : Array Slot} {St : List Value} {i : Nat} {cst : Int} {x : Int32} (hd : decode c.code pc = .ok (.iinc i cst, 3)) (l' : Array Slot) (hl : Ls[i]? = some (.val (.int x))) (z : Int32) (hz : x + Int32.ofInt cst = z) (hl' : storeLocals Ls i (.int z) = some l') (pc' : Nat) (hp : pc + 3 = pc') (k : own_Go p.tables e below F (T.setTop (mkF m pc' l' St))) : own_Go p.tables e below F (T.setTop (mkF m pc Ls St)) := by
  subst hz
  exact own_iinc X hx hd l' hl hl' pc' hp k
/-- a body's contract: y, entered with 'as' over the heap h, ends, and Q holds of what it returns, of the heap and of the places written -/
abbrev own_Met (l : Launch) (y : MethodName) (bytes : ByteArray) (ml : Nat) (ret : Option FieldType) (ws : List Cond) (rm : Room) (Z : State) (as : Array Value) (h : Heap) (Q : Option Value → Heap → List Loc → Prop) : Prop :=
  MetFree l y (head1 (Jvm.Cond.code y bytes ml ret :: ws) rm) (fun a U => a = as ∧ Z.Warmed39 U.vm ∧ U.heap = h) (fun _ _ _ _ _ => True) (fun _ U o U' => ∃ v L, o = .returned v ∧ Q v U'.heap L ∧ FrameEnd U o U' L rm.cells rm.slots)
theorem own_met {y : MethodName} {bytes : ByteArray} {ml : Nat} {ret : Option FieldType} {ws : List Cond} {rm : Room} {as : Array Value} {Q : Option Value → Heap → List Loc → Prop} (hp : plainFor y = true)
    (body : ∀ (p : Program) (e : Env) (s : State) (m : MethodId) (below : List Frame) (meth : Method) (c : Code) (T0 : State), p.tables.exec = Jvm.exec → c.code = bytes → c.maxLocals = ml → s.vm.findClass y.cls = some m.cls → meth.sig.returnType = ret → meth.locks = false → meth.name = y.name → Z.Warmed39 s.vm →
      Stand p l e rm s m as below meth c T0 [] 0 0 → T0.heap = h → own_Go p.tables e below (own_Fin s below Q rm.cells rm.slots) (T0.setTop (entryFrame m as ml))) : own_Met l y bytes ml ret ws rm Z as h Q := by
  refine MetFree.of_bodySF hp hisR ?_
  intro p e s m args below meth c s₁ Bd hml0 hP hK
  obtain ⟨rfl, hZ, hh⟩ := hP
  have e0 : s₁.heap = h := by rw [← hh, Bd.state]; rfl
  obtain ⟨t, h1, o, h2, h3, h4⟩ := body p e s m below meth c s₁ Bd.exec Bd.bytes hml0 (findClass_of_methodNamed Bd.named) Bd.returns (BodyLoose.notSynchronized Bd) (name_of_methodNamed Bd.named Bd.method).1 hZ (Stand.of_body Bd) e0
  exact ⟨t, o, h1, h2, h3, h4⟩
theorem own_callS (X : Stand p l e R s m args below meth c T locs cells slots) (hx : p.tables.exec = Jvm.exec) (hZ : Z.Warmed39 s.vm) {own : String} {index : Nat} {y : MethodName} {bytes : ByteArray} {maxL : Nat} {ret : Option FieldType} {rm : Room} (hown : s.vm.findClass own = some m.cls)
    (w1 : (Cond.methodLink own index y).before a0 Z = true) (w2 : (Cond.static y).before a0 Z = true) (w3 : (Cond.initialized y.cls).before a0 Z = true) (w4 : (Cond.code y bytes maxL ret).before a0 Z = true) (hy : y.cls ≠ "java/lang/invoke/MethodHandle" ∧ y.cls ≠ "java/lang/invoke/VarHandle")
    {Q : Option Value → Heap → List Loc → Prop} (argsL rest : List Value) (W : Nat) (hM : own_Met l y bytes maxL ret [] rm Z argsL.toArray h Q) (hf : rm.frames + 1 ≤ R.frames) (hl : W + (maxL + 11) + rm.locals ≤ R.locals) (eT : T.heap = h) {pc : Nat} {Ls : Array Slot} (hsize : Ls.size = c.maxLocals)
    (hlen : ∀ sig, parseMethodDescriptor y.desc = some sig → argsL.length = sig.parameters.length) (hW : 2 * 0 + (rest.map fun v => v.category).sum ≤ W) (hd : decode c.code pc = .ok (.invokestatic index, 3)) (hC : cells + rm.cells ≤ R.cells) (hN : slots + rm.slots ≤ R.slots) :
    ∃ (v : Option Value) (T' : State) (L : List Loc), Stand p l e R s m args below meth c T' (locs ++ L) (cells + rm.cells) (slots + rm.slots) ∧ Q v T'.heap L ∧ ∀ target, Steps p.tables e below (T'.setTop (mkF m (pc + 3) Ls (v.toList ++ rest))) target → Steps p.tables e below (T.setTop (mkF m pc Ls (argsL.reverse ++ rest))) target := by
  obtain ⟨v, _, ⟨T', L', k', n'⟩, -, X', ⟨L, hQ, h1, h2, h3⟩, st⟩ := Jvm.LawKit.callS X hx (y := y) hown (mvT hZ w1) (mvT hZ w2) (mvT hZ w3) (mvT hZ w4) hy (backOf (W := W) hM hZ w4 w3 hf hl) (g := mkF m pc Ls (argsL.reverse ++ rest)) rfl hsize (argsL := argsL) (rest := rest) hlen rfl hW hd (fun _ _ => ⟨rfl, eT, hC, hN⟩)
  dsimp only [Pt.U, Pt.locs, Pt.cells, Pt.slots] at X' h1 h2 h3 st hQ
  subst h1 h2 h3
  exact ⟨v, T', L, X', hQ, st⟩
theorem own_kS (X : Stand p l e R s m args below meth c T locs cells slots) (hx : p.tables.exec = Jvm.exec) (hZ : Z.Warmed39 s.vm) {own : String} {index : Nat} {y : MethodName} {bytes : ByteArray} {maxL : Nat} {ret : Option FieldType} {rm : Room} (hown : s.vm.findClass own = some m.cls)
    (w1 : (Cond.methodLink own index y).before a0 Z = true) (w2 : (Cond.static y).before a0 Z = true) (w3 : (Cond.initialized y.cls).before a0 Z = true) (w4 : (Cond.code y bytes maxL ret).before a0 Z = true) (hy : y.cls ≠ "java/lang/invoke/MethodHandle" ∧ y.cls ≠ "java/lang/invoke/VarHandle")
    {Q : Option Value → Heap → List Loc → Prop} (argsL rest : List Value) (W : Nat) (hM : own_Met l y bytes maxL ret [] rm Z argsL.toArray h Q) (hf : rm.frames + 1 ≤ R.frames) (hl : W + (maxL + 11) + rm.locals ≤ R.locals) (eT : T.heap = h) {pc : Nat} {Ls : Array Slot} (hsize : Ls.size = c.maxLocals)
    (hlen : ∀ sig, parseMethodDescriptor y.desc = some sig → argsL.length = sig.parameters.length) (hW : 2 * 0 + (rest.map fun v => v.category).sum ≤ W) (hd : decode c.code pc = .ok (.invokestatic index, 3)) (hC : cells + rm.cells ≤ R.cells) (hN : slots + rm.slots ≤ R.slots) (pc' : Nat) (hp : pc + 3 = pc') {F : State → Prop}
    (k : ∀ (v : Option Value) (T' : State) (L : List Loc), Stand p l e R s m args below meth c T' (locs ++ L) (cells + rm.cells) (slots + rm.slots) → Q v T'.heap L → own_Go p.tables e below F (T'.setTop (mkF m pc' Ls (v.toList ++ rest)))) : own_Go p.tables e below F (T.setTop (mkF m pc Ls (argsL.reverse ++ rest))) := by
  subst hp
  obtain ⟨v, T', L, X', hQ, st⟩ := own_callS X hx hZ hown w1 w2 w3 w4 hy argsL rest W hM hf hl eT hsize hlen hW hd hC hN
  exact own_by st (k v T' L X' hQ)
theorem own_callV (X : Stand p l e R s m args below meth c T locs cells slots) (hx : p.tables.exec = Jvm.exec) (hZ : Z.Warmed39 s.vm) {own C : String} {index : Nat} {y z : MethodName} {bytes : ByteArray} {maxL : Nat} {ret : Option FieldType} {rm : Room} (hown : s.vm.findClass own = some m.cls)
    (w1 : (Cond.methodLink own index y).before a0 Z = true) (w2 : (Cond.declares y).before a0 Z = true) (hnf : NotFace s y) (w3 : (Cond.selects C y z).before a0 Z = true) (w4 : (Cond.instanceMethod z).before a0 Z = true) (w5 : (Cond.initialized z.cls).before a0 Z = true) (w6 : (Cond.code z bytes maxL ret).before a0 Z = true) (hy : y.cls ≠ "java/lang/invoke/MethodHandle" ∧ y.cls ≠ "java/lang/invoke/VarHandle")
    {Q : Option Value → Heap → List Loc → Prop} (b : Addr) (argsL rest : List Value) (W : Nat) (hM : own_Met l z bytes maxL ret [] rm Z (.ref b :: argsL).toArray h Q) (hf : rm.frames + 1 ≤ R.frames) (hl : W + (maxL + 11) + rm.locals ≤ R.locals) (eT : T.heap = h) (E : Exa Z h b C) {pc : Nat} {Ls : Array Slot} (hsize : Ls.size = c.maxLocals)
    (hlen : ∀ sig, parseMethodDescriptor y.desc = some sig → argsL.length = sig.parameters.length) (hW : 2 * 0 + (rest.map fun v => v.category).sum ≤ W) (hd : decode c.code pc = .ok (.invokevirtual index, 3)) (hC : cells + rm.cells ≤ R.cells) (hN : slots + rm.slots ≤ R.slots) :
    ∃ (v : Option Value) (T' : State) (L : List Loc), Stand p l e R s m args below meth c T' (locs ++ L) (cells + rm.cells) (slots + rm.slots) ∧ Q v T'.heap L ∧ ∀ target, Steps p.tables e below (T'.setTop (mkF m (pc + 3) Ls (v.toList ++ rest))) target → Steps p.tables e below (T.setTop (mkF m pc Ls (argsL.reverse ++ .ref b :: rest))) target := by
  obtain ⟨cq, kq, qa, qb, qc⟩ := isOf hZ eT E
  obtain ⟨v, _, ⟨T', L', k', n'⟩, -, X', ⟨L, hQ, h1, h2, h3⟩, st⟩ := X.virtualBack hx (y := y) (z := z) hown (mvT hZ w1) (mvT hZ w2) hnf (mvT hZ w3) (mvT hZ w4) hy (backOf (W := W) hM hZ w6 w5 hf hl) qa qc (g := mkF m pc Ls (argsL.reverse ++ .ref b :: rest)) rfl hsize (Steps.refl _) (argsL := argsL) (rest := rest) hlen rfl hW hd (fun _ _ => ⟨rfl, eT, hC, hN⟩)
  dsimp only [Pt.U, Pt.locs, Pt.cells, Pt.slots] at X' h1 h2 h3 st hQ
  subst h1 h2 h3
  exact ⟨v, T', L, X', hQ, fun t k => st.trans k⟩
theorem own_kV (X : Stand p l e R s m args below meth c T locs cells slots) (hx : p.tables.exec = Jvm.exec) (hZ : Z.Warmed39 s.vm) {own C : String} {index : Nat} {y z : MethodName} {bytes : ByteArray} {maxL : Nat} {ret : Option FieldType} {rm : Room} (hown : s.vm.findClass own = some m.cls)
    (w1 : (Cond.methodLink own index y).before a0 Z = true) (w2 : (Cond.declares y).before a0 Z = true) (hnf : NotFace s y) (w3 : (Cond.selects C y z).before a0 Z = true) (w4 : (Cond.instanceMethod z).before a0 Z = true) (w5 : (Cond.initialized z.cls).before a0 Z = true) (w6 : (Cond.code z bytes maxL ret).before a0 Z = true) (hy : y.cls ≠ "java/lang/invoke/MethodHandle" ∧ y.cls ≠ "java/lang/invoke/VarHandle")
    {Q : Option Value → Heap → List Loc → Prop} (b : Addr) (argsL rest : List Value) (W : Nat) (hM : own_Met l z bytes maxL ret [] rm Z (.ref b :: argsL).toArray h Q) (hf : rm.frames + 1 ≤ R.frames) (hl : W + (maxL + 11) + rm.locals ≤ R.locals) (eT : T.heap = h) (E : Exa Z h b C) {pc : Nat} {Ls : Array Slot} (hsize : Ls.size = c.maxLocals)
    (hlen : ∀ sig, parseMethodDescriptor y.desc = some sig → argsL.length = sig.parameters.length) (hW : 2 * 0 + (rest.map fun v => v.category).sum ≤ W) (hd : decode c.code pc = .ok (.invokevirtual index, 3)) (hC : cells + rm.cells ≤ R.cells) (hN : slots + rm.slots ≤ R.slots) (pc' : Nat) (hp : pc + 3 = pc') {F : State → Prop}
    (k : ∀ (v : Option Value) (T' : State) (L : List Loc), Stand p l e R s m args below meth c T' (locs ++ L) (cells + rm.cells) (slots + rm.slots) → Q v T'.heap L → own_Go p.tables e below F (T'.setTop (mkF m pc' Ls (v.toList ++ rest)))) : own_Go p.tables e below F (T.setTop (mkF m pc Ls (argsL.reverse ++ .ref b :: rest))) := by
  subst hp
  obtain ⟨v, T', L, X', hQ, st⟩ := own_callV X hx hZ hown w1 w2 hnf w3 w4 w5 w6 hy b argsL rest W hM hf hl eT E hsize hlen hW hd hC hN
  exact own_by st (k v T' L X' hQ)
theorem own_callU (X : Stand p l e R s m args below meth c T locs cells slots) (hx : p.tables.exec = Jvm.exec) (hZ : Z.Warmed39 s.vm) {own C owner : String} {index : Nat} {x z : MethodName} {bytes : ByteArray} {maxL : Nat} {ret : Option FieldType} {rm : Room} (hown : s.vm.findClass own = some m.cls)
    (w1 : (Cond.methodLink own index x).before a0 Z = true) (w2 : (Cond.sameMethod x.cls owner x.name x.desc).before a0 Z = true) (w2' : (Cond.declares ⟨owner, x.name, x.desc⟩).before a0 Z = true) (hy : owner ≠ "java/lang/invoke/MethodHandle" ∧ owner ≠ "java/lang/invoke/VarHandle") (w3 : (Cond.selects C x z).before a0 Z = true) (w4 : (Cond.instanceMethod z).before a0 Z = true) (w5 : (Cond.initialized z.cls).before a0 Z = true) (w6 : (Cond.code z bytes maxL ret).before a0 Z = true)
    {Q : Option Value → Heap → List Loc → Prop} (b : Addr) (argsL rest : List Value) (W : Nat) (hM : own_Met l z bytes maxL ret [] rm Z (.ref b :: argsL).toArray h Q) (hf : rm.frames + 1 ≤ R.frames) (hl : W + (maxL + 11) + rm.locals ≤ R.locals) (eT : T.heap = h) (E : Exa Z h b C) {pc : Nat} {Ls : Array Slot} (hsize : Ls.size = c.maxLocals)
    (hlen : ∀ sig, parseMethodDescriptor x.desc = some sig → argsL.length = sig.parameters.length) (hW : 2 * 0 + (rest.map fun v => v.category).sum ≤ W) (hd : decode c.code pc = .ok (.invokevirtual index, 3)) (hC : cells + rm.cells ≤ R.cells) (hN : slots + rm.slots ≤ R.slots) :
    ∃ (v : Option Value) (T' : State) (L : List Loc), Stand p l e R s m args below meth c T' (locs ++ L) (cells + rm.cells) (slots + rm.slots) ∧ Q v T'.heap L ∧ ∀ target, Steps p.tables e below (T'.setTop (mkF m (pc + 3) Ls (v.toList ++ rest))) target → Steps p.tables e below (T.setTop (mkF m pc Ls (argsL.reverse ++ .ref b :: rest))) target := by
  obtain ⟨cq, kq, qa, qb, qc⟩ := isOf hZ eT E
  obtain ⟨v, _, ⟨T', L', k', n'⟩, -, X', ⟨L, hQ, h1, h2, h3⟩, st⟩ := X.virtualBackUp hx (x := x) (y := z) (owner := owner) hown (mvT hZ w1) (mvT hZ w2) (mvT hZ w2') hy (mvT hZ w3) (mvT hZ w4) (backOf (W := W) hM hZ w6 w5 hf hl) qa qc (g := mkF m pc Ls (argsL.reverse ++ .ref b :: rest)) rfl hsize (Steps.refl _) (argsL := argsL) (rest := rest) hlen rfl hW hd (fun _ _ => ⟨rfl, eT, hC, hN⟩)
  dsimp only [Pt.U, Pt.locs, Pt.cells, Pt.slots] at X' h1 h2 h3 st hQ
  subst h1 h2 h3
  exact ⟨v, T', L, X', hQ, fun t k => st.trans k⟩
theorem own_kU (X : Stand p l e R s m args below meth c T locs cells slots) (hx : p.tables.exec = Jvm.exec) (hZ : Z.Warmed39 s.vm) {own C owner : String} {index : Nat} {x z : MethodName} {bytes : ByteArray} {maxL : Nat} {ret : Option FieldType} {rm : Room} (hown : s.vm.findClass own = some m.cls)
    (w1 : (Cond.methodLink own index x).before a0 Z = true) (w2 : (Cond.sameMethod x.cls owner x.name x.desc).before a0 Z = true) (w2' : (Cond.declares ⟨owner, x.name, x.desc⟩).before a0 Z = true) (hy : owner ≠ "java/lang/invoke/MethodHandle" ∧ owner ≠ "java/lang/invoke/VarHandle") (w3 : (Cond.selects C x z).before a0 Z = true) (w4 : (Cond.instanceMethod z).before a0 Z = true) (w5 : (Cond.initialized z.cls).before a0 Z = true) (w6 : (Cond.code z bytes maxL ret).before a0 Z = true)
    {Q : Option Value → Heap → List Loc → Prop} (b : Addr) (argsL rest : List Value) (W : Nat) (hM : own_Met l z bytes maxL ret [] rm Z (.ref b :: argsL).toArray h Q) (hf : rm.frames + 1 ≤ R.frames) (hl : W + (maxL + 11) + rm.locals ≤ R.locals) (eT : T.heap = h) (E : Exa Z h b C) {pc : Nat} {Ls : Array Slot} (hsize : Ls.size = c.maxLocals)
    (hlen : ∀ sig, parseMethodDescriptor x.desc = some sig → argsL.length = sig.parameters.length) (hW : 2 * 0 + (rest.map fun v => v.category).sum ≤ W) (hd : decode c.code pc = .ok (.invokevirtual index, 3)) (hC : cells + rm.cells ≤ R.cells) (hN : slots + rm.slots ≤ R.slots) (pc' : Nat) (hp : pc + 3 = pc') {F : State → Prop}
    (k : ∀ (v : Option Value) (T' : State) (L : List Loc), Stand p l e R s m args below meth c T' (locs ++ L) (cells + rm.cells) (slots + rm.slots) → Q v T'.heap L → own_Go p.tables e below F (T'.setTop (mkF m pc' Ls (v.toList ++ rest)))) : own_Go p.tables e below F (T.setTop (mkF m pc Ls (argsL.reverse ++ .ref b :: rest))) := by
  subst hp
  obtain ⟨v, T', L, X', hQ, st⟩ := own_callU X hx hZ hown w1 w2 w2' hy w3 w4 w5 w6 b argsL rest W hM hf hl eT E hsize hlen hW hd hC hN
  exact own_by st (k v T' L X' hQ)
theorem own_callN (X : Stand p l e R s m args below meth c T locs cells slots) (hx : p.tables.exec = Jvm.exec) (hZ : Z.Warmed39 s.vm) {own : String} {index : Nat} {y : MethodName} {bytes : ByteArray} {maxL : Nat} {rm : Room} (hy1 : y.name = "<init>") (hown : s.vm.findClass own = some m.cls)
    (w1 : (Cond.methodLink own index y).before a0 Z = true) (w4 : (Cond.instanceMethod y).before a0 Z = true) (w5 : (Cond.initialized y.cls).before a0 Z = true) (w6 : (Cond.code y bytes maxL none).before a0 Z = true) (hy : y.cls ≠ "java/lang/invoke/MethodHandle" ∧ y.cls ≠ "java/lang/invoke/VarHandle")
    {Q : Option Value → Heap → List Loc → Prop} (b : Addr) (argsL rest : List Value) (W : Nat) (hM : own_Met l y bytes maxL none [] rm Z (.ref b :: argsL).toArray h Q) (hf : rm.frames + 1 ≤ R.frames) (hl : W + (maxL + 11) + rm.locals ≤ R.locals) (eT : T.heap = h) {pc : Nat} {Ls : Array Slot} (hsize : Ls.size = c.maxLocals)
    (hlen : ∀ sig, parseMethodDescriptor y.desc = some sig → argsL.length = sig.parameters.length) (hW : 2 * 0 + (rest.map fun v => v.category).sum ≤ W) (hd : decode c.code pc = .ok (.invokespecial index, 3)) (hC : cells + rm.cells ≤ R.cells) (hN : slots + rm.slots ≤ R.slots) :
    ∃ (v : Option Value) (T' : State) (L : List Loc), Stand p l e R s m args below meth c T' (locs ++ L) (cells + rm.cells) (slots + rm.slots) ∧ Q v T'.heap L ∧ ∀ target, Steps p.tables e below (T'.setTop (mkF m (pc + 3) Ls (v.toList ++ rest))) target → Steps p.tables e below (T.setTop (mkF m pc Ls (argsL.reverse ++ .ref b :: rest))) target := by
  obtain ⟨v, _, ⟨T', L', k', n'⟩, -, X', ⟨L, hQ, h1, h2, h3⟩, st⟩ := X.specialBack hx (y := y) hy1 hown (mvT hZ w1) (mvT hZ w4) (mvT hZ w6) hy (backOf (W := W) hM hZ w6 w5 hf hl) (g := mkF m pc Ls (argsL.reverse ++ .ref b :: rest)) rfl hsize (Steps.refl _) (a := b) (argsL := argsL) (rest := rest) hlen rfl hW hd (fun _ _ => ⟨rfl, eT, hC, hN⟩)
  dsimp only [Pt.U, Pt.locs, Pt.cells, Pt.slots] at X' h1 h2 h3 st hQ
  subst h1 h2 h3
  exact ⟨v, T', L, X', hQ, fun t k => st.trans k⟩
theorem own_kN (X : Stand p l e R s m args below meth c T locs cells slots) (hx : p.tables.exec = Jvm.exec) (hZ : Z.Warmed39 s.vm) {own : String} {index : Nat} {y : MethodName} {bytes : ByteArray} {maxL : Nat} {rm : Room} (hy1 : y.name = "<init>") (hown : s.vm.findClass own = some m.cls)
    (w1 : (Cond.methodLink own index y).before a0 Z = true) (w4 : (Cond.instanceMethod y).before a0 Z = true) (w5 : (Cond.initialized y.cls).before a0 Z = true) (w6 : (Cond.code y bytes maxL none).before a0 Z = true) (hy : y.cls ≠ "java/lang/invoke/MethodHandle" ∧ y.cls ≠ "java/lang/invoke/VarHandle")
    {Q : Option Value → Heap → List Loc → Prop} (b : Addr) (argsL rest : List Value) (W : Nat) (hM : own_Met l y bytes maxL none [] rm Z (.ref b :: argsL).toArray h Q) (hf : rm.frames + 1 ≤ R.frames) (hl : W + (maxL + 11) + rm.locals ≤ R.locals) (eT : T.heap = h) {pc : Nat} {Ls : Array Slot} (hsize : Ls.size = c.maxLocals)
    (hlen : ∀ sig, parseMethodDescriptor y.desc = some sig → argsL.length = sig.parameters.length) (hW : 2 * 0 + (rest.map fun v => v.category).sum ≤ W) (hd : decode c.code pc = .ok (.invokespecial index, 3)) (hC : cells + rm.cells ≤ R.cells) (hN : slots + rm.slots ≤ R.slots) (pc' : Nat) (hp : pc + 3 = pc') {F : State → Prop}
    (k : ∀ (v : Option Value) (T' : State) (L : List Loc), Stand p l e R s m args below meth c T' (locs ++ L) (cells + rm.cells) (slots + rm.slots) → Q v T'.heap L → own_Go p.tables e below F (T'.setTop (mkF m pc' Ls (v.toList ++ rest)))) : own_Go p.tables e below F (T.setTop (mkF m pc Ls (argsL.reverse ++ .ref b :: rest))) := by
  subst hp
  obtain ⟨v, T', L, X', hQ, st⟩ := own_callN X hx hZ hy1 hown w1 w4 w5 w6 hy b argsL rest W hM hf hl eT hsize hlen hW hd hC hN
  exact own_by st (k v T' L X' hQ)
abbrev own_HW (Z : State) (a0 : Array Value) : Prop := ∀ d ∈ tables_1, d.before a0 Z = true
theorem own_w {a0 : Array Value} {Z : State} (hw : ∀ d ∈ tables_1, d.before a0 Z = true) (i : Nat) {d : Jvm.Cond} (q : tables_1[i]? = some d) : d.before a0 Z = true := hw _ (List.mem_of_getElem? q)
/-- a body that writes nothing and makes nothing -/
def own_R (r : Option Value) (h0 : Heap) (v : Option Value) (h : Heap) (L : List Loc) : Prop := v = r ∧ h = h0 ∧ L = []
theorem own_same {rm : Room} {T' : State} {L : List Loc} (hc : rm.cells = 0) (hs : rm.slots = 0) (X : Stand p l e R s m args below meth c T' (locs ++ L) (cells + rm.cells) (slots + rm.slots)) (q : L = []) : Stand p l e R s m args below meth c T' locs cells slots := by
  subst q
  rw [hc, hs, List.append_nil] at X
  exact X
theorem own_pureS (X : Stand p l e R s m args below meth c T locs cells slots) (hx : p.tables.exec = Jvm.exec) {F : State → Prop} (hZ : Z.Warmed39 s.vm) {own : String} {index : Nat} {y : MethodName} {bytes : ByteArray} {maxL : Nat} {ret : Option FieldType} {rm : Room} (hown : s.vm.findClass own = some m.cls)
    (w1 : (Cond.methodLink own index y).before a0 Z = true) (w2 : (Cond.static y).before a0 Z = true) (w3 : (Cond.initialized y.cls).before a0 Z = true) (w4 : (Cond.code y bytes maxL ret).before a0 Z = true) (hy : y.cls ≠ "java/lang/invoke/MethodHandle" ∧ y.cls ≠ "java/lang/invoke/VarHandle")
    (argsL rest : List Value) (W : Nat) {r : Value} (hM : own_Met l y bytes maxL ret [] rm Z argsL.toArray h (own_R (some r) h)) (hf : rm.frames + 1 ≤ R.frames) (hl : W + (maxL + 11) + rm.locals ≤ R.locals) (hc0 : rm.cells = 0) (hs0 : rm.slots = 0) (eT : T.heap = h) {pc : Nat} {Ls : Array Slot} (hsize : Ls.size = c.maxLocals)
    (hlen : ∀ sig, parseMethodDescriptor y.desc = some sig → argsL.length = sig.parameters.length) (hW : 2 * 0 + (rest.map fun v => v.category).sum ≤ W) (hd : decode c.code pc = .ok (.invokestatic index, 3)) (pc' : Nat) (hp : pc + 3 = pc') {St : List Value} (hs : St = argsL.reverse ++ rest) (hC : cells ≤ R.cells) (hN : slots ≤ R.slots)
    (k : ∀ T', Stand p l e R s m args below meth c T' locs cells slots → T'.heap = h → own_Go p.tables e below F (T'.setTop (mkF m pc' Ls (r :: rest)))) : own_Go p.tables e below F (T.setTop (mkF m pc Ls St)) := by
  subst hp hs
  obtain ⟨v, T', L, X', ⟨q1, q2, q3⟩, st⟩ := own_callS X hx hZ hown w1 w2 w3 w4 hy argsL rest W hM hf hl eT hsize hlen hW hd (by rw [hc0]; exact hC) (by rw [hs0]; exact hN)
  subst q1
  exact own_by st (k T' (own_same hc0 hs0 X' q3) q2)
theorem own_pureV (X : Stand p l e R s m args below meth c T locs cells slots) (hx : p.tables.exec = Jvm.exec) {F : State → Prop} (hZ : Z.Warmed39 s.vm) {own C : String} {index : Nat} {y z : MethodName} {bytes : ByteArray} {maxL : Nat} {ret : Option FieldType} {rm : Room} (hown : s.vm.findClass own = some m.cls)
    (w1 : (Cond.methodLink own index y).before a0 Z = true) (w2 : (Cond.declares y).before a0 Z = true) (hnf : NotFace s y) (w3 : (Cond.selects C y z).before a0 Z = true) (w4 : (Cond.instanceMethod z).before a0 Z = true) (w5 : (Cond.initialized z.cls).before a0 Z = true) (w6 : (Cond.code z bytes maxL ret).before a0 Z = true) (hy : y.cls ≠ "java/lang/invoke/MethodHandle" ∧ y.cls ≠ "java/lang/invoke/VarHandle")
    (b : Addr) (argsL rest : List Value) (W : Nat) {r : Value} (hM : own_Met l z bytes maxL ret [] rm Z (.ref b :: argsL).toArray h (own_R (some r) h)) (hf : rm.frames + 1 ≤ R.frames) (hl : W + (maxL + 11) + rm.locals ≤ R.locals) (hc0 : rm.cells = 0) (hs0 : rm.slots = 0) (eT : T.heap = h) (E : Exa Z h b C) {pc : Nat} {Ls : Array Slot} (hsize : Ls.size = c.maxLocals)
    (hlen : ∀ sig, parseMethodDescriptor y.desc = some sig → argsL.length = sig.parameters.length) (hW : 2 * 0 + (rest.map fun v => v.category).sum ≤ W) (hd : decode c.code pc = .ok (.invokevirtual index, 3)) (pc' : Nat) (hp : pc + 3 = pc') {St : List Value} (hs : St = argsL.reverse ++ .ref b :: rest) (hC : cells ≤ R.cells) (hN : slots ≤ R.slots)
    (k : ∀ T', Stand p l e R s m args below meth c T' locs cells slots → T'.heap = h → own_Go p.tables e below F (T'.setTop (mkF m pc' Ls (r :: rest)))) : own_Go p.tables e below F (T.setTop (mkF m pc Ls St)) := by
  subst hp hs
  obtain ⟨v, T', L, X', ⟨q1, q2, q3⟩, st⟩ := own_callV X hx hZ hown w1 w2 hnf w3 w4 w5 w6 hy b argsL rest W hM hf hl eT E hsize hlen hW hd (by rw [hc0]; exact hC) (by rw [hs0]; exact hN)
  subst q1
  exact own_by st (k T' (own_same hc0 hs0 X' q3) q2)
theorem own_pureU (X : Stand p l e R s m args below meth c T locs cells slots) (hx : p.tables.exec = Jvm.exec) {F : State → Prop} (hZ : Z.Warmed39 s.vm) {own C owner : String} {index : Nat} {x z : MethodName} {bytes : ByteArray} {maxL : Nat} {ret : Option FieldType} {rm : Room} (hown : s.vm.findClass own = some m.cls)
    (w1 : (Cond.methodLink own index x).before a0 Z = true) (w2 : (Cond.sameMethod x.cls owner x.name x.desc).before a0 Z = true) (w2' : (Cond.declares ⟨owner, x.name, x.desc⟩).before a0 Z = true) (hy : owner ≠ "java/lang/invoke/MethodHandle" ∧ owner ≠ "java/lang/invoke/VarHandle") (w3 : (Cond.selects C x z).before a0 Z = true) (w4 : (Cond.instanceMethod z).before a0 Z = true) (w5 : (Cond.initialized z.cls).before a0 Z = true) (w6 : (Cond.code z bytes maxL ret).before a0 Z = true)
    (b : Addr) (argsL rest : List Value) (W : Nat) {r : Value} (hM : own_Met l z bytes maxL ret [] rm Z (.ref b :: argsL).toArray h (own_R (some r) h)) (hf : rm.frames + 1 ≤ R.frames) (hl : W + (maxL + 11) + rm.locals ≤ R.locals) (hc0 : rm.cells = 0) (hs0 : rm.slots = 0) (eT : T.heap = h) (E : Exa Z h b C) {pc : Nat} {Ls : Array Slot} (hsize : Ls.size = c.maxLocals)
    (hlen : ∀ sig, parseMethodDescriptor x.desc = some sig → argsL.length = sig.parameters.length) (hW : 2 * 0 + (rest.map fun v => v.category).sum ≤ W) (hd : decode c.code pc = .ok (.invokevirtual index, 3)) (pc' : Nat) (hp : pc + 3 = pc') {St : List Value} (hs : St = argsL.reverse ++ .ref b :: rest) (hC : cells ≤ R.cells) (hN : slots ≤ R.slots)
    (k : ∀ T', Stand p l e R s m args below meth c T' locs cells slots → T'.heap = h → own_Go p.tables e below F (T'.setTop (mkF m pc' Ls (r :: rest)))) : own_Go p.tables e below F (T.setTop (mkF m pc Ls St)) := by
  subst hp hs
  obtain ⟨v, T', L, X', ⟨q1, q2, q3⟩, st⟩ := own_callU X hx hZ hown w1 w2 w2' hy w3 w4 w5 w6 b argsL rest W hM hf hl eT E hsize hlen hW hd (by rw [hc0]; exact hC) (by rw [hs0]; exact hN)
  subst q1
  exact own_by st (k T' (own_same hc0 hs0 X' q3) q2)
theorem own_voidS (X : Stand p l e R s m args below meth c T locs cells slots) (hx : p.tables.exec = Jvm.exec) {F : State → Prop} (hZ : Z.Warmed39 s.vm) {own : String} {index : Nat} {y : MethodName} {bytes : ByteArray} {maxL : Nat} {ret : Option FieldType} {rm : Room} (hown : s.vm.findClass own = some m.cls)
    (w1 : (Cond.methodLink own index y).before a0 Z = true) (w2 : (Cond.static y).before a0 Z = true) (w3 : (Cond.initialized y.cls).before a0 Z = true) (w4 : (Cond.code y bytes maxL ret).before a0 Z = true) (hy : y.cls ≠ "java/lang/invoke/MethodHandle" ∧ y.cls ≠ "java/lang/invoke/VarHandle")
    (argsL rest : List Value) (W : Nat) (hM : own_Met l y bytes maxL ret [] rm Z argsL.toArray h (own_R none h)) (hf : rm.frames + 1 ≤ R.frames) (hl : W + (maxL + 11) + rm.locals ≤ R.locals) (hc0 : rm.cells = 0) (hs0 : rm.slots = 0) (eT : T.heap = h) {pc : Nat} {Ls : Array Slot} (hsize : Ls.size = c.maxLocals)
    (hlen : ∀ sig, parseMethodDescriptor y.desc = some sig → argsL.length = sig.parameters.length) (hW : 2 * 0 + (rest.map fun v => v.category).sum ≤ W) (hd : decode c.code pc = .ok (.invokestatic index, 3)) (pc' : Nat) (hp : pc + 3 = pc') {St : List Value} (hs : St = argsL.reverse ++ rest) (hC : cells ≤ R.cells) (hN : slots ≤ R.slots)
    (k : ∀ T', Stand p l e R s m args below meth c T' locs cells slots → T'.heap = h → own_Go p.tables e below F (T'.setTop (mkF m pc' Ls rest))) : own_Go p.tables e below F (T.setTop (mkF m pc Ls St)) := by
  subst hp hs
  obtain ⟨v, T', L, X', ⟨q1, q2, q3⟩, st⟩ := own_callS X hx hZ hown w1 w2 w3 w4 hy argsL rest W hM hf hl eT hsize hlen hW hd (by rw [hc0]; exact hC) (by rw [hs0]; exact hN)
  subst q1
  exact own_by st (k T' (own_same hc0 hs0 X' q3) q2)
theorem own_voidV (X : Stand p l e R s m args below meth c T locs cells slots) (hx : p.tables.exec = Jvm.exec) {F : State → Prop} (hZ : Z.Warmed39 s.vm) {own C : String} {index : Nat} {y z : MethodName} {bytes : ByteArray} {maxL : Nat} {ret : Option FieldType} {rm : Room} (hown : s.vm.findClass own = some m.cls)
    (w1 : (Cond.methodLink own index y).before a0 Z = true) (w2 : (Cond.declares y).before a0 Z = true) (hnf : NotFace s y) (w3 : (Cond.selects C y z).before a0 Z = true) (w4 : (Cond.instanceMethod z).before a0 Z = true) (w5 : (Cond.initialized z.cls).before a0 Z = true) (w6 : (Cond.code z bytes maxL ret).before a0 Z = true) (hy : y.cls ≠ "java/lang/invoke/MethodHandle" ∧ y.cls ≠ "java/lang/invoke/VarHandle")
    (b : Addr) (argsL rest : List Value) (W : Nat) (hM : own_Met l z bytes maxL ret [] rm Z (.ref b :: argsL).toArray h (own_R none h)) (hf : rm.frames + 1 ≤ R.frames) (hl : W + (maxL + 11) + rm.locals ≤ R.locals) (hc0 : rm.cells = 0) (hs0 : rm.slots = 0) (eT : T.heap = h) (E : Exa Z h b C) {pc : Nat} {Ls : Array Slot} (hsize : Ls.size = c.maxLocals)
    (hlen : ∀ sig, parseMethodDescriptor y.desc = some sig → argsL.length = sig.parameters.length) (hW : 2 * 0 + (rest.map fun v => v.category).sum ≤ W) (hd : decode c.code pc = .ok (.invokevirtual index, 3)) (pc' : Nat) (hp : pc + 3 = pc') {St : List Value} (hs : St = argsL.reverse ++ .ref b :: rest) (hC : cells ≤ R.cells) (hN : slots ≤ R.slots)
    (k : ∀ T', Stand p l e R s m args below meth c T' locs cells slots → T'.heap = h → own_Go p.tables e below F (T'.setTop (mkF m pc' Ls rest))) : own_Go p.tables e below F (T.setTop (mkF m pc Ls St)) := by
  subst hp hs
  obtain ⟨v, T', L, X', ⟨q1, q2, q3⟩, st⟩ := own_callV X hx hZ hown w1 w2 hnf w3 w4 w5 w6 hy b argsL rest W hM hf hl eT E hsize hlen hW hd (by rw [hc0]; exact hC) (by rw [hs0]; exact hN)
  subst q1
  exact own_by st (k T' (own_same hc0 hs0 X' q3) q2)
theorem own_voidN (X : Stand p l e R s m args below meth c T locs cells slots) (hx : p.tables.exec = Jvm.exec) {F : State → Prop} (hZ : Z.Warmed39 s.vm) {own : String} {index : Nat} {y : MethodName} {bytes : ByteArray} {maxL : Nat} {rm : Room} (hy1 : y.name = "<init>") (hown : s.vm.findClass own = some m.cls)
    (w1 : (Cond.methodLink own index y).before a0 Z = true) (w4 : (Cond.instanceMethod y).before a0 Z = true) (w5 : (Cond.initialized y.cls).before a0 Z = true) (w6 : (Cond.code y bytes maxL none).before a0 Z = true) (hy : y.cls ≠ "java/lang/invoke/MethodHandle" ∧ y.cls ≠ "java/lang/invoke/VarHandle")
    (b : Addr) (argsL rest : List Value) (W : Nat) (hM : own_Met l y bytes maxL none [] rm Z (.ref b :: argsL).toArray h (own_R none h)) (hf : rm.frames + 1 ≤ R.frames) (hl : W + (maxL + 11) + rm.locals ≤ R.locals) (hc0 : rm.cells = 0) (hs0 : rm.slots = 0) (eT : T.heap = h) {pc : Nat} {Ls : Array Slot} (hsize : Ls.size = c.maxLocals)
    (hlen : ∀ sig, parseMethodDescriptor y.desc = some sig → argsL.length = sig.parameters.length) (hW : 2 * 0 + (rest.map fun v => v.category).sum ≤ W) (hd : decode c.code pc = .ok (.invokespecial index, 3)) (pc' : Nat) (hp : pc + 3 = pc') {St : List Value} (hs : St = argsL.reverse ++ .ref b :: rest) (hC : cells ≤ R.cells) (hN : slots ≤ R.slots)
    (k : ∀ T', Stand p l e R s m args below meth c T' locs cells slots → T'.heap = h → own_Go p.tables e below F (T'.setTop (mkF m pc' Ls rest))) : own_Go p.tables e below F (T.setTop (mkF m pc Ls St)) := by
  subst hp hs
  obtain ⟨v, T', L, X', ⟨q1, q2, q3⟩, st⟩ := own_callN X hx hZ hy1 hown w1 w4 w5 w6 hy b argsL rest W hM hf hl eT hsize hlen hW hd (by rw [hc0]; exact hC) (by rw [hs0]; exact hN)
  subst q1
  exact own_by st (k T' (own_same hc0 hs0 X' q3) q2)
def own_Q0 (n0 : Nat) (v : Option Value) (h : Heap) (L : List Loc) : Prop := v = some (.int 1) ∧ Fr n0 L
end OwnHead
section OwnHeap
variable {p : Program} {l : Launch} {e : Env} {R : Room} {s : State} {m : MethodId} {args : Array Value} {below : List Frame} {meth : Method} {c : Code} {T : State} {locs : List Loc} {cells slots : Nat} {Z : State} {a0 : Array Value} {h : Heap}
theorem own_osz {n0 : Nat} (O : Old Z n0 h) : n0 ≤ h.size := O.1 ▸ O.2.1
theorem own_newO (X : Stand p l e R s m args below meth c T locs cells slots) (hx : p.tables.exec = Jvm.exec) {F : State → Prop} {pc : Nat} {Ls : Array Slot} {St : List Value} (hZ : Z.Warmed39 s.vm) {own C : String} {i n : Nat} (hown : s.vm.findClass own = some m.cls) (w : (Cond.classLink own i C).before a0 Z = true) (wi : (Cond.instantiable C n).before a0 Z = true) (wz : (Cond.initialized C).before a0 Z = true) (eT : T.heap = h)
    (hd : decode c.code pc = .ok (.new i, 3)) (pc' : Nat) (hp : pc + 3 = pc') (hC : cells + 1 ≤ R.cells) (hN : slots + n ≤ R.slots)
    (k : ∀ (T' : State) (a : Addr), h.size = a → Stand p l e R s m args below meth c T' locs (cells + 1) (slots + n) → Ext h T'.heap → Exa Z T'.heap a C → (∀ {O nm d : String} {ty : FieldType}, Laid Z a0 C O nm d → parseFieldDescriptor d = some ty → Fld Z T'.heap a O nm d (defaultValue ty)) → own_Go p.tables e below F (T'.setTop (mkF m pc' Ls (.ref a :: St)))) :
    own_Go p.tables e below F (T.setTop (mkF m pc Ls St)) := by
  subst hp
  obtain ⟨T', h', X', e', E, A, D, -, st⟩ := newO X hx hZ hown w wi wz eT (g := mkF m pc Ls St) rfl hd hC hN
  subst e'
  exact own_by st (k T' h.size rfl X' E A fun q r => D q r)
theorem own_fo {h h' : Heap} {a b : Addr} {sl : Nat} {v w : Value} {C n d : String} (F : Fld Z h b C n d w) (W : Wr h h' a sl v) (q : a ≠ b) : Fld Z h' b C n d w := F.other W (Or.inl q.symm)
theorem own_vo {h h' : Heap} {a b : Addr} {k : ClassId} {ty : FieldType} {z : Int32} {vs : List Value} {dv : Value} {sl : Nat} {v : Value} (F : Arv Z h b k ty z vs dv) (W : Wr h h' a sl v) (q : a ≠ b) : Arv Z h' b k ty z vs dv := F.other W q.symm
theorem own_nl {a b n k : Nat} (h1 : a < n) (h2 : n ≤ k) (h3 : k ≤ b) : a ≠ b := Nat.ne_of_lt (Nat.lt_of_lt_of_le h1 (Nat.le_trans h2 h3))
theorem own_putF (X : Stand p l e R s m args below meth c T locs cells slots) (hx : p.tables.exec = Jvm.exec) {F : State → Prop} {pc : Nat} {Ls : Array Slot} {St : List Value} (hZ : Z.Warmed39 s.vm) {own R0 O n d host C : String} {i kk : Nat} {ty : FieldType} (hown : s.vm.findClass own = some m.cls)
    (w : (Cond.fieldLink own i R0 n d).before a0 Z = true ∨ (Cond.fieldLinkNest own i R0 n d host).before a0 Z = true) (via : Via Z R0 O n d) (eT : T.heap = h) {a : Addr} {v old : Value} (G : Fld Z h a O n d old) (E : Exa Z h a C) (L : (Cond.lays C O n d).before a0 Z = true ∨ ((Cond.laysFinal C O n d).before a0 Z = true ∧ own = O ∧ meth.name = "<init>")) (wi : (Cond.instantiable C kk).before a0 Z = true)
    (hty : parseFieldDescriptor d = some ty) (hn : narrow ty v = v) (hf : fits ty v = true) (hd : decode c.code pc = .ok (.putfield i, 3)) (pc' : Nat) (hp : pc + 3 = pc')
    (k : ∀ (T' : State), Stand p l e R s m args below meth c T' (locs ++ [⟨a, Jvm.RoadKit.slotOf Z O n d⟩]) cells slots → Wr h T'.heap a (Jvm.RoadKit.slotOf Z O n d) v → own_Go p.tables e below F (T'.setTop (mkF m pc' Ls St))) :
    own_Go p.tables e below F (T.setTop (mkF m pc Ls (v :: .ref a :: St))) := by
  subst hp
  obtain ⟨T', h', X', e', W, st⟩ := putF X hx hZ hown w via eT G E L wi hty hn hf (g := mkF m pc Ls (v :: .ref a :: St)) rfl rfl hd
  subst e'
  exact own_by st (k T' X' W)
theorem own_putFN (X : Stand p l e R s m args below meth c T locs cells slots) (hx : p.tables.exec = Jvm.exec) {F : State → Prop} {pc : Nat} {Ls : Array Slot} {St : List Value} (hZ : Z.Warmed39 s.vm) {own R0 O n d C : String} {i kk : Nat} {ty : FieldType} (hown : s.vm.findClass own = some m.cls)
    (w : (Cond.fieldLink own i R0 n d).before a0 Z = true) (via : Via Z R0 O n d) (eT : T.heap = h) {a : Addr} {v old : Value} (v' : Value) (G : Fld Z h a O n d old) (E : Exa Z h a C) (L : (Cond.lays C O n d).before a0 Z = true ∨ ((Cond.laysFinal C O n d).before a0 Z = true ∧ own = O ∧ meth.name = "<init>")) (wi : (Cond.instantiable C kk).before a0 Z = true)
    (hty : parseFieldDescriptor d = some ty) (hn : narrow ty v = v') (hf : fits ty v' = true) (hd : decode c.code pc = .ok (.putfield i, 3)) (pc' : Nat) (hp : pc + 3 = pc')
    (k : ∀ (T' : State), Stand p l e R s m args below meth c T' (locs ++ [⟨a, Jvm.RoadKit.slotOf Z O n d⟩]) cells slots → Wr h T'.heap a (Jvm.RoadKit.slotOf Z O n d) v' → own_Go p.tables e below F (T'.setTop (mkF m pc' Ls St))) :
    own_Go p.tables e below F (T.setTop (mkF m pc Ls (v :: .ref a :: St))) := by
  subst hp
  obtain ⟨T', h', X', e', W, st⟩ := putFN X hx hZ hown w via eT G E L wi hty hn hf (g := mkF m pc Ls (v :: .ref a :: St)) rfl rfl hd
  subst e'
  exact own_by st (k T' X' W)
theorem own_initO (X : Stand p l e R s m args below meth c T locs cells slots) (hx : p.tables.exec = Jvm.exec) {F : State → Prop} {pc : Nat} {Ls : Array Slot} {St : List Value} (hZ : Z.Warmed39 s.vm) {own : String} {i : Nat} (hown : s.vm.findClass own = some m.cls) (w1 : (Cond.methodLink own i Lib.objectInit).before a0 Z = true) (w2 : (Cond.instanceMethod Lib.objectInit).before a0 Z = true)
    (w3 : (Cond.code Lib.objectInit ⟨#[0xb1]⟩ 1 none).before a0 Z = true) (eT : T.heap = h) (hsize : Ls.size = c.maxLocals) {a : Addr} (hd : decode c.code pc = .ok (.invokespecial i, 3)) (hf : 1 ≤ R.frames) (W : Nat) (hW : 2 * 0 + (St.map fun v => v.category).sum ≤ W) (hl : W + 12 ≤ R.locals) (pc' : Nat) (hp : pc + 3 = pc')
    (k : ∀ T', Stand p l e R s m args below meth c T' locs cells slots → T'.heap = h → own_Go p.tables e below F (T'.setTop (mkF m pc' Ls St))) : own_Go p.tables e below F (T.setTop (mkF m pc Ls (.ref a :: St))) := by
  subst hp
  obtain ⟨T', X', e', st⟩ := initO X hx hZ hown w1 w2 w3 eT (g := mkF m pc Ls (.ref a :: St)) rfl hsize rfl hd hf hW hl
  exact own_by st (k T' X' e')
theorem own_newP (X : Stand p l e R s m args below meth c T locs cells slots) (hx : p.tables.exec = Jvm.exec) {F : State → Prop} {pc : Nat} {Ls : Array Slot} {St : List Value} (hZ : Z.Warmed39 s.vm) {aty : ArrayType} (w : (Cond.arrayClass (newarray.typeOf aty)).before a0 Z = true) (eT : T.heap = h) (hd : decode c.code pc = .ok (.newarray aty, 2)) {n : Int32}
    (hn : ¬ n < 0) (cap : Nat) (hcap : n.toNatClampNeg ≤ cap) (hb : cap * 8 ≤ 536870912) (hC : cells + 1 ≤ R.cells) (hN : slots + cap ≤ R.slots) (ad : String) (had : "[" ++ (newarray.typeOf aty).toString = ad) (pc' : Nat) (hp : pc + 2 = pc')
    (k : ∀ (T' : State) (a : Addr) (cA : ClassId), h.size = a → Stand p l e R s m args below meth c T' locs (cells + 1) (slots + cap) → Ext h T'.heap → Arv Z T'.heap a cA (newarray.typeOf aty) n [] (defaultValue (newarray.typeOf aty)) → Exa Z T'.heap a ad → own_Go p.tables e below F (T'.setTop (mkF m pc' Ls (.ref a :: St)))) :
    own_Go p.tables e below F (T.setTop (mkF m pc Ls (.int n :: St))) := by
  subst hp
  obtain ⟨T', h', cA, X', e', E, A, D, st⟩ := newPE X hx hZ w eT (g := mkF m pc Ls (.int n :: St)) rfl hd rfl hn hcap hb hC hN had
  subst e'
  exact own_by st (k T' h.size cA rfl X' E (Arv.new A hn) D)
theorem own_newR (X : Stand p l e R s m args below meth c T locs cells slots) (hx : p.tables.exec = Jvm.exec) {F : State → Prop} {pc : Nat} {Ls : Array Slot} {St : List Value} (hZ : Z.Warmed39 s.vm) {own C : String} {i : Nat} (hown : s.vm.findClass own = some m.cls) (w1 : (Cond.classLink own i C).before a0 Z = true) (w2 : (Cond.arrayOver (.object C)).before a0 Z = true) (eT : T.heap = h) (hd : decode c.code pc = .ok (.anewarray i, 3)) {n : Int32}
    (hn : ¬ n < 0) (cap : Nat) (hcap : n.toNatClampNeg ≤ cap) (hb : cap * 8 ≤ 536870912) (hC : cells + 1 ≤ R.cells) (hN : slots + cap ≤ R.slots) (ad : String) (had : "[" ++ (FieldType.object C).toString = ad) (pc' : Nat) (hp : pc + 3 = pc')
    (k : ∀ (T' : State) (a : Addr) (cA : ClassId), h.size = a → Stand p l e R s m args below meth c T' locs (cells + 1) (slots + cap) → Ext h T'.heap → Arv Z T'.heap a cA (.object C) n [] .null → Exa Z T'.heap a ad → Ovr Z cA C → own_Go p.tables e below F (T'.setTop (mkF m pc' Ls (.ref a :: St)))) :
    own_Go p.tables e below F (T.setTop (mkF m pc Ls (.int n :: St))) := by
  subst hp
  obtain ⟨T', h', cA, X', e', E, A, D, O, st⟩ := newRE X hx hZ hown w1 w2 eT (g := mkF m pc Ls (.int n :: St)) rfl hd rfl hn hcap hb hC hN had
  subst e'
  exact own_by st (k T' h.size cA rfl X' E (Arv.new A hn) D O)
theorem own_newRA (X : Stand p l e R s m args below meth c T locs cells slots) (hx : p.tables.exec = Jvm.exec) {F : State → Prop} {pc : Nat} {Ls : Array Slot} {St : List Value} (hZ : Z.Warmed39 s.vm) {own C : String} {ty : FieldType} {i : Nat} (hown : s.vm.findClass own = some m.cls) (hCn : (FieldType.array ty).toString = C) (w1 : (Cond.classLink own i C).before a0 Z = true) (w2 : (Cond.arrayOver (.array ty)).before a0 Z = true) (eT : T.heap = h) (hd : decode c.code pc = .ok (.anewarray i, 3)) {n : Int32}
    (hn : ¬ n < 0) (cap : Nat) (hcap : n.toNatClampNeg ≤ cap) (hb : cap * 8 ≤ 536870912) (hC : cells + 1 ≤ R.cells) (hN : slots + cap ≤ R.slots) (ad : String) (had : "[" ++ C = ad) (pc' : Nat) (hp : pc + 3 = pc')
    (k : ∀ (T' : State) (a : Addr) (cA : ClassId), h.size = a → Stand p l e R s m args below meth c T' locs (cells + 1) (slots + cap) → Ext h T'.heap → Arv Z T'.heap a cA (.array ty) n [] .null → Exa Z T'.heap a ad → OvrA Z cA ty C → own_Go p.tables e below F (T'.setTop (mkF m pc' Ls (.ref a :: St)))) :
    own_Go p.tables e below F (T.setTop (mkF m pc Ls (.int n :: St))) := by
  subst hp
  obtain ⟨T', h', cA, X', e', E, A, D, O, st⟩ := newRA X hx hZ hown hCn w1 w2 eT (g := mkF m pc Ls (.int n :: St)) rfl hd rfl hn hcap hb hC hN had
  subst e'
  exact own_by st (k T' h.size cA rfl X' E (Arv.new A hn) D O)
theorem own_iastore (X : Stand p l e R s m args below meth c T locs cells slots) (hx : p.tables.exec = Jvm.exec) {F : State → Prop} {pc : Nat} {Ls : Array Slot} {St : List Value} (hZ : Z.Warmed39 s.vm) (eT : T.heap = h) {a : Addr} {ka : ClassId} {n j x : Int32} {vs : List Value} {dv : Value} (V : Arv Z h a ka .int n vs dv) (i : Nat) (hj : j.toNatClampNeg = i) (hb : ¬ j < 0 ∧ j < n) (hi : i < vs.length) (vs' : List Value) (hvs : vs.set i (.int x) = vs')
    (hd : decode c.code pc = .ok (.iastore, 1)) (pc' : Nat) (hp : pc + 1 = pc') (k : ∀ (T' : State), Stand p l e R s m args below meth c T' (locs ++ [⟨a, j.toNatClampNeg⟩]) cells slots → Wr h T'.heap a j.toNatClampNeg (.int x) → Arv Z T'.heap a ka .int n vs' dv → own_Go p.tables e below F (T'.setTop (mkF m pc' Ls St))) :
    own_Go p.tables e below F (T.setTop (mkF m pc Ls (.int x :: .int j :: .ref a :: St))) := by
  subst hp hvs
  obtain ⟨cl, A, q1, S, N, H, G⟩ := V
  obtain ⟨T', h', X', e', W, st⟩ := stI X hx hZ eT A (j := j) (inb_of S hb) (g := mkF m pc Ls (.int x :: .int j :: .ref a :: St)) rfl rfl hd
  subst e'
  exact own_by st (k T' X' W (Arv.set A q1 S N H G rfl W i hj hi))
theorem own_lastore (X : Stand p l e R s m args below meth c T locs cells slots) (hx : p.tables.exec = Jvm.exec) {F : State → Prop} {pc : Nat} {Ls : Array Slot} {St : List Value} (hZ : Z.Warmed39 s.vm) (eT : T.heap = h) {a : Addr} {ka : ClassId} {n j : Int32} {x : Int64} {vs : List Value} {dv : Value} (V : Arv Z h a ka .long n vs dv) (i : Nat) (hj : j.toNatClampNeg = i) (hb : ¬ j < 0 ∧ j < n) (hi : i < vs.length) (vs' : List Value) (hvs : vs.set i (.long x) = vs')
    (hd : decode c.code pc = .ok (.lastore, 1)) (pc' : Nat) (hp : pc + 1 = pc') (k : ∀ (T' : State), Stand p l e R s m args below meth c T' (locs ++ [⟨a, j.toNatClampNeg⟩]) cells slots → Wr h T'.heap a j.toNatClampNeg (.long x) → Arv Z T'.heap a ka .long n vs' dv → own_Go p.tables e below F (T'.setTop (mkF m pc' Ls St))) :
    own_Go p.tables e below F (T.setTop (mkF m pc Ls (.long x :: .int j :: .ref a :: St))) := by
  subst hp hvs
  obtain ⟨cl, A, q1, S, N, H, G⟩ := V
  obtain ⟨T', h', X', e', W, st⟩ := stJ X hx hZ eT A (j := j) (inb_of S hb) (g := mkF m pc Ls (.long x :: .int j :: .ref a :: St)) rfl rfl hd
  subst e'
  exact own_by st (k T' X' W (Arv.set A q1 S N H G rfl W i hj hi))
theorem own_aastore (X : Stand p l e R s m args below meth c T locs cells slots) (hx : p.tables.exec = Jvm.exec) {F : State → Prop} {pc : Nat} {Ls : Array Slot} {St : List Value} (hZ : Z.Warmed39 s.vm) (eT : T.heap = h) {a : Addr} {ka : ClassId} {ty : FieldType} {n j : Int32} {v : Value} {vs : List Value} {dv : Value} (V : Arv Z h a ka ty n vs dv) (hty : ty.isReference = true) (hv : fits ty v = true) (so : ∀ cl : Cell, Arr Z h a cl ty → cl.cls = ka → Sto Z h a v) (i : Nat) (hj : j.toNatClampNeg = i) (hb : ¬ j < 0 ∧ j < n) (hi : i < vs.length) (vs' : List Value) (hvs : vs.set i v = vs')
    (hd : decode c.code pc = .ok (.aastore, 1)) (pc' : Nat) (hp : pc + 1 = pc') (k : ∀ (T' : State), Stand p l e R s m args below meth c T' (locs ++ [⟨a, j.toNatClampNeg⟩]) cells slots → Wr h T'.heap a j.toNatClampNeg v → Arv Z T'.heap a ka ty n vs' dv → own_Go p.tables e below F (T'.setTop (mkF m pc' Ls St))) :
    own_Go p.tables e below F (T.setTop (mkF m pc Ls (v :: .int j :: .ref a :: St))) := by
  subst hp hvs
  obtain ⟨cl, A, q1, S, N, H, G⟩ := V
  obtain ⟨T', h', X', e', W, st⟩ := stR X hx hZ eT A (j := j) (inb_of S hb) hty (so cl A q1) (g := mkF m pc Ls (v :: .int j :: .ref a :: St)) rfl rfl hd
  subst e'
  exact own_by st (k T' X' W (Arv.set A q1 S N H G hv W i hj hi))
theorem own_iaload (X : Stand p l e R s m args below meth c T locs cells slots) (hx : p.tables.exec = Jvm.exec) {F : State → Prop} {pc : Nat} {Ls : Array Slot} {St : List Value} (hZ : Z.Warmed39 s.vm) (eT : T.heap = h) {a : Addr} {ka : ClassId} {n j : Int32} {vs : List Value} {dv : Value} (V : Arv Z h a ka .int n vs dv) (v : Value) (hb : ¬ j < 0 ∧ j < n) (u : vs.getD j.toNatClampNeg dv = v) (hd : decode c.code pc = .ok (.iaload, 1)) (pc' : Nat) (hp : pc + 1 = pc')
    (k : own_Go p.tables e below F (T.setTop (mkF m pc' Ls (v :: St)))) : own_Go p.tables e below F (T.setTop (mkF m pc Ls (.int j :: .ref a :: St))) := by
  subst hp
  obtain ⟨cl, A, q1, S, N, H, G⟩ := V
  exact own_by (fun _ q => X.iaload hx (j := j) (v := v) (by rw [eT]; exact A.1) (State.isArrayOf_alike hZ.alike A.2.1) A.2.2 (inb_of S hb) (H.at (inb_of S hb) u) (g := mkF m pc Ls (.int j :: .ref a :: St)) rfl rfl hd _ q) k
theorem own_laload (X : Stand p l e R s m args below meth c T locs cells slots) (hx : p.tables.exec = Jvm.exec) {F : State → Prop} {pc : Nat} {Ls : Array Slot} {St : List Value} (hZ : Z.Warmed39 s.vm) (eT : T.heap = h) {a : Addr} {ka : ClassId} {n j : Int32} {vs : List Value} {dv : Value} (V : Arv Z h a ka .long n vs dv) (v : Value) (hb : ¬ j < 0 ∧ j < n) (u : vs.getD j.toNatClampNeg dv = v) (hd : decode c.code pc = .ok (.laload, 1)) (pc' : Nat) (hp : pc + 1 = pc')
    (k : own_Go p.tables e below F (T.setTop (mkF m pc' Ls (v :: St)))) : own_Go p.tables e below F (T.setTop (mkF m pc Ls (.int j :: .ref a :: St))) := by
  subst hp
  obtain ⟨cl, A, q1, S, N, H, G⟩ := V
  exact own_by (fun _ q => X.laload hx (j := j) (v := v) (by rw [eT]; exact A.1) (State.isArrayOf_alike hZ.alike A.2.1) A.2.2 (inb_of S hb) (H.at (inb_of S hb) u) (g := mkF m pc Ls (.int j :: .ref a :: St)) rfl rfl hd _ q) k
theorem own_aaload (X : Stand p l e R s m args below meth c T locs cells slots) (hx : p.tables.exec = Jvm.exec) {F : State → Prop} {pc : Nat} {Ls : Array Slot} {St : List Value} (hZ : Z.Warmed39 s.vm) (eT : T.heap = h) {a : Addr} {ka : ClassId} {ty : FieldType} {n j : Int32} {vs : List Value} {dv : Value} (V : Arv Z h a ka ty n vs dv) (hty : ty.isReference = true) (v : Value) (hb : ¬ j < 0 ∧ j < n) (u : vs.getD j.toNatClampNeg dv = v) (hd : decode c.code pc = .ok (.aaload, 1)) (pc' : Nat) (hp : pc + 1 = pc')
    (k : own_Go p.tables e below F (T.setTop (mkF m pc' Ls (v :: St)))) : own_Go p.tables e below F (T.setTop (mkF m pc Ls (.int j :: .ref a :: St))) := by
  subst hp
  obtain ⟨cl, A, q1, S, N, H, G⟩ := V
  exact own_by (fun _ q => X.aaload hx (j := j) (v := v) (by rw [eT]; exact A.1) (State.isArrayOf_alike hZ.alike A.2.1) hty A.2.2 (inb_of S hb) (H.at (inb_of S hb) u) (g := mkF m pc Ls (.int j :: .ref a :: St)) rfl rfl hd _ q) k
theorem own_alen (X : Stand p l e R s m args below meth c T locs cells slots) (hx : p.tables.exec = Jvm.exec) {F : State → Prop} {pc : Nat} {Ls : Array Slot} {St : List Value} (hZ : Z.Warmed39 s.vm) (eT : T.heap = h) {a : Addr} {ka : ClassId} {ty : FieldType} {n : Int32} {vs : List Value} {dv : Value} (V : Arv Z h a ka ty n vs dv) (hd : decode c.code pc = .ok (.arraylength, 1)) (pc' : Nat) (hp : pc + 1 = pc')
    (k : own_Go p.tables e below F (T.setTop (mkF m pc' Ls (.int n :: St)))) : own_Go p.tables e below F (T.setTop (mkF m pc Ls (.ref a :: St))) := by
  subst hp
  obtain ⟨cl, A, q1, S, N, H, G⟩ := V
  refine own_by (fun _ q => X.arraylength hx (by rw [eT]; exact A.1) (State.isArrayOf_alike hZ.alike A.2.1) (g := mkF m pc Ls (.ref a :: St)) rfl rfl hd _ q) ?_
  rw [len_of S N]
  exact k
theorem own_ldc2 (X : Stand p l e R s m args below meth c T locs cells slots) (hx : p.tables.exec = Jvm.exec) {F : State → Prop} {pc : Nat} {Ls : Array Slot} {St : List Value} (hZ : Z.Warmed39 s.vm) {own : String} {i : Nat} {z : Int64} (hown : s.vm.findClass own = some m.cls) (w : (Cond.constantLong own i z).before a0 Z = true) (hd : decode c.code pc = .ok (.ldc2_w i, 3)) (pc' : Nat) (hp : pc + 3 = pc')
    (k : own_Go p.tables e below F (T.setTop (mkF m pc' Ls (.long z :: St)))) : own_Go p.tables e below F (T.setTop (mkF m pc Ls St)) := by
  subst hp
  exact own_by (fun _ q => X.ldc2Long hx hown (mvT hZ w) (g := mkF m pc Ls St) rfl hd _ q) k
theorem own_cast (X : Stand p l e R s m args below meth c T locs cells slots) (hx : p.tables.exec = Jvm.exec) {F : State → Prop} {pc : Nat} {Ls : Array Slot} {St : List Value} (hZ : Z.Warmed39 s.vm) {own K : String} {i : Nat} (hown : s.vm.findClass own = some m.cls) (w : (Cond.classLink own i K).before a0 Z = true) (eT : T.heap = h) {a : Addr} (I : Ins Z h a K true) (hd : decode c.code pc = .ok (.checkcast i, 3)) (pc' : Nat) (hp : pc + 3 = pc')
    (k : ∀ T', Stand p l e R s m args below meth c T' locs cells slots → T'.heap = h → own_Go p.tables e below F (T'.setTop (mkF m pc' Ls (.ref a :: St)))) : own_Go p.tables e below F (T.setTop (mkF m pc Ls (.ref a :: St))) := by
  subst hp
  obtain ⟨T', X', e', st⟩ := castY X hx hZ hown w eT I (g := mkF m pc Ls (.ref a :: St)) rfl rfl hd
  exact own_by st (k T' X' e')
theorem own_instY (X : Stand p l e R s m args below meth c T locs cells slots) (hx : p.tables.exec = Jvm.exec) {F : State → Prop} {pc : Nat} {Ls : Array Slot} {St : List Value} (hZ : Z.Warmed39 s.vm) {own K : String} {i : Nat} (hown : s.vm.findClass own = some m.cls) (w : (Cond.classLink own i K).before a0 Z = true) (eT : T.heap = h) {a : Addr} (I : Ins Z h a K true) (hd : decode c.code pc = .ok (.instanceof i, 3)) (pc' : Nat) (hp : pc + 3 = pc')
    (k : ∀ T', Stand p l e R s m args below meth c T' locs cells slots → T'.heap = h → own_Go p.tables e below F (T'.setTop (mkF m pc' Ls (.int 1 :: St)))) : own_Go p.tables e below F (T.setTop (mkF m pc Ls (.ref a :: St))) := by
  subst hp
  obtain ⟨T', X', e', st⟩ := instY X hx hZ hown w eT I (g := mkF m pc Ls (.ref a :: St)) rfl rfl hd
  exact own_by st (k T' X' e')
theorem own_instNull (X : Stand p l e R s m args below meth c T locs cells slots) (hx : p.tables.exec = Jvm.exec) {F : State → Prop} {pc : Nat} {Ls : Array Slot} {St : List Value} {i : Nat} (hd : decode c.code pc = .ok (.instanceof i, 3)) (pc' : Nat) (hp : pc + 3 = pc')
    (k : own_Go p.tables e below F (T.setTop (mkF m pc' Ls (.int 0 :: St)))) : own_Go p.tables e below F (T.setTop (mkF m pc Ls (.null :: St))) := by
  subst hp
  exact own_by (fun _ q => X.instanceofNull hx (g := mkF m pc Ls (.null :: St)) rfl rfl hd _ q) k
/-- a static stands where only objects were written -/
theorem own_staKeep {C n d : String} {w : Value} {h' : Heap} {ws : List Addr} (S : Sta Z h C n d w) (K : Keep h h' ws) (q : ∀ x ∈ ws, ∀ cell : Cell, h[x]? = some cell → cell.vm.isStatics = false) : Sta Z h' C n d w := by
  obtain ⟨cf, i, k, f, st, cell, h1, h2, h3, h4, h5, h6, h7⟩ := S
  exact ⟨cf, i, k, f, st, cell, h1, h2, h3, h4, K.2.1 st cell h5 (fun y => by rw [q st y cell h5] at h6; cases h6), h6, h7⟩
end OwnHeap

theorem own_fldI {Z : State} {args : Array Value} {t : Term} {a : Addr} {C n d : String} {k : Int32} (ev : t.eval args Z none [] Z = some (.ref a)) (q : (Cond.eq (.field t C n d) (.int k)).value args Z none Z [] = some true) : Fld Z Z.heap a C n d (.int k) := by
  exact Fld.start ((fld_at ev).symm.trans (eqv_i (F := .int k) rfl q))
theorem own_fldN {Z : State} {args : Array Value} {t : Term} {a : Addr} {C n d : String} (ev : t.eval args Z none [] Z = some (.ref a)) (q : (Cond.eq (.field t C n d) .null).value args Z none Z [] = some true) : Fld Z Z.heap a C n d .null := by
  exact Fld.start ((fld_at ev).symm.trans (null_v q))
theorem own_fldR {Z : State} {args : Array Value} {t u : Term} {a b : Addr} {C n d : String} (ev : t.eval args Z none [] Z = some (.ref a)) (eu : u.eval args Z none [] Z = some (.ref b)) (q : (Cond.eq (.field t C n d) u).value args Z none Z [] = some true) : Fld Z Z.heap a C n d (.ref b) := by
  obtain ⟨x, y, hx, hy, hk, hk'⟩ := cmp_v (Or.inl q)
  cases eu.symm.trans hy
  refine Fld.start ((fld_at ev).symm.trans ?_)
  rw [hx]
  cases x with
  | ref z => simp [Cond.value, hx, hy] at q; rw [q]
  | null => simp [Cond.value, hx, hy] at q
  | _ => simp_all [Kin, Value.isRef]

theorem own_bit3 (x : Int32) : (x &&& (3 : Int32)) = (0 : Int32) ∨ (x &&& (3 : Int32)) = (1 : Int32) ∨ (x &&& (3 : Int32)) = (2 : Int32) ∨ (x &&& (3 : Int32)) = (3 : Int32) := by
  have r := Jvm.Kit.i32_mask x (3 : Int32) (k := 2) (by decide) (by decide)
  have l0 : ((0 : Int32)).toInt = 0 := by decide
  have l1 : ((1 : Int32)).toInt = 1 := by decide
  have l2 : ((2 : Int32)).toInt = 2 := by decide
  have l3 : ((3 : Int32)).toInt = 3 := by decide
  simp only [← Int32.toInt_inj, l0, l1, l2, l3]
  generalize (x &&& (3 : Int32)).toInt = z at r ⊢
  omega
theorem own_mod1 (x : Int32) : ((x &&& (2147483647 : Int32)) % (1 : Int32)) = (0 : Int32) := by
  have e := Jvm.Kit.i32_mask x (2147483647 : Int32) (k := 31) (by decide) (by decide)
  have r : ((x &&& (2147483647 : Int32)) % (1 : Int32)).toInt = (x &&& (2147483647 : Int32)).toInt % ((1 : Int32)).toInt := Jvm.Kit.i32_rem_nonneg (by rw [e]; omega)
  have l0 : ((0 : Int32)).toInt = 0 := by decide
  have l1 : ((1 : Int32)).toInt = 1 := by decide
  rw [l1] at r
  simp only [← Int32.toInt_inj, l0]
  generalize ((x &&& (2147483647 : Int32)) % (1 : Int32)).toInt = z at r ⊢
  omega
theorem own_mod2 (x : Int32) : ((x &&& (2147483647 : Int32)) % (2 : Int32)) = (0 : Int32) ∨ ((x &&& (2147483647 : Int32)) % (2 : Int32)) = (1 : Int32) := by
  have e := Jvm.Kit.i32_mask x (2147483647 : Int32) (k := 31) (by decide) (by decide)
  have r : ((x &&& (2147483647 : Int32)) % (2 : Int32)).toInt = (x &&& (2147483647 : Int32)).toInt % ((2 : Int32)).toInt := Jvm.Kit.i32_rem_nonneg (by rw [e]; omega)
  have l0 : ((0 : Int32)).toInt = 0 := by decide
  have l1 : ((1 : Int32)).toInt = 1 := by decide
  have l2 : ((2 : Int32)).toInt = 2 := by decide
  rw [l2] at r
  simp only [← Int32.toInt_inj, l0, l1]
  generalize ((x &&& (2147483647 : Int32)) % (2 : Int32)).toInt = z at r ⊢
  omega
theorem own_mod3 (x : Int32) : ((x &&& (2147483647 : Int32)) % (3 : Int32)) = (0 : Int32) ∨ ((x &&& (2147483647 : Int32)) % (3 : Int32)) = (1 : Int32) ∨ ((x &&& (2147483647 : Int32)) % (3 : Int32)) = (2 : Int32) := by
  have e := Jvm.Kit.i32_mask x (2147483647 : Int32) (k := 31) (by decide) (by decide)
  have r : ((x &&& (2147483647 : Int32)) % (3 : Int32)).toInt = (x &&& (2147483647 : Int32)).toInt % ((3 : Int32)).toInt := Jvm.Kit.i32_rem_nonneg (by rw [e]; omega)
  have l0 : ((0 : Int32)).toInt = 0 := by decide
  have l1 : ((1 : Int32)).toInt = 1 := by decide
  have l2 : ((2 : Int32)).toInt = 2 := by decide
  have l3 : ((3 : Int32)).toInt = 3 := by decide
  rw [l3] at r
  simp only [← Int32.toInt_inj, l0, l1, l2]
  generalize ((x &&& (2147483647 : Int32)) % (3 : Int32)).toInt = z at r ⊢
  omega
theorem own_mod4 (x : Int32) : ((x &&& (2147483647 : Int32)) % (4 : Int32)) = (0 : Int32) ∨ ((x &&& (2147483647 : Int32)) % (4 : Int32)) = (1 : Int32) ∨ ((x &&& (2147483647 : Int32)) % (4 : Int32)) = (2 : Int32) ∨ ((x &&& (2147483647 : Int32)) % (4 : Int32)) = (3 : Int32) := by
  have e := Jvm.Kit.i32_mask x (2147483647 : Int32) (k := 31) (by decide) (by decide)
  have r : ((x &&& (2147483647 : Int32)) % (4 : Int32)).toInt = (x &&& (2147483647 : Int32)).toInt % ((4 : Int32)).toInt := Jvm.Kit.i32_rem_nonneg (by rw [e]; omega)
  have l0 : ((0 : Int32)).toInt = 0 := by decide
  have l1 : ((1 : Int32)).toInt = 1 := by decide
  have l2 : ((2 : Int32)).toInt = 2 := by decide
  have l3 : ((3 : Int32)).toInt = 3 := by decide
  have l4 : ((4 : Int32)).toInt = 4 := by decide
  rw [l4] at r
  simp only [← Int32.toInt_inj, l0, l1, l2, l3]
  generalize ((x &&& (2147483647 : Int32)) % (4 : Int32)).toInt = z at r ⊢
  omega
theorem sn_0 {Z : State} {a0 : Array Value} (hw : own_HW Z a0) : Jvm.RoadKit.slotOf Z "com/example/gridledger/gridledger/columns/LongColumn" "size" "I" ≠ Jvm.RoadKit.slotOf Z "com/example/gridledger/gridledger/columns/LongColumn" "chunks" "[[J" := Jvm.RoadKit.slot_ne (Or.inl (own_w hw 19 rfl)) (Or.inl (own_w hw 12 rfl)) (by decide) (t := .int) (t' := (.array (.array .long))) (by decide) (by decide)
def Q_rm__init__1 (Z : State) (h0 : Heap) (n0 : Nat) (b0 : Addr) (v : Option Value) (h : Heap) (L : List Loc) : Prop := ∃ (y0 : Addr) (yk0 : ClassId), v = none ∧ Fr n0 L ∧ Keep h0 h [b0] ∧ h0.size ≤ y0 ∧ Exa Z h b0 "com/example/gridledger/gridledger/columns/LongColumn" ∧ Fld Z h b0 "com/example/gridledger/gridledger/columns/LongColumn" "chunks" "[[J" (.ref y0) ∧ Fld Z h b0 "com/example/gridledger/gridledger/columns/LongColumn" "size" "I" (.int (0 : Int32)) ∧ Arv Z h y0 yk0 (.array .long) (1 : Int32) [] .null ∧ Exa Z h y0 "[[J" ∧ OvrA Z yk0 .long "[J"
theorem d0_0 : decode prog_5_method_1_code 0 = .ok (.aload_n 0, 1) := by decide +kernel
theorem d0_1 : decode prog_5_method_1_code 1 = .ok (.invokespecial 1, 3) := by decide +kernel
theorem d0_4 : decode prog_5_method_1_code 4 = .ok (.aload_n 0, 1) := by decide +kernel
theorem d0_5 : decode prog_5_method_1_code 5 = .ok (.iconst 1, 1) := by decide +kernel
theorem d0_6 : decode prog_5_method_1_code 6 = .ok (.anewarray 7, 3) := by decide +kernel
theorem d0_9 : decode prog_5_method_1_code 9 = .ok (.putfield 9, 3) := by decide +kernel
theorem d0_12 : decode prog_5_method_1_code 12 = .ok (.return_, 1) := by decide +kernel
theorem pn_0 : plainName "com/example/gridledger/gridledger/columns/LongColumn" = true := by first | (simp [plainName, overriddenIn]; done) | decide +kernel
theorem ef_0 (m : MethodId) (y0 : Addr) : entryFrame m #[(.ref y0)] 1 = mkF m 0 #[.val (.ref y0)] [] := by first | (simp [entryFrame, mkF, argsToLocals, Value.category]; done) | rfl
theorem rm__init__1 (l : Launch) (Z : State) (a0 : Array Value) (hw : own_HW Z a0) (ws : List Jvm.Cond)  (h0 : Heap) (n0 : Nat) (O : Old Z n0 h0) (b0 : Addr) (E_b0 : Exa Z h0 b0 "com/example/gridledger/gridledger/columns/LongColumn") (F_b0_chunks : Fld Z h0 b0 "com/example/gridledger/gridledger/columns/LongColumn" "chunks" "[[J" .null) (F_b0_size : Fld Z h0 b0 "com/example/gridledger/gridledger/columns/LongColumn" "size" "I" (.int (0 : Int32))) (g_b0 : n0 ≤ b0) :
    own_Met l (⟨"com/example/gridledger/gridledger/columns/LongColumn", "<init>", "()V"⟩ : MethodName) prog_5_method_1_code 1 none ws (own_rm 1 1 1 12) Z #[(.ref b0)] h0 (Q_rm__init__1 Z h0 n0 b0) := by
  refine own_met (plainFor_of_name pn_0) ?_
  intro p e s m below meth c T0 hx hby hml hown hret hk hnm hZ X0 e0
  have hown : s.vm.findClass "com/example/gridledger/gridledger/columns/LongColumn" = some m.cls := hown
  refine own_ent (ef_0 m b0) ?_
  refine own_aload_n X0 hx (hb hby d0_0) rfl rfl 1 rfl ?_
  refine own_initO X0 hx hZ hown (own_w hw 6 rfl) (own_w hw 7 rfl) (own_w hw 8 rfl) e0 (by rw [hml]; rfl) (hb hby d0_1) (by decide) 0 (Nat.le_of_eq rfl) (by decide) 4 rfl fun T1 X1 e1 => ?_
  refine own_aload_n X1 hx (hb hby d0_4) rfl rfl 5 rfl ?_
  refine own_iconst X1 hx (hb hby d0_5) (1 : Int32) rfl 6 rfl ?_
  refine own_newRA X1 hx hZ hown (by decide) (own_w hw 9 rfl) (own_w hw 10 rfl) e1 (hb hby d0_6) (by decide) 1 (by decide) (by decide) (by decide) (by decide) "[[J" (by decide) 9 rfl fun T2 a2 c2 g2 X2 E2 V2 A2 P2 => ?_
  have z_a2 : h0.size ≤ a2 := Nat.le_trans ((Keep.refl h0 [b0])).1 (Nat.le_of_eq g2)
  have K3 := Keep.ext (Keep.refl h0 [b0]) E2
  have V2 : Arv Z T2.heap a2 c2 (.array .long) (1 : Int32) [] .null := V2
  have f5 := (F_b0_chunks.ext E2)
  have f6 := (E_b0.ext E2)
  refine own_putF X2 hx hZ hown (host := "") (Or.inl (own_w hw 11 rfl)) Via.refl rfl f5 f6 (Or.inl (own_w hw 12 rfl)) (own_w hw 1 rfl) (ty := (.array (.array .long))) (by decide) rfl rfl (hb hby d0_9) 12 rfl fun T4 X4 W4 => ?_
  have G4 := Fld.same W4 f5
  have N7 := Fr.snoc X4 (Fr.nil n0) g_b0
  have K7 := Keep.wr K3 W4 (Or.inl (by simp))
  have f8 := (f6.wr W4)
  have f9 := ((F_b0_size.ext E2).other W4 (Or.inr (sn_0 hw)))
  have ne11 := own_nl E_b0.lt (Nat.le_refl _) (Nat.le_of_eq g2)
  have f12 := (own_vo V2 W4 ne11)
  have f13 := (A2.wr W4)
  exact own_retV X4 hx hk hret (hb hby d0_12) (by show Q_rm__init__1 Z h0 n0 b0 _ T4.heap _; exact ⟨a2, c2, rfl, N7, K7, z_a2, f8, G4, f9, f12, f13, P2⟩) (by decide) (by decide)
theorem d2_0 : decode prog_2_method_2_code 0 = .ok (.iload_n 0, 1) := by decide +kernel
theorem d2_1 : decode prog_2_method_2_code 1 = .ok (.bipush 12, 2) := by decide +kernel
theorem d2_3 : decode prog_2_method_2_code 3 = .ok (.iushr, 1) := by decide +kernel
theorem d2_4 : decode prog_2_method_2_code 4 = .ok (.ireturn, 1) := by decide +kernel
theorem pn_1 : plainName "com/example/gridledger/gridledger/columns/Chunks" = true := by first | (simp [plainName, overriddenIn]; done) | decide +kernel
theorem ef_1 (m : MethodId) (y0 : Int32) : entryFrame m #[(.int y0)] 1 = mkF m 0 #[.val (.int y0)] [] := by first | (simp [entryFrame, mkF, argsToLocals, Value.category]; done) | rfl
theorem rm_chunk_3 (l : Launch) (Z : State) (a0 : Array Value) (hw : own_HW Z a0) (ws : List Jvm.Cond)  (h0 : Heap) (n0 : Nat) (O : Old Z n0 h0)  :
    own_Met l (⟨"com/example/gridledger/gridledger/columns/Chunks", "chunk", "(I)I"⟩ : MethodName) prog_2_method_2_code 1 (some .int) ws (own_rm 0 0 0 0) Z #[(.int (0 : Int32))] h0 (own_R (some (.int (0 : Int32))) h0) := by
  refine own_met (plainFor_of_name pn_1) ?_
  intro p e s m below meth c T0 hx hby hml hown hret hk hnm hZ X0 e0
  have hown : s.vm.findClass "com/example/gridledger/gridledger/columns/Chunks" = some m.cls := hown
  refine own_ent (ef_1 m (0 : Int32)) ?_
  refine own_iload_n X0 hx (hb hby d2_0) rfl 1 rfl ?_
  refine own_bipush X0 hx (hb hby d2_1) (12 : Int32) rfl 3 rfl ?_
  refine own_iushr X0 hx (hb hby d2_3) 4 rfl ?_
  refine own_topI (0 : Int32) (by decide) ?_
  exact own_retI X0 hx hk hret (hb hby d2_4) ⟨rfl, e0, rfl⟩ (by decide) (by decide)
theorem d3_0 : decode prog_2_method_3_code 0 = .ok (.iload_n 0, 1) := by decide +kernel
theorem d3_1 : decode prog_2_method_3_code 1 = .ok (.sipush 4095, 3) := by decide +kernel
theorem d3_4 : decode prog_2_method_3_code 4 = .ok (.iand, 1) := by decide +kernel
theorem d3_5 : decode prog_2_method_3_code 5 = .ok (.ireturn, 1) := by decide +kernel
theorem rm_place_4 (l : Launch) (Z : State) (a0 : Array Value) (hw : own_HW Z a0) (ws : List Jvm.Cond)  (h0 : Heap) (n0 : Nat) (O : Old Z n0 h0)  :
    own_Met l (⟨"com/example/gridledger/gridledger/columns/Chunks", "place", "(I)I"⟩ : MethodName) prog_2_method_3_code 1 (some .int) ws (own_rm 0 0 0 0) Z #[(.int (0 : Int32))] h0 (own_R (some (.int (0 : Int32))) h0) := by
  refine own_met (plainFor_of_name pn_1) ?_
  intro p e s m below meth c T0 hx hby hml hown hret hk hnm hZ X0 e0
  have hown : s.vm.findClass "com/example/gridledger/gridledger/columns/Chunks" = some m.cls := hown
  refine own_ent (ef_1 m (0 : Int32)) ?_
  refine own_iload_n X0 hx (hb hby d3_0) rfl 1 rfl ?_
  refine own_sipush X0 hx (hb hby d3_1) (4095 : Int32) rfl 4 rfl ?_
  refine own_iand X0 hx (hb hby d3_4) 5 rfl ?_
  refine own_topI (0 : Int32) (by decide) ?_
  exact own_retI X0 hx hk hret (hb hby d3_5) ⟨rfl, e0, rfl⟩ (by decide) (by decide)
def Q_rm_add_2 (Z : State) (h0 : Heap) (n0 : Nat) (b0 : Addr) (b1 : Addr) (j0 : Int64) (k_b1 : ClassId) (v : Option Value) (h : Heap) (L : List Loc) : Prop := ∃ (y0 : Addr) (yk0 : ClassId), v = none ∧ Fr n0 L ∧ Keep h0 h [b1, b0] ∧ h0.size ≤ y0 ∧ Exa Z h b0 "com/example/gridledger/gridledger/columns/LongColumn" ∧ Fld Z h b0 "com/example/gridledger/gridledger/columns/LongColumn" "chunks" "[[J" (.ref b1) ∧ Fld Z h b0 "com/example/gridledger/gridledger/columns/LongColumn" "size" "I" (.int (1 : Int32)) ∧ Arv Z h b1 k_b1 (.array .long) (1 : Int32) [(.ref y0)] .null ∧ Exa Z h b1 "[[J" ∧ Arv Z h y0 yk0 .long (4096 : Int32) [(.long j0)] (.long (0 : Int64)) ∧ Exa Z h y0 "[J"
theorem pd_1 : parseMethodDescriptor "(I)I" = some ⟨[.int], some .int⟩ := by decide +kernel
theorem d1_0 : decode prog_5_method_2_code 0 = .ok (.aload_n 0, 1) := by decide +kernel
theorem d1_1 : decode prog_5_method_2_code 1 = .ok (.getfield 15, 3) := by decide +kernel
theorem d1_4 : decode prog_5_method_2_code 4 = .ok (.invokestatic 19, 3) := by decide +kernel
theorem d1_7 : decode prog_5_method_2_code 7 = .ok (.istore_n 3, 1) := by decide +kernel
theorem d1_8 : decode prog_5_method_2_code 8 = .ok (.iload_n 3, 1) := by decide +kernel
theorem d1_9 : decode prog_5_method_2_code 9 = .ok (.aload_n 0, 1) := by decide +kernel
theorem d1_10 : decode prog_5_method_2_code 10 = .ok (.getfield 9, 3) := by decide +kernel
theorem d1_13 : decode prog_5_method_2_code 13 = .ok (.arraylength, 1) := by decide +kernel
theorem d1_14 : decode prog_5_method_2_code 14 = .ok (.if_icmp .ne 20, 3) := by decide +kernel
theorem d1_34 : decode prog_5_method_2_code 34 = .ok (.aload_n 0, 1) := by decide +kernel
theorem d1_35 : decode prog_5_method_2_code 35 = .ok (.getfield 9, 3) := by decide +kernel
theorem d1_38 : decode prog_5_method_2_code 38 = .ok (.iload_n 3, 1) := by decide +kernel
theorem d1_39 : decode prog_5_method_2_code 39 = .ok (.aaload, 1) := by decide +kernel
theorem d1_40 : decode prog_5_method_2_code 40 = .ok (.ifnonnull 14, 3) := by decide +kernel
theorem d1_43 : decode prog_5_method_2_code 43 = .ok (.aload_n 0, 1) := by decide +kernel
theorem d1_44 : decode prog_5_method_2_code 44 = .ok (.getfield 9, 3) := by decide +kernel
theorem d1_47 : decode prog_5_method_2_code 47 = .ok (.iload_n 3, 1) := by decide +kernel
theorem d1_48 : decode prog_5_method_2_code 48 = .ok (.sipush 4096, 3) := by decide +kernel
theorem d1_51 : decode prog_5_method_2_code 51 = .ok (.newarray .long, 2) := by decide +kernel
theorem d1_53 : decode prog_5_method_2_code 53 = .ok (.aastore, 1) := by decide +kernel
theorem d1_54 : decode prog_5_method_2_code 54 = .ok (.aload_n 0, 1) := by decide +kernel
theorem d1_55 : decode prog_5_method_2_code 55 = .ok (.getfield 9, 3) := by decide +kernel
theorem d1_58 : decode prog_5_method_2_code 58 = .ok (.iload_n 3, 1) := by decide +kernel
theorem d1_59 : decode prog_5_method_2_code 59 = .ok (.aaload, 1) := by decide +kernel
theorem d1_60 : decode prog_5_method_2_code 60 = .ok (.aload_n 0, 1) := by decide +kernel
theorem d1_61 : decode prog_5_method_2_code 61 = .ok (.getfield 15, 3) := by decide +kernel
theorem d1_64 : decode prog_5_method_2_code 64 = .ok (.invokestatic 32, 3) := by decide +kernel
theorem d1_67 : decode prog_5_method_2_code 67 = .ok (.lload_n 1, 1) := by decide +kernel
theorem d1_68 : decode prog_5_method_2_code 68 = .ok (.lastore, 1) := by decide +kernel
theorem d1_69 : decode prog_5_method_2_code 69 = .ok (.aload_n 0, 1) := by decide +kernel
theorem d1_70 : decode prog_5_method_2_code 70 = .ok (.dup, 1) := by decide +kernel
theorem d1_71 : decode prog_5_method_2_code 71 = .ok (.getfield 15, 3) := by decide +kernel
theorem d1_74 : decode prog_5_method_2_code 74 = .ok (.iconst 1, 1) := by decide +kernel
theorem d1_75 : decode prog_5_method_2_code 75 = .ok (.iadd, 1) := by decide +kernel
theorem d1_76 : decode prog_5_method_2_code 76 = .ok (.putfield 15, 3) := by decide +kernel
theorem d1_79 : decode prog_5_method_2_code 79 = .ok (.return_, 1) := by decide +kernel
theorem ef_2 (m : MethodId) (y0 : Addr) (y1 : Int64) : entryFrame m #[(.ref y0), (.long y1)] 4 = mkF m 0 #[.val (.ref y0), .val (.long y1), .second, .unset] [] := by first | (simp [entryFrame, mkF, argsToLocals, Value.category]; done) | rfl
theorem rm_add_2 (l : Launch) (Z : State) (a0 : Array Value) (hw : own_HW Z a0) (ws : List Jvm.Cond)  (h0 : Heap) (n0 : Nat) (O : Old Z n0 h0) (b0 : Addr) (b1 : Addr) (j0 : Int64) (k_b1 : ClassId) (E_b0 : Exa Z h0 b0 "com/example/gridledger/gridledger/columns/LongColumn") (F_b0_chunks : Fld Z h0 b0 "com/example/gridledger/gridledger/columns/LongColumn" "chunks" "[[J" (.ref b1)) (F_b0_size : Fld Z h0 b0 "com/example/gridledger/gridledger/columns/LongColumn" "size" "I" (.int (0 : Int32))) (g_b0 : n0 ≤ b0) (V_b1 : Arv Z h0 b1 k_b1 (.array .long) (1 : Int32) [] .null) (A_b1 : Exa Z h0 b1 "[[J") (P_b1 : OvrA Z k_b1 .long "[J") (g_b1 : n0 ≤ b1) (ne_b0_b1 : b0 ≠ b1) :
    own_Met l (⟨"com/example/gridledger/gridledger/columns/LongColumn", "add", "(J)V"⟩ : MethodName) prog_5_method_2_code 4 none ws (own_rm 1 1 4096 13) Z #[(.ref b0), (.long j0)] h0 (Q_rm_add_2 Z h0 n0 b0 b1 j0 k_b1) := by
  refine own_met (plainFor_of_name pn_0) ?_
  intro p e s m below meth c T0 hx hby hml hown hret hk hnm hZ X0 e0
  have hown : s.vm.findClass "com/example/gridledger/gridledger/columns/LongColumn" = some m.cls := hown
  refine own_ent (ef_2 m b0 j0) ?_
  refine own_aload_n X0 hx (hb hby d1_0) rfl rfl 1 rfl ?_
  refine own_getF X0 hx hZ hown (host := "") (Or.inl (own_w hw 18 rfl)) Via.refl e0 F_b0_size (hb hby d1_1) 4 rfl fun T1 X1 e1 => ?_
  refine own_pureS X1 hx hZ hown (own_w hw 20 rfl) (own_w hw 21 rfl) (own_w hw 22 rfl) (own_w hw 23 rfl) (by decide) [(.int (0 : Int32))] [] 0 (rm_chunk_3 l Z a0 hw [] h0 n0 O ) (by decide) (by decide) rfl rfl e1 (by rw [hml]; rfl) (lenOf pd_1 rfl) (Nat.le_of_eq rfl) (hb hby d1_4) 7 rfl rfl (by decide) (by decide) fun T3 X3 e3 => ?_
  refine own_istore_n X3 hx (hb hby d1_7) #[.val (.ref b0), .val (.long j0), .second, .val (.int (0 : Int32))] rfl 8 rfl ?_
  refine own_iload_n X3 hx (hb hby d1_8) rfl 9 rfl ?_
  refine own_aload_n X3 hx (hb hby d1_9) rfl rfl 10 rfl ?_
  refine own_getF X3 hx hZ hown (host := "") (Or.inl (own_w hw 11 rfl)) Via.refl e3 F_b0_chunks (hb hby d1_10) 13 rfl fun T4 X4 e4 => ?_
  refine own_alen X4 hx hZ e4 V_b1 (hb hby d1_13) 14 rfl ?_
  refine own_icmpY X4 hx (hb hby d1_14) (feq (by decide : ¬ ((0 : Int32) = (1 : Int32)))).2 34 (by decide) (by decide) ?_
  refine own_aload_n X4 hx (hb hby d1_34) rfl rfl 35 rfl ?_
  refine own_getF X4 hx hZ hown (host := "") (Or.inl (own_w hw 11 rfl)) Via.refl e4 F_b0_chunks (hb hby d1_35) 38 rfl fun T5 X5 e5 => ?_
  refine own_iload_n X5 hx (hb hby d1_38) rfl 39 rfl ?_
  refine own_aaload X5 hx hZ e5 V_b1 rfl .null (by decide) rfl (hb hby d1_39) 40 rfl ?_
  refine own_ifnonnullN X5 hx (hb hby d1_40) 43 rfl ?_
  refine own_aload_n X5 hx (hb hby d1_43) rfl rfl 44 rfl ?_
  refine own_getF X5 hx hZ hown (host := "") (Or.inl (own_w hw 11 rfl)) Via.refl e5 F_b0_chunks (hb hby d1_44) 47 rfl fun T6 X6 e6 => ?_
  refine own_iload_n X6 hx (hb hby d1_47) rfl 48 rfl ?_
  refine own_sipush X6 hx (hb hby d1_48) (4096 : Int32) rfl 51 rfl ?_
  refine own_newP X6 hx hZ (own_w hw 24 rfl) e6 (hb hby d1_51) (by decide) 4096 (by decide) (by decide) (by decide) (by decide) "[J" (by decide) 53 rfl fun T7 a7 c7 g7 X7 E7 V7 A7 => ?_
  have g_a7 : n0 ≤ a7 := Nat.le_trans (own_osz O) (Nat.le_of_eq g7)
  have z_a7 : h0.size ≤ a7 := Nat.le_trans ((Keep.refl h0 [b1, b0])).1 (Nat.le_of_eq g7)
  have O8 := O.ext E7
  have K8 := Keep.ext (Keep.refl h0 [b1, b0]) E7
  have V7 : Arv Z T7.heap a7 c7 .long (4096 : Int32) [] (.long (0 : Int64)) := V7
  have f9 := (V_b1.ext E7)
  have V10 : Arv Z T7.heap b1 k_b1 (.array .long) (1 : Int32) [.null] .null := f9.pad (pad_rep [] .null 1)
  refine own_aastore X7 hx hZ rfl V10 rfl rfl (fun _ u q => Sto.ofVA u q P_b1 (Ins.self A7)) 0 (by decide) (by decide) (by simp) [(.ref a7)] rfl (hb hby d1_53) 54 rfl fun T11 X11 W11 V11 => ?_
  have O12 := O8.wr W11 g_b1
  have N12 := Fr.snoc X11 (Fr.nil n0) g_b1
  have K12 := Keep.wr K8 W11 (Or.inl (by simp))
  refine own_aload_n X11 hx (hb hby d1_54) rfl rfl 55 rfl ?_
  have f13 := ((F_b0_chunks.ext E7).other W11 (Or.inl ne_b0_b1))
  refine own_getF X11 hx hZ hown (host := "") (Or.inl (own_w hw 11 rfl)) Via.refl rfl f13 (hb hby d1_55) 58 rfl fun T14 X14 e14 => ?_
  refine own_iload_n X14 hx (hb hby d1_58) rfl 59 rfl ?_
  refine own_aaload X14 hx hZ e14 V11 rfl (.ref a7) (by decide) rfl (hb hby d1_59) 60 rfl ?_
  refine own_aload_n X14 hx (hb hby d1_60) rfl rfl 61 rfl ?_
  have f15 := ((F_b0_size.ext E7).other W11 (Or.inl ne_b0_b1))
  refine own_getF X14 hx hZ hown (host := "") (Or.inl (own_w hw 18 rfl)) Via.refl e14 f15 (hb hby d1_61) 64 rfl fun T16 X16 e16 => ?_
  refine own_pureS X16 hx hZ hown (own_w hw 26 rfl) (own_w hw 27 rfl) (own_w hw 22 rfl) (own_w hw 28 rfl) (by decide) [(.int (0 : Int32))] [(.ref a7)] 1 (rm_place_4 l Z a0 hw [] T11.heap n0 O12 ) (by decide) (by decide) rfl rfl e16 (by rw [hml]; rfl) (lenOf pd_1 rfl) (Nat.le_of_eq rfl) (hb hby d1_64) 67 rfl rfl (by decide) (by decide) fun T18 X18 e18 => ?_
  refine own_lload_n X18 hx (hb hby d1_67) rfl 68 rfl ?_
  have ne20 := own_nl A_b1.lt (Nat.le_refl _) (Nat.le_of_eq g7)
  have f21 := (own_vo V7 W11 ne20)
  have V22 : Arv Z T11.heap a7 c7 .long (4096 : Int32) [(.long (0 : Int64))] (.long (0 : Int64)) := f21.pad (pad_rep [] (.long (0 : Int64)) 1)
  refine own_lastore X18 hx hZ e18 V22 0 (by decide) (by decide) (by simp) [(.long j0)] rfl (hb hby d1_68) 69 rfl fun T23 X23 W23 V23 => ?_
  have N24 := Fr.snoc X23 N12 g_a7
  have K24 := Keep.wr K12 W23 (Or.inr z_a7)
  refine own_aload_n X23 hx (hb hby d1_69) rfl rfl 70 rfl ?_
  refine own_dup X23 hx (hb hby d1_70) rfl 71 rfl ?_
  have ne25 := own_nl E_b0.lt (Nat.le_refl _) (Nat.le_of_eq g7)
  have f26 := (f15.other W23 (Or.inl ne25))
  refine own_getF X23 hx hZ hown (host := "") (Or.inl (own_w hw 18 rfl)) Via.refl rfl f26 (hb hby d1_71) 74 rfl fun T27 X27 e27 => ?_
  refine own_iconst X27 hx (hb hby d1_74) (1 : Int32) rfl 75 rfl ?_
  refine own_iadd X27 hx (hb hby d1_75) 76 rfl ?_
  refine own_topI (1 : Int32) (by decide) ?_
  have f29 := (((E_b0.ext E7).wr W11).wr W23)
  refine own_putF X27 hx hZ hown (host := "") (Or.inl (own_w hw 18 rfl)) Via.refl e27 f26 f29 (Or.inl (own_w hw 19 rfl)) (own_w hw 1 rfl) (ty := .int) (by decide) rfl rfl (hb hby d1_76) 79 rfl fun T28 X28 W28 => ?_
  have G28 := Fld.same W28 f26
  have N30 := Fr.snoc X28 N24 g_b0
  have K30 := Keep.wr K24 W28 (Or.inl (by simp))
  have f31 := (f29.wr W28)
  have f32 := ((f13.other W23 (Or.inl ne25)).other W28 (Or.inr (Ne.symm (sn_0 hw))))
  have f33 := (own_vo (V11.other W23 ne20) W28 ne_b0_b1)
  have f34 := ((((A_b1.ext E7).wr W11).wr W23).wr W28)
  have f35 := (own_vo V23 W28 ne25)
  have f36 := (((A7.wr W11).wr W23).wr W28)
  exact own_retV X28 hx hk hret (hb hby d1_79) (by show Q_rm_add_2 Z h0 n0 b0 b1 j0 k_b1 _ T28.heap _; exact ⟨a7, c7, rfl, N30, K30, z_a7, f31, f32, G28, f33, f34, f35, f36⟩) (by decide) (by decide)
theorem d4_0 : decode prog_5_method_4_code 0 = .ok (.aload_n 0, 1) := by decide +kernel
theorem d4_1 : decode prog_5_method_4_code 1 = .ok (.getfield 15, 3) := by decide +kernel
theorem d4_4 : decode prog_5_method_4_code 4 = .ok (.ireturn, 1) := by decide +kernel
theorem rm_size_5 (l : Launch) (Z : State) (a0 : Array Value) (hw : own_HW Z a0) (ws : List Jvm.Cond)  (h0 : Heap) (n0 : Nat) (O : Old Z n0 h0) (b0 : Addr) (F_b0_size : Fld Z h0 b0 "com/example/gridledger/gridledger/columns/LongColumn" "size" "I" (.int (1 : Int32))) :
    own_Met l (⟨"com/example/gridledger/gridledger/columns/LongColumn", "size", "()I"⟩ : MethodName) prog_5_method_4_code 1 (some .int) ws (own_rm 0 0 0 0) Z #[(.ref b0)] h0 (own_R (some (.int (1 : Int32))) h0) := by
  refine own_met (plainFor_of_name pn_0) ?_
  intro p e s m below meth c T0 hx hby hml hown hret hk hnm hZ X0 e0
  have hown : s.vm.findClass "com/example/gridledger/gridledger/columns/LongColumn" = some m.cls := hown
  refine own_ent (ef_0 m b0) ?_
  refine own_aload_n X0 hx (hb hby d4_0) rfl rfl 1 rfl ?_
  refine own_getF X0 hx hZ hown (host := "") (Or.inl (own_w hw 18 rfl)) Via.refl e0 F_b0_size (hb hby d4_1) 4 rfl fun T1 X1 e1 => ?_
  exact own_retI X1 hx hk hret (hb hby d4_4) ⟨rfl, e1, rfl⟩ (by decide) (by decide)
theorem d7_0 : decode jdk_41_method_11_code 0 = .ok (.iload_n 0, 1) := by decide +kernel
theorem d7_1 : decode jdk_41_method_11_code 1 = .ok (.ifCond .lt 8, 3) := by decide +kernel
theorem d7_4 : decode jdk_41_method_11_code 4 = .ok (.iload_n 0, 1) := by decide +kernel
theorem d7_5 : decode jdk_41_method_11_code 5 = .ok (.iload_n 1, 1) := by decide +kernel
theorem d7_6 : decode jdk_41_method_11_code 6 = .ok (.if_icmp .lt 10, 3) := by decide +kernel
theorem d7_16 : decode jdk_41_method_11_code 16 = .ok (.iload_n 0, 1) := by decide +kernel
theorem d7_17 : decode jdk_41_method_11_code 17 = .ok (.ireturn, 1) := by decide +kernel
theorem pn_2 : plainName "jdk/internal/util/Preconditions" = true := by first | (simp [plainName, overriddenIn]; done) | decide +kernel
theorem ef_3 (m : MethodId) (y0 : Int32) (y1 : Int32) : entryFrame m #[(.int y0), (.int y1), .null] 3 = mkF m 0 #[.val (.int y0), .val (.int y1), .val .null] [] := by first | (simp [entryFrame, mkF, argsToLocals, Value.category]; done) | rfl
theorem rm_checkIndex_8 (l : Launch) (Z : State) (a0 : Array Value) (hw : own_HW Z a0) (ws : List Jvm.Cond)  (h0 : Heap) (n0 : Nat) (O : Old Z n0 h0)  :
    own_Met l (⟨"jdk/internal/util/Preconditions", "checkIndex", "(IILjava/util/function/BiFunction;)I"⟩ : MethodName) jdk_41_method_11_code 3 (some .int) ws (own_rm 0 0 0 0) Z #[(.int (0 : Int32)), (.int (1 : Int32)), .null] h0 (own_R (some (.int (0 : Int32))) h0) := by
  refine own_met (plainFor_of_name pn_2) ?_
  intro p e s m below meth c T0 hx hby hml hown hret hk hnm hZ X0 e0
  have hown : s.vm.findClass "jdk/internal/util/Preconditions" = some m.cls := hown
  refine own_ent (ef_3 m (0 : Int32) (1 : Int32)) ?_
  refine own_iload_n X0 hx (hb hby d7_0) rfl 1 rfl ?_
  refine own_ifN X0 hx (hb hby d7_1) ((if0 _ _).trans (flt (by decide : ¬ ((0 : Int32) < (0 : Int32)))).1) 4 rfl ?_
  refine own_iload_n X0 hx (hb hby d7_4) rfl 5 rfl ?_
  refine own_iload_n X0 hx (hb hby d7_5) rfl 6 rfl ?_
  refine own_icmpY X0 hx (hb hby d7_6) (tlt (by decide : (0 : Int32) < (1 : Int32))).1 16 (by decide) (by decide) ?_
  refine own_iload_n X0 hx (hb hby d7_16) rfl 17 rfl ?_
  exact own_retI X0 hx hk hret (hb hby d7_17) ⟨rfl, e0, rfl⟩ (by decide) (by decide)
theorem pd_4 : parseMethodDescriptor "(IILjava/util/function/BiFunction;)I" = some ⟨[.int, .int, (.object "java/util/function/BiFunction")], some .int⟩ := by decide +kernel
theorem d6_0 : decode jdk_31_method_17_code 0 = .ok (.iload_n 0, 1) := by decide +kernel
theorem d6_1 : decode jdk_31_method_17_code 1 = .ok (.iload_n 1, 1) := by decide +kernel
theorem d6_2 : decode jdk_31_method_17_code 2 = .ok (.aconst_null, 1) := by decide +kernel
theorem d6_3 : decode jdk_31_method_17_code 3 = .ok (.invokestatic 105, 3) := by decide +kernel
theorem d6_6 : decode jdk_31_method_17_code 6 = .ok (.ireturn, 1) := by decide +kernel
theorem pn_3 : plainName "java/util/Objects" = true := by first | (simp [plainName, overriddenIn]; done) | decide +kernel
theorem ef_4 (m : MethodId) (y0 : Int32) (y1 : Int32) : entryFrame m #[(.int y0), (.int y1)] 2 = mkF m 0 #[.val (.int y0), .val (.int y1)] [] := by first | (simp [entryFrame, mkF, argsToLocals, Value.category]; done) | rfl
theorem rm_checkIndex_7 (l : Launch) (Z : State) (a0 : Array Value) (hw : own_HW Z a0) (ws : List Jvm.Cond)  (h0 : Heap) (n0 : Nat) (O : Old Z n0 h0)  :
    own_Met l (⟨"java/util/Objects", "checkIndex", "(II)I"⟩ : MethodName) jdk_31_method_17_code 2 (some .int) ws (own_rm 1 0 0 14) Z #[(.int (0 : Int32)), (.int (1 : Int32))] h0 (own_R (some (.int (0 : Int32))) h0) := by
  refine own_met (plainFor_of_name pn_3) ?_
  intro p e s m below meth c T0 hx hby hml hown hret hk hnm hZ X0 e0
  have hown : s.vm.findClass "java/util/Objects" = some m.cls := hown
  refine own_ent (ef_4 m (0 : Int32) (1 : Int32)) ?_
  refine own_iload_n X0 hx (hb hby d6_0) rfl 1 rfl ?_
  refine own_iload_n X0 hx (hb hby d6_1) rfl 2 rfl ?_
  refine own_aconst_null X0 hx (hb hby d6_2) 3 rfl ?_
  refine own_pureS X0 hx hZ hown (own_w hw 44 rfl) (own_w hw 45 rfl) (own_w hw 46 rfl) (own_w hw 47 rfl) (by decide) [(.int (0 : Int32)), (.int (1 : Int32)), .null] [] 0 (rm_checkIndex_8 l Z a0 hw [] h0 n0 O ) (by decide) (by decide) rfl rfl e0 (by rw [hml]; rfl) (lenOf pd_4 rfl) (Nat.le_of_eq rfl) (hb hby d6_3) 6 rfl rfl (by decide) (by decide) fun T2 X2 e2 => ?_
  exact own_retI X2 hx hk hret (hb hby d6_6) ⟨rfl, e2, rfl⟩ (by decide) (by decide)
theorem pd_5 : parseMethodDescriptor "(II)I" = some ⟨[.int, .int], some .int⟩ := by decide +kernel
theorem d5_0 : decode prog_5_method_3_code 0 = .ok (.iload_n 1, 1) := by decide +kernel
theorem d5_1 : decode prog_5_method_3_code 1 = .ok (.aload_n 0, 1) := by decide +kernel
theorem d5_2 : decode prog_5_method_3_code 2 = .ok (.getfield 15, 3) := by decide +kernel
theorem d5_5 : decode prog_5_method_3_code 5 = .ok (.invokestatic 35, 3) := by decide +kernel
theorem d5_8 : decode prog_5_method_3_code 8 = .ok (.pop, 1) := by decide +kernel
theorem d5_9 : decode prog_5_method_3_code 9 = .ok (.aload_n 0, 1) := by decide +kernel
theorem d5_10 : decode prog_5_method_3_code 10 = .ok (.getfield 9, 3) := by decide +kernel
theorem d5_13 : decode prog_5_method_3_code 13 = .ok (.iload_n 1, 1) := by decide +kernel
theorem d5_14 : decode prog_5_method_3_code 14 = .ok (.invokestatic 19, 3) := by decide +kernel
theorem d5_17 : decode prog_5_method_3_code 17 = .ok (.aaload, 1) := by decide +kernel
theorem d5_18 : decode prog_5_method_3_code 18 = .ok (.iload_n 1, 1) := by decide +kernel
theorem d5_19 : decode prog_5_method_3_code 19 = .ok (.invokestatic 32, 3) := by decide +kernel
theorem d5_22 : decode prog_5_method_3_code 22 = .ok (.laload, 1) := by decide +kernel
theorem d5_23 : decode prog_5_method_3_code 23 = .ok (.lreturn, 1) := by decide +kernel
theorem ef_5 (m : MethodId) (y0 : Addr) (y1 : Int32) : entryFrame m #[(.ref y0), (.int y1)] 2 = mkF m 0 #[.val (.ref y0), .val (.int y1)] [] := by first | (simp [entryFrame, mkF, argsToLocals, Value.category]; done) | rfl
theorem rm_get_6 (l : Launch) (Z : State) (a0 : Array Value) (hw : own_HW Z a0) (ws : List Jvm.Cond)  (h0 : Heap) (n0 : Nat) (O : Old Z n0 h0) (b0 : Addr) (b1 : Addr) (b2 : Addr) (j0 : Int64) (k_b1 : ClassId) (k_b2 : ClassId) (F_b0_chunks : Fld Z h0 b0 "com/example/gridledger/gridledger/columns/LongColumn" "chunks" "[[J" (.ref b1)) (F_b0_size : Fld Z h0 b0 "com/example/gridledger/gridledger/columns/LongColumn" "size" "I" (.int (1 : Int32))) (V_b1 : Arv Z h0 b1 k_b1 (.array .long) (1 : Int32) [(.ref b2)] .null) (V_b2 : Arv Z h0 b2 k_b2 .long (4096 : Int32) [(.long j0)] (.long (0 : Int64))) :
    own_Met l (⟨"com/example/gridledger/gridledger/columns/LongColumn", "get", "(I)J"⟩ : MethodName) prog_5_method_3_code 2 (some .long) ws (own_rm 2 0 0 27) Z #[(.ref b0), (.int (0 : Int32))] h0 (own_R (some (.long j0)) h0) := by
  refine own_met (plainFor_of_name pn_0) ?_
  intro p e s m below meth c T0 hx hby hml hown hret hk hnm hZ X0 e0
  have hown : s.vm.findClass "com/example/gridledger/gridledger/columns/LongColumn" = some m.cls := hown
  refine own_ent (ef_5 m b0 (0 : Int32)) ?_
  refine own_iload_n X0 hx (hb hby d5_0) rfl 1 rfl ?_
  refine own_aload_n X0 hx (hb hby d5_1) rfl rfl 2 rfl ?_
  refine own_getF X0 hx hZ hown (host := "") (Or.inl (own_w hw 18 rfl)) Via.refl e0 F_b0_size (hb hby d5_2) 5 rfl fun T1 X1 e1 => ?_
  refine own_pureS X1 hx hZ hown (own_w hw 40 rfl) (own_w hw 41 rfl) (own_w hw 42 rfl) (own_w hw 43 rfl) (by decide) [(.int (0 : Int32)), (.int (1 : Int32))] [] 0 (rm_checkIndex_7 l Z a0 hw [] h0 n0 O ) (by decide) (by decide) rfl rfl e1 (by rw [hml]; rfl) (lenOf pd_5 rfl) (Nat.le_of_eq rfl) (hb hby d5_5) 8 rfl rfl (by decide) (by decide) fun T3 X3 e3 => ?_
  refine own_pop X3 hx (hb hby d5_8) rfl 9 rfl ?_
  refine own_aload_n X3 hx (hb hby d5_9) rfl rfl 10 rfl ?_
  refine own_getF X3 hx hZ hown (host := "") (Or.inl (own_w hw 11 rfl)) Via.refl e3 F_b0_chunks (hb hby d5_10) 13 rfl fun T4 X4 e4 => ?_
  refine own_iload_n X4 hx (hb hby d5_13) rfl 14 rfl ?_
  refine own_pureS X4 hx hZ hown (own_w hw 20 rfl) (own_w hw 21 rfl) (own_w hw 22 rfl) (own_w hw 23 rfl) (by decide) [(.int (0 : Int32))] [(.ref b1)] 1 (rm_chunk_3 l Z a0 hw [] h0 n0 O ) (by decide) (by decide) rfl rfl e4 (by rw [hml]; rfl) (lenOf pd_1 rfl) (Nat.le_of_eq rfl) (hb hby d5_14) 17 rfl rfl (by decide) (by decide) fun T6 X6 e6 => ?_
  refine own_aaload X6 hx hZ e6 V_b1 rfl (.ref b2) (by decide) rfl (hb hby d5_17) 18 rfl ?_
  refine own_iload_n X6 hx (hb hby d5_18) rfl 19 rfl ?_
  refine own_pureS X6 hx hZ hown (own_w hw 26 rfl) (own_w hw 27 rfl) (own_w hw 22 rfl) (own_w hw 28 rfl) (by decide) [(.int (0 : Int32))] [(.ref b2)] 1 (rm_place_4 l Z a0 hw [] h0 n0 O ) (by decide) (by decide) rfl rfl e6 (by rw [hml]; rfl) (lenOf pd_1 rfl) (Nat.le_of_eq rfl) (hb hby d5_19) 22 rfl rfl (by decide) (by decide) fun T8 X8 e8 => ?_
  refine own_laload X8 hx hZ e8 V_b2 (.long j0) (by decide) rfl (hb hby d5_22) 23 rfl ?_
  exact own_retJ X8 hx hk hret (hb hby d5_23) ⟨rfl, e8, rfl⟩ (by decide) (by decide)
theorem rm_chunk_10 (l : Launch) (Z : State) (a0 : Array Value) (hw : own_HW Z a0) (ws : List Jvm.Cond)  (h0 : Heap) (n0 : Nat) (O : Old Z n0 h0)  :
    own_Met l (⟨"com/example/gridledger/gridledger/columns/Chunks", "chunk", "(I)I"⟩ : MethodName) prog_2_method_2_code 1 (some .int) ws (own_rm 0 0 0 0) Z #[(.int (1 : Int32))] h0 (own_R (some (.int (0 : Int32))) h0) := by
  refine own_met (plainFor_of_name pn_1) ?_
  intro p e s m below meth c T0 hx hby hml hown hret hk hnm hZ X0 e0
  have hown : s.vm.findClass "com/example/gridledger/gridledger/columns/Chunks" = some m.cls := hown
  refine own_ent (ef_1 m (1 : Int32)) ?_
  refine own_iload_n X0 hx (hb hby d2_0) rfl 1 rfl ?_
  refine own_bipush X0 hx (hb hby d2_1) (12 : Int32) rfl 3 rfl ?_
  refine own_iushr X0 hx (hb hby d2_3) 4 rfl ?_
  refine own_topI (0 : Int32) (by decide) ?_
  exact own_retI X0 hx hk hret (hb hby d2_4) ⟨rfl, e0, rfl⟩ (by decide) (by decide)
theorem rm_place_11 (l : Launch) (Z : State) (a0 : Array Value) (hw : own_HW Z a0) (ws : List Jvm.Cond)  (h0 : Heap) (n0 : Nat) (O : Old Z n0 h0)  :
    own_Met l (⟨"com/example/gridledger/gridledger/columns/Chunks", "place", "(I)I"⟩ : MethodName) prog_2_method_3_code 1 (some .int) ws (own_rm 0 0 0 0) Z #[(.int (1 : Int32))] h0 (own_R (some (.int (1 : Int32))) h0) := by
  refine own_met (plainFor_of_name pn_1) ?_
  intro p e s m below meth c T0 hx hby hml hown hret hk hnm hZ X0 e0
  have hown : s.vm.findClass "com/example/gridledger/gridledger/columns/Chunks" = some m.cls := hown
  refine own_ent (ef_1 m (1 : Int32)) ?_
  refine own_iload_n X0 hx (hb hby d3_0) rfl 1 rfl ?_
  refine own_sipush X0 hx (hb hby d3_1) (4095 : Int32) rfl 4 rfl ?_
  refine own_iand X0 hx (hb hby d3_4) 5 rfl ?_
  refine own_topI (1 : Int32) (by decide) ?_
  exact own_retI X0 hx hk hret (hb hby d3_5) ⟨rfl, e0, rfl⟩ (by decide) (by decide)
def Q_rm_add_9 (Z : State) (h0 : Heap) (n0 : Nat) (b0 : Addr) (b1 : Addr) (b2 : Addr) (j0 : Int64) (j1 : Int64) (k_b1 : ClassId) (k_b2 : ClassId) (v : Option Value) (h : Heap) (L : List Loc) : Prop := v = none ∧ Fr n0 L ∧ Keep h0 h [b2, b0] ∧ Exa Z h b0 "com/example/gridledger/gridledger/columns/LongColumn" ∧ Fld Z h b0 "com/example/gridledger/gridledger/columns/LongColumn" "chunks" "[[J" (.ref b1) ∧ Fld Z h b0 "com/example/gridledger/gridledger/columns/LongColumn" "size" "I" (.int (2 : Int32)) ∧ Arv Z h b2 k_b2 .long (4096 : Int32) [(.long j1), (.long j0)] (.long (0 : Int64)) ∧ Exa Z h b2 "[J"
theorem rm_add_9 (l : Launch) (Z : State) (a0 : Array Value) (hw : own_HW Z a0) (ws : List Jvm.Cond)  (h0 : Heap) (n0 : Nat) (O : Old Z n0 h0) (b0 : Addr) (b1 : Addr) (b2 : Addr) (j0 : Int64) (j1 : Int64) (k_b1 : ClassId) (k_b2 : ClassId) (E_b0 : Exa Z h0 b0 "com/example/gridledger/gridledger/columns/LongColumn") (F_b0_chunks : Fld Z h0 b0 "com/example/gridledger/gridledger/columns/LongColumn" "chunks" "[[J" (.ref b1)) (F_b0_size : Fld Z h0 b0 "com/example/gridledger/gridledger/columns/LongColumn" "size" "I" (.int (1 : Int32))) (g_b0 : n0 ≤ b0) (V_b1 : Arv Z h0 b1 k_b1 (.array .long) (1 : Int32) [(.ref b2)] .null) (V_b2 : Arv Z h0 b2 k_b2 .long (4096 : Int32) [(.long j1)] (.long (0 : Int64))) (A_b2 : Exa Z h0 b2 "[J") (g_b2 : n0 ≤ b2) (ne_b0_b2 : b0 ≠ b2) :
    own_Met l (⟨"com/example/gridledger/gridledger/columns/LongColumn", "add", "(J)V"⟩ : MethodName) prog_5_method_2_code 4 none ws (own_rm 1 0 0 13) Z #[(.ref b0), (.long j0)] h0 (Q_rm_add_9 Z h0 n0 b0 b1 b2 j0 j1 k_b1 k_b2) := by
  refine own_met (plainFor_of_name pn_0) ?_
  intro p e s m below meth c T0 hx hby hml hown hret hk hnm hZ X0 e0
  have hown : s.vm.findClass "com/example/gridledger/gridledger/columns/LongColumn" = some m.cls := hown
  refine own_ent (ef_2 m b0 j0) ?_
  refine own_aload_n X0 hx (hb hby d1_0) rfl rfl 1 rfl ?_
  refine own_getF X0 hx hZ hown (host := "") (Or.inl (own_w hw 18 rfl)) Via.refl e0 F_b0_size (hb hby d1_1) 4 rfl fun T1 X1 e1 => ?_
  refine own_pureS X1 hx hZ hown (own_w hw 20 rfl) (own_w hw 21 rfl) (own_w hw 22 rfl) (own_w hw 23 rfl) (by decide) [(.int (1 : Int32))] [] 0 (rm_chunk_10 l Z a0 hw [] h0 n0 O ) (by decide) (by decide) rfl rfl e1 (by rw [hml]; rfl) (lenOf pd_1 rfl) (Nat.le_of_eq rfl) (hb hby d1_4) 7 rfl rfl (by decide) (by decide) fun T3 X3 e3 => ?_
  refine own_istore_n X3 hx (hb hby d1_7) #[.val (.ref b0), .val (.long j0), .second, .val (.int (0 : Int32))] rfl 8 rfl ?_
  refine own_iload_n X3 hx (hb hby d1_8) rfl 9 rfl ?_
  refine own_aload_n X3 hx (hb hby d1_9) rfl rfl 10 rfl ?_
  refine own_getF X3 hx hZ hown (host := "") (Or.inl (own_w hw 11 rfl)) Via.refl e3 F_b0_chunks (hb hby d1_10) 13 rfl fun T4 X4 e4 => ?_
  refine own_alen X4 hx hZ e4 V_b1 (hb hby d1_13) 14 rfl ?_
  refine own_icmpY X4 hx (hb hby d1_14) (feq (by decide : ¬ ((0 : Int32) = (1 : Int32)))).2 34 (by decide) (by decide) ?_
  refine own_aload_n X4 hx (hb hby d1_34) rfl rfl 35 rfl ?_
  refine own_getF X4 hx hZ hown (host := "") (Or.inl (own_w hw 11 rfl)) Via.refl e4 F_b0_chunks (hb hby d1_35) 38 rfl fun T5 X5 e5 => ?_
  refine own_iload_n X5 hx (hb hby d1_38) rfl 39 rfl ?_
  refine own_aaload X5 hx hZ e5 V_b1 rfl (.ref b2) (by decide) rfl (hb hby d1_39) 40 rfl ?_
  refine own_ifnonnullY X5 hx (hb hby d1_40) 54 (by decide) (by decide) ?_
  refine own_aload_n X5 hx (hb hby d1_54) rfl rfl 55 rfl ?_
  refine own_getF X5 hx hZ hown (host := "") (Or.inl (own_w hw 11 rfl)) Via.refl e5 F_b0_chunks (hb hby d1_55) 58 rfl fun T6 X6 e6 => ?_
  refine own_iload_n X6 hx (hb hby d1_58) rfl 59 rfl ?_
  refine own_aaload X6 hx hZ e6 V_b1 rfl (.ref b2) (by decide) rfl (hb hby d1_59) 60 rfl ?_
  refine own_aload_n X6 hx (hb hby d1_60) rfl rfl 61 rfl ?_
  refine own_getF X6 hx hZ hown (host := "") (Or.inl (own_w hw 18 rfl)) Via.refl e6 F_b0_size (hb hby d1_61) 64 rfl fun T7 X7 e7 => ?_
  refine own_pureS X7 hx hZ hown (own_w hw 26 rfl) (own_w hw 27 rfl) (own_w hw 22 rfl) (own_w hw 28 rfl) (by decide) [(.int (1 : Int32))] [(.ref b2)] 1 (rm_place_11 l Z a0 hw [] h0 n0 O ) (by decide) (by decide) rfl rfl e7 (by rw [hml]; rfl) (lenOf pd_1 rfl) (Nat.le_of_eq rfl) (hb hby d1_64) 67 rfl rfl (by decide) (by decide) fun T9 X9 e9 => ?_
  refine own_lload_n X9 hx (hb hby d1_67) rfl 68 rfl ?_
  have V10 : Arv Z h0 b2 k_b2 .long (4096 : Int32) [(.long j1), (.long (0 : Int64))] (.long (0 : Int64)) := V_b2.pad (pad_rep [(.long j1)] (.long (0 : Int64)) 1)
  refine own_lastore X9 hx hZ e9 V10 1 (by decide) (by decide) (by simp) [(.long j1), (.long j0)] rfl (hb hby d1_68) 69 rfl fun T11 X11 W11 V11 => ?_
  have N12 := Fr.snoc X11 (Fr.nil n0) g_b2
  have K12 := Keep.wr (Keep.refl h0 [b2, b0]) W11 (Or.inl (by simp))
  refine own_aload_n X11 hx (hb hby d1_69) rfl rfl 70 rfl ?_
  refine own_dup X11 hx (hb hby d1_70) rfl 71 rfl ?_
  have f13 := (F_b0_size.other W11 (Or.inl ne_b0_b2))
  refine own_getF X11 hx hZ hown (host := "") (Or.inl (own_w hw 18 rfl)) Via.refl rfl f13 (hb hby d1_71) 74 rfl fun T14 X14 e14 => ?_
  refine own_iconst X14 hx (hb hby d1_74) (1 : Int32) rfl 75 rfl ?_
  refine own_iadd X14 hx (hb hby d1_75) 76 rfl ?_
  refine own_topI (2 : Int32) (by decide) ?_
  have f16 := (E_b0.wr W11)
  refine own_putF X14 hx hZ hown (host := "") (Or.inl (own_w hw 18 rfl)) Via.refl e14 f13 f16 (Or.inl (own_w hw 19 rfl)) (own_w hw 1 rfl) (ty := .int) (by decide) rfl rfl (hb hby d1_76) 79 rfl fun T15 X15 W15 => ?_
  have G15 := Fld.same W15 f13
  have N17 := Fr.snoc X15 N12 g_b0
  have K17 := Keep.wr K12 W15 (Or.inl (by simp))
  have f18 := (f16.wr W15)
  have f19 := ((F_b0_chunks.other W11 (Or.inl ne_b0_b2)).other W15 (Or.inr (Ne.symm (sn_0 hw))))
  have f20 := (own_vo V11 W15 ne_b0_b2)
  have f21 := ((A_b2.wr W11).wr W15)
  exact own_retV X15 hx hk hret (hb hby d1_79) (by show Q_rm_add_9 Z h0 n0 b0 b1 b2 j0 j1 k_b1 k_b2 _ T15.heap _; exact ⟨rfl, N17, K17, f18, f19, G15, f20, f21⟩) (by decide) (by decide)
theorem rm_size_12 (l : Launch) (Z : State) (a0 : Array Value) (hw : own_HW Z a0) (ws : List Jvm.Cond)  (h0 : Heap) (n0 : Nat) (O : Old Z n0 h0) (b0 : Addr) (F_b0_size : Fld Z h0 b0 "com/example/gridledger/gridledger/columns/LongColumn" "size" "I" (.int (2 : Int32))) :
    own_Met l (⟨"com/example/gridledger/gridledger/columns/LongColumn", "size", "()I"⟩ : MethodName) prog_5_method_4_code 1 (some .int) ws (own_rm 0 0 0 0) Z #[(.ref b0)] h0 (own_R (some (.int (2 : Int32))) h0) := by
  refine own_met (plainFor_of_name pn_0) ?_
  intro p e s m below meth c T0 hx hby hml hown hret hk hnm hZ X0 e0
  have hown : s.vm.findClass "com/example/gridledger/gridledger/columns/LongColumn" = some m.cls := hown
  refine own_ent (ef_0 m b0) ?_
  refine own_aload_n X0 hx (hb hby d4_0) rfl rfl 1 rfl ?_
  refine own_getF X0 hx hZ hown (host := "") (Or.inl (own_w hw 18 rfl)) Via.refl e0 F_b0_size (hb hby d4_1) 4 rfl fun T1 X1 e1 => ?_
  exact own_retI X1 hx hk hret (hb hby d4_4) ⟨rfl, e1, rfl⟩ (by decide) (by decide)
theorem rm_checkIndex_15 (l : Launch) (Z : State) (a0 : Array Value) (hw : own_HW Z a0) (ws : List Jvm.Cond)  (h0 : Heap) (n0 : Nat) (O : Old Z n0 h0)  :
    own_Met l (⟨"jdk/internal/util/Preconditions", "checkIndex", "(IILjava/util/function/BiFunction;)I"⟩ : MethodName) jdk_41_method_11_code 3 (some .int) ws (own_rm 0 0 0 0) Z #[(.int (0 : Int32)), (.int (2 : Int32)), .null] h0 (own_R (some (.int (0 : Int32))) h0) := by
  refine own_met (plainFor_of_name pn_2) ?_
  intro p e s m below meth c T0 hx hby hml hown hret hk hnm hZ X0 e0
  have hown : s.vm.findClass "jdk/internal/util/Preconditions" = some m.cls := hown
  refine own_ent (ef_3 m (0 : Int32) (2 : Int32)) ?_
  refine own_iload_n X0 hx (hb hby d7_0) rfl 1 rfl ?_
  refine own_ifN X0 hx (hb hby d7_1) ((if0 _ _).trans (flt (by decide : ¬ ((0 : Int32) < (0 : Int32)))).1) 4 rfl ?_
  refine own_iload_n X0 hx (hb hby d7_4) rfl 5 rfl ?_
  refine own_iload_n X0 hx (hb hby d7_5) rfl 6 rfl ?_
  refine own_icmpY X0 hx (hb hby d7_6) (tlt (by decide : (0 : Int32) < (2 : Int32))).1 16 (by decide) (by decide) ?_
  refine own_iload_n X0 hx (hb hby d7_16) rfl 17 rfl ?_
  exact own_retI X0 hx hk hret (hb hby d7_17) ⟨rfl, e0, rfl⟩ (by decide) (by decide)
theorem rm_checkIndex_14 (l : Launch) (Z : State) (a0 : Array Value) (hw : own_HW Z a0) (ws : List Jvm.Cond)  (h0 : Heap) (n0 : Nat) (O : Old Z n0 h0)  :
    own_Met l (⟨"java/util/Objects", "checkIndex", "(II)I"⟩ : MethodName) jdk_31_method_17_code 2 (some .int) ws (own_rm 1 0 0 14) Z #[(.int (0 : Int32)), (.int (2 : Int32))] h0 (own_R (some (.int (0 : Int32))) h0) := by
  refine own_met (plainFor_of_name pn_3) ?_
  intro p e s m below meth c T0 hx hby hml hown hret hk hnm hZ X0 e0
  have hown : s.vm.findClass "java/util/Objects" = some m.cls := hown
  refine own_ent (ef_4 m (0 : Int32) (2 : Int32)) ?_
  refine own_iload_n X0 hx (hb hby d6_0) rfl 1 rfl ?_
  refine own_iload_n X0 hx (hb hby d6_1) rfl 2 rfl ?_
  refine own_aconst_null X0 hx (hb hby d6_2) 3 rfl ?_
  refine own_pureS X0 hx hZ hown (own_w hw 44 rfl) (own_w hw 45 rfl) (own_w hw 46 rfl) (own_w hw 47 rfl) (by decide) [(.int (0 : Int32)), (.int (2 : Int32)), .null] [] 0 (rm_checkIndex_15 l Z a0 hw [] h0 n0 O ) (by decide) (by decide) rfl rfl e0 (by rw [hml]; rfl) (lenOf pd_4 rfl) (Nat.le_of_eq rfl) (hb hby d6_3) 6 rfl rfl (by decide) (by decide) fun T2 X2 e2 => ?_
  exact own_retI X2 hx hk hret (hb hby d6_6) ⟨rfl, e2, rfl⟩ (by decide) (by decide)
theorem rm_get_13 (l : Launch) (Z : State) (a0 : Array Value) (hw : own_HW Z a0) (ws : List Jvm.Cond)  (h0 : Heap) (n0 : Nat) (O : Old Z n0 h0) (b0 : Addr) (b1 : Addr) (b2 : Addr) (j0 : Int64) (j1 : Int64) (k_b1 : ClassId) (k_b2 : ClassId) (F_b0_chunks : Fld Z h0 b0 "com/example/gridledger/gridledger/columns/LongColumn" "chunks" "[[J" (.ref b1)) (F_b0_size : Fld Z h0 b0 "com/example/gridledger/gridledger/columns/LongColumn" "size" "I" (.int (2 : Int32))) (V_b1 : Arv Z h0 b1 k_b1 (.array .long) (1 : Int32) [(.ref b2)] .null) (V_b2 : Arv Z h0 b2 k_b2 .long (4096 : Int32) [(.long j0), (.long j1)] (.long (0 : Int64))) :
    own_Met l (⟨"com/example/gridledger/gridledger/columns/LongColumn", "get", "(I)J"⟩ : MethodName) prog_5_method_3_code 2 (some .long) ws (own_rm 2 0 0 27) Z #[(.ref b0), (.int (0 : Int32))] h0 (own_R (some (.long j0)) h0) := by
  refine own_met (plainFor_of_name pn_0) ?_
  intro p e s m below meth c T0 hx hby hml hown hret hk hnm hZ X0 e0
  have hown : s.vm.findClass "com/example/gridledger/gridledger/columns/LongColumn" = some m.cls := hown
  refine own_ent (ef_5 m b0 (0 : Int32)) ?_
  refine own_iload_n X0 hx (hb hby d5_0) rfl 1 rfl ?_
  refine own_aload_n X0 hx (hb hby d5_1) rfl rfl 2 rfl ?_
  refine own_getF X0 hx hZ hown (host := "") (Or.inl (own_w hw 18 rfl)) Via.refl e0 F_b0_size (hb hby d5_2) 5 rfl fun T1 X1 e1 => ?_
  refine own_pureS X1 hx hZ hown (own_w hw 40 rfl) (own_w hw 41 rfl) (own_w hw 42 rfl) (own_w hw 43 rfl) (by decide) [(.int (0 : Int32)), (.int (2 : Int32))] [] 0 (rm_checkIndex_14 l Z a0 hw [] h0 n0 O ) (by decide) (by decide) rfl rfl e1 (by rw [hml]; rfl) (lenOf pd_5 rfl) (Nat.le_of_eq rfl) (hb hby d5_5) 8 rfl rfl (by decide) (by decide) fun T3 X3 e3 => ?_
  refine own_pop X3 hx (hb hby d5_8) rfl 9 rfl ?_
  refine own_aload_n X3 hx (hb hby d5_9) rfl rfl 10 rfl ?_
  refine own_getF X3 hx hZ hown (host := "") (Or.inl (own_w hw 11 rfl)) Via.refl e3 F_b0_chunks (hb hby d5_10) 13 rfl fun T4 X4 e4 => ?_
  refine own_iload_n X4 hx (hb hby d5_13) rfl 14 rfl ?_
  refine own_pureS X4 hx hZ hown (own_w hw 20 rfl) (own_w hw 21 rfl) (own_w hw 22 rfl) (own_w hw 23 rfl) (by decide) [(.int (0 : Int32))] [(.ref b1)] 1 (rm_chunk_3 l Z a0 hw [] h0 n0 O ) (by decide) (by decide) rfl rfl e4 (by rw [hml]; rfl) (lenOf pd_1 rfl) (Nat.le_of_eq rfl) (hb hby d5_14) 17 rfl rfl (by decide) (by decide) fun T6 X6 e6 => ?_
  refine own_aaload X6 hx hZ e6 V_b1 rfl (.ref b2) (by decide) rfl (hb hby d5_17) 18 rfl ?_
  refine own_iload_n X6 hx (hb hby d5_18) rfl 19 rfl ?_
  refine own_pureS X6 hx hZ hown (own_w hw 26 rfl) (own_w hw 27 rfl) (own_w hw 22 rfl) (own_w hw 28 rfl) (by decide) [(.int (0 : Int32))] [(.ref b2)] 1 (rm_place_4 l Z a0 hw [] h0 n0 O ) (by decide) (by decide) rfl rfl e6 (by rw [hml]; rfl) (lenOf pd_1 rfl) (Nat.le_of_eq rfl) (hb hby d5_19) 22 rfl rfl (by decide) (by decide) fun T8 X8 e8 => ?_
  refine own_laload X8 hx hZ e8 V_b2 (.long j0) (by decide) rfl (hb hby d5_22) 23 rfl ?_
  exact own_retJ X8 hx hk hret (hb hby d5_23) ⟨rfl, e8, rfl⟩ (by decide) (by decide)
theorem rm_checkIndex_18 (l : Launch) (Z : State) (a0 : Array Value) (hw : own_HW Z a0) (ws : List Jvm.Cond)  (h0 : Heap) (n0 : Nat) (O : Old Z n0 h0)  :
    own_Met l (⟨"jdk/internal/util/Preconditions", "checkIndex", "(IILjava/util/function/BiFunction;)I"⟩ : MethodName) jdk_41_method_11_code 3 (some .int) ws (own_rm 0 0 0 0) Z #[(.int (1 : Int32)), (.int (2 : Int32)), .null] h0 (own_R (some (.int (1 : Int32))) h0) := by
  refine own_met (plainFor_of_name pn_2) ?_
  intro p e s m below meth c T0 hx hby hml hown hret hk hnm hZ X0 e0
  have hown : s.vm.findClass "jdk/internal/util/Preconditions" = some m.cls := hown
  refine own_ent (ef_3 m (1 : Int32) (2 : Int32)) ?_
  refine own_iload_n X0 hx (hb hby d7_0) rfl 1 rfl ?_
  refine own_ifN X0 hx (hb hby d7_1) ((if0 _ _).trans (flt (by decide : ¬ ((1 : Int32) < (0 : Int32)))).1) 4 rfl ?_
  refine own_iload_n X0 hx (hb hby d7_4) rfl 5 rfl ?_
  refine own_iload_n X0 hx (hb hby d7_5) rfl 6 rfl ?_
  refine own_icmpY X0 hx (hb hby d7_6) (tlt (by decide : (1 : Int32) < (2 : Int32))).1 16 (by decide) (by decide) ?_
  refine own_iload_n X0 hx (hb hby d7_16) rfl 17 rfl ?_
  exact own_retI X0 hx hk hret (hb hby d7_17) ⟨rfl, e0, rfl⟩ (by decide) (by decide)
theorem rm_checkIndex_17 (l : Launch) (Z : State) (a0 : Array Value) (hw : own_HW Z a0) (ws : List Jvm.Cond)  (h0 : Heap) (n0 : Nat) (O : Old Z n0 h0)  :
    own_Met l (⟨"java/util/Objects", "checkIndex", "(II)I"⟩ : MethodName) jdk_31_method_17_code 2 (some .int) ws (own_rm 1 0 0 14) Z #[(.int (1 : Int32)), (.int (2 : Int32))] h0 (own_R (some (.int (1 : Int32))) h0) := by
  refine own_met (plainFor_of_name pn_3) ?_
  intro p e s m below meth c T0 hx hby hml hown hret hk hnm hZ X0 e0
  have hown : s.vm.findClass "java/util/Objects" = some m.cls := hown
  refine own_ent (ef_4 m (1 : Int32) (2 : Int32)) ?_
  refine own_iload_n X0 hx (hb hby d6_0) rfl 1 rfl ?_
  refine own_iload_n X0 hx (hb hby d6_1) rfl 2 rfl ?_
  refine own_aconst_null X0 hx (hb hby d6_2) 3 rfl ?_
  refine own_pureS X0 hx hZ hown (own_w hw 44 rfl) (own_w hw 45 rfl) (own_w hw 46 rfl) (own_w hw 47 rfl) (by decide) [(.int (1 : Int32)), (.int (2 : Int32)), .null] [] 0 (rm_checkIndex_18 l Z a0 hw [] h0 n0 O ) (by decide) (by decide) rfl rfl e0 (by rw [hml]; rfl) (lenOf pd_4 rfl) (Nat.le_of_eq rfl) (hb hby d6_3) 6 rfl rfl (by decide) (by decide) fun T2 X2 e2 => ?_
  exact own_retI X2 hx hk hret (hb hby d6_6) ⟨rfl, e2, rfl⟩ (by decide) (by decide)
theorem rm_get_16 (l : Launch) (Z : State) (a0 : Array Value) (hw : own_HW Z a0) (ws : List Jvm.Cond)  (h0 : Heap) (n0 : Nat) (O : Old Z n0 h0) (b0 : Addr) (b1 : Addr) (b2 : Addr) (j0 : Int64) (j1 : Int64) (k_b1 : ClassId) (k_b2 : ClassId) (F_b0_chunks : Fld Z h0 b0 "com/example/gridledger/gridledger/columns/LongColumn" "chunks" "[[J" (.ref b1)) (F_b0_size : Fld Z h0 b0 "com/example/gridledger/gridledger/columns/LongColumn" "size" "I" (.int (2 : Int32))) (V_b1 : Arv Z h0 b1 k_b1 (.array .long) (1 : Int32) [(.ref b2)] .null) (V_b2 : Arv Z h0 b2 k_b2 .long (4096 : Int32) [(.long j0), (.long j1)] (.long (0 : Int64))) :
    own_Met l (⟨"com/example/gridledger/gridledger/columns/LongColumn", "get", "(I)J"⟩ : MethodName) prog_5_method_3_code 2 (some .long) ws (own_rm 2 0 0 27) Z #[(.ref b0), (.int (1 : Int32))] h0 (own_R (some (.long j1)) h0) := by
  refine own_met (plainFor_of_name pn_0) ?_
  intro p e s m below meth c T0 hx hby hml hown hret hk hnm hZ X0 e0
  have hown : s.vm.findClass "com/example/gridledger/gridledger/columns/LongColumn" = some m.cls := hown
  refine own_ent (ef_5 m b0 (1 : Int32)) ?_
  refine own_iload_n X0 hx (hb hby d5_0) rfl 1 rfl ?_
  refine own_aload_n X0 hx (hb hby d5_1) rfl rfl 2 rfl ?_
  refine own_getF X0 hx hZ hown (host := "") (Or.inl (own_w hw 18 rfl)) Via.refl e0 F_b0_size (hb hby d5_2) 5 rfl fun T1 X1 e1 => ?_
  refine own_pureS X1 hx hZ hown (own_w hw 40 rfl) (own_w hw 41 rfl) (own_w hw 42 rfl) (own_w hw 43 rfl) (by decide) [(.int (1 : Int32)), (.int (2 : Int32))] [] 0 (rm_checkIndex_17 l Z a0 hw [] h0 n0 O ) (by decide) (by decide) rfl rfl e1 (by rw [hml]; rfl) (lenOf pd_5 rfl) (Nat.le_of_eq rfl) (hb hby d5_5) 8 rfl rfl (by decide) (by decide) fun T3 X3 e3 => ?_
  refine own_pop X3 hx (hb hby d5_8) rfl 9 rfl ?_
  refine own_aload_n X3 hx (hb hby d5_9) rfl rfl 10 rfl ?_
  refine own_getF X3 hx hZ hown (host := "") (Or.inl (own_w hw 11 rfl)) Via.refl e3 F_b0_chunks (hb hby d5_10) 13 rfl fun T4 X4 e4 => ?_
  refine own_iload_n X4 hx (hb hby d5_13) rfl 14 rfl ?_
  refine own_pureS X4 hx hZ hown (own_w hw 20 rfl) (own_w hw 21 rfl) (own_w hw 22 rfl) (own_w hw 23 rfl) (by decide) [(.int (1 : Int32))] [(.ref b1)] 1 (rm_chunk_10 l Z a0 hw [] h0 n0 O ) (by decide) (by decide) rfl rfl e4 (by rw [hml]; rfl) (lenOf pd_1 rfl) (Nat.le_of_eq rfl) (hb hby d5_14) 17 rfl rfl (by decide) (by decide) fun T6 X6 e6 => ?_
  refine own_aaload X6 hx hZ e6 V_b1 rfl (.ref b2) (by decide) rfl (hb hby d5_17) 18 rfl ?_
  refine own_iload_n X6 hx (hb hby d5_18) rfl 19 rfl ?_
  refine own_pureS X6 hx hZ hown (own_w hw 26 rfl) (own_w hw 27 rfl) (own_w hw 22 rfl) (own_w hw 28 rfl) (by decide) [(.int (1 : Int32))] [(.ref b2)] 1 (rm_place_11 l Z a0 hw [] h0 n0 O ) (by decide) (by decide) rfl rfl e6 (by rw [hml]; rfl) (lenOf pd_1 rfl) (Nat.le_of_eq rfl) (hb hby d5_19) 22 rfl rfl (by decide) (by decide) fun T8 X8 e8 => ?_
  refine own_laload X8 hx hZ e8 V_b2 (.long j1) (by decide) rfl (hb hby d5_22) 23 rfl ?_
  exact own_retJ X8 hx hk hret (hb hby d5_23) ⟨rfl, e8, rfl⟩ (by decide) (by decide)
theorem rm_chunk_20 (l : Launch) (Z : State) (a0 : Array Value) (hw : own_HW Z a0) (ws : List Jvm.Cond)  (h0 : Heap) (n0 : Nat) (O : Old Z n0 h0)  :
    own_Met l (⟨"com/example/gridledger/gridledger/columns/Chunks", "chunk", "(I)I"⟩ : MethodName) prog_2_method_2_code 1 (some .int) ws (own_rm 0 0 0 0) Z #[(.int (2 : Int32))] h0 (own_R (some (.int (0 : Int32))) h0) := by
  refine own_met (plainFor_of_name pn_1) ?_
  intro p e s m below meth c T0 hx hby hml hown hret hk hnm hZ X0 e0
  have hown : s.vm.findClass "com/example/gridledger/gridledger/columns/Chunks" = some m.cls := hown
  refine own_ent (ef_1 m (2 : Int32)) ?_
  refine own_iload_n X0 hx (hb hby d2_0) rfl 1 rfl ?_
  refine own_bipush X0 hx (hb hby d2_1) (12 : Int32) rfl 3 rfl ?_
  refine own_iushr X0 hx (hb hby d2_3) 4 rfl ?_
  refine own_topI (0 : Int32) (by decide) ?_
  exact own_retI X0 hx hk hret (hb hby d2_4) ⟨rfl, e0, rfl⟩ (by decide) (by decide)
theorem rm_place_21 (l : Launch) (Z : State) (a0 : Array Value) (hw : own_HW Z a0) (ws : List Jvm.Cond)  (h0 : Heap) (n0 : Nat) (O : Old Z n0 h0)  :
    own_Met l (⟨"com/example/gridledger/gridledger/columns/Chunks", "place", "(I)I"⟩ : MethodName) prog_2_method_3_code 1 (some .int) ws (own_rm 0 0 0 0) Z #[(.int (2 : Int32))] h0 (own_R (some (.int (2 : Int32))) h0) := by
  refine own_met (plainFor_of_name pn_1) ?_
  intro p e s m below meth c T0 hx hby hml hown hret hk hnm hZ X0 e0
  have hown : s.vm.findClass "com/example/gridledger/gridledger/columns/Chunks" = some m.cls := hown
  refine own_ent (ef_1 m (2 : Int32)) ?_
  refine own_iload_n X0 hx (hb hby d3_0) rfl 1 rfl ?_
  refine own_sipush X0 hx (hb hby d3_1) (4095 : Int32) rfl 4 rfl ?_
  refine own_iand X0 hx (hb hby d3_4) 5 rfl ?_
  refine own_topI (2 : Int32) (by decide) ?_
  exact own_retI X0 hx hk hret (hb hby d3_5) ⟨rfl, e0, rfl⟩ (by decide) (by decide)
def Q_rm_add_19 (Z : State) (h0 : Heap) (n0 : Nat) (b0 : Addr) (b1 : Addr) (b2 : Addr) (j0 : Int64) (j1 : Int64) (j2 : Int64) (k_b1 : ClassId) (k_b2 : ClassId) (v : Option Value) (h : Heap) (L : List Loc) : Prop := v = none ∧ Fr n0 L ∧ Keep h0 h [b2, b0] ∧ Exa Z h b0 "com/example/gridledger/gridledger/columns/LongColumn" ∧ Fld Z h b0 "com/example/gridledger/gridledger/columns/LongColumn" "chunks" "[[J" (.ref b1) ∧ Fld Z h b0 "com/example/gridledger/gridledger/columns/LongColumn" "size" "I" (.int (3 : Int32)) ∧ Arv Z h b2 k_b2 .long (4096 : Int32) [(.long j1), (.long j2), (.long j0)] (.long (0 : Int64)) ∧ Exa Z h b2 "[J"
theorem rm_add_19 (l : Launch) (Z : State) (a0 : Array Value) (hw : own_HW Z a0) (ws : List Jvm.Cond)  (h0 : Heap) (n0 : Nat) (O : Old Z n0 h0) (b0 : Addr) (b1 : Addr) (b2 : Addr) (j0 : Int64) (j1 : Int64) (j2 : Int64) (k_b1 : ClassId) (k_b2 : ClassId) (E_b0 : Exa Z h0 b0 "com/example/gridledger/gridledger/columns/LongColumn") (F_b0_chunks : Fld Z h0 b0 "com/example/gridledger/gridledger/columns/LongColumn" "chunks" "[[J" (.ref b1)) (F_b0_size : Fld Z h0 b0 "com/example/gridledger/gridledger/columns/LongColumn" "size" "I" (.int (2 : Int32))) (g_b0 : n0 ≤ b0) (V_b1 : Arv Z h0 b1 k_b1 (.array .long) (1 : Int32) [(.ref b2)] .null) (V_b2 : Arv Z h0 b2 k_b2 .long (4096 : Int32) [(.long j1), (.long j2)] (.long (0 : Int64))) (A_b2 : Exa Z h0 b2 "[J") (g_b2 : n0 ≤ b2) (ne_b0_b2 : b0 ≠ b2) :
    own_Met l (⟨"com/example/gridledger/gridledger/columns/LongColumn", "add", "(J)V"⟩ : MethodName) prog_5_method_2_code 4 none ws (own_rm 1 0 0 13) Z #[(.ref b0), (.long j0)] h0 (Q_rm_add_19 Z h0 n0 b0 b1 b2 j0 j1 j2 k_b1 k_b2) := by
  refine own_met (plainFor_of_name pn_0) ?_
  intro p e s m below meth c T0 hx hby hml hown hret hk hnm hZ X0 e0
  have hown : s.vm.findClass "com/example/gridledger/gridledger/columns/LongColumn" = some m.cls := hown
  refine own_ent (ef_2 m b0 j0) ?_
  refine own_aload_n X0 hx (hb hby d1_0) rfl rfl 1 rfl ?_
  refine own_getF X0 hx hZ hown (host := "") (Or.inl (own_w hw 18 rfl)) Via.refl e0 F_b0_size (hb hby d1_1) 4 rfl fun T1 X1 e1 => ?_
  refine own_pureS X1 hx hZ hown (own_w hw 20 rfl) (own_w hw 21 rfl) (own_w hw 22 rfl) (own_w hw 23 rfl) (by decide) [(.int (2 : Int32))] [] 0 (rm_chunk_20 l Z a0 hw [] h0 n0 O ) (by decide) (by decide) rfl rfl e1 (by rw [hml]; rfl) (lenOf pd_1 rfl) (Nat.le_of_eq rfl) (hb hby d1_4) 7 rfl rfl (by decide) (by decide) fun T3 X3 e3 => ?_
  refine own_istore_n X3 hx (hb hby d1_7) #[.val (.ref b0), .val (.long j0), .second, .val (.int (0 : Int32))] rfl 8 rfl ?_
  refine own_iload_n X3 hx (hb hby d1_8) rfl 9 rfl ?_
  refine own_aload_n X3 hx (hb hby d1_9) rfl rfl 10 rfl ?_
  refine own_getF X3 hx hZ hown (host := "") (Or.inl (own_w hw 11 rfl)) Via.refl e3 F_b0_chunks (hb hby d1_10) 13 rfl fun T4 X4 e4 => ?_
  refine own_alen X4 hx hZ e4 V_b1 (hb hby d1_13) 14 rfl ?_
  refine own_icmpY X4 hx (hb hby d1_14) (feq (by decide : ¬ ((0 : Int32) = (1 : Int32)))).2 34 (by decide) (by decide) ?_
  refine own_aload_n X4 hx (hb hby d1_34) rfl rfl 35 rfl ?_
  refine own_getF X4 hx hZ hown (host := "") (Or.inl (own_w hw 11 rfl)) Via.refl e4 F_b0_chunks (hb hby d1_35) 38 rfl fun T5 X5 e5 => ?_
  refine own_iload_n X5 hx (hb hby d1_38) rfl 39 rfl ?_
  refine own_aaload X5 hx hZ e5 V_b1 rfl (.ref b2) (by decide) rfl (hb hby d1_39) 40 rfl ?_
  refine own_ifnonnullY X5 hx (hb hby d1_40) 54 (by decide) (by decide) ?_
  refine own_aload_n X5 hx (hb hby d1_54) rfl rfl 55 rfl ?_
  refine own_getF X5 hx hZ hown (host := "") (Or.inl (own_w hw 11 rfl)) Via.refl e5 F_b0_chunks (hb hby d1_55) 58 rfl fun T6 X6 e6 => ?_
  refine own_iload_n X6 hx (hb hby d1_58) rfl 59 rfl ?_
  refine own_aaload X6 hx hZ e6 V_b1 rfl (.ref b2) (by decide) rfl (hb hby d1_59) 60 rfl ?_
  refine own_aload_n X6 hx (hb hby d1_60) rfl rfl 61 rfl ?_
  refine own_getF X6 hx hZ hown (host := "") (Or.inl (own_w hw 18 rfl)) Via.refl e6 F_b0_size (hb hby d1_61) 64 rfl fun T7 X7 e7 => ?_
  refine own_pureS X7 hx hZ hown (own_w hw 26 rfl) (own_w hw 27 rfl) (own_w hw 22 rfl) (own_w hw 28 rfl) (by decide) [(.int (2 : Int32))] [(.ref b2)] 1 (rm_place_21 l Z a0 hw [] h0 n0 O ) (by decide) (by decide) rfl rfl e7 (by rw [hml]; rfl) (lenOf pd_1 rfl) (Nat.le_of_eq rfl) (hb hby d1_64) 67 rfl rfl (by decide) (by decide) fun T9 X9 e9 => ?_
  refine own_lload_n X9 hx (hb hby d1_67) rfl 68 rfl ?_
  have V10 : Arv Z h0 b2 k_b2 .long (4096 : Int32) [(.long j1), (.long j2), (.long (0 : Int64))] (.long (0 : Int64)) := V_b2.pad (pad_rep [(.long j1), (.long j2)] (.long (0 : Int64)) 1)
  refine own_lastore X9 hx hZ e9 V10 2 (by decide) (by decide) (by simp) [(.long j1), (.long j2), (.long j0)] rfl (hb hby d1_68) 69 rfl fun T11 X11 W11 V11 => ?_
  have N12 := Fr.snoc X11 (Fr.nil n0) g_b2
  have K12 := Keep.wr (Keep.refl h0 [b2, b0]) W11 (Or.inl (by simp))
  refine own_aload_n X11 hx (hb hby d1_69) rfl rfl 70 rfl ?_
  refine own_dup X11 hx (hb hby d1_70) rfl 71 rfl ?_
  have f13 := (F_b0_size.other W11 (Or.inl ne_b0_b2))
  refine own_getF X11 hx hZ hown (host := "") (Or.inl (own_w hw 18 rfl)) Via.refl rfl f13 (hb hby d1_71) 74 rfl fun T14 X14 e14 => ?_
  refine own_iconst X14 hx (hb hby d1_74) (1 : Int32) rfl 75 rfl ?_
  refine own_iadd X14 hx (hb hby d1_75) 76 rfl ?_
  refine own_topI (3 : Int32) (by decide) ?_
  have f16 := (E_b0.wr W11)
  refine own_putF X14 hx hZ hown (host := "") (Or.inl (own_w hw 18 rfl)) Via.refl e14 f13 f16 (Or.inl (own_w hw 19 rfl)) (own_w hw 1 rfl) (ty := .int) (by decide) rfl rfl (hb hby d1_76) 79 rfl fun T15 X15 W15 => ?_
  have G15 := Fld.same W15 f13
  have N17 := Fr.snoc X15 N12 g_b0
  have K17 := Keep.wr K12 W15 (Or.inl (by simp))
  have f18 := (f16.wr W15)
  have f19 := ((F_b0_chunks.other W11 (Or.inl ne_b0_b2)).other W15 (Or.inr (Ne.symm (sn_0 hw))))
  have f20 := (own_vo V11 W15 ne_b0_b2)
  have f21 := ((A_b2.wr W11).wr W15)
  exact own_retV X15 hx hk hret (hb hby d1_79) (by show Q_rm_add_19 Z h0 n0 b0 b1 b2 j0 j1 j2 k_b1 k_b2 _ T15.heap _; exact ⟨rfl, N17, K17, f18, f19, G15, f20, f21⟩) (by decide) (by decide)
theorem rm_size_22 (l : Launch) (Z : State) (a0 : Array Value) (hw : own_HW Z a0) (ws : List Jvm.Cond)  (h0 : Heap) (n0 : Nat) (O : Old Z n0 h0) (b0 : Addr) (F_b0_size : Fld Z h0 b0 "com/example/gridledger/gridledger/columns/LongColumn" "size" "I" (.int (3 : Int32))) :
    own_Met l (⟨"com/example/gridledger/gridledger/columns/LongColumn", "size", "()I"⟩ : MethodName) prog_5_method_4_code 1 (some .int) ws (own_rm 0 0 0 0) Z #[(.ref b0)] h0 (own_R (some (.int (3 : Int32))) h0) := by
  refine own_met (plainFor_of_name pn_0) ?_
  intro p e s m below meth c T0 hx hby hml hown hret hk hnm hZ X0 e0
  have hown : s.vm.findClass "com/example/gridledger/gridledger/columns/LongColumn" = some m.cls := hown
  refine own_ent (ef_0 m b0) ?_
  refine own_aload_n X0 hx (hb hby d4_0) rfl rfl 1 rfl ?_
  refine own_getF X0 hx hZ hown (host := "") (Or.inl (own_w hw 18 rfl)) Via.refl e0 F_b0_size (hb hby d4_1) 4 rfl fun T1 X1 e1 => ?_
  exact own_retI X1 hx hk hret (hb hby d4_4) ⟨rfl, e1, rfl⟩ (by decide) (by decide)
theorem rm_checkIndex_25 (l : Launch) (Z : State) (a0 : Array Value) (hw : own_HW Z a0) (ws : List Jvm.Cond)  (h0 : Heap) (n0 : Nat) (O : Old Z n0 h0)  :
    own_Met l (⟨"jdk/internal/util/Preconditions", "checkIndex", "(IILjava/util/function/BiFunction;)I"⟩ : MethodName) jdk_41_method_11_code 3 (some .int) ws (own_rm 0 0 0 0) Z #[(.int (0 : Int32)), (.int (3 : Int32)), .null] h0 (own_R (some (.int (0 : Int32))) h0) := by
  refine own_met (plainFor_of_name pn_2) ?_
  intro p e s m below meth c T0 hx hby hml hown hret hk hnm hZ X0 e0
  have hown : s.vm.findClass "jdk/internal/util/Preconditions" = some m.cls := hown
  refine own_ent (ef_3 m (0 : Int32) (3 : Int32)) ?_
  refine own_iload_n X0 hx (hb hby d7_0) rfl 1 rfl ?_
  refine own_ifN X0 hx (hb hby d7_1) ((if0 _ _).trans (flt (by decide : ¬ ((0 : Int32) < (0 : Int32)))).1) 4 rfl ?_
  refine own_iload_n X0 hx (hb hby d7_4) rfl 5 rfl ?_
  refine own_iload_n X0 hx (hb hby d7_5) rfl 6 rfl ?_
  refine own_icmpY X0 hx (hb hby d7_6) (tlt (by decide : (0 : Int32) < (3 : Int32))).1 16 (by decide) (by decide) ?_
  refine own_iload_n X0 hx (hb hby d7_16) rfl 17 rfl ?_
  exact own_retI X0 hx hk hret (hb hby d7_17) ⟨rfl, e0, rfl⟩ (by decide) (by decide)
theorem rm_checkIndex_24 (l : Launch) (Z : State) (a0 : Array Value) (hw : own_HW Z a0) (ws : List Jvm.Cond)  (h0 : Heap) (n0 : Nat) (O : Old Z n0 h0)  :
    own_Met l (⟨"java/util/Objects", "checkIndex", "(II)I"⟩ : MethodName) jdk_31_method_17_code 2 (some .int) ws (own_rm 1 0 0 14) Z #[(.int (0 : Int32)), (.int (3 : Int32))] h0 (own_R (some (.int (0 : Int32))) h0) := by
  refine own_met (plainFor_of_name pn_3) ?_
  intro p e s m below meth c T0 hx hby hml hown hret hk hnm hZ X0 e0
  have hown : s.vm.findClass "java/util/Objects" = some m.cls := hown
  refine own_ent (ef_4 m (0 : Int32) (3 : Int32)) ?_
  refine own_iload_n X0 hx (hb hby d6_0) rfl 1 rfl ?_
  refine own_iload_n X0 hx (hb hby d6_1) rfl 2 rfl ?_
  refine own_aconst_null X0 hx (hb hby d6_2) 3 rfl ?_
  refine own_pureS X0 hx hZ hown (own_w hw 44 rfl) (own_w hw 45 rfl) (own_w hw 46 rfl) (own_w hw 47 rfl) (by decide) [(.int (0 : Int32)), (.int (3 : Int32)), .null] [] 0 (rm_checkIndex_25 l Z a0 hw [] h0 n0 O ) (by decide) (by decide) rfl rfl e0 (by rw [hml]; rfl) (lenOf pd_4 rfl) (Nat.le_of_eq rfl) (hb hby d6_3) 6 rfl rfl (by decide) (by decide) fun T2 X2 e2 => ?_
  exact own_retI X2 hx hk hret (hb hby d6_6) ⟨rfl, e2, rfl⟩ (by decide) (by decide)
theorem rm_get_23 (l : Launch) (Z : State) (a0 : Array Value) (hw : own_HW Z a0) (ws : List Jvm.Cond)  (h0 : Heap) (n0 : Nat) (O : Old Z n0 h0) (b0 : Addr) (b1 : Addr) (b2 : Addr) (j0 : Int64) (j1 : Int64) (j2 : Int64) (k_b1 : ClassId) (k_b2 : ClassId) (F_b0_chunks : Fld Z h0 b0 "com/example/gridledger/gridledger/columns/LongColumn" "chunks" "[[J" (.ref b1)) (F_b0_size : Fld Z h0 b0 "com/example/gridledger/gridledger/columns/LongColumn" "size" "I" (.int (3 : Int32))) (V_b1 : Arv Z h0 b1 k_b1 (.array .long) (1 : Int32) [(.ref b2)] .null) (V_b2 : Arv Z h0 b2 k_b2 .long (4096 : Int32) [(.long j0), (.long j1), (.long j2)] (.long (0 : Int64))) :
    own_Met l (⟨"com/example/gridledger/gridledger/columns/LongColumn", "get", "(I)J"⟩ : MethodName) prog_5_method_3_code 2 (some .long) ws (own_rm 2 0 0 27) Z #[(.ref b0), (.int (0 : Int32))] h0 (own_R (some (.long j0)) h0) := by
  refine own_met (plainFor_of_name pn_0) ?_
  intro p e s m below meth c T0 hx hby hml hown hret hk hnm hZ X0 e0
  have hown : s.vm.findClass "com/example/gridledger/gridledger/columns/LongColumn" = some m.cls := hown
  refine own_ent (ef_5 m b0 (0 : Int32)) ?_
  refine own_iload_n X0 hx (hb hby d5_0) rfl 1 rfl ?_
  refine own_aload_n X0 hx (hb hby d5_1) rfl rfl 2 rfl ?_
  refine own_getF X0 hx hZ hown (host := "") (Or.inl (own_w hw 18 rfl)) Via.refl e0 F_b0_size (hb hby d5_2) 5 rfl fun T1 X1 e1 => ?_
  refine own_pureS X1 hx hZ hown (own_w hw 40 rfl) (own_w hw 41 rfl) (own_w hw 42 rfl) (own_w hw 43 rfl) (by decide) [(.int (0 : Int32)), (.int (3 : Int32))] [] 0 (rm_checkIndex_24 l Z a0 hw [] h0 n0 O ) (by decide) (by decide) rfl rfl e1 (by rw [hml]; rfl) (lenOf pd_5 rfl) (Nat.le_of_eq rfl) (hb hby d5_5) 8 rfl rfl (by decide) (by decide) fun T3 X3 e3 => ?_
  refine own_pop X3 hx (hb hby d5_8) rfl 9 rfl ?_
  refine own_aload_n X3 hx (hb hby d5_9) rfl rfl 10 rfl ?_
  refine own_getF X3 hx hZ hown (host := "") (Or.inl (own_w hw 11 rfl)) Via.refl e3 F_b0_chunks (hb hby d5_10) 13 rfl fun T4 X4 e4 => ?_
  refine own_iload_n X4 hx (hb hby d5_13) rfl 14 rfl ?_
  refine own_pureS X4 hx hZ hown (own_w hw 20 rfl) (own_w hw 21 rfl) (own_w hw 22 rfl) (own_w hw 23 rfl) (by decide) [(.int (0 : Int32))] [(.ref b1)] 1 (rm_chunk_3 l Z a0 hw [] h0 n0 O ) (by decide) (by decide) rfl rfl e4 (by rw [hml]; rfl) (lenOf pd_1 rfl) (Nat.le_of_eq rfl) (hb hby d5_14) 17 rfl rfl (by decide) (by decide) fun T6 X6 e6 => ?_
  refine own_aaload X6 hx hZ e6 V_b1 rfl (.ref b2) (by decide) rfl (hb hby d5_17) 18 rfl ?_
  refine own_iload_n X6 hx (hb hby d5_18) rfl 19 rfl ?_
  refine own_pureS X6 hx hZ hown (own_w hw 26 rfl) (own_w hw 27 rfl) (own_w hw 22 rfl) (own_w hw 28 rfl) (by decide) [(.int (0 : Int32))] [(.ref b2)] 1 (rm_place_4 l Z a0 hw [] h0 n0 O ) (by decide) (by decide) rfl rfl e6 (by rw [hml]; rfl) (lenOf pd_1 rfl) (Nat.le_of_eq rfl) (hb hby d5_19) 22 rfl rfl (by decide) (by decide) fun T8 X8 e8 => ?_
  refine own_laload X8 hx hZ e8 V_b2 (.long j0) (by decide) rfl (hb hby d5_22) 23 rfl ?_
  exact own_retJ X8 hx hk hret (hb hby d5_23) ⟨rfl, e8, rfl⟩ (by decide) (by decide)
theorem rm_checkIndex_28 (l : Launch) (Z : State) (a0 : Array Value) (hw : own_HW Z a0) (ws : List Jvm.Cond)  (h0 : Heap) (n0 : Nat) (O : Old Z n0 h0)  :
    own_Met l (⟨"jdk/internal/util/Preconditions", "checkIndex", "(IILjava/util/function/BiFunction;)I"⟩ : MethodName) jdk_41_method_11_code 3 (some .int) ws (own_rm 0 0 0 0) Z #[(.int (1 : Int32)), (.int (3 : Int32)), .null] h0 (own_R (some (.int (1 : Int32))) h0) := by
  refine own_met (plainFor_of_name pn_2) ?_
  intro p e s m below meth c T0 hx hby hml hown hret hk hnm hZ X0 e0
  have hown : s.vm.findClass "jdk/internal/util/Preconditions" = some m.cls := hown
  refine own_ent (ef_3 m (1 : Int32) (3 : Int32)) ?_
  refine own_iload_n X0 hx (hb hby d7_0) rfl 1 rfl ?_
  refine own_ifN X0 hx (hb hby d7_1) ((if0 _ _).trans (flt (by decide : ¬ ((1 : Int32) < (0 : Int32)))).1) 4 rfl ?_
  refine own_iload_n X0 hx (hb hby d7_4) rfl 5 rfl ?_
  refine own_iload_n X0 hx (hb hby d7_5) rfl 6 rfl ?_
  refine own_icmpY X0 hx (hb hby d7_6) (tlt (by decide : (1 : Int32) < (3 : Int32))).1 16 (by decide) (by decide) ?_
  refine own_iload_n X0 hx (hb hby d7_16) rfl 17 rfl ?_
  exact own_retI X0 hx hk hret (hb hby d7_17) ⟨rfl, e0, rfl⟩ (by decide) (by decide)
theorem rm_checkIndex_27 (l : Launch) (Z : State) (a0 : Array Value) (hw : own_HW Z a0) (ws : List Jvm.Cond)  (h0 : Heap) (n0 : Nat) (O : Old Z n0 h0)  :
    own_Met l (⟨"java/util/Objects", "checkIndex", "(II)I"⟩ : MethodName) jdk_31_method_17_code 2 (some .int) ws (own_rm 1 0 0 14) Z #[(.int (1 : Int32)), (.int (3 : Int32))] h0 (own_R (some (.int (1 : Int32))) h0) := by
  refine own_met (plainFor_of_name pn_3) ?_
  intro p e s m below meth c T0 hx hby hml hown hret hk hnm hZ X0 e0
  have hown : s.vm.findClass "java/util/Objects" = some m.cls := hown
  refine own_ent (ef_4 m (1 : Int32) (3 : Int32)) ?_
  refine own_iload_n X0 hx (hb hby d6_0) rfl 1 rfl ?_
  refine own_iload_n X0 hx (hb hby d6_1) rfl 2 rfl ?_
  refine own_aconst_null X0 hx (hb hby d6_2) 3 rfl ?_
  refine own_pureS X0 hx hZ hown (own_w hw 44 rfl) (own_w hw 45 rfl) (own_w hw 46 rfl) (own_w hw 47 rfl) (by decide) [(.int (1 : Int32)), (.int (3 : Int32)), .null] [] 0 (rm_checkIndex_28 l Z a0 hw [] h0 n0 O ) (by decide) (by decide) rfl rfl e0 (by rw [hml]; rfl) (lenOf pd_4 rfl) (Nat.le_of_eq rfl) (hb hby d6_3) 6 rfl rfl (by decide) (by decide) fun T2 X2 e2 => ?_
  exact own_retI X2 hx hk hret (hb hby d6_6) ⟨rfl, e2, rfl⟩ (by decide) (by decide)
theorem rm_get_26 (l : Launch) (Z : State) (a0 : Array Value) (hw : own_HW Z a0) (ws : List Jvm.Cond)  (h0 : Heap) (n0 : Nat) (O : Old Z n0 h0) (b0 : Addr) (b1 : Addr) (b2 : Addr) (j0 : Int64) (j1 : Int64) (j2 : Int64) (k_b1 : ClassId) (k_b2 : ClassId) (F_b0_chunks : Fld Z h0 b0 "com/example/gridledger/gridledger/columns/LongColumn" "chunks" "[[J" (.ref b1)) (F_b0_size : Fld Z h0 b0 "com/example/gridledger/gridledger/columns/LongColumn" "size" "I" (.int (3 : Int32))) (V_b1 : Arv Z h0 b1 k_b1 (.array .long) (1 : Int32) [(.ref b2)] .null) (V_b2 : Arv Z h0 b2 k_b2 .long (4096 : Int32) [(.long j0), (.long j1), (.long j2)] (.long (0 : Int64))) :
    own_Met l (⟨"com/example/gridledger/gridledger/columns/LongColumn", "get", "(I)J"⟩ : MethodName) prog_5_method_3_code 2 (some .long) ws (own_rm 2 0 0 27) Z #[(.ref b0), (.int (1 : Int32))] h0 (own_R (some (.long j1)) h0) := by
  refine own_met (plainFor_of_name pn_0) ?_
  intro p e s m below meth c T0 hx hby hml hown hret hk hnm hZ X0 e0
  have hown : s.vm.findClass "com/example/gridledger/gridledger/columns/LongColumn" = some m.cls := hown
  refine own_ent (ef_5 m b0 (1 : Int32)) ?_
  refine own_iload_n X0 hx (hb hby d5_0) rfl 1 rfl ?_
  refine own_aload_n X0 hx (hb hby d5_1) rfl rfl 2 rfl ?_
  refine own_getF X0 hx hZ hown (host := "") (Or.inl (own_w hw 18 rfl)) Via.refl e0 F_b0_size (hb hby d5_2) 5 rfl fun T1 X1 e1 => ?_
  refine own_pureS X1 hx hZ hown (own_w hw 40 rfl) (own_w hw 41 rfl) (own_w hw 42 rfl) (own_w hw 43 rfl) (by decide) [(.int (1 : Int32)), (.int (3 : Int32))] [] 0 (rm_checkIndex_27 l Z a0 hw [] h0 n0 O ) (by decide) (by decide) rfl rfl e1 (by rw [hml]; rfl) (lenOf pd_5 rfl) (Nat.le_of_eq rfl) (hb hby d5_5) 8 rfl rfl (by decide) (by decide) fun T3 X3 e3 => ?_
  refine own_pop X3 hx (hb hby d5_8) rfl 9 rfl ?_
  refine own_aload_n X3 hx (hb hby d5_9) rfl rfl 10 rfl ?_
  refine own_getF X3 hx hZ hown (host := "") (Or.inl (own_w hw 11 rfl)) Via.refl e3 F_b0_chunks (hb hby d5_10) 13 rfl fun T4 X4 e4 => ?_
  refine own_iload_n X4 hx (hb hby d5_13) rfl 14 rfl ?_
  refine own_pureS X4 hx hZ hown (own_w hw 20 rfl) (own_w hw 21 rfl) (own_w hw 22 rfl) (own_w hw 23 rfl) (by decide) [(.int (1 : Int32))] [(.ref b1)] 1 (rm_chunk_10 l Z a0 hw [] h0 n0 O ) (by decide) (by decide) rfl rfl e4 (by rw [hml]; rfl) (lenOf pd_1 rfl) (Nat.le_of_eq rfl) (hb hby d5_14) 17 rfl rfl (by decide) (by decide) fun T6 X6 e6 => ?_
  refine own_aaload X6 hx hZ e6 V_b1 rfl (.ref b2) (by decide) rfl (hb hby d5_17) 18 rfl ?_
  refine own_iload_n X6 hx (hb hby d5_18) rfl 19 rfl ?_
  refine own_pureS X6 hx hZ hown (own_w hw 26 rfl) (own_w hw 27 rfl) (own_w hw 22 rfl) (own_w hw 28 rfl) (by decide) [(.int (1 : Int32))] [(.ref b2)] 1 (rm_place_11 l Z a0 hw [] h0 n0 O ) (by decide) (by decide) rfl rfl e6 (by rw [hml]; rfl) (lenOf pd_1 rfl) (Nat.le_of_eq rfl) (hb hby d5_19) 22 rfl rfl (by decide) (by decide) fun T8 X8 e8 => ?_
  refine own_laload X8 hx hZ e8 V_b2 (.long j1) (by decide) rfl (hb hby d5_22) 23 rfl ?_
  exact own_retJ X8 hx hk hret (hb hby d5_23) ⟨rfl, e8, rfl⟩ (by decide) (by decide)
theorem rm_checkIndex_31 (l : Launch) (Z : State) (a0 : Array Value) (hw : own_HW Z a0) (ws : List Jvm.Cond)  (h0 : Heap) (n0 : Nat) (O : Old Z n0 h0)  :
    own_Met l (⟨"jdk/internal/util/Preconditions", "checkIndex", "(IILjava/util/function/BiFunction;)I"⟩ : MethodName) jdk_41_method_11_code 3 (some .int) ws (own_rm 0 0 0 0) Z #[(.int (2 : Int32)), (.int (3 : Int32)), .null] h0 (own_R (some (.int (2 : Int32))) h0) := by
  refine own_met (plainFor_of_name pn_2) ?_
  intro p e s m below meth c T0 hx hby hml hown hret hk hnm hZ X0 e0
  have hown : s.vm.findClass "jdk/internal/util/Preconditions" = some m.cls := hown
  refine own_ent (ef_3 m (2 : Int32) (3 : Int32)) ?_
  refine own_iload_n X0 hx (hb hby d7_0) rfl 1 rfl ?_
  refine own_ifN X0 hx (hb hby d7_1) ((if0 _ _).trans (flt (by decide : ¬ ((2 : Int32) < (0 : Int32)))).1) 4 rfl ?_
  refine own_iload_n X0 hx (hb hby d7_4) rfl 5 rfl ?_
  refine own_iload_n X0 hx (hb hby d7_5) rfl 6 rfl ?_
  refine own_icmpY X0 hx (hb hby d7_6) (tlt (by decide : (2 : Int32) < (3 : Int32))).1 16 (by decide) (by decide) ?_
  refine own_iload_n X0 hx (hb hby d7_16) rfl 17 rfl ?_
  exact own_retI X0 hx hk hret (hb hby d7_17) ⟨rfl, e0, rfl⟩ (by decide) (by decide)
theorem rm_checkIndex_30 (l : Launch) (Z : State) (a0 : Array Value) (hw : own_HW Z a0) (ws : List Jvm.Cond)  (h0 : Heap) (n0 : Nat) (O : Old Z n0 h0)  :
    own_Met l (⟨"java/util/Objects", "checkIndex", "(II)I"⟩ : MethodName) jdk_31_method_17_code 2 (some .int) ws (own_rm 1 0 0 14) Z #[(.int (2 : Int32)), (.int (3 : Int32))] h0 (own_R (some (.int (2 : Int32))) h0) := by
  refine own_met (plainFor_of_name pn_3) ?_
  intro p e s m below meth c T0 hx hby hml hown hret hk hnm hZ X0 e0
  have hown : s.vm.findClass "java/util/Objects" = some m.cls := hown
  refine own_ent (ef_4 m (2 : Int32) (3 : Int32)) ?_
  refine own_iload_n X0 hx (hb hby d6_0) rfl 1 rfl ?_
  refine own_iload_n X0 hx (hb hby d6_1) rfl 2 rfl ?_
  refine own_aconst_null X0 hx (hb hby d6_2) 3 rfl ?_
  refine own_pureS X0 hx hZ hown (own_w hw 44 rfl) (own_w hw 45 rfl) (own_w hw 46 rfl) (own_w hw 47 rfl) (by decide) [(.int (2 : Int32)), (.int (3 : Int32)), .null] [] 0 (rm_checkIndex_31 l Z a0 hw [] h0 n0 O ) (by decide) (by decide) rfl rfl e0 (by rw [hml]; rfl) (lenOf pd_4 rfl) (Nat.le_of_eq rfl) (hb hby d6_3) 6 rfl rfl (by decide) (by decide) fun T2 X2 e2 => ?_
  exact own_retI X2 hx hk hret (hb hby d6_6) ⟨rfl, e2, rfl⟩ (by decide) (by decide)
theorem rm_get_29 (l : Launch) (Z : State) (a0 : Array Value) (hw : own_HW Z a0) (ws : List Jvm.Cond)  (h0 : Heap) (n0 : Nat) (O : Old Z n0 h0) (b0 : Addr) (b1 : Addr) (b2 : Addr) (j0 : Int64) (j1 : Int64) (j2 : Int64) (k_b1 : ClassId) (k_b2 : ClassId) (F_b0_chunks : Fld Z h0 b0 "com/example/gridledger/gridledger/columns/LongColumn" "chunks" "[[J" (.ref b1)) (F_b0_size : Fld Z h0 b0 "com/example/gridledger/gridledger/columns/LongColumn" "size" "I" (.int (3 : Int32))) (V_b1 : Arv Z h0 b1 k_b1 (.array .long) (1 : Int32) [(.ref b2)] .null) (V_b2 : Arv Z h0 b2 k_b2 .long (4096 : Int32) [(.long j0), (.long j1), (.long j2)] (.long (0 : Int64))) :
    own_Met l (⟨"com/example/gridledger/gridledger/columns/LongColumn", "get", "(I)J"⟩ : MethodName) prog_5_method_3_code 2 (some .long) ws (own_rm 2 0 0 27) Z #[(.ref b0), (.int (2 : Int32))] h0 (own_R (some (.long j2)) h0) := by
  refine own_met (plainFor_of_name pn_0) ?_
  intro p e s m below meth c T0 hx hby hml hown hret hk hnm hZ X0 e0
  have hown : s.vm.findClass "com/example/gridledger/gridledger/columns/LongColumn" = some m.cls := hown
  refine own_ent (ef_5 m b0 (2 : Int32)) ?_
  refine own_iload_n X0 hx (hb hby d5_0) rfl 1 rfl ?_
  refine own_aload_n X0 hx (hb hby d5_1) rfl rfl 2 rfl ?_
  refine own_getF X0 hx hZ hown (host := "") (Or.inl (own_w hw 18 rfl)) Via.refl e0 F_b0_size (hb hby d5_2) 5 rfl fun T1 X1 e1 => ?_
  refine own_pureS X1 hx hZ hown (own_w hw 40 rfl) (own_w hw 41 rfl) (own_w hw 42 rfl) (own_w hw 43 rfl) (by decide) [(.int (2 : Int32)), (.int (3 : Int32))] [] 0 (rm_checkIndex_30 l Z a0 hw [] h0 n0 O ) (by decide) (by decide) rfl rfl e1 (by rw [hml]; rfl) (lenOf pd_5 rfl) (Nat.le_of_eq rfl) (hb hby d5_5) 8 rfl rfl (by decide) (by decide) fun T3 X3 e3 => ?_
  refine own_pop X3 hx (hb hby d5_8) rfl 9 rfl ?_
  refine own_aload_n X3 hx (hb hby d5_9) rfl rfl 10 rfl ?_
  refine own_getF X3 hx hZ hown (host := "") (Or.inl (own_w hw 11 rfl)) Via.refl e3 F_b0_chunks (hb hby d5_10) 13 rfl fun T4 X4 e4 => ?_
  refine own_iload_n X4 hx (hb hby d5_13) rfl 14 rfl ?_
  refine own_pureS X4 hx hZ hown (own_w hw 20 rfl) (own_w hw 21 rfl) (own_w hw 22 rfl) (own_w hw 23 rfl) (by decide) [(.int (2 : Int32))] [(.ref b1)] 1 (rm_chunk_20 l Z a0 hw [] h0 n0 O ) (by decide) (by decide) rfl rfl e4 (by rw [hml]; rfl) (lenOf pd_1 rfl) (Nat.le_of_eq rfl) (hb hby d5_14) 17 rfl rfl (by decide) (by decide) fun T6 X6 e6 => ?_
  refine own_aaload X6 hx hZ e6 V_b1 rfl (.ref b2) (by decide) rfl (hb hby d5_17) 18 rfl ?_
  refine own_iload_n X6 hx (hb hby d5_18) rfl 19 rfl ?_
  refine own_pureS X6 hx hZ hown (own_w hw 26 rfl) (own_w hw 27 rfl) (own_w hw 22 rfl) (own_w hw 28 rfl) (by decide) [(.int (2 : Int32))] [(.ref b2)] 1 (rm_place_21 l Z a0 hw [] h0 n0 O ) (by decide) (by decide) rfl rfl e6 (by rw [hml]; rfl) (lenOf pd_1 rfl) (Nat.le_of_eq rfl) (hb hby d5_19) 22 rfl rfl (by decide) (by decide) fun T8 X8 e8 => ?_
  refine own_laload X8 hx hZ e8 V_b2 (.long j2) (by decide) rfl (hb hby d5_22) 23 rfl ?_
  exact own_retJ X8 hx hk hret (hb hby d5_23) ⟨rfl, e8, rfl⟩ (by decide) (by decide)
theorem rm_chunk_33 (l : Launch) (Z : State) (a0 : Array Value) (hw : own_HW Z a0) (ws : List Jvm.Cond)  (h0 : Heap) (n0 : Nat) (O : Old Z n0 h0)  :
    own_Met l (⟨"com/example/gridledger/gridledger/columns/Chunks", "chunk", "(I)I"⟩ : MethodName) prog_2_method_2_code 1 (some .int) ws (own_rm 0 0 0 0) Z #[(.int (3 : Int32))] h0 (own_R (some (.int (0 : Int32))) h0) := by
  refine own_met (plainFor_of_name pn_1) ?_
  intro p e s m below meth c T0 hx hby hml hown hret hk hnm hZ X0 e0
  have hown : s.vm.findClass "com/example/gridledger/gridledger/columns/Chunks" = some m.cls := hown
  refine own_ent (ef_1 m (3 : Int32)) ?_
  refine own_iload_n X0 hx (hb hby d2_0) rfl 1 rfl ?_
  refine own_bipush X0 hx (hb hby d2_1) (12 : Int32) rfl 3 rfl ?_
  refine own_iushr X0 hx (hb hby d2_3) 4 rfl ?_
  refine own_topI (0 : Int32) (by decide) ?_
  exact own_retI X0 hx hk hret (hb hby d2_4) ⟨rfl, e0, rfl⟩ (by decide) (by decide)
theorem rm_place_34 (l : Launch) (Z : State) (a0 : Array Value) (hw : own_HW Z a0) (ws : List Jvm.Cond)  (h0 : Heap) (n0 : Nat) (O : Old Z n0 h0)  :
    own_Met l (⟨"com/example/gridledger/gridledger/columns/Chunks", "place", "(I)I"⟩ : MethodName) prog_2_method_3_code 1 (some .int) ws (own_rm 0 0 0 0) Z #[(.int (3 : Int32))] h0 (own_R (some (.int (3 : Int32))) h0) := by
  refine own_met (plainFor_of_name pn_1) ?_
  intro p e s m below meth c T0 hx hby hml hown hret hk hnm hZ X0 e0
  have hown : s.vm.findClass "com/example/gridledger/gridledger/columns/Chunks" = some m.cls := hown
  refine own_ent (ef_1 m (3 : Int32)) ?_
  refine own_iload_n X0 hx (hb hby d3_0) rfl 1 rfl ?_
  refine own_sipush X0 hx (hb hby d3_1) (4095 : Int32) rfl 4 rfl ?_
  refine own_iand X0 hx (hb hby d3_4) 5 rfl ?_
  refine own_topI (3 : Int32) (by decide) ?_
  exact own_retI X0 hx hk hret (hb hby d3_5) ⟨rfl, e0, rfl⟩ (by decide) (by decide)
def Q_rm_add_32 (Z : State) (h0 : Heap) (n0 : Nat) (b0 : Addr) (b1 : Addr) (b2 : Addr) (j0 : Int64) (j1 : Int64) (j2 : Int64) (j3 : Int64) (k_b1 : ClassId) (k_b2 : ClassId) (v : Option Value) (h : Heap) (L : List Loc) : Prop := v = none ∧ Fr n0 L ∧ Keep h0 h [b2, b0] ∧ Exa Z h b0 "com/example/gridledger/gridledger/columns/LongColumn" ∧ Fld Z h b0 "com/example/gridledger/gridledger/columns/LongColumn" "chunks" "[[J" (.ref b1) ∧ Fld Z h b0 "com/example/gridledger/gridledger/columns/LongColumn" "size" "I" (.int (4 : Int32)) ∧ Arv Z h b2 k_b2 .long (4096 : Int32) [(.long j1), (.long j2), (.long j3), (.long j0)] (.long (0 : Int64)) ∧ Exa Z h b2 "[J"
theorem rm_add_32 (l : Launch) (Z : State) (a0 : Array Value) (hw : own_HW Z a0) (ws : List Jvm.Cond)  (h0 : Heap) (n0 : Nat) (O : Old Z n0 h0) (b0 : Addr) (b1 : Addr) (b2 : Addr) (j0 : Int64) (j1 : Int64) (j2 : Int64) (j3 : Int64) (k_b1 : ClassId) (k_b2 : ClassId) (E_b0 : Exa Z h0 b0 "com/example/gridledger/gridledger/columns/LongColumn") (F_b0_chunks : Fld Z h0 b0 "com/example/gridledger/gridledger/columns/LongColumn" "chunks" "[[J" (.ref b1)) (F_b0_size : Fld Z h0 b0 "com/example/gridledger/gridledger/columns/LongColumn" "size" "I" (.int (3 : Int32))) (g_b0 : n0 ≤ b0) (V_b1 : Arv Z h0 b1 k_b1 (.array .long) (1 : Int32) [(.ref b2)] .null) (V_b2 : Arv Z h0 b2 k_b2 .long (4096 : Int32) [(.long j1), (.long j2), (.long j3)] (.long (0 : Int64))) (A_b2 : Exa Z h0 b2 "[J") (g_b2 : n0 ≤ b2) (ne_b0_b2 : b0 ≠ b2) :
    own_Met l (⟨"com/example/gridledger/gridledger/columns/LongColumn", "add", "(J)V"⟩ : MethodName) prog_5_method_2_code 4 none ws (own_rm 1 0 0 13) Z #[(.ref b0), (.long j0)] h0 (Q_rm_add_32 Z h0 n0 b0 b1 b2 j0 j1 j2 j3 k_b1 k_b2) := by
  refine own_met (plainFor_of_name pn_0) ?_
  intro p e s m below meth c T0 hx hby hml hown hret hk hnm hZ X0 e0
  have hown : s.vm.findClass "com/example/gridledger/gridledger/columns/LongColumn" = some m.cls := hown
  refine own_ent (ef_2 m b0 j0) ?_
  refine own_aload_n X0 hx (hb hby d1_0) rfl rfl 1 rfl ?_
  refine own_getF X0 hx hZ hown (host := "") (Or.inl (own_w hw 18 rfl)) Via.refl e0 F_b0_size (hb hby d1_1) 4 rfl fun T1 X1 e1 => ?_
  refine own_pureS X1 hx hZ hown (own_w hw 20 rfl) (own_w hw 21 rfl) (own_w hw 22 rfl) (own_w hw 23 rfl) (by decide) [(.int (3 : Int32))] [] 0 (rm_chunk_33 l Z a0 hw [] h0 n0 O ) (by decide) (by decide) rfl rfl e1 (by rw [hml]; rfl) (lenOf pd_1 rfl) (Nat.le_of_eq rfl) (hb hby d1_4) 7 rfl rfl (by decide) (by decide) fun T3 X3 e3 => ?_
  refine own_istore_n X3 hx (hb hby d1_7) #[.val (.ref b0), .val (.long j0), .second, .val (.int (0 : Int32))] rfl 8 rfl ?_
  refine own_iload_n X3 hx (hb hby d1_8) rfl 9 rfl ?_
  refine own_aload_n X3 hx (hb hby d1_9) rfl rfl 10 rfl ?_
  refine own_getF X3 hx hZ hown (host := "") (Or.inl (own_w hw 11 rfl)) Via.refl e3 F_b0_chunks (hb hby d1_10) 13 rfl fun T4 X4 e4 => ?_
  refine own_alen X4 hx hZ e4 V_b1 (hb hby d1_13) 14 rfl ?_
  refine own_icmpY X4 hx (hb hby d1_14) (feq (by decide : ¬ ((0 : Int32) = (1 : Int32)))).2 34 (by decide) (by decide) ?_
  refine own_aload_n X4 hx (hb hby d1_34) rfl rfl 35 rfl ?_
  refine own_getF X4 hx hZ hown (host := "") (Or.inl (own_w hw 11 rfl)) Via.refl e4 F_b0_chunks (hb hby d1_35) 38 rfl fun T5 X5 e5 => ?_
  refine own_iload_n X5 hx (hb hby d1_38) rfl 39 rfl ?_
  refine own_aaload X5 hx hZ e5 V_b1 rfl (.ref b2) (by decide) rfl (hb hby d1_39) 40 rfl ?_
  refine own_ifnonnullY X5 hx (hb hby d1_40) 54 (by decide) (by decide) ?_
  refine own_aload_n X5 hx (hb hby d1_54) rfl rfl 55 rfl ?_
  refine own_getF X5 hx hZ hown (host := "") (Or.inl (own_w hw 11 rfl)) Via.refl e5 F_b0_chunks (hb hby d1_55) 58 rfl fun T6 X6 e6 => ?_
  refine own_iload_n X6 hx (hb hby d1_58) rfl 59 rfl ?_
  refine own_aaload X6 hx hZ e6 V_b1 rfl (.ref b2) (by decide) rfl (hb hby d1_59) 60 rfl ?_
  refine own_aload_n X6 hx (hb hby d1_60) rfl rfl 61 rfl ?_
  refine own_getF X6 hx hZ hown (host := "") (Or.inl (own_w hw 18 rfl)) Via.refl e6 F_b0_size (hb hby d1_61) 64 rfl fun T7 X7 e7 => ?_
  refine own_pureS X7 hx hZ hown (own_w hw 26 rfl) (own_w hw 27 rfl) (own_w hw 22 rfl) (own_w hw 28 rfl) (by decide) [(.int (3 : Int32))] [(.ref b2)] 1 (rm_place_34 l Z a0 hw [] h0 n0 O ) (by decide) (by decide) rfl rfl e7 (by rw [hml]; rfl) (lenOf pd_1 rfl) (Nat.le_of_eq rfl) (hb hby d1_64) 67 rfl rfl (by decide) (by decide) fun T9 X9 e9 => ?_
  refine own_lload_n X9 hx (hb hby d1_67) rfl 68 rfl ?_
  have V10 : Arv Z h0 b2 k_b2 .long (4096 : Int32) [(.long j1), (.long j2), (.long j3), (.long (0 : Int64))] (.long (0 : Int64)) := V_b2.pad (pad_rep [(.long j1), (.long j2), (.long j3)] (.long (0 : Int64)) 1)
  refine own_lastore X9 hx hZ e9 V10 3 (by decide) (by decide) (by simp) [(.long j1), (.long j2), (.long j3), (.long j0)] rfl (hb hby d1_68) 69 rfl fun T11 X11 W11 V11 => ?_
  have N12 := Fr.snoc X11 (Fr.nil n0) g_b2
  have K12 := Keep.wr (Keep.refl h0 [b2, b0]) W11 (Or.inl (by simp))
  refine own_aload_n X11 hx (hb hby d1_69) rfl rfl 70 rfl ?_
  refine own_dup X11 hx (hb hby d1_70) rfl 71 rfl ?_
  have f13 := (F_b0_size.other W11 (Or.inl ne_b0_b2))
  refine own_getF X11 hx hZ hown (host := "") (Or.inl (own_w hw 18 rfl)) Via.refl rfl f13 (hb hby d1_71) 74 rfl fun T14 X14 e14 => ?_
  refine own_iconst X14 hx (hb hby d1_74) (1 : Int32) rfl 75 rfl ?_
  refine own_iadd X14 hx (hb hby d1_75) 76 rfl ?_
  refine own_topI (4 : Int32) (by decide) ?_
  have f16 := (E_b0.wr W11)
  refine own_putF X14 hx hZ hown (host := "") (Or.inl (own_w hw 18 rfl)) Via.refl e14 f13 f16 (Or.inl (own_w hw 19 rfl)) (own_w hw 1 rfl) (ty := .int) (by decide) rfl rfl (hb hby d1_76) 79 rfl fun T15 X15 W15 => ?_
  have G15 := Fld.same W15 f13
  have N17 := Fr.snoc X15 N12 g_b0
  have K17 := Keep.wr K12 W15 (Or.inl (by simp))
  have f18 := (f16.wr W15)
  have f19 := ((F_b0_chunks.other W11 (Or.inl ne_b0_b2)).other W15 (Or.inr (Ne.symm (sn_0 hw))))
  have f20 := (own_vo V11 W15 ne_b0_b2)
  have f21 := ((A_b2.wr W11).wr W15)
  exact own_retV X15 hx hk hret (hb hby d1_79) (by show Q_rm_add_32 Z h0 n0 b0 b1 b2 j0 j1 j2 j3 k_b1 k_b2 _ T15.heap _; exact ⟨rfl, N17, K17, f18, f19, G15, f20, f21⟩) (by decide) (by decide)
theorem rm_size_35 (l : Launch) (Z : State) (a0 : Array Value) (hw : own_HW Z a0) (ws : List Jvm.Cond)  (h0 : Heap) (n0 : Nat) (O : Old Z n0 h0) (b0 : Addr) (F_b0_size : Fld Z h0 b0 "com/example/gridledger/gridledger/columns/LongColumn" "size" "I" (.int (4 : Int32))) :
    own_Met l (⟨"com/example/gridledger/gridledger/columns/LongColumn", "size", "()I"⟩ : MethodName) prog_5_method_4_code 1 (some .int) ws (own_rm 0 0 0 0) Z #[(.ref b0)] h0 (own_R (some (.int (4 : Int32))) h0) := by
  refine own_met (plainFor_of_name pn_0) ?_
  intro p e s m below meth c T0 hx hby hml hown hret hk hnm hZ X0 e0
  have hown : s.vm.findClass "com/example/gridledger/gridledger/columns/LongColumn" = some m.cls := hown
  refine own_ent (ef_0 m b0) ?_
  refine own_aload_n X0 hx (hb hby d4_0) rfl rfl 1 rfl ?_
  refine own_getF X0 hx hZ hown (host := "") (Or.inl (own_w hw 18 rfl)) Via.refl e0 F_b0_size (hb hby d4_1) 4 rfl fun T1 X1 e1 => ?_
  exact own_retI X1 hx hk hret (hb hby d4_4) ⟨rfl, e1, rfl⟩ (by decide) (by decide)
theorem rm_checkIndex_38 (l : Launch) (Z : State) (a0 : Array Value) (hw : own_HW Z a0) (ws : List Jvm.Cond)  (h0 : Heap) (n0 : Nat) (O : Old Z n0 h0)  :
    own_Met l (⟨"jdk/internal/util/Preconditions", "checkIndex", "(IILjava/util/function/BiFunction;)I"⟩ : MethodName) jdk_41_method_11_code 3 (some .int) ws (own_rm 0 0 0 0) Z #[(.int (0 : Int32)), (.int (4 : Int32)), .null] h0 (own_R (some (.int (0 : Int32))) h0) := by
  refine own_met (plainFor_of_name pn_2) ?_
  intro p e s m below meth c T0 hx hby hml hown hret hk hnm hZ X0 e0
  have hown : s.vm.findClass "jdk/internal/util/Preconditions" = some m.cls := hown
  refine own_ent (ef_3 m (0 : Int32) (4 : Int32)) ?_
  refine own_iload_n X0 hx (hb hby d7_0) rfl 1 rfl ?_
  refine own_ifN X0 hx (hb hby d7_1) ((if0 _ _).trans (flt (by decide : ¬ ((0 : Int32) < (0 : Int32)))).1) 4 rfl ?_
  refine own_iload_n X0 hx (hb hby d7_4) rfl 5 rfl ?_
  refine own_iload_n X0 hx (hb hby d7_5) rfl 6 rfl ?_
  refine own_icmpY X0 hx (hb hby d7_6) (tlt (by decide : (0 : Int32) < (4 : Int32))).1 16 (by decide) (by decide) ?_
  refine own_iload_n X0 hx (hb hby d7_16) rfl 17 rfl ?_
  exact own_retI X0 hx hk hret (hb hby d7_17) ⟨rfl, e0, rfl⟩ (by decide) (by decide)
theorem rm_checkIndex_37 (l : Launch) (Z : State) (a0 : Array Value) (hw : own_HW Z a0) (ws : List Jvm.Cond)  (h0 : Heap) (n0 : Nat) (O : Old Z n0 h0)  :
    own_Met l (⟨"java/util/Objects", "checkIndex", "(II)I"⟩ : MethodName) jdk_31_method_17_code 2 (some .int) ws (own_rm 1 0 0 14) Z #[(.int (0 : Int32)), (.int (4 : Int32))] h0 (own_R (some (.int (0 : Int32))) h0) := by
  refine own_met (plainFor_of_name pn_3) ?_
  intro p e s m below meth c T0 hx hby hml hown hret hk hnm hZ X0 e0
  have hown : s.vm.findClass "java/util/Objects" = some m.cls := hown
  refine own_ent (ef_4 m (0 : Int32) (4 : Int32)) ?_
  refine own_iload_n X0 hx (hb hby d6_0) rfl 1 rfl ?_
  refine own_iload_n X0 hx (hb hby d6_1) rfl 2 rfl ?_
  refine own_aconst_null X0 hx (hb hby d6_2) 3 rfl ?_
  refine own_pureS X0 hx hZ hown (own_w hw 44 rfl) (own_w hw 45 rfl) (own_w hw 46 rfl) (own_w hw 47 rfl) (by decide) [(.int (0 : Int32)), (.int (4 : Int32)), .null] [] 0 (rm_checkIndex_38 l Z a0 hw [] h0 n0 O ) (by decide) (by decide) rfl rfl e0 (by rw [hml]; rfl) (lenOf pd_4 rfl) (Nat.le_of_eq rfl) (hb hby d6_3) 6 rfl rfl (by decide) (by decide) fun T2 X2 e2 => ?_
  exact own_retI X2 hx hk hret (hb hby d6_6) ⟨rfl, e2, rfl⟩ (by decide) (by decide)
theorem rm_get_36 (l : Launch) (Z : State) (a0 : Array Value) (hw : own_HW Z a0) (ws : List Jvm.Cond)  (h0 : Heap) (n0 : Nat) (O : Old Z n0 h0) (b0 : Addr) (b1 : Addr) (b2 : Addr) (j0 : Int64) (j1 : Int64) (j2 : Int64) (j3 : Int64) (k_b1 : ClassId) (k_b2 : ClassId) (F_b0_chunks : Fld Z h0 b0 "com/example/gridledger/gridledger/columns/LongColumn" "chunks" "[[J" (.ref b1)) (F_b0_size : Fld Z h0 b0 "com/example/gridledger/gridledger/columns/LongColumn" "size" "I" (.int (4 : Int32))) (V_b1 : Arv Z h0 b1 k_b1 (.array .long) (1 : Int32) [(.ref b2)] .null) (V_b2 : Arv Z h0 b2 k_b2 .long (4096 : Int32) [(.long j0), (.long j1), (.long j2), (.long j3)] (.long (0 : Int64))) :
    own_Met l (⟨"com/example/gridledger/gridledger/columns/LongColumn", "get", "(I)J"⟩ : MethodName) prog_5_method_3_code 2 (some .long) ws (own_rm 2 0 0 27) Z #[(.ref b0), (.int (0 : Int32))] h0 (own_R (some (.long j0)) h0) := by
  refine own_met (plainFor_of_name pn_0) ?_
  intro p e s m below meth c T0 hx hby hml hown hret hk hnm hZ X0 e0
  have hown : s.vm.findClass "com/example/gridledger/gridledger/columns/LongColumn" = some m.cls := hown
  refine own_ent (ef_5 m b0 (0 : Int32)) ?_
  refine own_iload_n X0 hx (hb hby d5_0) rfl 1 rfl ?_
  refine own_aload_n X0 hx (hb hby d5_1) rfl rfl 2 rfl ?_
  refine own_getF X0 hx hZ hown (host := "") (Or.inl (own_w hw 18 rfl)) Via.refl e0 F_b0_size (hb hby d5_2) 5 rfl fun T1 X1 e1 => ?_
  refine own_pureS X1 hx hZ hown (own_w hw 40 rfl) (own_w hw 41 rfl) (own_w hw 42 rfl) (own_w hw 43 rfl) (by decide) [(.int (0 : Int32)), (.int (4 : Int32))] [] 0 (rm_checkIndex_37 l Z a0 hw [] h0 n0 O ) (by decide) (by decide) rfl rfl e1 (by rw [hml]; rfl) (lenOf pd_5 rfl) (Nat.le_of_eq rfl) (hb hby d5_5) 8 rfl rfl (by decide) (by decide) fun T3 X3 e3 => ?_
  refine own_pop X3 hx (hb hby d5_8) rfl 9 rfl ?_
  refine own_aload_n X3 hx (hb hby d5_9) rfl rfl 10 rfl ?_
  refine own_getF X3 hx hZ hown (host := "") (Or.inl (own_w hw 11 rfl)) Via.refl e3 F_b0_chunks (hb hby d5_10) 13 rfl fun T4 X4 e4 => ?_
  refine own_iload_n X4 hx (hb hby d5_13) rfl 14 rfl ?_
  refine own_pureS X4 hx hZ hown (own_w hw 20 rfl) (own_w hw 21 rfl) (own_w hw 22 rfl) (own_w hw 23 rfl) (by decide) [(.int (0 : Int32))] [(.ref b1)] 1 (rm_chunk_3 l Z a0 hw [] h0 n0 O ) (by decide) (by decide) rfl rfl e4 (by rw [hml]; rfl) (lenOf pd_1 rfl) (Nat.le_of_eq rfl) (hb hby d5_14) 17 rfl rfl (by decide) (by decide) fun T6 X6 e6 => ?_
  refine own_aaload X6 hx hZ e6 V_b1 rfl (.ref b2) (by decide) rfl (hb hby d5_17) 18 rfl ?_
  refine own_iload_n X6 hx (hb hby d5_18) rfl 19 rfl ?_
  refine own_pureS X6 hx hZ hown (own_w hw 26 rfl) (own_w hw 27 rfl) (own_w hw 22 rfl) (own_w hw 28 rfl) (by decide) [(.int (0 : Int32))] [(.ref b2)] 1 (rm_place_4 l Z a0 hw [] h0 n0 O ) (by decide) (by decide) rfl rfl e6 (by rw [hml]; rfl) (lenOf pd_1 rfl) (Nat.le_of_eq rfl) (hb hby d5_19) 22 rfl rfl (by decide) (by decide) fun T8 X8 e8 => ?_
  refine own_laload X8 hx hZ e8 V_b2 (.long j0) (by decide) rfl (hb hby d5_22) 23 rfl ?_
  exact own_retJ X8 hx hk hret (hb hby d5_23) ⟨rfl, e8, rfl⟩ (by decide) (by decide)
theorem rm_checkIndex_41 (l : Launch) (Z : State) (a0 : Array Value) (hw : own_HW Z a0) (ws : List Jvm.Cond)  (h0 : Heap) (n0 : Nat) (O : Old Z n0 h0)  :
    own_Met l (⟨"jdk/internal/util/Preconditions", "checkIndex", "(IILjava/util/function/BiFunction;)I"⟩ : MethodName) jdk_41_method_11_code 3 (some .int) ws (own_rm 0 0 0 0) Z #[(.int (1 : Int32)), (.int (4 : Int32)), .null] h0 (own_R (some (.int (1 : Int32))) h0) := by
  refine own_met (plainFor_of_name pn_2) ?_
  intro p e s m below meth c T0 hx hby hml hown hret hk hnm hZ X0 e0
  have hown : s.vm.findClass "jdk/internal/util/Preconditions" = some m.cls := hown
  refine own_ent (ef_3 m (1 : Int32) (4 : Int32)) ?_
  refine own_iload_n X0 hx (hb hby d7_0) rfl 1 rfl ?_
  refine own_ifN X0 hx (hb hby d7_1) ((if0 _ _).trans (flt (by decide : ¬ ((1 : Int32) < (0 : Int32)))).1) 4 rfl ?_
  refine own_iload_n X0 hx (hb hby d7_4) rfl 5 rfl ?_
  refine own_iload_n X0 hx (hb hby d7_5) rfl 6 rfl ?_
  refine own_icmpY X0 hx (hb hby d7_6) (tlt (by decide : (1 : Int32) < (4 : Int32))).1 16 (by decide) (by decide) ?_
  refine own_iload_n X0 hx (hb hby d7_16) rfl 17 rfl ?_
  exact own_retI X0 hx hk hret (hb hby d7_17) ⟨rfl, e0, rfl⟩ (by decide) (by decide)
theorem rm_checkIndex_40 (l : Launch) (Z : State) (a0 : Array Value) (hw : own_HW Z a0) (ws : List Jvm.Cond)  (h0 : Heap) (n0 : Nat) (O : Old Z n0 h0)  :
    own_Met l (⟨"java/util/Objects", "checkIndex", "(II)I"⟩ : MethodName) jdk_31_method_17_code 2 (some .int) ws (own_rm 1 0 0 14) Z #[(.int (1 : Int32)), (.int (4 : Int32))] h0 (own_R (some (.int (1 : Int32))) h0) := by
  refine own_met (plainFor_of_name pn_3) ?_
  intro p e s m below meth c T0 hx hby hml hown hret hk hnm hZ X0 e0
  have hown : s.vm.findClass "java/util/Objects" = some m.cls := hown
  refine own_ent (ef_4 m (1 : Int32) (4 : Int32)) ?_
  refine own_iload_n X0 hx (hb hby d6_0) rfl 1 rfl ?_
  refine own_iload_n X0 hx (hb hby d6_1) rfl 2 rfl ?_
  refine own_aconst_null X0 hx (hb hby d6_2) 3 rfl ?_
  refine own_pureS X0 hx hZ hown (own_w hw 44 rfl) (own_w hw 45 rfl) (own_w hw 46 rfl) (own_w hw 47 rfl) (by decide) [(.int (1 : Int32)), (.int (4 : Int32)), .null] [] 0 (rm_checkIndex_41 l Z a0 hw [] h0 n0 O ) (by decide) (by decide) rfl rfl e0 (by rw [hml]; rfl) (lenOf pd_4 rfl) (Nat.le_of_eq rfl) (hb hby d6_3) 6 rfl rfl (by decide) (by decide) fun T2 X2 e2 => ?_
  exact own_retI X2 hx hk hret (hb hby d6_6) ⟨rfl, e2, rfl⟩ (by decide) (by decide)
theorem rm_get_39 (l : Launch) (Z : State) (a0 : Array Value) (hw : own_HW Z a0) (ws : List Jvm.Cond)  (h0 : Heap) (n0 : Nat) (O : Old Z n0 h0) (b0 : Addr) (b1 : Addr) (b2 : Addr) (j0 : Int64) (j1 : Int64) (j2 : Int64) (j3 : Int64) (k_b1 : ClassId) (k_b2 : ClassId) (F_b0_chunks : Fld Z h0 b0 "com/example/gridledger/gridledger/columns/LongColumn" "chunks" "[[J" (.ref b1)) (F_b0_size : Fld Z h0 b0 "com/example/gridledger/gridledger/columns/LongColumn" "size" "I" (.int (4 : Int32))) (V_b1 : Arv Z h0 b1 k_b1 (.array .long) (1 : Int32) [(.ref b2)] .null) (V_b2 : Arv Z h0 b2 k_b2 .long (4096 : Int32) [(.long j0), (.long j1), (.long j2), (.long j3)] (.long (0 : Int64))) :
    own_Met l (⟨"com/example/gridledger/gridledger/columns/LongColumn", "get", "(I)J"⟩ : MethodName) prog_5_method_3_code 2 (some .long) ws (own_rm 2 0 0 27) Z #[(.ref b0), (.int (1 : Int32))] h0 (own_R (some (.long j1)) h0) := by
  refine own_met (plainFor_of_name pn_0) ?_
  intro p e s m below meth c T0 hx hby hml hown hret hk hnm hZ X0 e0
  have hown : s.vm.findClass "com/example/gridledger/gridledger/columns/LongColumn" = some m.cls := hown
  refine own_ent (ef_5 m b0 (1 : Int32)) ?_
  refine own_iload_n X0 hx (hb hby d5_0) rfl 1 rfl ?_
  refine own_aload_n X0 hx (hb hby d5_1) rfl rfl 2 rfl ?_
  refine own_getF X0 hx hZ hown (host := "") (Or.inl (own_w hw 18 rfl)) Via.refl e0 F_b0_size (hb hby d5_2) 5 rfl fun T1 X1 e1 => ?_
  refine own_pureS X1 hx hZ hown (own_w hw 40 rfl) (own_w hw 41 rfl) (own_w hw 42 rfl) (own_w hw 43 rfl) (by decide) [(.int (1 : Int32)), (.int (4 : Int32))] [] 0 (rm_checkIndex_40 l Z a0 hw [] h0 n0 O ) (by decide) (by decide) rfl rfl e1 (by rw [hml]; rfl) (lenOf pd_5 rfl) (Nat.le_of_eq rfl) (hb hby d5_5) 8 rfl rfl (by decide) (by decide) fun T3 X3 e3 => ?_
  refine own_pop X3 hx (hb hby d5_8) rfl 9 rfl ?_
  refine own_aload_n X3 hx (hb hby d5_9) rfl rfl 10 rfl ?_
  refine own_getF X3 hx hZ hown (host := "") (Or.inl (own_w hw 11 rfl)) Via.refl e3 F_b0_chunks (hb hby d5_10) 13 rfl fun T4 X4 e4 => ?_
  refine own_iload_n X4 hx (hb hby d5_13) rfl 14 rfl ?_
  refine own_pureS X4 hx hZ hown (own_w hw 20 rfl) (own_w hw 21 rfl) (own_w hw 22 rfl) (own_w hw 23 rfl) (by decide) [(.int (1 : Int32))] [(.ref b1)] 1 (rm_chunk_10 l Z a0 hw [] h0 n0 O ) (by decide) (by decide) rfl rfl e4 (by rw [hml]; rfl) (lenOf pd_1 rfl) (Nat.le_of_eq rfl) (hb hby d5_14) 17 rfl rfl (by decide) (by decide) fun T6 X6 e6 => ?_
  refine own_aaload X6 hx hZ e6 V_b1 rfl (.ref b2) (by decide) rfl (hb hby d5_17) 18 rfl ?_
  refine own_iload_n X6 hx (hb hby d5_18) rfl 19 rfl ?_
  refine own_pureS X6 hx hZ hown (own_w hw 26 rfl) (own_w hw 27 rfl) (own_w hw 22 rfl) (own_w hw 28 rfl) (by decide) [(.int (1 : Int32))] [(.ref b2)] 1 (rm_place_11 l Z a0 hw [] h0 n0 O ) (by decide) (by decide) rfl rfl e6 (by rw [hml]; rfl) (lenOf pd_1 rfl) (Nat.le_of_eq rfl) (hb hby d5_19) 22 rfl rfl (by decide) (by decide) fun T8 X8 e8 => ?_
  refine own_laload X8 hx hZ e8 V_b2 (.long j1) (by decide) rfl (hb hby d5_22) 23 rfl ?_
  exact own_retJ X8 hx hk hret (hb hby d5_23) ⟨rfl, e8, rfl⟩ (by decide) (by decide)
theorem rm_checkIndex_44 (l : Launch) (Z : State) (a0 : Array Value) (hw : own_HW Z a0) (ws : List Jvm.Cond)  (h0 : Heap) (n0 : Nat) (O : Old Z n0 h0)  :
    own_Met l (⟨"jdk/internal/util/Preconditions", "checkIndex", "(IILjava/util/function/BiFunction;)I"⟩ : MethodName) jdk_41_method_11_code 3 (some .int) ws (own_rm 0 0 0 0) Z #[(.int (2 : Int32)), (.int (4 : Int32)), .null] h0 (own_R (some (.int (2 : Int32))) h0) := by
  refine own_met (plainFor_of_name pn_2) ?_
  intro p e s m below meth c T0 hx hby hml hown hret hk hnm hZ X0 e0
  have hown : s.vm.findClass "jdk/internal/util/Preconditions" = some m.cls := hown
  refine own_ent (ef_3 m (2 : Int32) (4 : Int32)) ?_
  refine own_iload_n X0 hx (hb hby d7_0) rfl 1 rfl ?_
  refine own_ifN X0 hx (hb hby d7_1) ((if0 _ _).trans (flt (by decide : ¬ ((2 : Int32) < (0 : Int32)))).1) 4 rfl ?_
  refine own_iload_n X0 hx (hb hby d7_4) rfl 5 rfl ?_
  refine own_iload_n X0 hx (hb hby d7_5) rfl 6 rfl ?_
  refine own_icmpY X0 hx (hb hby d7_6) (tlt (by decide : (2 : Int32) < (4 : Int32))).1 16 (by decide) (by decide) ?_
  refine own_iload_n X0 hx (hb hby d7_16) rfl 17 rfl ?_
  exact own_retI X0 hx hk hret (hb hby d7_17) ⟨rfl, e0, rfl⟩ (by decide) (by decide)
theorem rm_checkIndex_43 (l : Launch) (Z : State) (a0 : Array Value) (hw : own_HW Z a0) (ws : List Jvm.Cond)  (h0 : Heap) (n0 : Nat) (O : Old Z n0 h0)  :
    own_Met l (⟨"java/util/Objects", "checkIndex", "(II)I"⟩ : MethodName) jdk_31_method_17_code 2 (some .int) ws (own_rm 1 0 0 14) Z #[(.int (2 : Int32)), (.int (4 : Int32))] h0 (own_R (some (.int (2 : Int32))) h0) := by
  refine own_met (plainFor_of_name pn_3) ?_
  intro p e s m below meth c T0 hx hby hml hown hret hk hnm hZ X0 e0
  have hown : s.vm.findClass "java/util/Objects" = some m.cls := hown
  refine own_ent (ef_4 m (2 : Int32) (4 : Int32)) ?_
  refine own_iload_n X0 hx (hb hby d6_0) rfl 1 rfl ?_
  refine own_iload_n X0 hx (hb hby d6_1) rfl 2 rfl ?_
  refine own_aconst_null X0 hx (hb hby d6_2) 3 rfl ?_
  refine own_pureS X0 hx hZ hown (own_w hw 44 rfl) (own_w hw 45 rfl) (own_w hw 46 rfl) (own_w hw 47 rfl) (by decide) [(.int (2 : Int32)), (.int (4 : Int32)), .null] [] 0 (rm_checkIndex_44 l Z a0 hw [] h0 n0 O ) (by decide) (by decide) rfl rfl e0 (by rw [hml]; rfl) (lenOf pd_4 rfl) (Nat.le_of_eq rfl) (hb hby d6_3) 6 rfl rfl (by decide) (by decide) fun T2 X2 e2 => ?_
  exact own_retI X2 hx hk hret (hb hby d6_6) ⟨rfl, e2, rfl⟩ (by decide) (by decide)
theorem rm_get_42 (l : Launch) (Z : State) (a0 : Array Value) (hw : own_HW Z a0) (ws : List Jvm.Cond)  (h0 : Heap) (n0 : Nat) (O : Old Z n0 h0) (b0 : Addr) (b1 : Addr) (b2 : Addr) (j0 : Int64) (j1 : Int64) (j2 : Int64) (j3 : Int64) (k_b1 : ClassId) (k_b2 : ClassId) (F_b0_chunks : Fld Z h0 b0 "com/example/gridledger/gridledger/columns/LongColumn" "chunks" "[[J" (.ref b1)) (F_b0_size : Fld Z h0 b0 "com/example/gridledger/gridledger/columns/LongColumn" "size" "I" (.int (4 : Int32))) (V_b1 : Arv Z h0 b1 k_b1 (.array .long) (1 : Int32) [(.ref b2)] .null) (V_b2 : Arv Z h0 b2 k_b2 .long (4096 : Int32) [(.long j0), (.long j1), (.long j2), (.long j3)] (.long (0 : Int64))) :
    own_Met l (⟨"com/example/gridledger/gridledger/columns/LongColumn", "get", "(I)J"⟩ : MethodName) prog_5_method_3_code 2 (some .long) ws (own_rm 2 0 0 27) Z #[(.ref b0), (.int (2 : Int32))] h0 (own_R (some (.long j2)) h0) := by
  refine own_met (plainFor_of_name pn_0) ?_
  intro p e s m below meth c T0 hx hby hml hown hret hk hnm hZ X0 e0
  have hown : s.vm.findClass "com/example/gridledger/gridledger/columns/LongColumn" = some m.cls := hown
  refine own_ent (ef_5 m b0 (2 : Int32)) ?_
  refine own_iload_n X0 hx (hb hby d5_0) rfl 1 rfl ?_
  refine own_aload_n X0 hx (hb hby d5_1) rfl rfl 2 rfl ?_
  refine own_getF X0 hx hZ hown (host := "") (Or.inl (own_w hw 18 rfl)) Via.refl e0 F_b0_size (hb hby d5_2) 5 rfl fun T1 X1 e1 => ?_
  refine own_pureS X1 hx hZ hown (own_w hw 40 rfl) (own_w hw 41 rfl) (own_w hw 42 rfl) (own_w hw 43 rfl) (by decide) [(.int (2 : Int32)), (.int (4 : Int32))] [] 0 (rm_checkIndex_43 l Z a0 hw [] h0 n0 O ) (by decide) (by decide) rfl rfl e1 (by rw [hml]; rfl) (lenOf pd_5 rfl) (Nat.le_of_eq rfl) (hb hby d5_5) 8 rfl rfl (by decide) (by decide) fun T3 X3 e3 => ?_
  refine own_pop X3 hx (hb hby d5_8) rfl 9 rfl ?_
  refine own_aload_n X3 hx (hb hby d5_9) rfl rfl 10 rfl ?_
  refine own_getF X3 hx hZ hown (host := "") (Or.inl (own_w hw 11 rfl)) Via.refl e3 F_b0_chunks (hb hby d5_10) 13 rfl fun T4 X4 e4 => ?_
  refine own_iload_n X4 hx (hb hby d5_13) rfl 14 rfl ?_
  refine own_pureS X4 hx hZ hown (own_w hw 20 rfl) (own_w hw 21 rfl) (own_w hw 22 rfl) (own_w hw 23 rfl) (by decide) [(.int (2 : Int32))] [(.ref b1)] 1 (rm_chunk_20 l Z a0 hw [] h0 n0 O ) (by decide) (by decide) rfl rfl e4 (by rw [hml]; rfl) (lenOf pd_1 rfl) (Nat.le_of_eq rfl) (hb hby d5_14) 17 rfl rfl (by decide) (by decide) fun T6 X6 e6 => ?_
  refine own_aaload X6 hx hZ e6 V_b1 rfl (.ref b2) (by decide) rfl (hb hby d5_17) 18 rfl ?_
  refine own_iload_n X6 hx (hb hby d5_18) rfl 19 rfl ?_
  refine own_pureS X6 hx hZ hown (own_w hw 26 rfl) (own_w hw 27 rfl) (own_w hw 22 rfl) (own_w hw 28 rfl) (by decide) [(.int (2 : Int32))] [(.ref b2)] 1 (rm_place_21 l Z a0 hw [] h0 n0 O ) (by decide) (by decide) rfl rfl e6 (by rw [hml]; rfl) (lenOf pd_1 rfl) (Nat.le_of_eq rfl) (hb hby d5_19) 22 rfl rfl (by decide) (by decide) fun T8 X8 e8 => ?_
  refine own_laload X8 hx hZ e8 V_b2 (.long j2) (by decide) rfl (hb hby d5_22) 23 rfl ?_
  exact own_retJ X8 hx hk hret (hb hby d5_23) ⟨rfl, e8, rfl⟩ (by decide) (by decide)
theorem rm_checkIndex_47 (l : Launch) (Z : State) (a0 : Array Value) (hw : own_HW Z a0) (ws : List Jvm.Cond)  (h0 : Heap) (n0 : Nat) (O : Old Z n0 h0)  :
    own_Met l (⟨"jdk/internal/util/Preconditions", "checkIndex", "(IILjava/util/function/BiFunction;)I"⟩ : MethodName) jdk_41_method_11_code 3 (some .int) ws (own_rm 0 0 0 0) Z #[(.int (3 : Int32)), (.int (4 : Int32)), .null] h0 (own_R (some (.int (3 : Int32))) h0) := by
  refine own_met (plainFor_of_name pn_2) ?_
  intro p e s m below meth c T0 hx hby hml hown hret hk hnm hZ X0 e0
  have hown : s.vm.findClass "jdk/internal/util/Preconditions" = some m.cls := hown
  refine own_ent (ef_3 m (3 : Int32) (4 : Int32)) ?_
  refine own_iload_n X0 hx (hb hby d7_0) rfl 1 rfl ?_
  refine own_ifN X0 hx (hb hby d7_1) ((if0 _ _).trans (flt (by decide : ¬ ((3 : Int32) < (0 : Int32)))).1) 4 rfl ?_
  refine own_iload_n X0 hx (hb hby d7_4) rfl 5 rfl ?_
  refine own_iload_n X0 hx (hb hby d7_5) rfl 6 rfl ?_
  refine own_icmpY X0 hx (hb hby d7_6) (tlt (by decide : (3 : Int32) < (4 : Int32))).1 16 (by decide) (by decide) ?_
  refine own_iload_n X0 hx (hb hby d7_16) rfl 17 rfl ?_
  exact own_retI X0 hx hk hret (hb hby d7_17) ⟨rfl, e0, rfl⟩ (by decide) (by decide)
theorem rm_checkIndex_46 (l : Launch) (Z : State) (a0 : Array Value) (hw : own_HW Z a0) (ws : List Jvm.Cond)  (h0 : Heap) (n0 : Nat) (O : Old Z n0 h0)  :
    own_Met l (⟨"java/util/Objects", "checkIndex", "(II)I"⟩ : MethodName) jdk_31_method_17_code 2 (some .int) ws (own_rm 1 0 0 14) Z #[(.int (3 : Int32)), (.int (4 : Int32))] h0 (own_R (some (.int (3 : Int32))) h0) := by
  refine own_met (plainFor_of_name pn_3) ?_
  intro p e s m below meth c T0 hx hby hml hown hret hk hnm hZ X0 e0
  have hown : s.vm.findClass "java/util/Objects" = some m.cls := hown
  refine own_ent (ef_4 m (3 : Int32) (4 : Int32)) ?_
  refine own_iload_n X0 hx (hb hby d6_0) rfl 1 rfl ?_
  refine own_iload_n X0 hx (hb hby d6_1) rfl 2 rfl ?_
  refine own_aconst_null X0 hx (hb hby d6_2) 3 rfl ?_
  refine own_pureS X0 hx hZ hown (own_w hw 44 rfl) (own_w hw 45 rfl) (own_w hw 46 rfl) (own_w hw 47 rfl) (by decide) [(.int (3 : Int32)), (.int (4 : Int32)), .null] [] 0 (rm_checkIndex_47 l Z a0 hw [] h0 n0 O ) (by decide) (by decide) rfl rfl e0 (by rw [hml]; rfl) (lenOf pd_4 rfl) (Nat.le_of_eq rfl) (hb hby d6_3) 6 rfl rfl (by decide) (by decide) fun T2 X2 e2 => ?_
  exact own_retI X2 hx hk hret (hb hby d6_6) ⟨rfl, e2, rfl⟩ (by decide) (by decide)
theorem rm_get_45 (l : Launch) (Z : State) (a0 : Array Value) (hw : own_HW Z a0) (ws : List Jvm.Cond)  (h0 : Heap) (n0 : Nat) (O : Old Z n0 h0) (b0 : Addr) (b1 : Addr) (b2 : Addr) (j0 : Int64) (j1 : Int64) (j2 : Int64) (j3 : Int64) (k_b1 : ClassId) (k_b2 : ClassId) (F_b0_chunks : Fld Z h0 b0 "com/example/gridledger/gridledger/columns/LongColumn" "chunks" "[[J" (.ref b1)) (F_b0_size : Fld Z h0 b0 "com/example/gridledger/gridledger/columns/LongColumn" "size" "I" (.int (4 : Int32))) (V_b1 : Arv Z h0 b1 k_b1 (.array .long) (1 : Int32) [(.ref b2)] .null) (V_b2 : Arv Z h0 b2 k_b2 .long (4096 : Int32) [(.long j0), (.long j1), (.long j2), (.long j3)] (.long (0 : Int64))) :
    own_Met l (⟨"com/example/gridledger/gridledger/columns/LongColumn", "get", "(I)J"⟩ : MethodName) prog_5_method_3_code 2 (some .long) ws (own_rm 2 0 0 27) Z #[(.ref b0), (.int (3 : Int32))] h0 (own_R (some (.long j3)) h0) := by
  refine own_met (plainFor_of_name pn_0) ?_
  intro p e s m below meth c T0 hx hby hml hown hret hk hnm hZ X0 e0
  have hown : s.vm.findClass "com/example/gridledger/gridledger/columns/LongColumn" = some m.cls := hown
  refine own_ent (ef_5 m b0 (3 : Int32)) ?_
  refine own_iload_n X0 hx (hb hby d5_0) rfl 1 rfl ?_
  refine own_aload_n X0 hx (hb hby d5_1) rfl rfl 2 rfl ?_
  refine own_getF X0 hx hZ hown (host := "") (Or.inl (own_w hw 18 rfl)) Via.refl e0 F_b0_size (hb hby d5_2) 5 rfl fun T1 X1 e1 => ?_
  refine own_pureS X1 hx hZ hown (own_w hw 40 rfl) (own_w hw 41 rfl) (own_w hw 42 rfl) (own_w hw 43 rfl) (by decide) [(.int (3 : Int32)), (.int (4 : Int32))] [] 0 (rm_checkIndex_46 l Z a0 hw [] h0 n0 O ) (by decide) (by decide) rfl rfl e1 (by rw [hml]; rfl) (lenOf pd_5 rfl) (Nat.le_of_eq rfl) (hb hby d5_5) 8 rfl rfl (by decide) (by decide) fun T3 X3 e3 => ?_
  refine own_pop X3 hx (hb hby d5_8) rfl 9 rfl ?_
  refine own_aload_n X3 hx (hb hby d5_9) rfl rfl 10 rfl ?_
  refine own_getF X3 hx hZ hown (host := "") (Or.inl (own_w hw 11 rfl)) Via.refl e3 F_b0_chunks (hb hby d5_10) 13 rfl fun T4 X4 e4 => ?_
  refine own_iload_n X4 hx (hb hby d5_13) rfl 14 rfl ?_
  refine own_pureS X4 hx hZ hown (own_w hw 20 rfl) (own_w hw 21 rfl) (own_w hw 22 rfl) (own_w hw 23 rfl) (by decide) [(.int (3 : Int32))] [(.ref b1)] 1 (rm_chunk_33 l Z a0 hw [] h0 n0 O ) (by decide) (by decide) rfl rfl e4 (by rw [hml]; rfl) (lenOf pd_1 rfl) (Nat.le_of_eq rfl) (hb hby d5_14) 17 rfl rfl (by decide) (by decide) fun T6 X6 e6 => ?_
  refine own_aaload X6 hx hZ e6 V_b1 rfl (.ref b2) (by decide) rfl (hb hby d5_17) 18 rfl ?_
  refine own_iload_n X6 hx (hb hby d5_18) rfl 19 rfl ?_
  refine own_pureS X6 hx hZ hown (own_w hw 26 rfl) (own_w hw 27 rfl) (own_w hw 22 rfl) (own_w hw 28 rfl) (by decide) [(.int (3 : Int32))] [(.ref b2)] 1 (rm_place_34 l Z a0 hw [] h0 n0 O ) (by decide) (by decide) rfl rfl e6 (by rw [hml]; rfl) (lenOf pd_1 rfl) (Nat.le_of_eq rfl) (hb hby d5_19) 22 rfl rfl (by decide) (by decide) fun T8 X8 e8 => ?_
  refine own_laload X8 hx hZ e8 V_b2 (.long j3) (by decide) rfl (hb hby d5_22) 23 rfl ?_
  exact own_retJ X8 hx hk hret (hb hby d5_23) ⟨rfl, e8, rfl⟩ (by decide) (by decide)
theorem pd_0 : parseMethodDescriptor "()V" = some ⟨[], none⟩ := by decide +kernel
theorem pd_2 : parseMethodDescriptor "(J)V" = some ⟨[.long], none⟩ := by decide +kernel
theorem pd_3 : parseMethodDescriptor "()I" = some ⟨[], some .int⟩ := by decide +kernel
theorem pd_6 : parseMethodDescriptor "(I)J" = some ⟨[.int], some .long⟩ := by decide +kernel
theorem pn_4 : plainName "com/example/gridledger/gridledger/columns/LongColumnGetPinLaw" = true := by first | (simp [plainName, overriddenIn]; done) | decide +kernel
theorem ef_6 (m : MethodId) (y0 : Int64) (y1 : Int64) (y2 : Int64) (y3 : Int64) (y4 : Int32) (y5 : Int32) : entryFrame m #[(.long y0), (.long y1), (.long y2), (.long y3), (.int y4), (.int y5)] maxLocals = mkF m 0 #[.val (.long y0), .second, .val (.long y1), .second, .val (.long y2), .second, .val (.long y3), .second, .val (.int y4), .val (.int y5), .unset, .unset, .unset, .unset, .unset] [] := by first | (simp [entryFrame, mkF, argsToLocals, Value.category, maxLocals]; done) | rfl
theorem rm0 (l : Launch) (Z : State) (a0 : Array Value) (hw : own_HW Z a0) (ws : List Jvm.Cond) (x0 : Int64) (x1 : Int64) (x2 : Int64) (x3 : Int64) (x4 : Int32) (x5 : Int32) (h0 : Heap) (n0 : Nat) (O : Old Z n0 h0) :
    own_Met l x code maxLocals ret ws room_1 Z #[(.long x0), (.long x1), (.long x2), (.long x3), (.int x4), (.int x5)] h0 (own_Q0 n0) := by
  refine own_met (plainFor_of_name pn_4) ?_
  intro p e s m below meth c T0 hx hby hml hown hret hk hnm hZ X0 e0
  have hown : s.vm.findClass "com/example/gridledger/gridledger/columns/LongColumnGetPinLaw" = some m.cls := hown
  refine own_ent (ef_6 m x0 x1 x2 x3 x4 x5) ?_
  refine own_iload X0 hx (hb hby at_0) rfl 2 rfl ?_
  refine own_iconst X0 hx (hb hby at_2) (3 : Int32) rfl 3 rfl ?_
  refine own_iand X0 hx (hb hby at_3) 4 rfl ?_
  rcases own_bit3 x4 with q1 | q1 | q1 | q1
  · rw [q1]
    refine own_iconst X0 hx (hb hby at_4) (1 : Int32) rfl 5 rfl ?_
    refine own_iadd X0 hx (hb hby at_5) 6 rfl ?_
    refine own_topI (1 : Int32) (by decide) ?_
    refine own_istore X0 hx (hb hby at_6) #[.val (.long x0), .second, .val (.long x1), .second, .val (.long x2), .second, .val (.long x3), .second, .val (.int x4), .val (.int x5), .val (.int (1 : Int32)), .unset, .unset, .unset, .unset] rfl 8 rfl ?_
    refine own_newO X0 hx hZ hown (own_w hw 0 rfl) (own_w hw 1 rfl) (own_w hw 2 rfl) e0 (hb hby at_8) 11 rfl (by decide) (by decide) fun T2 a2 g2 X2 E2 A2 D2 => ?_
    have g_a2 : n0 ≤ a2 := Nat.le_trans (own_osz O) (Nat.le_of_eq g2)
    have O3 := O.ext E2
    have F2_chunks : Fld Z T2.heap a2 "com/example/gridledger/gridledger/columns/LongColumn" "chunks" "[[J" .null := D2 (Or.inl (own_w hw 12 rfl)) (ty := (.array (.array .long))) (by decide)
    have F2_size : Fld Z T2.heap a2 "com/example/gridledger/gridledger/columns/LongColumn" "size" "I" (.int (0 : Int32)) := D2 (Or.inl (own_w hw 19 rfl)) (ty := .int) (by decide)
    refine own_dup X2 hx (hb hby at_11) rfl 12 rfl ?_
    refine own_kN X2 hx hZ rfl hown (own_w hw 3 rfl) (own_w hw 4 rfl) (own_w hw 2 rfl) (own_w hw 5 rfl) (by decide) a2 [] [(.ref a2)] 1 (rm__init__1 l Z a0 hw [] T2.heap n0 O3 a2 A2 F2_chunks F2_size g_a2) (by decide) (by decide) rfl (by rw [hml]; rfl) (lenOf pd_0 rfl) (Nat.le_of_eq rfl) (hb hby at_12) (by decide) (by decide) 15 rfl fun v4 T4 L4 X4 hQ4 => ?_
    obtain ⟨q4_0, qk4_0, rfl, Nq4, Kq4, le_q4_0, p4_0, p4_1, p4_2, p4_3, p4_4, p4_5⟩ := hQ4
    have g_q4_0 : n0 ≤ q4_0 := Nat.le_trans (own_osz O3) le_q4_0
    have O5 := O3.keep Kq4 (allS g_a2 all0)
    have N5 := Fr.app (Fr.nil n0) Nq4
    refine own_nV ?_
    refine own_astore X4 hx (hb hby at_15) #[.val (.long x0), .second, .val (.long x1), .second, .val (.long x2), .second, .val (.long x3), .second, .val (.int x4), .val (.int x5), .val (.int (1 : Int32)), .val (.ref a2), .unset, .unset, .unset] rfl rfl 17 rfl ?_
    refine own_aload X4 hx (hb hby at_17) rfl rfl 19 rfl ?_
    refine own_lload_n X4 hx (hb hby at_19) rfl 20 rfl ?_
    have ne7 := own_nl A2.lt (Nat.le_refl _) le_q4_0
    refine own_kV X4 hx hZ hown (own_w hw 13 rfl) (own_w hw 14 rfl) (notFace_of_selects (args := #[]) (mvT hZ (own_w hw 16 rfl))) (own_w hw 16 rfl) (own_w hw 15 rfl) (own_w hw 2 rfl) (own_w hw 17 rfl) (by decide) a2 [(.long x0)] [] 0 (rm_add_2 l Z a0 hw [] T4.heap n0 O5 a2 q4_0 x0 qk4_0 p4_0 p4_1 p4_2 g_a2 p4_3 p4_4 p4_5 g_q4_0 ne7) (by decide) (by decide) rfl p4_0 (by rw [hml]; rfl) (lenOf pd_2 rfl) (Nat.le_of_eq rfl) (hb hby at_20) (by decide) (by decide) 23 rfl fun v6 T6 L6 X6 hQ6 => ?_
    obtain ⟨q6_0, qk6_0, rfl, Nq6, Kq6, le_q6_0, p6_0, p6_1, p6_2, p6_3, p6_4, p6_5, p6_6⟩ := hQ6
    have O8 := O5.keep Kq6 (allS g_q4_0 (allS g_a2 all0))
    have N8 := Fr.app N5 Nq6
    refine own_nV ?_
    refine own_iload X6 hx (hb hby at_23) rfl 25 rfl ?_
    refine own_iconst X6 hx (hb hby at_25) (2 : Int32) rfl 26 rfl ?_
    refine own_icmpY X6 hx (hb hby at_26) (tlt (by decide : (1 : Int32) < (2 : Int32))).1 35 (by decide) (by decide) ?_
    refine own_iload X6 hx (hb hby at_35) rfl 37 rfl ?_
    refine own_iconst X6 hx (hb hby at_37) (3 : Int32) rfl 38 rfl ?_
    refine own_icmpY X6 hx (hb hby at_38) (tlt (by decide : (1 : Int32) < (3 : Int32))).1 48 (by decide) (by decide) ?_
    refine own_iload X6 hx (hb hby at_48) rfl 50 rfl ?_
    refine own_iconst X6 hx (hb hby at_50) (4 : Int32) rfl 51 rfl ?_
    refine own_icmpY X6 hx (hb hby at_51) (tlt (by decide : (1 : Int32) < (4 : Int32))).1 61 (by decide) (by decide) ?_
    refine own_iload X6 hx (hb hby at_61) rfl 63 rfl ?_
    refine own_ldc X6 hx hZ hown (own_w hw 29 rfl) (hb hby at_63) 65 rfl ?_
    refine own_iand X6 hx (hb hby at_65) 66 rfl ?_
    refine own_iload X6 hx (hb hby at_66) rfl 68 rfl ?_
    refine own_irem X6 hx (hb hby at_68) (by decide) 69 rfl ?_
    rcases own_mod1 x5 with q9
    · rw [q9]
      refine own_istore X6 hx (hb hby at_69) #[.val (.long x0), .second, .val (.long x1), .second, .val (.long x2), .second, .val (.long x3), .second, .val (.int x4), .val (.int x5), .val (.int (1 : Int32)), .val (.ref a2), .val (.int (0 : Int32)), .unset, .unset] rfl 71 rfl ?_
      refine own_iload X6 hx (hb hby at_71) rfl 73 rfl ?_
      refine own_ifN X6 hx (hb hby at_73) ((if0 _ _).trans (teq (by decide : (0 : Int32) = (0 : Int32))).2) 76 rfl ?_
      refine own_lload_n X6 hx (hb hby at_76) rfl 77 rfl ?_
      refine own_lstore X6 hx (hb hby at_77) #[.val (.long x0), .second, .val (.long x1), .second, .val (.long x2), .second, .val (.long x3), .second, .val (.int x4), .val (.int x5), .val (.int (1 : Int32)), .val (.ref a2), .val (.int (0 : Int32)), .val (.long x0), .second] rfl 79 rfl ?_
      refine own_goto X6 hx (hb hby at_79) 111 (by decide) (by decide) ?_
      refine own_aload X6 hx (hb hby at_111) rfl rfl 113 rfl ?_
      refine own_pureV X6 hx hZ hown (own_w hw 30 rfl) (own_w hw 31 rfl) (notFace_of_selects (args := #[]) (mvT hZ (own_w hw 33 rfl))) (own_w hw 33 rfl) (own_w hw 32 rfl) (own_w hw 2 rfl) (own_w hw 34 rfl) (by decide) a2 [] [] 0 (rm_size_5 l Z a0 hw [] T6.heap n0 O8 a2 p6_2) (by decide) (by decide) rfl rfl rfl p6_0 (by rw [hml]; rfl) (lenOf pd_3 rfl) (Nat.le_of_eq rfl) (hb hby at_113) 116 rfl rfl (by decide) (by decide) fun T11 X11 e11 => ?_
      refine own_iload X11 hx (hb hby at_116) rfl 118 rfl ?_
      refine own_icmpN X11 hx (hb hby at_118) (teq (by decide : (1 : Int32) = (1 : Int32))).2 121 rfl ?_
      refine own_aload X11 hx (hb hby at_121) rfl rfl 123 rfl ?_
      refine own_iload X11 hx (hb hby at_123) rfl 125 rfl ?_
      refine own_pureV X11 hx hZ hown (own_w hw 35 rfl) (own_w hw 36 rfl) (notFace_of_selects (args := #[]) (mvT hZ (own_w hw 38 rfl))) (own_w hw 38 rfl) (own_w hw 37 rfl) (own_w hw 2 rfl) (own_w hw 39 rfl) (by decide) a2 [(.int (0 : Int32))] [] 0 (rm_get_6 l Z a0 hw [] T6.heap n0 O8 a2 q4_0 q6_0 x0 qk4_0 qk6_0 p6_1 p6_2 p6_3 p6_5) (by decide) (by decide) rfl rfl e11 p6_0 (by rw [hml]; rfl) (lenOf pd_6 rfl) (Nat.le_of_eq rfl) (hb hby at_125) 128 rfl rfl (by decide) (by decide) fun T13 X13 e13 => ?_
      refine own_lload X13 hx (hb hby at_128) rfl 130 rfl ?_
      refine own_lcmp X13 hx (hb hby at_130) 131 rfl ?_
      refine own_topI (0 : Int32) (own_lcmp0 _) ?_
      refine own_ifN X13 hx (hb hby at_131) ((if0 _ _).trans (teq (by decide : (0 : Int32) = (0 : Int32))).2) 134 rfl ?_
      refine own_iconst X13 hx (hb hby at_134) (1 : Int32) rfl 135 rfl ?_
      refine own_goto X13 hx (hb hby at_135) 139 (by decide) (by decide) ?_
      exact own_retZ X13 hx hk hret (hb hby at_139) rfl ⟨rfl, N8⟩ (by decide) (by decide)
  · rw [q1]
    refine own_iconst X0 hx (hb hby at_4) (1 : Int32) rfl 5 rfl ?_
    refine own_iadd X0 hx (hb hby at_5) 6 rfl ?_
    refine own_topI (2 : Int32) (by decide) ?_
    refine own_istore X0 hx (hb hby at_6) #[.val (.long x0), .second, .val (.long x1), .second, .val (.long x2), .second, .val (.long x3), .second, .val (.int x4), .val (.int x5), .val (.int (2 : Int32)), .unset, .unset, .unset, .unset] rfl 8 rfl ?_
    refine own_newO X0 hx hZ hown (own_w hw 0 rfl) (own_w hw 1 rfl) (own_w hw 2 rfl) e0 (hb hby at_8) 11 rfl (by decide) (by decide) fun T14 a14 g14 X14 E14 A14 D14 => ?_
    have g_a14 : n0 ≤ a14 := Nat.le_trans (own_osz O) (Nat.le_of_eq g14)
    have O15 := O.ext E14
    have F14_chunks : Fld Z T14.heap a14 "com/example/gridledger/gridledger/columns/LongColumn" "chunks" "[[J" .null := D14 (Or.inl (own_w hw 12 rfl)) (ty := (.array (.array .long))) (by decide)
    have F14_size : Fld Z T14.heap a14 "com/example/gridledger/gridledger/columns/LongColumn" "size" "I" (.int (0 : Int32)) := D14 (Or.inl (own_w hw 19 rfl)) (ty := .int) (by decide)
    refine own_dup X14 hx (hb hby at_11) rfl 12 rfl ?_
    refine own_kN X14 hx hZ rfl hown (own_w hw 3 rfl) (own_w hw 4 rfl) (own_w hw 2 rfl) (own_w hw 5 rfl) (by decide) a14 [] [(.ref a14)] 1 (rm__init__1 l Z a0 hw [] T14.heap n0 O15 a14 A14 F14_chunks F14_size g_a14) (by decide) (by decide) rfl (by rw [hml]; rfl) (lenOf pd_0 rfl) (Nat.le_of_eq rfl) (hb hby at_12) (by decide) (by decide) 15 rfl fun v16 T16 L16 X16 hQ16 => ?_
    obtain ⟨q16_0, qk16_0, rfl, Nq16, Kq16, le_q16_0, p16_0, p16_1, p16_2, p16_3, p16_4, p16_5⟩ := hQ16
    have g_q16_0 : n0 ≤ q16_0 := Nat.le_trans (own_osz O15) le_q16_0
    have O17 := O15.keep Kq16 (allS g_a14 all0)
    have N17 := Fr.app (Fr.nil n0) Nq16
    refine own_nV ?_
    refine own_astore X16 hx (hb hby at_15) #[.val (.long x0), .second, .val (.long x1), .second, .val (.long x2), .second, .val (.long x3), .second, .val (.int x4), .val (.int x5), .val (.int (2 : Int32)), .val (.ref a14), .unset, .unset, .unset] rfl rfl 17 rfl ?_
    refine own_aload X16 hx (hb hby at_17) rfl rfl 19 rfl ?_
    refine own_lload_n X16 hx (hb hby at_19) rfl 20 rfl ?_
    have ne19 := own_nl A14.lt (Nat.le_refl _) le_q16_0
    refine own_kV X16 hx hZ hown (own_w hw 13 rfl) (own_w hw 14 rfl) (notFace_of_selects (args := #[]) (mvT hZ (own_w hw 16 rfl))) (own_w hw 16 rfl) (own_w hw 15 rfl) (own_w hw 2 rfl) (own_w hw 17 rfl) (by decide) a14 [(.long x0)] [] 0 (rm_add_2 l Z a0 hw [] T16.heap n0 O17 a14 q16_0 x0 qk16_0 p16_0 p16_1 p16_2 g_a14 p16_3 p16_4 p16_5 g_q16_0 ne19) (by decide) (by decide) rfl p16_0 (by rw [hml]; rfl) (lenOf pd_2 rfl) (Nat.le_of_eq rfl) (hb hby at_20) (by decide) (by decide) 23 rfl fun v18 T18 L18 X18 hQ18 => ?_
    obtain ⟨q18_0, qk18_0, rfl, Nq18, Kq18, le_q18_0, p18_0, p18_1, p18_2, p18_3, p18_4, p18_5, p18_6⟩ := hQ18
    have g_q18_0 : n0 ≤ q18_0 := Nat.le_trans (own_osz O17) le_q18_0
    have O20 := O17.keep Kq18 (allS g_q16_0 (allS g_a14 all0))
    have N20 := Fr.app N17 Nq18
    refine own_nV ?_
    refine own_iload X18 hx (hb hby at_23) rfl 25 rfl ?_
    refine own_iconst X18 hx (hb hby at_25) (2 : Int32) rfl 26 rfl ?_
    refine own_icmpN X18 hx (hb hby at_26) (flt (by decide : ¬ ((2 : Int32) < (2 : Int32)))).1 29 rfl ?_
    refine own_aload X18 hx (hb hby at_29) rfl rfl 31 rfl ?_
    refine own_lload_n X18 hx (hb hby at_31) rfl 32 rfl ?_
    have ne22 := own_nl A14.lt Kq16.1 le_q18_0
    refine own_kV X18 hx hZ hown (own_w hw 13 rfl) (own_w hw 14 rfl) (notFace_of_selects (args := #[]) (mvT hZ (own_w hw 16 rfl))) (own_w hw 16 rfl) (own_w hw 15 rfl) (own_w hw 2 rfl) (own_w hw 17 rfl) (by decide) a14 [(.long x1)] [] 0 (rm_add_9 l Z a0 hw [] T18.heap n0 O20 a14 q16_0 q18_0 x1 x0 qk16_0 qk18_0 p18_0 p18_1 p18_2 g_a14 p18_3 p18_5 p18_6 g_q18_0 ne22) (by decide) (by decide) rfl p18_0 (by rw [hml]; rfl) (lenOf pd_2 rfl) (Nat.le_of_eq rfl) (hb hby at_32) (by decide) (by decide) 35 rfl fun v21 T21 L21 X21 hQ21 => ?_
    obtain ⟨rfl, Nq21, Kq21, p21_0, p21_1, p21_2, p21_3, p21_4⟩ := hQ21
    have O23 := O20.keep Kq21 (allS g_q18_0 (allS g_a14 all0))
    have N23 := Fr.app N20 Nq21
    refine own_nV ?_
    refine own_iload X21 hx (hb hby at_35) rfl 37 rfl ?_
    refine own_iconst X21 hx (hb hby at_37) (3 : Int32) rfl 38 rfl ?_
    refine own_icmpY X21 hx (hb hby at_38) (tlt (by decide : (2 : Int32) < (3 : Int32))).1 48 (by decide) (by decide) ?_
    refine own_iload X21 hx (hb hby at_48) rfl 50 rfl ?_
    refine own_iconst X21 hx (hb hby at_50) (4 : Int32) rfl 51 rfl ?_
    refine own_icmpY X21 hx (hb hby at_51) (tlt (by decide : (2 : Int32) < (4 : Int32))).1 61 (by decide) (by decide) ?_
    refine own_iload X21 hx (hb hby at_61) rfl 63 rfl ?_
    refine own_ldc X21 hx hZ hown (own_w hw 29 rfl) (hb hby at_63) 65 rfl ?_
    refine own_iand X21 hx (hb hby at_65) 66 rfl ?_
    refine own_iload X21 hx (hb hby at_66) rfl 68 rfl ?_
    refine own_irem X21 hx (hb hby at_68) (by decide) 69 rfl ?_
    rcases own_mod2 x5 with q24 | q24
    · rw [q24]
      refine own_istore X21 hx (hb hby at_69) #[.val (.long x0), .second, .val (.long x1), .second, .val (.long x2), .second, .val (.long x3), .second, .val (.int x4), .val (.int x5), .val (.int (2 : Int32)), .val (.ref a14), .val (.int (0 : Int32)), .unset, .unset] rfl 71 rfl ?_
      refine own_iload X21 hx (hb hby at_71) rfl 73 rfl ?_
      refine own_ifN X21 hx (hb hby at_73) ((if0 _ _).trans (teq (by decide : (0 : Int32) = (0 : Int32))).2) 76 rfl ?_
      refine own_lload_n X21 hx (hb hby at_76) rfl 77 rfl ?_
      refine own_lstore X21 hx (hb hby at_77) #[.val (.long x0), .second, .val (.long x1), .second, .val (.long x2), .second, .val (.long x3), .second, .val (.int x4), .val (.int x5), .val (.int (2 : Int32)), .val (.ref a14), .val (.int (0 : Int32)), .val (.long x0), .second] rfl 79 rfl ?_
      refine own_goto X21 hx (hb hby at_79) 111 (by decide) (by decide) ?_
      refine own_aload X21 hx (hb hby at_111) rfl rfl 113 rfl ?_
      refine own_pureV X21 hx hZ hown (own_w hw 30 rfl) (own_w hw 31 rfl) (notFace_of_selects (args := #[]) (mvT hZ (own_w hw 33 rfl))) (own_w hw 33 rfl) (own_w hw 32 rfl) (own_w hw 2 rfl) (own_w hw 34 rfl) (by decide) a14 [] [] 0 (rm_size_12 l Z a0 hw [] T21.heap n0 O23 a14 p21_2) (by decide) (by decide) rfl rfl rfl p21_0 (by rw [hml]; rfl) (lenOf pd_3 rfl) (Nat.le_of_eq rfl) (hb hby at_113) 116 rfl rfl (by decide) (by decide) fun T26 X26 e26 => ?_
      refine own_iload X26 hx (hb hby at_116) rfl 118 rfl ?_
      refine own_icmpN X26 hx (hb hby at_118) (teq (by decide : (2 : Int32) = (2 : Int32))).2 121 rfl ?_
      refine own_aload X26 hx (hb hby at_121) rfl rfl 123 rfl ?_
      refine own_iload X26 hx (hb hby at_123) rfl 125 rfl ?_
      have ne28 := own_nl p16_4.lt (Nat.le_refl _) le_q18_0
      have f29 := (p18_3.keep Kq21 (ninS ne28 (ninS (Ne.symm ne19) nin0)))
      refine own_pureV X26 hx hZ hown (own_w hw 35 rfl) (own_w hw 36 rfl) (notFace_of_selects (args := #[]) (mvT hZ (own_w hw 38 rfl))) (own_w hw 38 rfl) (own_w hw 37 rfl) (own_w hw 2 rfl) (own_w hw 39 rfl) (by decide) a14 [(.int (0 : Int32))] [] 0 (rm_get_13 l Z a0 hw [] T21.heap n0 O23 a14 q16_0 q18_0 x0 x1 qk16_0 qk18_0 p21_1 p21_2 f29 p21_3) (by decide) (by decide) rfl rfl e26 p21_0 (by rw [hml]; rfl) (lenOf pd_6 rfl) (Nat.le_of_eq rfl) (hb hby at_125) 128 rfl rfl (by decide) (by decide) fun T30 X30 e30 => ?_
      refine own_lload X30 hx (hb hby at_128) rfl 130 rfl ?_
      refine own_lcmp X30 hx (hb hby at_130) 131 rfl ?_
      refine own_topI (0 : Int32) (own_lcmp0 _) ?_
      refine own_ifN X30 hx (hb hby at_131) ((if0 _ _).trans (teq (by decide : (0 : Int32) = (0 : Int32))).2) 134 rfl ?_
      refine own_iconst X30 hx (hb hby at_134) (1 : Int32) rfl 135 rfl ?_
      refine own_goto X30 hx (hb hby at_135) 139 (by decide) (by decide) ?_
      exact own_retZ X30 hx hk hret (hb hby at_139) rfl ⟨rfl, N23⟩ (by decide) (by decide)
    · rw [q24]
      refine own_istore X21 hx (hb hby at_69) #[.val (.long x0), .second, .val (.long x1), .second, .val (.long x2), .second, .val (.long x3), .second, .val (.int x4), .val (.int x5), .val (.int (2 : Int32)), .val (.ref a14), .val (.int (1 : Int32)), .unset, .unset] rfl 71 rfl ?_
      refine own_iload X21 hx (hb hby at_71) rfl 73 rfl ?_
      refine own_ifY X21 hx (hb hby at_73) ((if0 _ _).trans (feq (by decide : ¬ ((1 : Int32) = (0 : Int32)))).2) 82 (by decide) (by decide) ?_
      refine own_iload X21 hx (hb hby at_82) rfl 84 rfl ?_
      refine own_iconst X21 hx (hb hby at_84) (1 : Int32) rfl 85 rfl ?_
      refine own_icmpN X21 hx (hb hby at_85) (teq (by decide : (1 : Int32) = (1 : Int32))).2 88 rfl ?_
      refine own_lload_n X21 hx (hb hby at_88) rfl 89 rfl ?_
      refine own_lstore X21 hx (hb hby at_89) #[.val (.long x0), .second, .val (.long x1), .second, .val (.long x2), .second, .val (.long x3), .second, .val (.int x4), .val (.int x5), .val (.int (2 : Int32)), .val (.ref a14), .val (.int (1 : Int32)), .val (.long x1), .second] rfl 91 rfl ?_
      refine own_goto X21 hx (hb hby at_91) 111 (by decide) (by decide) ?_
      refine own_aload X21 hx (hb hby at_111) rfl rfl 113 rfl ?_
      refine own_pureV X21 hx hZ hown (own_w hw 30 rfl) (own_w hw 31 rfl) (notFace_of_selects (args := #[]) (mvT hZ (own_w hw 33 rfl))) (own_w hw 33 rfl) (own_w hw 32 rfl) (own_w hw 2 rfl) (own_w hw 34 rfl) (by decide) a14 [] [] 0 (rm_size_12 l Z a0 hw [] T21.heap n0 O23 a14 p21_2) (by decide) (by decide) rfl rfl rfl p21_0 (by rw [hml]; rfl) (lenOf pd_3 rfl) (Nat.le_of_eq rfl) (hb hby at_113) 116 rfl rfl (by decide) (by decide) fun T32 X32 e32 => ?_
      refine own_iload X32 hx (hb hby at_116) rfl 118 rfl ?_
      refine own_icmpN X32 hx (hb hby at_118) (teq (by decide : (2 : Int32) = (2 : Int32))).2 121 rfl ?_
      refine own_aload X32 hx (hb hby at_121) rfl rfl 123 rfl ?_
      refine own_iload X32 hx (hb hby at_123) rfl 125 rfl ?_
      have ne34 := own_nl p16_4.lt (Nat.le_refl _) le_q18_0
      have f35 := (p18_3.keep Kq21 (ninS ne34 (ninS (Ne.symm ne19) nin0)))
      refine own_pureV X32 hx hZ hown (own_w hw 35 rfl) (own_w hw 36 rfl) (notFace_of_selects (args := #[]) (mvT hZ (own_w hw 38 rfl))) (own_w hw 38 rfl) (own_w hw 37 rfl) (own_w hw 2 rfl) (own_w hw 39 rfl) (by decide) a14 [(.int (1 : Int32))] [] 0 (rm_get_16 l Z a0 hw [] T21.heap n0 O23 a14 q16_0 q18_0 x0 x1 qk16_0 qk18_0 p21_1 p21_2 f35 p21_3) (by decide) (by decide) rfl rfl e32 p21_0 (by rw [hml]; rfl) (lenOf pd_6 rfl) (Nat.le_of_eq rfl) (hb hby at_125) 128 rfl rfl (by decide) (by decide) fun T36 X36 e36 => ?_
      refine own_lload X36 hx (hb hby at_128) rfl 130 rfl ?_
      refine own_lcmp X36 hx (hb hby at_130) 131 rfl ?_
      refine own_topI (0 : Int32) (own_lcmp0 _) ?_
      refine own_ifN X36 hx (hb hby at_131) ((if0 _ _).trans (teq (by decide : (0 : Int32) = (0 : Int32))).2) 134 rfl ?_
      refine own_iconst X36 hx (hb hby at_134) (1 : Int32) rfl 135 rfl ?_
      refine own_goto X36 hx (hb hby at_135) 139 (by decide) (by decide) ?_
      exact own_retZ X36 hx hk hret (hb hby at_139) rfl ⟨rfl, N23⟩ (by decide) (by decide)
  · rw [q1]
    refine own_iconst X0 hx (hb hby at_4) (1 : Int32) rfl 5 rfl ?_
    refine own_iadd X0 hx (hb hby at_5) 6 rfl ?_
    refine own_topI (3 : Int32) (by decide) ?_
    refine own_istore X0 hx (hb hby at_6) #[.val (.long x0), .second, .val (.long x1), .second, .val (.long x2), .second, .val (.long x3), .second, .val (.int x4), .val (.int x5), .val (.int (3 : Int32)), .unset, .unset, .unset, .unset] rfl 8 rfl ?_
    refine own_newO X0 hx hZ hown (own_w hw 0 rfl) (own_w hw 1 rfl) (own_w hw 2 rfl) e0 (hb hby at_8) 11 rfl (by decide) (by decide) fun T37 a37 g37 X37 E37 A37 D37 => ?_
    have g_a37 : n0 ≤ a37 := Nat.le_trans (own_osz O) (Nat.le_of_eq g37)
    have O38 := O.ext E37
    have F37_chunks : Fld Z T37.heap a37 "com/example/gridledger/gridledger/columns/LongColumn" "chunks" "[[J" .null := D37 (Or.inl (own_w hw 12 rfl)) (ty := (.array (.array .long))) (by decide)
    have F37_size : Fld Z T37.heap a37 "com/example/gridledger/gridledger/columns/LongColumn" "size" "I" (.int (0 : Int32)) := D37 (Or.inl (own_w hw 19 rfl)) (ty := .int) (by decide)
    refine own_dup X37 hx (hb hby at_11) rfl 12 rfl ?_
    refine own_kN X37 hx hZ rfl hown (own_w hw 3 rfl) (own_w hw 4 rfl) (own_w hw 2 rfl) (own_w hw 5 rfl) (by decide) a37 [] [(.ref a37)] 1 (rm__init__1 l Z a0 hw [] T37.heap n0 O38 a37 A37 F37_chunks F37_size g_a37) (by decide) (by decide) rfl (by rw [hml]; rfl) (lenOf pd_0 rfl) (Nat.le_of_eq rfl) (hb hby at_12) (by decide) (by decide) 15 rfl fun v39 T39 L39 X39 hQ39 => ?_
    obtain ⟨q39_0, qk39_0, rfl, Nq39, Kq39, le_q39_0, p39_0, p39_1, p39_2, p39_3, p39_4, p39_5⟩ := hQ39
    have g_q39_0 : n0 ≤ q39_0 := Nat.le_trans (own_osz O38) le_q39_0
    have O40 := O38.keep Kq39 (allS g_a37 all0)
    have N40 := Fr.app (Fr.nil n0) Nq39
    refine own_nV ?_
    refine own_astore X39 hx (hb hby at_15) #[.val (.long x0), .second, .val (.long x1), .second, .val (.long x2), .second, .val (.long x3), .second, .val (.int x4), .val (.int x5), .val (.int (3 : Int32)), .val (.ref a37), .unset, .unset, .unset] rfl rfl 17 rfl ?_
    refine own_aload X39 hx (hb hby at_17) rfl rfl 19 rfl ?_
    refine own_lload_n X39 hx (hb hby at_19) rfl 20 rfl ?_
    have ne42 := own_nl A37.lt (Nat.le_refl _) le_q39_0
    refine own_kV X39 hx hZ hown (own_w hw 13 rfl) (own_w hw 14 rfl) (notFace_of_selects (args := #[]) (mvT hZ (own_w hw 16 rfl))) (own_w hw 16 rfl) (own_w hw 15 rfl) (own_w hw 2 rfl) (own_w hw 17 rfl) (by decide) a37 [(.long x0)] [] 0 (rm_add_2 l Z a0 hw [] T39.heap n0 O40 a37 q39_0 x0 qk39_0 p39_0 p39_1 p39_2 g_a37 p39_3 p39_4 p39_5 g_q39_0 ne42) (by decide) (by decide) rfl p39_0 (by rw [hml]; rfl) (lenOf pd_2 rfl) (Nat.le_of_eq rfl) (hb hby at_20) (by decide) (by decide) 23 rfl fun v41 T41 L41 X41 hQ41 => ?_
    obtain ⟨q41_0, qk41_0, rfl, Nq41, Kq41, le_q41_0, p41_0, p41_1, p41_2, p41_3, p41_4, p41_5, p41_6⟩ := hQ41
    have g_q41_0 : n0 ≤ q41_0 := Nat.le_trans (own_osz O40) le_q41_0
    have O43 := O40.keep Kq41 (allS g_q39_0 (allS g_a37 all0))
    have N43 := Fr.app N40 Nq41
    refine own_nV ?_
    refine own_iload X41 hx (hb hby at_23) rfl 25 rfl ?_
    refine own_iconst X41 hx (hb hby at_25) (2 : Int32) rfl 26 rfl ?_
    refine own_icmpN X41 hx (hb hby at_26) (flt (by decide : ¬ ((3 : Int32) < (2 : Int32)))).1 29 rfl ?_
    refine own_aload X41 hx (hb hby at_29) rfl rfl 31 rfl ?_
    refine own_lload_n X41 hx (hb hby at_31) rfl 32 rfl ?_
    have ne45 := own_nl A37.lt Kq39.1 le_q41_0
    refine own_kV X41 hx hZ hown (own_w hw 13 rfl) (own_w hw 14 rfl) (notFace_of_selects (args := #[]) (mvT hZ (own_w hw 16 rfl))) (own_w hw 16 rfl) (own_w hw 15 rfl) (own_w hw 2 rfl) (own_w hw 17 rfl) (by decide) a37 [(.long x1)] [] 0 (rm_add_9 l Z a0 hw [] T41.heap n0 O43 a37 q39_0 q41_0 x1 x0 qk39_0 qk41_0 p41_0 p41_1 p41_2 g_a37 p41_3 p41_5 p41_6 g_q41_0 ne45) (by decide) (by decide) rfl p41_0 (by rw [hml]; rfl) (lenOf pd_2 rfl) (Nat.le_of_eq rfl) (hb hby at_32) (by decide) (by decide) 35 rfl fun v44 T44 L44 X44 hQ44 => ?_
    obtain ⟨rfl, Nq44, Kq44, p44_0, p44_1, p44_2, p44_3, p44_4⟩ := hQ44
    have O46 := O43.keep Kq44 (allS g_q41_0 (allS g_a37 all0))
    have N46 := Fr.app N43 Nq44
    refine own_nV ?_
    refine own_iload X44 hx (hb hby at_35) rfl 37 rfl ?_
    refine own_iconst X44 hx (hb hby at_37) (3 : Int32) rfl 38 rfl ?_
    refine own_icmpN X44 hx (hb hby at_38) (flt (by decide : ¬ ((3 : Int32) < (3 : Int32)))).1 41 rfl ?_
    refine own_aload X44 hx (hb hby at_41) rfl rfl 43 rfl ?_
    refine own_lload X44 hx (hb hby at_43) rfl 45 rfl ?_
    have ne48 := own_nl p39_4.lt (Nat.le_refl _) le_q41_0
    have f49 := (p41_3.keep Kq44 (ninS ne48 (ninS (Ne.symm ne42) nin0)))
    refine own_kV X44 hx hZ hown (own_w hw 13 rfl) (own_w hw 14 rfl) (notFace_of_selects (args := #[]) (mvT hZ (own_w hw 16 rfl))) (own_w hw 16 rfl) (own_w hw 15 rfl) (own_w hw 2 rfl) (own_w hw 17 rfl) (by decide) a37 [(.long x2)] [] 0 (rm_add_19 l Z a0 hw [] T44.heap n0 O46 a37 q39_0 q41_0 x2 x0 x1 qk39_0 qk41_0 p44_0 p44_1 p44_2 g_a37 f49 p44_3 p44_4 g_q41_0 ne45) (by decide) (by decide) rfl p44_0 (by rw [hml]; rfl) (lenOf pd_2 rfl) (Nat.le_of_eq rfl) (hb hby at_45) (by decide) (by decide) 48 rfl fun v47 T47 L47 X47 hQ47 => ?_
    obtain ⟨rfl, Nq47, Kq47, p47_0, p47_1, p47_2, p47_3, p47_4⟩ := hQ47
    have O50 := O46.keep Kq47 (allS g_q41_0 (allS g_a37 all0))
    have N50 := Fr.app N46 Nq47
    refine own_nV ?_
    refine own_iload X47 hx (hb hby at_48) rfl 50 rfl ?_
    refine own_iconst X47 hx (hb hby at_50) (4 : Int32) rfl 51 rfl ?_
    refine own_icmpY X47 hx (hb hby at_51) (tlt (by decide : (3 : Int32) < (4 : Int32))).1 61 (by decide) (by decide) ?_
    refine own_iload X47 hx (hb hby at_61) rfl 63 rfl ?_
    refine own_ldc X47 hx hZ hown (own_w hw 29 rfl) (hb hby at_63) 65 rfl ?_
    refine own_iand X47 hx (hb hby at_65) 66 rfl ?_
    refine own_iload X47 hx (hb hby at_66) rfl 68 rfl ?_
    refine own_irem X47 hx (hb hby at_68) (by decide) 69 rfl ?_
    rcases own_mod3 x5 with q51 | q51 | q51
    · rw [q51]
      refine own_istore X47 hx (hb hby at_69) #[.val (.long x0), .second, .val (.long x1), .second, .val (.long x2), .second, .val (.long x3), .second, .val (.int x4), .val (.int x5), .val (.int (3 : Int32)), .val (.ref a37), .val (.int (0 : Int32)), .unset, .unset] rfl 71 rfl ?_
      refine own_iload X47 hx (hb hby at_71) rfl 73 rfl ?_
      refine own_ifN X47 hx (hb hby at_73) ((if0 _ _).trans (teq (by decide : (0 : Int32) = (0 : Int32))).2) 76 rfl ?_
      refine own_lload_n X47 hx (hb hby at_76) rfl 77 rfl ?_
      refine own_lstore X47 hx (hb hby at_77) #[.val (.long x0), .second, .val (.long x1), .second, .val (.long x2), .second, .val (.long x3), .second, .val (.int x4), .val (.int x5), .val (.int (3 : Int32)), .val (.ref a37), .val (.int (0 : Int32)), .val (.long x0), .second] rfl 79 rfl ?_
      refine own_goto X47 hx (hb hby at_79) 111 (by decide) (by decide) ?_
      refine own_aload X47 hx (hb hby at_111) rfl rfl 113 rfl ?_
      refine own_pureV X47 hx hZ hown (own_w hw 30 rfl) (own_w hw 31 rfl) (notFace_of_selects (args := #[]) (mvT hZ (own_w hw 33 rfl))) (own_w hw 33 rfl) (own_w hw 32 rfl) (own_w hw 2 rfl) (own_w hw 34 rfl) (by decide) a37 [] [] 0 (rm_size_22 l Z a0 hw [] T47.heap n0 O50 a37 p47_2) (by decide) (by decide) rfl rfl rfl p47_0 (by rw [hml]; rfl) (lenOf pd_3 rfl) (Nat.le_of_eq rfl) (hb hby at_113) 116 rfl rfl (by decide) (by decide) fun T53 X53 e53 => ?_
      refine own_iload X53 hx (hb hby at_116) rfl 118 rfl ?_
      refine own_icmpN X53 hx (hb hby at_118) (teq (by decide : (3 : Int32) = (3 : Int32))).2 121 rfl ?_
      refine own_aload X53 hx (hb hby at_121) rfl rfl 123 rfl ?_
      refine own_iload X53 hx (hb hby at_123) rfl 125 rfl ?_
      have f55 := (f49.keep Kq47 (ninS ne48 (ninS (Ne.symm ne42) nin0)))
      refine own_pureV X53 hx hZ hown (own_w hw 35 rfl) (own_w hw 36 rfl) (notFace_of_selects (args := #[]) (mvT hZ (own_w hw 38 rfl))) (own_w hw 38 rfl) (own_w hw 37 rfl) (own_w hw 2 rfl) (own_w hw 39 rfl) (by decide) a37 [(.int (0 : Int32))] [] 0 (rm_get_23 l Z a0 hw [] T47.heap n0 O50 a37 q39_0 q41_0 x0 x1 x2 qk39_0 qk41_0 p47_1 p47_2 f55 p47_3) (by decide) (by decide) rfl rfl e53 p47_0 (by rw [hml]; rfl) (lenOf pd_6 rfl) (Nat.le_of_eq rfl) (hb hby at_125) 128 rfl rfl (by decide) (by decide) fun T56 X56 e56 => ?_
      refine own_lload X56 hx (hb hby at_128) rfl 130 rfl ?_
      refine own_lcmp X56 hx (hb hby at_130) 131 rfl ?_
      refine own_topI (0 : Int32) (own_lcmp0 _) ?_
      refine own_ifN X56 hx (hb hby at_131) ((if0 _ _).trans (teq (by decide : (0 : Int32) = (0 : Int32))).2) 134 rfl ?_
      refine own_iconst X56 hx (hb hby at_134) (1 : Int32) rfl 135 rfl ?_
      refine own_goto X56 hx (hb hby at_135) 139 (by decide) (by decide) ?_
      exact own_retZ X56 hx hk hret (hb hby at_139) rfl ⟨rfl, N50⟩ (by decide) (by decide)
    · rw [q51]
      refine own_istore X47 hx (hb hby at_69) #[.val (.long x0), .second, .val (.long x1), .second, .val (.long x2), .second, .val (.long x3), .second, .val (.int x4), .val (.int x5), .val (.int (3 : Int32)), .val (.ref a37), .val (.int (1 : Int32)), .unset, .unset] rfl 71 rfl ?_
      refine own_iload X47 hx (hb hby at_71) rfl 73 rfl ?_
      refine own_ifY X47 hx (hb hby at_73) ((if0 _ _).trans (feq (by decide : ¬ ((1 : Int32) = (0 : Int32)))).2) 82 (by decide) (by decide) ?_
      refine own_iload X47 hx (hb hby at_82) rfl 84 rfl ?_
      refine own_iconst X47 hx (hb hby at_84) (1 : Int32) rfl 85 rfl ?_
      refine own_icmpN X47 hx (hb hby at_85) (teq (by decide : (1 : Int32) = (1 : Int32))).2 88 rfl ?_
      refine own_lload_n X47 hx (hb hby at_88) rfl 89 rfl ?_
      refine own_lstore X47 hx (hb hby at_89) #[.val (.long x0), .second, .val (.long x1), .second, .val (.long x2), .second, .val (.long x3), .second, .val (.int x4), .val (.int x5), .val (.int (3 : Int32)), .val (.ref a37), .val (.int (1 : Int32)), .val (.long x1), .second] rfl 91 rfl ?_
      refine own_goto X47 hx (hb hby at_91) 111 (by decide) (by decide) ?_
      refine own_aload X47 hx (hb hby at_111) rfl rfl 113 rfl ?_
      refine own_pureV X47 hx hZ hown (own_w hw 30 rfl) (own_w hw 31 rfl) (notFace_of_selects (args := #[]) (mvT hZ (own_w hw 33 rfl))) (own_w hw 33 rfl) (own_w hw 32 rfl) (own_w hw 2 rfl) (own_w hw 34 rfl) (by decide) a37 [] [] 0 (rm_size_22 l Z a0 hw [] T47.heap n0 O50 a37 p47_2) (by decide) (by decide) rfl rfl rfl p47_0 (by rw [hml]; rfl) (lenOf pd_3 rfl) (Nat.le_of_eq rfl) (hb hby at_113) 116 rfl rfl (by decide) (by decide) fun T58 X58 e58 => ?_
      refine own_iload X58 hx (hb hby at_116) rfl 118 rfl ?_
      refine own_icmpN X58 hx (hb hby at_118) (teq (by decide : (3 : Int32) = (3 : Int32))).2 121 rfl ?_
      refine own_aload X58 hx (hb hby at_121) rfl rfl 123 rfl ?_
      refine own_iload X58 hx (hb hby at_123) rfl 125 rfl ?_
      have f60 := (f49.keep Kq47 (ninS ne48 (ninS (Ne.symm ne42) nin0)))
      refine own_pureV X58 hx hZ hown (own_w hw 35 rfl) (own_w hw 36 rfl) (notFace_of_selects (args := #[]) (mvT hZ (own_w hw 38 rfl))) (own_w hw 38 rfl) (own_w hw 37 rfl) (own_w hw 2 rfl) (own_w hw 39 rfl) (by decide) a37 [(.int (1 : Int32))] [] 0 (rm_get_26 l Z a0 hw [] T47.heap n0 O50 a37 q39_0 q41_0 x0 x1 x2 qk39_0 qk41_0 p47_1 p47_2 f60 p47_3) (by decide) (by decide) rfl rfl e58 p47_0 (by rw [hml]; rfl) (lenOf pd_6 rfl) (Nat.le_of_eq rfl) (hb hby at_125) 128 rfl rfl (by decide) (by decide) fun T61 X61 e61 => ?_
      refine own_lload X61 hx (hb hby at_128) rfl 130 rfl ?_
      refine own_lcmp X61 hx (hb hby at_130) 131 rfl ?_
      refine own_topI (0 : Int32) (own_lcmp0 _) ?_
      refine own_ifN X61 hx (hb hby at_131) ((if0 _ _).trans (teq (by decide : (0 : Int32) = (0 : Int32))).2) 134 rfl ?_
      refine own_iconst X61 hx (hb hby at_134) (1 : Int32) rfl 135 rfl ?_
      refine own_goto X61 hx (hb hby at_135) 139 (by decide) (by decide) ?_
      exact own_retZ X61 hx hk hret (hb hby at_139) rfl ⟨rfl, N50⟩ (by decide) (by decide)
    · rw [q51]
      refine own_istore X47 hx (hb hby at_69) #[.val (.long x0), .second, .val (.long x1), .second, .val (.long x2), .second, .val (.long x3), .second, .val (.int x4), .val (.int x5), .val (.int (3 : Int32)), .val (.ref a37), .val (.int (2 : Int32)), .unset, .unset] rfl 71 rfl ?_
      refine own_iload X47 hx (hb hby at_71) rfl 73 rfl ?_
      refine own_ifY X47 hx (hb hby at_73) ((if0 _ _).trans (feq (by decide : ¬ ((2 : Int32) = (0 : Int32)))).2) 82 (by decide) (by decide) ?_
      refine own_iload X47 hx (hb hby at_82) rfl 84 rfl ?_
      refine own_iconst X47 hx (hb hby at_84) (1 : Int32) rfl 85 rfl ?_
      refine own_icmpY X47 hx (hb hby at_85) (feq (by decide : ¬ ((2 : Int32) = (1 : Int32)))).2 94 (by decide) (by decide) ?_
      refine own_iload X47 hx (hb hby at_94) rfl 96 rfl ?_
      refine own_iconst X47 hx (hb hby at_96) (2 : Int32) rfl 97 rfl ?_
      refine own_icmpN X47 hx (hb hby at_97) (teq (by decide : (2 : Int32) = (2 : Int32))).2 100 rfl ?_
      refine own_lload X47 hx (hb hby at_100) rfl 102 rfl ?_
      refine own_lstore X47 hx (hb hby at_102) #[.val (.long x0), .second, .val (.long x1), .second, .val (.long x2), .second, .val (.long x3), .second, .val (.int x4), .val (.int x5), .val (.int (3 : Int32)), .val (.ref a37), .val (.int (2 : Int32)), .val (.long x2), .second] rfl 104 rfl ?_
      refine own_goto X47 hx (hb hby at_104) 111 (by decide) (by decide) ?_
      refine own_aload X47 hx (hb hby at_111) rfl rfl 113 rfl ?_
      refine own_pureV X47 hx hZ hown (own_w hw 30 rfl) (own_w hw 31 rfl) (notFace_of_selects (args := #[]) (mvT hZ (own_w hw 33 rfl))) (own_w hw 33 rfl) (own_w hw 32 rfl) (own_w hw 2 rfl) (own_w hw 34 rfl) (by decide) a37 [] [] 0 (rm_size_22 l Z a0 hw [] T47.heap n0 O50 a37 p47_2) (by decide) (by decide) rfl rfl rfl p47_0 (by rw [hml]; rfl) (lenOf pd_3 rfl) (Nat.le_of_eq rfl) (hb hby at_113) 116 rfl rfl (by decide) (by decide) fun T63 X63 e63 => ?_
      refine own_iload X63 hx (hb hby at_116) rfl 118 rfl ?_
      refine own_icmpN X63 hx (hb hby at_118) (teq (by decide : (3 : Int32) = (3 : Int32))).2 121 rfl ?_
      refine own_aload X63 hx (hb hby at_121) rfl rfl 123 rfl ?_
      refine own_iload X63 hx (hb hby at_123) rfl 125 rfl ?_
      have f65 := (f49.keep Kq47 (ninS ne48 (ninS (Ne.symm ne42) nin0)))
      refine own_pureV X63 hx hZ hown (own_w hw 35 rfl) (own_w hw 36 rfl) (notFace_of_selects (args := #[]) (mvT hZ (own_w hw 38 rfl))) (own_w hw 38 rfl) (own_w hw 37 rfl) (own_w hw 2 rfl) (own_w hw 39 rfl) (by decide) a37 [(.int (2 : Int32))] [] 0 (rm_get_29 l Z a0 hw [] T47.heap n0 O50 a37 q39_0 q41_0 x0 x1 x2 qk39_0 qk41_0 p47_1 p47_2 f65 p47_3) (by decide) (by decide) rfl rfl e63 p47_0 (by rw [hml]; rfl) (lenOf pd_6 rfl) (Nat.le_of_eq rfl) (hb hby at_125) 128 rfl rfl (by decide) (by decide) fun T66 X66 e66 => ?_
      refine own_lload X66 hx (hb hby at_128) rfl 130 rfl ?_
      refine own_lcmp X66 hx (hb hby at_130) 131 rfl ?_
      refine own_topI (0 : Int32) (own_lcmp0 _) ?_
      refine own_ifN X66 hx (hb hby at_131) ((if0 _ _).trans (teq (by decide : (0 : Int32) = (0 : Int32))).2) 134 rfl ?_
      refine own_iconst X66 hx (hb hby at_134) (1 : Int32) rfl 135 rfl ?_
      refine own_goto X66 hx (hb hby at_135) 139 (by decide) (by decide) ?_
      exact own_retZ X66 hx hk hret (hb hby at_139) rfl ⟨rfl, N50⟩ (by decide) (by decide)
  · rw [q1]
    refine own_iconst X0 hx (hb hby at_4) (1 : Int32) rfl 5 rfl ?_
    refine own_iadd X0 hx (hb hby at_5) 6 rfl ?_
    refine own_topI (4 : Int32) (by decide) ?_
    refine own_istore X0 hx (hb hby at_6) #[.val (.long x0), .second, .val (.long x1), .second, .val (.long x2), .second, .val (.long x3), .second, .val (.int x4), .val (.int x5), .val (.int (4 : Int32)), .unset, .unset, .unset, .unset] rfl 8 rfl ?_
    refine own_newO X0 hx hZ hown (own_w hw 0 rfl) (own_w hw 1 rfl) (own_w hw 2 rfl) e0 (hb hby at_8) 11 rfl (by decide) (by decide) fun T67 a67 g67 X67 E67 A67 D67 => ?_
    have g_a67 : n0 ≤ a67 := Nat.le_trans (own_osz O) (Nat.le_of_eq g67)
    have O68 := O.ext E67
    have F67_chunks : Fld Z T67.heap a67 "com/example/gridledger/gridledger/columns/LongColumn" "chunks" "[[J" .null := D67 (Or.inl (own_w hw 12 rfl)) (ty := (.array (.array .long))) (by decide)
    have F67_size : Fld Z T67.heap a67 "com/example/gridledger/gridledger/columns/LongColumn" "size" "I" (.int (0 : Int32)) := D67 (Or.inl (own_w hw 19 rfl)) (ty := .int) (by decide)
    refine own_dup X67 hx (hb hby at_11) rfl 12 rfl ?_
    refine own_kN X67 hx hZ rfl hown (own_w hw 3 rfl) (own_w hw 4 rfl) (own_w hw 2 rfl) (own_w hw 5 rfl) (by decide) a67 [] [(.ref a67)] 1 (rm__init__1 l Z a0 hw [] T67.heap n0 O68 a67 A67 F67_chunks F67_size g_a67) (by decide) (by decide) rfl (by rw [hml]; rfl) (lenOf pd_0 rfl) (Nat.le_of_eq rfl) (hb hby at_12) (by decide) (by decide) 15 rfl fun v69 T69 L69 X69 hQ69 => ?_
    obtain ⟨q69_0, qk69_0, rfl, Nq69, Kq69, le_q69_0, p69_0, p69_1, p69_2, p69_3, p69_4, p69_5⟩ := hQ69
    have g_q69_0 : n0 ≤ q69_0 := Nat.le_trans (own_osz O68) le_q69_0
    have O70 := O68.keep Kq69 (allS g_a67 all0)
    have N70 := Fr.app (Fr.nil n0) Nq69
    refine own_nV ?_
    refine own_astore X69 hx (hb hby at_15) #[.val (.long x0), .second, .val (.long x1), .second, .val (.long x2), .second, .val (.long x3), .second, .val (.int x4), .val (.int x5), .val (.int (4 : Int32)), .val (.ref a67), .unset, .unset, .unset] rfl rfl 17 rfl ?_
    refine own_aload X69 hx (hb hby at_17) rfl rfl 19 rfl ?_
    refine own_lload_n X69 hx (hb hby at_19) rfl 20 rfl ?_
    have ne72 := own_nl A67.lt (Nat.le_refl _) le_q69_0
    refine own_kV X69 hx hZ hown (own_w hw 13 rfl) (own_w hw 14 rfl) (notFace_of_selects (args := #[]) (mvT hZ (own_w hw 16 rfl))) (own_w hw 16 rfl) (own_w hw 15 rfl) (own_w hw 2 rfl) (own_w hw 17 rfl) (by decide) a67 [(.long x0)] [] 0 (rm_add_2 l Z a0 hw [] T69.heap n0 O70 a67 q69_0 x0 qk69_0 p69_0 p69_1 p69_2 g_a67 p69_3 p69_4 p69_5 g_q69_0 ne72) (by decide) (by decide) rfl p69_0 (by rw [hml]; rfl) (lenOf pd_2 rfl) (Nat.le_of_eq rfl) (hb hby at_20) (by decide) (by decide) 23 rfl fun v71 T71 L71 X71 hQ71 => ?_
    obtain ⟨q71_0, qk71_0, rfl, Nq71, Kq71, le_q71_0, p71_0, p71_1, p71_2, p71_3, p71_4, p71_5, p71_6⟩ := hQ71
    have g_q71_0 : n0 ≤ q71_0 := Nat.le_trans (own_osz O70) le_q71_0
    have O73 := O70.keep Kq71 (allS g_q69_0 (allS g_a67 all0))
    have N73 := Fr.app N70 Nq71
    refine own_nV ?_
    refine own_iload X71 hx (hb hby at_23) rfl 25 rfl ?_
    refine own_iconst X71 hx (hb hby at_25) (2 : Int32) rfl 26 rfl ?_
    refine own_icmpN X71 hx (hb hby at_26) (flt (by decide : ¬ ((4 : Int32) < (2 : Int32)))).1 29 rfl ?_
    refine own_aload X71 hx (hb hby at_29) rfl rfl 31 rfl ?_
    refine own_lload_n X71 hx (hb hby at_31) rfl 32 rfl ?_
    have ne75 := own_nl A67.lt Kq69.1 le_q71_0
    refine own_kV X71 hx hZ hown (own_w hw 13 rfl) (own_w hw 14 rfl) (notFace_of_selects (args := #[]) (mvT hZ (own_w hw 16 rfl))) (own_w hw 16 rfl) (own_w hw 15 rfl) (own_w hw 2 rfl) (own_w hw 17 rfl) (by decide) a67 [(.long x1)] [] 0 (rm_add_9 l Z a0 hw [] T71.heap n0 O73 a67 q69_0 q71_0 x1 x0 qk69_0 qk71_0 p71_0 p71_1 p71_2 g_a67 p71_3 p71_5 p71_6 g_q71_0 ne75) (by decide) (by decide) rfl p71_0 (by rw [hml]; rfl) (lenOf pd_2 rfl) (Nat.le_of_eq rfl) (hb hby at_32) (by decide) (by decide) 35 rfl fun v74 T74 L74 X74 hQ74 => ?_
    obtain ⟨rfl, Nq74, Kq74, p74_0, p74_1, p74_2, p74_3, p74_4⟩ := hQ74
    have O76 := O73.keep Kq74 (allS g_q71_0 (allS g_a67 all0))
    have N76 := Fr.app N73 Nq74
    refine own_nV ?_
    refine own_iload X74 hx (hb hby at_35) rfl 37 rfl ?_
    refine own_iconst X74 hx (hb hby at_37) (3 : Int32) rfl 38 rfl ?_
    refine own_icmpN X74 hx (hb hby at_38) (flt (by decide : ¬ ((4 : Int32) < (3 : Int32)))).1 41 rfl ?_
    refine own_aload X74 hx (hb hby at_41) rfl rfl 43 rfl ?_
    refine own_lload X74 hx (hb hby at_43) rfl 45 rfl ?_
    have ne78 := own_nl p69_4.lt (Nat.le_refl _) le_q71_0
    have f79 := (p71_3.keep Kq74 (ninS ne78 (ninS (Ne.symm ne72) nin0)))
    refine own_kV X74 hx hZ hown (own_w hw 13 rfl) (own_w hw 14 rfl) (notFace_of_selects (args := #[]) (mvT hZ (own_w hw 16 rfl))) (own_w hw 16 rfl) (own_w hw 15 rfl) (own_w hw 2 rfl) (own_w hw 17 rfl) (by decide) a67 [(.long x2)] [] 0 (rm_add_19 l Z a0 hw [] T74.heap n0 O76 a67 q69_0 q71_0 x2 x0 x1 qk69_0 qk71_0 p74_0 p74_1 p74_2 g_a67 f79 p74_3 p74_4 g_q71_0 ne75) (by decide) (by decide) rfl p74_0 (by rw [hml]; rfl) (lenOf pd_2 rfl) (Nat.le_of_eq rfl) (hb hby at_45) (by decide) (by decide) 48 rfl fun v77 T77 L77 X77 hQ77 => ?_
    obtain ⟨rfl, Nq77, Kq77, p77_0, p77_1, p77_2, p77_3, p77_4⟩ := hQ77
    have O80 := O76.keep Kq77 (allS g_q71_0 (allS g_a67 all0))
    have N80 := Fr.app N76 Nq77
    refine own_nV ?_
    refine own_iload X77 hx (hb hby at_48) rfl 50 rfl ?_
    refine own_iconst X77 hx (hb hby at_50) (4 : Int32) rfl 51 rfl ?_
    refine own_icmpN X77 hx (hb hby at_51) (flt (by decide : ¬ ((4 : Int32) < (4 : Int32)))).1 54 rfl ?_
    refine own_aload X77 hx (hb hby at_54) rfl rfl 56 rfl ?_
    refine own_lload X77 hx (hb hby at_56) rfl 58 rfl ?_
    have f82 := (f79.keep Kq77 (ninS ne78 (ninS (Ne.symm ne72) nin0)))
    refine own_kV X77 hx hZ hown (own_w hw 13 rfl) (own_w hw 14 rfl) (notFace_of_selects (args := #[]) (mvT hZ (own_w hw 16 rfl))) (own_w hw 16 rfl) (own_w hw 15 rfl) (own_w hw 2 rfl) (own_w hw 17 rfl) (by decide) a67 [(.long x3)] [] 0 (rm_add_32 l Z a0 hw [] T77.heap n0 O80 a67 q69_0 q71_0 x3 x0 x1 x2 qk69_0 qk71_0 p77_0 p77_1 p77_2 g_a67 f82 p77_3 p77_4 g_q71_0 ne75) (by decide) (by decide) rfl p77_0 (by rw [hml]; rfl) (lenOf pd_2 rfl) (Nat.le_of_eq rfl) (hb hby at_58) (by decide) (by decide) 61 rfl fun v81 T81 L81 X81 hQ81 => ?_
    obtain ⟨rfl, Nq81, Kq81, p81_0, p81_1, p81_2, p81_3, p81_4⟩ := hQ81
    have O83 := O80.keep Kq81 (allS g_q71_0 (allS g_a67 all0))
    have N83 := Fr.app N80 Nq81
    refine own_nV ?_
    refine own_iload X81 hx (hb hby at_61) rfl 63 rfl ?_
    refine own_ldc X81 hx hZ hown (own_w hw 29 rfl) (hb hby at_63) 65 rfl ?_
    refine own_iand X81 hx (hb hby at_65) 66 rfl ?_
    refine own_iload X81 hx (hb hby at_66) rfl 68 rfl ?_
    refine own_irem X81 hx (hb hby at_68) (by decide) 69 rfl ?_
    rcases own_mod4 x5 with q84 | q84 | q84 | q84
    · rw [q84]
      refine own_istore X81 hx (hb hby at_69) #[.val (.long x0), .second, .val (.long x1), .second, .val (.long x2), .second, .val (.long x3), .second, .val (.int x4), .val (.int x5), .val (.int (4 : Int32)), .val (.ref a67), .val (.int (0 : Int32)), .unset, .unset] rfl 71 rfl ?_
      refine own_iload X81 hx (hb hby at_71) rfl 73 rfl ?_
      refine own_ifN X81 hx (hb hby at_73) ((if0 _ _).trans (teq (by decide : (0 : Int32) = (0 : Int32))).2) 76 rfl ?_
      refine own_lload_n X81 hx (hb hby at_76) rfl 77 rfl ?_
      refine own_lstore X81 hx (hb hby at_77) #[.val (.long x0), .second, .val (.long x1), .second, .val (.long x2), .second, .val (.long x3), .second, .val (.int x4), .val (.int x5), .val (.int (4 : Int32)), .val (.ref a67), .val (.int (0 : Int32)), .val (.long x0), .second] rfl 79 rfl ?_
      refine own_goto X81 hx (hb hby at_79) 111 (by decide) (by decide) ?_
      refine own_aload X81 hx (hb hby at_111) rfl rfl 113 rfl ?_
      refine own_pureV X81 hx hZ hown (own_w hw 30 rfl) (own_w hw 31 rfl) (notFace_of_selects (args := #[]) (mvT hZ (own_w hw 33 rfl))) (own_w hw 33 rfl) (own_w hw 32 rfl) (own_w hw 2 rfl) (own_w hw 34 rfl) (by decide) a67 [] [] 0 (rm_size_35 l Z a0 hw [] T81.heap n0 O83 a67 p81_2) (by decide) (by decide) rfl rfl rfl p81_0 (by rw [hml]; rfl) (lenOf pd_3 rfl) (Nat.le_of_eq rfl) (hb hby at_113) 116 rfl rfl (by decide) (by decide) fun T86 X86 e86 => ?_
      refine own_iload X86 hx (hb hby at_116) rfl 118 rfl ?_
      refine own_icmpN X86 hx (hb hby at_118) (teq (by decide : (4 : Int32) = (4 : Int32))).2 121 rfl ?_
      refine own_aload X86 hx (hb hby at_121) rfl rfl 123 rfl ?_
      refine own_iload X86 hx (hb hby at_123) rfl 125 rfl ?_
      have f88 := (f82.keep Kq81 (ninS ne78 (ninS (Ne.symm ne72) nin0)))
      refine own_pureV X86 hx hZ hown (own_w hw 35 rfl) (own_w hw 36 rfl) (notFace_of_selects (args := #[]) (mvT hZ (own_w hw 38 rfl))) (own_w hw 38 rfl) (own_w hw 37 rfl) (own_w hw 2 rfl) (own_w hw 39 rfl) (by decide) a67 [(.int (0 : Int32))] [] 0 (rm_get_36 l Z a0 hw [] T81.heap n0 O83 a67 q69_0 q71_0 x0 x1 x2 x3 qk69_0 qk71_0 p81_1 p81_2 f88 p81_3) (by decide) (by decide) rfl rfl e86 p81_0 (by rw [hml]; rfl) (lenOf pd_6 rfl) (Nat.le_of_eq rfl) (hb hby at_125) 128 rfl rfl (by decide) (by decide) fun T89 X89 e89 => ?_
      refine own_lload X89 hx (hb hby at_128) rfl 130 rfl ?_
      refine own_lcmp X89 hx (hb hby at_130) 131 rfl ?_
      refine own_topI (0 : Int32) (own_lcmp0 _) ?_
      refine own_ifN X89 hx (hb hby at_131) ((if0 _ _).trans (teq (by decide : (0 : Int32) = (0 : Int32))).2) 134 rfl ?_
      refine own_iconst X89 hx (hb hby at_134) (1 : Int32) rfl 135 rfl ?_
      refine own_goto X89 hx (hb hby at_135) 139 (by decide) (by decide) ?_
      exact own_retZ X89 hx hk hret (hb hby at_139) rfl ⟨rfl, N83⟩ (by decide) (by decide)
    · rw [q84]
      refine own_istore X81 hx (hb hby at_69) #[.val (.long x0), .second, .val (.long x1), .second, .val (.long x2), .second, .val (.long x3), .second, .val (.int x4), .val (.int x5), .val (.int (4 : Int32)), .val (.ref a67), .val (.int (1 : Int32)), .unset, .unset] rfl 71 rfl ?_
      refine own_iload X81 hx (hb hby at_71) rfl 73 rfl ?_
      refine own_ifY X81 hx (hb hby at_73) ((if0 _ _).trans (feq (by decide : ¬ ((1 : Int32) = (0 : Int32)))).2) 82 (by decide) (by decide) ?_
      refine own_iload X81 hx (hb hby at_82) rfl 84 rfl ?_
      refine own_iconst X81 hx (hb hby at_84) (1 : Int32) rfl 85 rfl ?_
      refine own_icmpN X81 hx (hb hby at_85) (teq (by decide : (1 : Int32) = (1 : Int32))).2 88 rfl ?_
      refine own_lload_n X81 hx (hb hby at_88) rfl 89 rfl ?_
      refine own_lstore X81 hx (hb hby at_89) #[.val (.long x0), .second, .val (.long x1), .second, .val (.long x2), .second, .val (.long x3), .second, .val (.int x4), .val (.int x5), .val (.int (4 : Int32)), .val (.ref a67), .val (.int (1 : Int32)), .val (.long x1), .second] rfl 91 rfl ?_
      refine own_goto X81 hx (hb hby at_91) 111 (by decide) (by decide) ?_
      refine own_aload X81 hx (hb hby at_111) rfl rfl 113 rfl ?_
      refine own_pureV X81 hx hZ hown (own_w hw 30 rfl) (own_w hw 31 rfl) (notFace_of_selects (args := #[]) (mvT hZ (own_w hw 33 rfl))) (own_w hw 33 rfl) (own_w hw 32 rfl) (own_w hw 2 rfl) (own_w hw 34 rfl) (by decide) a67 [] [] 0 (rm_size_35 l Z a0 hw [] T81.heap n0 O83 a67 p81_2) (by decide) (by decide) rfl rfl rfl p81_0 (by rw [hml]; rfl) (lenOf pd_3 rfl) (Nat.le_of_eq rfl) (hb hby at_113) 116 rfl rfl (by decide) (by decide) fun T91 X91 e91 => ?_
      refine own_iload X91 hx (hb hby at_116) rfl 118 rfl ?_
      refine own_icmpN X91 hx (hb hby at_118) (teq (by decide : (4 : Int32) = (4 : Int32))).2 121 rfl ?_
      refine own_aload X91 hx (hb hby at_121) rfl rfl 123 rfl ?_
      refine own_iload X91 hx (hb hby at_123) rfl 125 rfl ?_
      have f93 := (f82.keep Kq81 (ninS ne78 (ninS (Ne.symm ne72) nin0)))
      refine own_pureV X91 hx hZ hown (own_w hw 35 rfl) (own_w hw 36 rfl) (notFace_of_selects (args := #[]) (mvT hZ (own_w hw 38 rfl))) (own_w hw 38 rfl) (own_w hw 37 rfl) (own_w hw 2 rfl) (own_w hw 39 rfl) (by decide) a67 [(.int (1 : Int32))] [] 0 (rm_get_39 l Z a0 hw [] T81.heap n0 O83 a67 q69_0 q71_0 x0 x1 x2 x3 qk69_0 qk71_0 p81_1 p81_2 f93 p81_3) (by decide) (by decide) rfl rfl e91 p81_0 (by rw [hml]; rfl) (lenOf pd_6 rfl) (Nat.le_of_eq rfl) (hb hby at_125) 128 rfl rfl (by decide) (by decide) fun T94 X94 e94 => ?_
      refine own_lload X94 hx (hb hby at_128) rfl 130 rfl ?_
      refine own_lcmp X94 hx (hb hby at_130) 131 rfl ?_
      refine own_topI (0 : Int32) (own_lcmp0 _) ?_
      refine own_ifN X94 hx (hb hby at_131) ((if0 _ _).trans (teq (by decide : (0 : Int32) = (0 : Int32))).2) 134 rfl ?_
      refine own_iconst X94 hx (hb hby at_134) (1 : Int32) rfl 135 rfl ?_
      refine own_goto X94 hx (hb hby at_135) 139 (by decide) (by decide) ?_
      exact own_retZ X94 hx hk hret (hb hby at_139) rfl ⟨rfl, N83⟩ (by decide) (by decide)
    · rw [q84]
      refine own_istore X81 hx (hb hby at_69) #[.val (.long x0), .second, .val (.long x1), .second, .val (.long x2), .second, .val (.long x3), .second, .val (.int x4), .val (.int x5), .val (.int (4 : Int32)), .val (.ref a67), .val (.int (2 : Int32)), .unset, .unset] rfl 71 rfl ?_
      refine own_iload X81 hx (hb hby at_71) rfl 73 rfl ?_
      refine own_ifY X81 hx (hb hby at_73) ((if0 _ _).trans (feq (by decide : ¬ ((2 : Int32) = (0 : Int32)))).2) 82 (by decide) (by decide) ?_
      refine own_iload X81 hx (hb hby at_82) rfl 84 rfl ?_
      refine own_iconst X81 hx (hb hby at_84) (1 : Int32) rfl 85 rfl ?_
      refine own_icmpY X81 hx (hb hby at_85) (feq (by decide : ¬ ((2 : Int32) = (1 : Int32)))).2 94 (by decide) (by decide) ?_
      refine own_iload X81 hx (hb hby at_94) rfl 96 rfl ?_
      refine own_iconst X81 hx (hb hby at_96) (2 : Int32) rfl 97 rfl ?_
      refine own_icmpN X81 hx (hb hby at_97) (teq (by decide : (2 : Int32) = (2 : Int32))).2 100 rfl ?_
      refine own_lload X81 hx (hb hby at_100) rfl 102 rfl ?_
      refine own_lstore X81 hx (hb hby at_102) #[.val (.long x0), .second, .val (.long x1), .second, .val (.long x2), .second, .val (.long x3), .second, .val (.int x4), .val (.int x5), .val (.int (4 : Int32)), .val (.ref a67), .val (.int (2 : Int32)), .val (.long x2), .second] rfl 104 rfl ?_
      refine own_goto X81 hx (hb hby at_104) 111 (by decide) (by decide) ?_
      refine own_aload X81 hx (hb hby at_111) rfl rfl 113 rfl ?_
      refine own_pureV X81 hx hZ hown (own_w hw 30 rfl) (own_w hw 31 rfl) (notFace_of_selects (args := #[]) (mvT hZ (own_w hw 33 rfl))) (own_w hw 33 rfl) (own_w hw 32 rfl) (own_w hw 2 rfl) (own_w hw 34 rfl) (by decide) a67 [] [] 0 (rm_size_35 l Z a0 hw [] T81.heap n0 O83 a67 p81_2) (by decide) (by decide) rfl rfl rfl p81_0 (by rw [hml]; rfl) (lenOf pd_3 rfl) (Nat.le_of_eq rfl) (hb hby at_113) 116 rfl rfl (by decide) (by decide) fun T96 X96 e96 => ?_
      refine own_iload X96 hx (hb hby at_116) rfl 118 rfl ?_
      refine own_icmpN X96 hx (hb hby at_118) (teq (by decide : (4 : Int32) = (4 : Int32))).2 121 rfl ?_
      refine own_aload X96 hx (hb hby at_121) rfl rfl 123 rfl ?_
      refine own_iload X96 hx (hb hby at_123) rfl 125 rfl ?_
      have f98 := (f82.keep Kq81 (ninS ne78 (ninS (Ne.symm ne72) nin0)))
      refine own_pureV X96 hx hZ hown (own_w hw 35 rfl) (own_w hw 36 rfl) (notFace_of_selects (args := #[]) (mvT hZ (own_w hw 38 rfl))) (own_w hw 38 rfl) (own_w hw 37 rfl) (own_w hw 2 rfl) (own_w hw 39 rfl) (by decide) a67 [(.int (2 : Int32))] [] 0 (rm_get_42 l Z a0 hw [] T81.heap n0 O83 a67 q69_0 q71_0 x0 x1 x2 x3 qk69_0 qk71_0 p81_1 p81_2 f98 p81_3) (by decide) (by decide) rfl rfl e96 p81_0 (by rw [hml]; rfl) (lenOf pd_6 rfl) (Nat.le_of_eq rfl) (hb hby at_125) 128 rfl rfl (by decide) (by decide) fun T99 X99 e99 => ?_
      refine own_lload X99 hx (hb hby at_128) rfl 130 rfl ?_
      refine own_lcmp X99 hx (hb hby at_130) 131 rfl ?_
      refine own_topI (0 : Int32) (own_lcmp0 _) ?_
      refine own_ifN X99 hx (hb hby at_131) ((if0 _ _).trans (teq (by decide : (0 : Int32) = (0 : Int32))).2) 134 rfl ?_
      refine own_iconst X99 hx (hb hby at_134) (1 : Int32) rfl 135 rfl ?_
      refine own_goto X99 hx (hb hby at_135) 139 (by decide) (by decide) ?_
      exact own_retZ X99 hx hk hret (hb hby at_139) rfl ⟨rfl, N83⟩ (by decide) (by decide)
    · rw [q84]
      refine own_istore X81 hx (hb hby at_69) #[.val (.long x0), .second, .val (.long x1), .second, .val (.long x2), .second, .val (.long x3), .second, .val (.int x4), .val (.int x5), .val (.int (4 : Int32)), .val (.ref a67), .val (.int (3 : Int32)), .unset, .unset] rfl 71 rfl ?_
      refine own_iload X81 hx (hb hby at_71) rfl 73 rfl ?_
      refine own_ifY X81 hx (hb hby at_73) ((if0 _ _).trans (feq (by decide : ¬ ((3 : Int32) = (0 : Int32)))).2) 82 (by decide) (by decide) ?_
      refine own_iload X81 hx (hb hby at_82) rfl 84 rfl ?_
      refine own_iconst X81 hx (hb hby at_84) (1 : Int32) rfl 85 rfl ?_
      refine own_icmpY X81 hx (hb hby at_85) (feq (by decide : ¬ ((3 : Int32) = (1 : Int32)))).2 94 (by decide) (by decide) ?_
      refine own_iload X81 hx (hb hby at_94) rfl 96 rfl ?_
      refine own_iconst X81 hx (hb hby at_96) (2 : Int32) rfl 97 rfl ?_
      refine own_icmpY X81 hx (hb hby at_97) (feq (by decide : ¬ ((3 : Int32) = (2 : Int32)))).2 107 (by decide) (by decide) ?_
      refine own_lload X81 hx (hb hby at_107) rfl 109 rfl ?_
      refine own_lstore X81 hx (hb hby at_109) #[.val (.long x0), .second, .val (.long x1), .second, .val (.long x2), .second, .val (.long x3), .second, .val (.int x4), .val (.int x5), .val (.int (4 : Int32)), .val (.ref a67), .val (.int (3 : Int32)), .val (.long x3), .second] rfl 111 rfl ?_
      refine own_aload X81 hx (hb hby at_111) rfl rfl 113 rfl ?_
      refine own_pureV X81 hx hZ hown (own_w hw 30 rfl) (own_w hw 31 rfl) (notFace_of_selects (args := #[]) (mvT hZ (own_w hw 33 rfl))) (own_w hw 33 rfl) (own_w hw 32 rfl) (own_w hw 2 rfl) (own_w hw 34 rfl) (by decide) a67 [] [] 0 (rm_size_35 l Z a0 hw [] T81.heap n0 O83 a67 p81_2) (by decide) (by decide) rfl rfl rfl p81_0 (by rw [hml]; rfl) (lenOf pd_3 rfl) (Nat.le_of_eq rfl) (hb hby at_113) 116 rfl rfl (by decide) (by decide) fun T101 X101 e101 => ?_
      refine own_iload X101 hx (hb hby at_116) rfl 118 rfl ?_
      refine own_icmpN X101 hx (hb hby at_118) (teq (by decide : (4 : Int32) = (4 : Int32))).2 121 rfl ?_
      refine own_aload X101 hx (hb hby at_121) rfl rfl 123 rfl ?_
      refine own_iload X101 hx (hb hby at_123) rfl 125 rfl ?_
      have f103 := (f82.keep Kq81 (ninS ne78 (ninS (Ne.symm ne72) nin0)))
      refine own_pureV X101 hx hZ hown (own_w hw 35 rfl) (own_w hw 36 rfl) (notFace_of_selects (args := #[]) (mvT hZ (own_w hw 38 rfl))) (own_w hw 38 rfl) (own_w hw 37 rfl) (own_w hw 2 rfl) (own_w hw 39 rfl) (by decide) a67 [(.int (3 : Int32))] [] 0 (rm_get_45 l Z a0 hw [] T81.heap n0 O83 a67 q69_0 q71_0 x0 x1 x2 x3 qk69_0 qk71_0 p81_1 p81_2 f103 p81_3) (by decide) (by decide) rfl rfl e101 p81_0 (by rw [hml]; rfl) (lenOf pd_6 rfl) (Nat.le_of_eq rfl) (hb hby at_125) 128 rfl rfl (by decide) (by decide) fun T104 X104 e104 => ?_
      refine own_lload X104 hx (hb hby at_128) rfl 130 rfl ?_
      refine own_lcmp X104 hx (hb hby at_130) 131 rfl ?_
      refine own_topI (0 : Int32) (own_lcmp0 _) ?_
      refine own_ifN X104 hx (hb hby at_131) ((if0 _ _).trans (teq (by decide : (0 : Int32) = (0 : Int32))).2) 134 rfl ?_
      refine own_iconst X104 hx (hb hby at_134) (1 : Int32) rfl 135 rfl ?_
      refine own_goto X104 hx (hb hby at_135) 139 (by decide) (by decide) ?_
      exact own_retZ X104 hx hk hret (hb hby at_139) rfl ⟨rfl, N83⟩ (by decide) (by decide)
set_option maxRecDepth 65536 in
set_option maxHeartbeats 40000000 in
theorem comes_1 {Post : Tables → Env → Array Value → State → Outcome → State → Prop} (hpost : ∀ tb e args s v u, (limb_1_1.after args s (.returned v) u = true ∧ limb_1_2.after args s (.returned v) u = true ∧ True) → FrameEnd s (.returned v) u (Jvm.fieldLocs frame_1_writes args s ++ Jvm.arrayLocs frame_1_arrays args s ++ Jvm.staticLocs frame_1_statics s) 16 8320 → Post tb e args s (.returned v) u) :
    ArmFor flags0 classFile x code maxLocals ret World_1 tables_1 room_1 Calls_1 rest_1 Pre_1 Post := by
  intro l hfl _ _ p e ha hc hk s m args below hf hA hF happ hP
  obtain ⟨hcalls, hrest, hpre⟩ := hP
  obtain ⟨-, -, -, hnamed, -, -, -, hat⟩ := (Spec.applies_iff hf).mp happ
  obtain ⟨hg, hn⟩ := and_e (Cond.before_iff.mp (show (Jvm.Cond.and given_1 narrow_1).before args s = true from hpre))
  obtain ⟨hn101a, hn101b⟩ := and_e hg
  obtain ⟨hn102a, hn102b⟩ := and_e hn101b
  obtain ⟨hn103a, hn103b⟩ := and_e hn102b
  obtain ⟨hn104a, hn104b⟩ := and_e hn103b
  obtain ⟨hn105a, hn105b⟩ := and_e hn104b
  obtain ⟨hn106a, hn106b⟩ := and_e hn105b
  obtain ⟨w0, w1, w2, w3, w4, w5, rfl⟩ : ∃ w0 w1 w2 w3 w4 w5 : Value, args = #[w0, w1, w2, w3, w4, w5] := by
    have hs : args.size = 6 := by simpa [Cond.value, given_1] using hn101a
    obtain ⟨L⟩ := args
    match L, hs with
    | [w0, w1, w2, w3, w4, w5], _ => exact ⟨w0, w1, w2, w3, w4, w5, rfl⟩
  have hw := fun d (hd : d ∈ tables_1) => atoms_spec (ws := Jvm.Cond.code x code maxLocals ret :: tables_1) hat d (List.mem_cons_of_mem _ hd)
  have hfit : Fit s := fun {y c} hc i hi => by
    obtain ⟨ha, rfl⟩ := Array.getElem?_eq_some_iff.mp hc
    have q := List.all_eq_true.mp ((Array.all_eq_true_iff_forall_mem.mp hF) _ (Array.getElem_mem ha)) i (List.mem_range.mpr hi)
    simpa [Array.getElem?_eq_getElem hi] using q
  obtain ⟨i0, ei0⟩ := isL_v hn102a
  obtain rfl : w0 = (.long i0) := Option.some.inj ei0
  obtain ⟨i1, ei1⟩ := isL_v hn103a
  obtain rfl : w1 = (.long i1) := Option.some.inj ei1
  obtain ⟨i2, ei2⟩ := isL_v hn104a
  obtain rfl : w2 = (.long i2) := Option.some.inj ei2
  obtain ⟨i3, ei3⟩ := isL_v hn105a
  obtain rfl : w3 = (.long i3) := Option.some.inj ei3
  obtain ⟨i4, ei4⟩ := is_v hn106a
  obtain rfl : w4 = (.int i4) := Option.some.inj ei4
  obtain ⟨i5, ei5⟩ := is_v hn106b
  obtain rfl : w5 = (.int i5) := Option.some.inj ei5
  obtain ⟨n, o, h1, h2, h3, _, L, rfl, ⟨rfl, N⟩, hq⟩ := rm0 l s _ hw tables_1 i0 i1 i2 i3 i4 i5 s.heap s.heap.size (Old.start s) p e ha hc hk s m _ below hf ((Spec.applies_iff_loose hf).mp happ).1 ⟨rfl, State.Warmed39.refl s, rfl⟩ trivial
  refine ⟨n, _, h1, h2, h3, hpost _ _ _ _ _ _ ⟨Cond.after_iff.mpr rfl, Cond.after_iff.mpr (eq_i res_at (Term.int_eval (1)) rfl), trivial⟩ ⟨hq.1, hq.2.1, (hq.2.2.sift fun y hy => Or.inr (N y hy)).mono (by decide) (by decide)⟩⟩
theorem main_1_1 : Claimed_1_1 := comes_1 fun _ _ _ _ _ _ h hF => ⟨h.1, hF⟩
theorem main_1_2 : Claimed_1_2 := comes_1 fun _ _ _ _ _ _ h hF => ⟨h.2.1, hF⟩
end Jvm.Pilot.@@N@@
namespace Jvm.Pilot.@@N@@
open Jvm Jvm.ClassFile Sem Op Lib Jvm.Free Jvm.Stand Jvm.Pilot.@@N@@.Jvm.D
/-! MADE BY PROGRAM (witnessworld.py) out of the Statement's table words and the real class files: 14 classes; the members and pool entries that the words name. The judged class is class 1, her method 1. -/
namespace start1
open Jvm.ClassFile
def u (s : String) : CpInfo := .utf8 (stringToUtf16 s)
/-- a pool by its gaps: so many unusable entries, then the entry; so many at the end -/
def gap : Nat → List CpInfo → List CpInfo
  | 0, r => r
  | n + 1, r => .unusable :: gap n r
def poolList (es : List (Nat × CpInfo)) (last : Nat) : List CpInfo := es.foldr (fun e r => gap e.1 (e.2 :: r)) (gap last [])
def pool (es : List (Nat × CpInfo)) (last : Nat) : Array CpInfo := ⟨poolList es last⟩
def fileOf (pool : Array CpInfo) (this : Nat) (attrs : Array Attribute := #[]) (ms : Array MethodInfo := #[]) (fl : Nat := 33) (sup : Nat := 0) (ifs : Array Nat := #[]) (fds : Array FieldInfo := #[]) : ClassFile where
  minorVersion := 0
  majorVersion := 65
  constantPool := pool
  accessFlags := fl
  thisClass := this
  superClass := sup
  interfaces := ifs
  fields := fds
  methods := ms
  attributes := attrs
def plain (name : String) (sup : Option ClassId) : Class where
  name := name
  kind := .ordinary
  loader := none
  accessFlags := 33
  super := sup
  interfaces := #[]
  cf := none
  fields := #[]
  methods := #[]
  instanceTypes := #[]
  staticTypes := #[]
  resolved := #[]
  callSites := []
  init := .initialized
  statics := none
  mirror := none

def pool0 : Array CpInfo := pool [(5, u "<init>"), (0, u "()V"), (1, .class_ 10), (1, u "java/lang/Object")] 113

def k0c0 : Code := { maxStack := 0, maxLocals := 1, code := object_method_1_code, exceptionTable := #[], attributes := #[] }
def k0m0 : Method := { name := "<init>", desc := "()V", sig := { parameters := [], returnType := none }, accessFlags := 1, code := some k0c0 }
/-- java/lang/Object -/
def k0 : Class := { plain "java/lang/Object" none with
  accessFlags := 33
  interfaces := #[]
  cf := some (fileOf pool0 8 #[] #[{ accessFlags := 1, nameIndex := 5, descriptorIndex := 6, attributes := #[] }] 33 0 #[] #[])
  fields := #[]
  methods := #[k0m0]
  instanceTypes := #[]
  staticTypes := #[]
  resolved := Array.replicate 124 none
  statics := none }

def pool1 : Array CpInfo := pool [(2, .class_ 4), (0, .nameAndType 5 6), (0, u "java/lang/Object"), (0, u "<init>"), (0, u "()V"), (0, .class_ 8), (0, u "com/example/gridledger/gridledger/columns/LongColumn"), (0, .methodref 7 3), (0, .methodref 7 11), (0, .nameAndType 12 13), (0, u "add"), (0, u "(J)V"), (0, .integer 2147483647), (0, .methodref 7 16), (0, .nameAndType 17 18), (0, u "size"), (0, u "()I"), (0, .methodref 7 20), (0, .nameAndType 21 22), (0, u "get"), (0, u "(I)J"), (0, .class_ 24), (0, u "com/example/gridledger/gridledger/columns/LongColumnGetPinLaw"), (2, u "law"), (0, u "(JJJJII)Z")] 3

def k1m0 : Method := { name := "<init>", desc := "()V", sig := { parameters := [], returnType := none }, accessFlags := 2, code := none }
def k1c1 : Code := { maxStack := 4, maxLocals := 15, code := code, exceptionTable := #[], attributes := #[] }
def k1m1 : Method := { name := "law", desc := "(JJJJII)Z", sig := { parameters := [.long, .long, .long, .long, .int, .int], returnType := some .boolean }, accessFlags := 9, code := some k1c1 }
/-- com/example/gridledger/gridledger/columns/LongColumnGetPinLaw -/
def k1 : Class := { plain "com/example/gridledger/gridledger/columns/LongColumnGetPinLaw" (some 0) with
  accessFlags := 49
  interfaces := #[]
  cf := some (fileOf pool1 23 #[] #[{ accessFlags := 2, nameIndex := 5, descriptorIndex := 6, attributes := #[] }, { accessFlags := 9, nameIndex := 27, descriptorIndex := 28, attributes := #[] }] 49 2 #[] #[])
  fields := #[]
  methods := #[k1m0, k1m1]
  instanceTypes := #[]
  staticTypes := #[]
  resolved := Array.replicate 32 none
  statics := none }

def pool2 : Array CpInfo := pool [(1, .methodref 2 3), (0, .class_ 4), (0, .nameAndType 5 6), (0, u "java/lang/Object"), (0, u "<init>"), (0, u "()V"), (0, .class_ 8), (0, u "[J"), (0, .fieldref 10 11), (0, .class_ 12), (0, .nameAndType 13 14), (0, u "com/example/gridledger/gridledger/columns/LongColumn"), (0, u "chunks"), (0, u "[[J"), (0, .fieldref 10 16), (0, .nameAndType 17 18), (0, u "size"), (0, u "I"), (0, .methodref 20 21), (0, .class_ 22), (0, .nameAndType 23 24), (0, u "com/example/gridledger/gridledger/columns/Chunks"), (0, u "chunk"), (0, u "(I)I"), (7, .methodref 20 33), (0, .nameAndType 34 24), (0, u "place"), (0, .methodref 36 37), (0, .class_ 38), (0, .nameAndType 39 40), (0, u "java/util/Objects"), (0, u "checkIndex"), (0, u "(II)I"), (2, u "add"), (0, u "(J)V"), (1, u "get"), (0, u "(I)J"), (0, u "()I")] 2

def k2c0 : Code := { maxStack := 2, maxLocals := 1, code := prog_5_method_1_code, exceptionTable := #[], attributes := #[] }
def k2m0 : Method := { name := "<init>", desc := "()V", sig := { parameters := [], returnType := none }, accessFlags := 1, code := some k2c0 }
def k2c1 : Code := { maxStack := 4, maxLocals := 4, code := prog_5_method_2_code, exceptionTable := #[], attributes := #[] }
def k2m1 : Method := { name := "add", desc := "(J)V", sig := { parameters := [.long], returnType := none }, accessFlags := 1, code := some k2c1 }
def k2c2 : Code := { maxStack := 2, maxLocals := 2, code := prog_5_method_3_code, exceptionTable := #[], attributes := #[] }
def k2m2 : Method := { name := "get", desc := "(I)J", sig := { parameters := [.int], returnType := some .long }, accessFlags := 1, code := some k2c2 }
def k2c3 : Code := { maxStack := 1, maxLocals := 1, code := prog_5_method_4_code, exceptionTable := #[], attributes := #[] }
def k2m3 : Method := { name := "size", desc := "()I", sig := { parameters := [], returnType := some .int }, accessFlags := 1, code := some k2c3 }
/-- com/example/gridledger/gridledger/columns/LongColumn -/
def k2 : Class := { plain "com/example/gridledger/gridledger/columns/LongColumn" (some 0) with
  accessFlags := 49
  interfaces := #[]
  cf := some (fileOf pool2 10 #[] #[{ accessFlags := 1, nameIndex := 5, descriptorIndex := 6, attributes := #[] }, { accessFlags := 1, nameIndex := 43, descriptorIndex := 44, attributes := #[] }, { accessFlags := 1, nameIndex := 46, descriptorIndex := 47, attributes := #[] }, { accessFlags := 1, nameIndex := 17, descriptorIndex := 48, attributes := #[] }] 49 2 #[] #[{ accessFlags := 2, nameIndex := 13, descriptorIndex := 14, attributes := #[] }, { accessFlags := 2, nameIndex := 17, descriptorIndex := 18, attributes := #[] }])
  fields := #[{ name := "chunks", type := (.array (.array .long)), accessFlags := 2, slot := 0, constantValue := 0 }, { name := "size", type := .int, accessFlags := 2, slot := 1, constantValue := 0 }]
  methods := #[k2m0, k2m1, k2m2, k2m3]
  instanceTypes := #[(.array (.array .long)), .int]
  staticTypes := #[]
  resolved := Array.replicate 51 none
  statics := none }

def pool3 : Array CpInfo := pool [(1, .class_ 2), (0, u "com/example/gridledger/gridledger/columns/Chunks"), (1, .class_ 6), (1, u "java/lang/Object"), (0, u "<init>"), (0, u "()V"), (0, u "SIZE_BITS"), (0, u "I"), (2, u "SIZE"), (3, u "chunk"), (0, u "(I)I"), (0, u "place")] 2

def k3m0 : Method := { name := "<init>", desc := "()V", sig := { parameters := [], returnType := none }, accessFlags := 2, code := none }
def k3c1 : Code := { maxStack := 2, maxLocals := 1, code := prog_2_method_2_code, exceptionTable := #[], attributes := #[] }
def k3m1 : Method := { name := "chunk", desc := "(I)I", sig := { parameters := [.int], returnType := some .int }, accessFlags := 8, code := some k3c1 }
def k3c2 : Code := { maxStack := 2, maxLocals := 1, code := prog_2_method_3_code, exceptionTable := #[], attributes := #[] }
def k3m2 : Method := { name := "place", desc := "(I)I", sig := { parameters := [.int], returnType := some .int }, accessFlags := 8, code := some k3c2 }
/-- com/example/gridledger/gridledger/columns/Chunks -/
def k3 : Class := { plain "com/example/gridledger/gridledger/columns/Chunks" (some 0) with
  accessFlags := 48
  interfaces := #[]
  cf := some (fileOf pool3 1 #[] #[{ accessFlags := 2, nameIndex := 7, descriptorIndex := 8, attributes := #[] }, { accessFlags := 8, nameIndex := 17, descriptorIndex := 18, attributes := #[] }, { accessFlags := 8, nameIndex := 19, descriptorIndex := 18, attributes := #[] }] 48 4 #[] #[{ accessFlags := 26, nameIndex := 9, descriptorIndex := 10, attributes := #[] }, { accessFlags := 24, nameIndex := 13, descriptorIndex := 10, attributes := #[] }])
  fields := #[{ name := "SIZE_BITS", type := .int, accessFlags := 26, slot := 0, constantValue := 0 }, { name := "SIZE", type := .int, accessFlags := 24, slot := 1, constantValue := 0 }]
  methods := #[k3m0, k3m1, k3m2]
  instanceTypes := #[]
  staticTypes := #[.int, .int]
  resolved := Array.replicate 22 none
  statics := none }

def pool4 : Array CpInfo := pool [(2, .class_ 4), (1, u "java/lang/Object"), (0, u "<init>"), (0, u "()V"), (35, .class_ 44), (1, u "java/util/Objects"), (60, .methodref 106 107), (0, .class_ 108), (0, .nameAndType 109 110), (0, u "jdk/internal/util/Preconditions"), (0, u "checkIndex"), (0, u "(IILjava/util/function/BiFunction;)I"), (60, u "(II)I")] 12

def k4m0 : Method := { name := "<init>", desc := "()V", sig := { parameters := [], returnType := none }, accessFlags := 2, code := none }
def k4c1 : Code := { maxStack := 3, maxLocals := 2, code := jdk_31_method_17_code, exceptionTable := #[], attributes := #[] }
def k4m1 : Method := { name := "checkIndex", desc := "(II)I", sig := { parameters := [.int, .int], returnType := some .int }, accessFlags := 9, code := some k4c1 }
/-- java/util/Objects -/
def k4 : Class := { plain "java/util/Objects" (some 0) with
  accessFlags := 49
  interfaces := #[]
  cf := some (fileOf pool4 42 #[] #[{ accessFlags := 2, nameIndex := 5, descriptorIndex := 6, attributes := #[] }, { accessFlags := 9, nameIndex := 109, descriptorIndex := 171, attributes := #[] }] 49 2 #[] #[])
  fields := #[]
  methods := #[k4m0, k4m1]
  instanceTypes := #[]
  staticTypes := #[]
  resolved := Array.replicate 184 none
  statics := none }

def pool5 : Array CpInfo := pool [(2, .class_ 4), (1, u "java/lang/Object"), (0, u "<init>"), (0, u "()V"), (17, .class_ 26), (1, u "jdk/internal/util/Preconditions"), (6, u "checkIndex"), (21, .class_ 56), (0, u "jdk/internal/util/Preconditions$4"), (57, .class_ 115), (0, u "jdk/internal/util/Preconditions$1"), (7, u "SIOOBE_FORMATTER"), (0, u "Ljava/util/function/BiFunction;"), (0, .class_ 126), (0, u "jdk/internal/util/Preconditions$2"), (3, u "AIOOBE_FORMATTER"), (0, .class_ 132), (0, u "jdk/internal/util/Preconditions$3"), (3, u "IOOBE_FORMATTER"), (41, u "(IILjava/util/function/BiFunction;)I")] 15

def k5m0 : Method := { name := "<init>", desc := "()V", sig := { parameters := [], returnType := none }, accessFlags := 1, code := none }
def k5c1 : Code := { maxStack := 3, maxLocals := 3, code := jdk_41_method_11_code, exceptionTable := #[], attributes := #[] }
def k5m1 : Method := { name := "checkIndex", desc := "(IILjava/util/function/BiFunction;)I", sig := { parameters := [.int, .int, (.object "java/util/function/BiFunction")], returnType := some .int }, accessFlags := 9, code := some k5c1 }
/-- jdk/internal/util/Preconditions -/
def k5 : Class := { plain "jdk/internal/util/Preconditions" (some 0) with
  accessFlags := 33
  interfaces := #[]
  cf := some (fileOf pool5 24 #[.nestMembers #[55, 131, 125, 114]] #[{ accessFlags := 1, nameIndex := 5, descriptorIndex := 6, attributes := #[] }, { accessFlags := 9, nameIndex := 33, descriptorIndex := 178, attributes := #[] }] 33 2 #[] #[{ accessFlags := 25, nameIndex := 123, descriptorIndex := 124, attributes := #[] }, { accessFlags := 25, nameIndex := 130, descriptorIndex := 124, attributes := #[] }, { accessFlags := 25, nameIndex := 136, descriptorIndex := 124, attributes := #[] }])
  fields := #[{ name := "SIOOBE_FORMATTER", type := (.object "java/util/function/BiFunction"), accessFlags := 25, slot := 0, constantValue := 0 }, { name := "AIOOBE_FORMATTER", type := (.object "java/util/function/BiFunction"), accessFlags := 25, slot := 1, constantValue := 0 }, { name := "IOOBE_FORMATTER", type := (.object "java/util/function/BiFunction"), accessFlags := 25, slot := 2, constantValue := 0 }]
  methods := #[k5m0, k5m1]
  instanceTypes := #[]
  staticTypes := #[(.object "java/util/function/BiFunction"), (.object "java/util/function/BiFunction"), (.object "java/util/function/BiFunction")]
  resolved := Array.replicate 194 none
  statics := none }

def pool6 : Array CpInfo := pool [(1, u "java/lang/Cloneable"), (0, .class_ 1), (0, u "java/lang/Object"), (0, .class_ 3)] 3

/-- java/lang/Cloneable -/
def k6 : Class := { plain "java/lang/Cloneable" (some 0) with
  accessFlags := 1537
  interfaces := #[]
  cf := some (fileOf pool6 2 #[] #[] 1537 4 #[] #[])
  fields := #[]
  methods := #[]
  instanceTypes := #[]
  staticTypes := #[]
  resolved := Array.replicate 8 none
  statics := none }

def pool7 : Array CpInfo := pool [(1, u "java/io/Serializable"), (0, .class_ 1), (0, u "java/lang/Object"), (0, .class_ 3)] 3

/-- java/io/Serializable -/
def k7 : Class := { plain "java/io/Serializable" (some 0) with
  accessFlags := 1537
  interfaces := #[]
  cf := some (fileOf pool7 2 #[] #[] 1537 4 #[] #[])
  fields := #[]
  methods := #[]
  instanceTypes := #[]
  staticTypes := #[]
  resolved := Array.replicate 8 none
  statics := none }

/-- the primitive byte -/
def k8 : Class := { plain "byte" none with kind := .primitive 'B', accessFlags := 0x411 }
/-- [B -/
def k9 : Class := { plain "[B" (some 0) with kind := .array 8 .byte, interfaces := #[6, 7], accessFlags := 1041 }

/-- the primitive int -/
def k10 : Class := { plain "int" none with kind := .primitive 'I', accessFlags := 0x411 }
/-- [I -/
def k11 : Class := { plain "[I" (some 0) with kind := .array 10 .int, interfaces := #[6, 7], accessFlags := 1041 }

/-- the primitive long -/
def k12 : Class := { plain "long" none with kind := .primitive 'J', accessFlags := 0x411 }
/-- [J -/
def k13 : Class := { plain "[J" (some 0) with kind := .array 12 .long, interfaces := #[6, 7], accessFlags := 1041 }

/-- an array of arrays -/
def k14 : Class := { plain "[[J" (some 0) with kind := .array 13 (.array .long), interfaces := #[6, 7], accessFlags := 1041 }
def heap : Heap := #[]
def classes : Array Class := #[k0, k1, k2, k3, k4, k5, k6, k7, k8, k9, k10, k11, k12, k13, k14]
def interned : List (Array UInt16 × Addr) := []
def slotsUsed : Nat := 0
def theMethod : MethodId := ⟨1, 1⟩
def args0 : Array Value := #[.long 1, .long 2, .long 3, .long 4, .int 5, .int 6]
def aboutOver (below : List Frame) : State where
  vm := { classes := classes, interned := interned.toArray }
  heap := heap
  slotsUsed := slotsUsed
  threads := #[{ frames := .invoking theMethod args0 :: below }]
def below0 : List Frame := [.native { method := ⟨0, 0⟩, args := #[] }]
def about1 : State := aboutOver below0
def p0 : Program := .bare "" "" ""
def e0 : Env := launch0.env 0 0 0
theorem w_frames : about1.frames = Frame.invoking theMethod args0 :: below0 := rfl
set_option maxRecDepth 65536 in
theorem w_args : argsFit about1.vm theMethod args0 = true := by decide +kernel
set_option maxRecDepth 65536 in
theorem w_heap : heapFits about1 = true := by decide +kernel
set_option maxRecDepth 65536 in
theorem w_runnable : about1.curStatus? = some .runnable := by decide +kernel
set_option maxRecDepth 65536 in
theorem w_alone : about1.alone = true := by decide +kernel
set_option maxRecDepth 65536 in
theorem w_named : about1.methodNamed? x = some theMethod := by decide +kernel
set_option maxRecDepth 65536 in
theorem w_hears : about1.hears theMethod below0 = true := by decide +kernel
set_option maxRecDepth 65536 in
theorem w_ripe : about1.ripe theMethod args0 below0 = true := by decide +kernel
theorem w_running : about1.status = .running := rfl
set_option maxRecDepth 65536 in
theorem w_room : about1.hasRoom e0.platform room_1 = true :=
  launch0.hasRoom_least _ room_1 (by decide +kernel) (by decide +kernel) (by decide +kernel) (by decide +kernel) (by decide +kernel) (by decide +kernel)
theorem allAtoms_all (ts : List Jvm.Cond) (a : Array Jvm.Value) (st : Jvm.State) : (allAtoms ts).before a st = ts.all (fun c => c.before a st) := by
  induction ts with
  | nil => rfl
  | cons c t ih =>
    show (Jvm.Cond.and c (allAtoms t)).before a st = _
    rw [Jvm.Cond.before_and, ih, List.all_cons]
def words1 : List Jvm.Cond := Jvm.Cond.code x code maxLocals ret :: tables_1
/-- a 'code' word, met by the world's own term for the bytes: nothing is compared byte by byte -/
theorem code_word {y : MethodName} {bytes : ByteArray} {mx : Nat} {rt : Option FieldType} {a : Array Value} {s : State} {m : MethodId} {meth : Method} {c : Code} (h1 : s.methodNamed? y = some m) (h2 : s.vm.method? m = some meth) (h3 : meth.code = some c) (h4 : c.code = bytes)
    (h5 : (c.maxLocals == mx && c.exceptionTable.isEmpty && decide (c.maxStack ≤ mostOperands) && decide (meth.sig.returnType = rt) && !meth.locks && decide (parseMethodDescriptor y.desc = some meth.sig)) = true) : (Jvm.Cond.code y bytes mx rt).before a s = true := by
  simp only [Bool.and_eq_true, beq_iff_eq, Bool.not_eq_true', decide_eq_true_eq] at h5
  obtain ⟨⟨⟨⟨⟨g1, g2⟩, g3⟩, g4⟩, g5⟩, g6⟩ := h5
  simp [Cond.before, Cond.holds, Cond.value, h1, h2, h3, h4, g1, g2, g3, g4, g5, g6]
def isCode : Jvm.Cond → Bool
  | .code _ _ _ _ => true
  | _ => false
theorem all_split {L : List Jvm.Cond} {P : Jvm.Cond → Bool} (h1 : L.all (fun c => isCode c || P c) = true) (h2 : ∀ c ∈ L.filter isCode, P c = true) : L.all P = true := by
  refine List.all_eq_true.mpr fun c hc => ?_
  have h := List.all_eq_true.mp h1 c hc
  rcases Bool.eq_false_or_eq_true (isCode c) with hi | hi
  · exact h2 c (List.mem_filter.mpr ⟨hc, hi⟩)
  · simpa [hi] using h
set_option maxRecDepth 65536 in
theorem w_c0 : (Jvm.Cond.code x code maxLocals ret).before args0 about1 = true := code_word (m := ⟨1, 1⟩) (meth := k1m1) (c := k1c1) (by decide +kernel) rfl rfl rfl (by decide +kernel)
set_option maxRecDepth 65536 in
theorem w_c1 : (Jvm.Cond.code ({ cls := "com/example/gridledger/gridledger/columns/LongColumn", name := "<init>", desc := "()V" } : Jvm.MethodName) prog_5_method_1_code (1 : Nat) (Option.none : Option Jvm.ClassFile.FieldType)).before args0 about1 = true := code_word (m := ⟨2, 0⟩) (meth := k2m0) (c := k2c0) (by decide +kernel) rfl rfl rfl (by decide +kernel)
set_option maxRecDepth 65536 in
theorem w_c2 : (Jvm.Cond.code ({ cls := "java/lang/Object", name := "<init>", desc := "()V" } : Jvm.MethodName) object_method_1_code (1 : Nat) (Option.none : Option Jvm.ClassFile.FieldType)).before args0 about1 = true := code_word (m := ⟨0, 0⟩) (meth := k0m0) (c := k0c0) (by decide +kernel) rfl rfl rfl (by decide +kernel)
set_option maxRecDepth 65536 in
theorem w_c3 : (Jvm.Cond.code ({ cls := "com/example/gridledger/gridledger/columns/LongColumn", name := "add", desc := "(J)V" } : Jvm.MethodName) prog_5_method_2_code (4 : Nat) (Option.none : Option Jvm.ClassFile.FieldType)).before args0 about1 = true := code_word (m := ⟨2, 1⟩) (meth := k2m1) (c := k2c1) (by decide +kernel) rfl rfl rfl (by decide +kernel)
set_option maxRecDepth 65536 in
theorem w_c4 : (Jvm.Cond.code ({ cls := "com/example/gridledger/gridledger/columns/Chunks", name := "chunk", desc := "(I)I" } : Jvm.MethodName) prog_2_method_2_code (1 : Nat) (Option.some Jvm.ClassFile.FieldType.int)).before args0 about1 = true := code_word (m := ⟨3, 1⟩) (meth := k3m1) (c := k3c1) (by decide +kernel) rfl rfl rfl (by decide +kernel)
set_option maxRecDepth 65536 in
theorem w_c5 : (Jvm.Cond.code ({ cls := "com/example/gridledger/gridledger/columns/Chunks", name := "place", desc := "(I)I" } : Jvm.MethodName) prog_2_method_3_code (1 : Nat) (Option.some Jvm.ClassFile.FieldType.int)).before args0 about1 = true := code_word (m := ⟨3, 2⟩) (meth := k3m2) (c := k3c2) (by decide +kernel) rfl rfl rfl (by decide +kernel)
set_option maxRecDepth 65536 in
theorem w_c6 : (Jvm.Cond.code ({ cls := "com/example/gridledger/gridledger/columns/LongColumn", name := "size", desc := "()I" } : Jvm.MethodName) prog_5_method_4_code (1 : Nat) (Option.some Jvm.ClassFile.FieldType.int)).before args0 about1 = true := code_word (m := ⟨2, 3⟩) (meth := k2m3) (c := k2c3) (by decide +kernel) rfl rfl rfl (by decide +kernel)
set_option maxRecDepth 65536 in
theorem w_c7 : (Jvm.Cond.code ({ cls := "com/example/gridledger/gridledger/columns/LongColumn", name := "get", desc := "(I)J" } : Jvm.MethodName) prog_5_method_3_code (2 : Nat) (Option.some Jvm.ClassFile.FieldType.long)).before args0 about1 = true := code_word (m := ⟨2, 2⟩) (meth := k2m2) (c := k2c2) (by decide +kernel) rfl rfl rfl (by decide +kernel)
set_option maxRecDepth 65536 in
theorem w_c8 : (Jvm.Cond.code ({ cls := "java/util/Objects", name := "checkIndex", desc := "(II)I" } : Jvm.MethodName) jdk_31_method_17_code (2 : Nat) (Option.some Jvm.ClassFile.FieldType.int)).before args0 about1 = true := code_word (m := ⟨4, 1⟩) (meth := k4m1) (c := k4c1) (by decide +kernel) rfl rfl rfl (by decide +kernel)
set_option maxRecDepth 65536 in
theorem w_c9 : (Jvm.Cond.code ({ cls := "jdk/internal/util/Preconditions", name := "checkIndex", desc := "(IILjava/util/function/BiFunction;)I" } : Jvm.MethodName) jdk_41_method_11_code (3 : Nat) (Option.some Jvm.ClassFile.FieldType.int)).before args0 about1 = true := code_word (m := ⟨5, 1⟩) (meth := k5m1) (c := k5c1) (by decide +kernel) rfl rfl rfl (by decide +kernel)
def codes1 : List Jvm.Cond := [Jvm.Cond.code x code maxLocals ret, Jvm.Cond.code ({ cls := "com/example/gridledger/gridledger/columns/LongColumn", name := "<init>", desc := "()V" } : Jvm.MethodName) prog_5_method_1_code (1 : Nat) (Option.none : Option Jvm.ClassFile.FieldType), Jvm.Cond.code ({ cls := "java/lang/Object", name := "<init>", desc := "()V" } : Jvm.MethodName) object_method_1_code (1 : Nat) (Option.none : Option Jvm.ClassFile.FieldType), Jvm.Cond.code ({ cls := "com/example/gridledger/gridledger/columns/LongColumn", name := "add", desc := "(J)V" } : Jvm.MethodName) prog_5_method_2_code (4 : Nat) (Option.none : Option Jvm.ClassFile.FieldType), Jvm.Cond.code ({ cls := "com/example/gridledger/gridledger/columns/Chunks", name := "chunk", desc := "(I)I" } : Jvm.MethodName) prog_2_method_2_code (1 : Nat) (Option.some Jvm.ClassFile.FieldType.int), Jvm.Cond.code ({ cls := "com/example/gridledger/gridledger/columns/Chunks", name := "place", desc := "(I)I" } : Jvm.MethodName) prog_2_method_3_code (1 : Nat) (Option.some Jvm.ClassFile.FieldType.int), Jvm.Cond.code ({ cls := "com/example/gridledger/gridledger/columns/LongColumn", name := "size", desc := "()I" } : Jvm.MethodName) prog_5_method_4_code (1 : Nat) (Option.some Jvm.ClassFile.FieldType.int), Jvm.Cond.code ({ cls := "com/example/gridledger/gridledger/columns/LongColumn", name := "get", desc := "(I)J" } : Jvm.MethodName) prog_5_method_3_code (2 : Nat) (Option.some Jvm.ClassFile.FieldType.long), Jvm.Cond.code ({ cls := "java/util/Objects", name := "checkIndex", desc := "(II)I" } : Jvm.MethodName) jdk_31_method_17_code (2 : Nat) (Option.some Jvm.ClassFile.FieldType.int), Jvm.Cond.code ({ cls := "jdk/internal/util/Preconditions", name := "checkIndex", desc := "(IILjava/util/function/BiFunction;)I" } : Jvm.MethodName) jdk_41_method_11_code (3 : Nat) (Option.some Jvm.ClassFile.FieldType.int)]
set_option maxRecDepth 65536 in
theorem codes_eq : words1.filter isCode = codes1 := rfl
theorem w_codes : ∀ c ∈ words1.filter isCode, c.before args0 about1 = true := by
  rw [codes_eq]
  intro c hc
  simp only [codes1, List.mem_cons, List.not_mem_nil, or_false] at hc
  rcases hc with rfl | rfl | rfl | rfl | rfl | rfl | rfl | rfl | rfl | rfl
  · exact w_c0
  · exact w_c1
  · exact w_c2
  · exact w_c3
  · exact w_c4
  · exact w_c5
  · exact w_c6
  · exact w_c7
  · exact w_c8
  · exact w_c9
set_option maxRecDepth 65536 in
theorem w_t1 : (words1.take 24).all (fun c => isCode c || c.before args0 about1) = true := by decide +kernel
set_option maxRecDepth 65536 in
theorem w_t2 : ((words1.drop 24).take 24).all (fun c => isCode c || c.before args0 about1) = true := by decide +kernel
set_option maxRecDepth 65536 in
theorem w_t3 : ((words1.drop 24).drop 24).all (fun c => isCode c || c.before args0 about1) = true := by decide +kernel
theorem w_tables : (allAtoms (Jvm.Cond.code x code maxLocals ret :: tables_1)).before args0 about1 = true := by
  rw [allAtoms_all]
  show words1.all (fun c => c.before args0 about1) = true
  refine all_split ?_ w_codes
  rw [← List.take_append_drop 24 words1, List.all_append, w_t1, ← List.take_append_drop 24 (words1.drop 24), List.all_append, w_t2, w_t3]
  rfl
set_option maxRecDepth 65536 in
theorem w_case : (Jvm.Cond.and given_1 narrow_1).before args0 about1 = true := by decide +kernel
theorem w_applies : (headSpec (Jvm.Cond.code x code maxLocals ret :: tables_1) room_1).applies x e0.platform about1 = true :=
  (Spec.applies_iff w_frames).mpr ⟨w_running, w_runnable, w_alone, w_named, w_hears, w_ripe, w_room, w_tables⟩
theorem atStart : AtStart classFile x code maxLocals ret World_1 tables_1 room_1 Calls_1 rest_1 Pre_1 launch0 p0 e0 about1 theMethod args0 below0 :=
  ⟨lists_1, trivial, launch0.admits_env _ _ _, launch0.least_env, fairChoices_fair.cas, fairChoices_fair.clock, w_frames, w_args, w_heap, w_applies, trivial, trivial, w_case⟩
end start1
theorem witness_1 : WitnessClaimed_1 := ⟨start1.p0, start1.e0, start1.about1, start1.theMethod, start1.args0, start1.below0, start1.atStart⟩
end Jvm.Pilot.@@N@@
