import JvmDerived
import JvmDerived.Pilot.@@N@@Statement
import JvmDerived.Pilot.@@N@@Code
set_option linter.unusedVariables false
set_option linter.unusedSimpArgs false
set_option maxRecDepth 65536
set_option maxHeartbeats 40000000
@@BLOCK:NumsL.lean.txt@@
namespace Jvm.Pilot.@@N@@
open Jvm Jvm.ClassFile Sem Op Lib Jvm.Free Jvm.Stand Jvm.LawKit Jvm.RoadKit Bundle Jvm.Pilot.@@N@@.Jvm.D
section OwnHead
variable {p : Program} {l : Launch} {e : Env} {R : Room} {s : State} {m : MethodId} {args : Array Value} {below : List Frame} {meth : Method} {c : Code} {T : State} {locs : List Loc} {cells slots : Nat} {Z : State} {a0 : Array Value} {h : Heap}
/-- from here the run comes to a state of which F holds -/
def own_Go (tb : Tables) (e : Env) (below : List Frame) (F : State → Prop) (U : State) : Prop := ∃ t, Steps tb e below U t ∧ F t
theorem own_by {tb : Tables} {F : State → Prop} {U U' : State} (q : ∀ t, Steps tb e below U' t → Steps tb e below U t) (k : own_Go tb e below F U') : own_Go tb e below F U := by
  obtain ⟨t, a, b⟩ := k
  exact ⟨t, q t a, b⟩
theorem own_ent {tb : Tables} {F : State → Prop} {T : State} {f g : JFrame} (q : f = g) (k : own_Go tb e below F (T.setTop g)) : own_Go tb e below F (T.setTop f) := by
  rw [q]
  exact k
abbrev own_rm (f c s l : Nat) : Room := { frames := f, cells := c, slots := s, locals := l }
theorem own_nR {tb : Tables} {F : State → Prop} {T : State} {m : MethodId} {pc : Nat} {Ls : Array Slot} {v : Value} {rest : List Value} (k : own_Go tb e below F (T.setTop (mkF m pc Ls (v :: rest)))) : own_Go tb e below F (T.setTop (mkF m pc Ls ((some v).toList ++ rest))) := k
theorem own_nV {tb : Tables} {F : State → Prop} {T : State} {m : MethodId} {pc : Nat} {Ls : Array Slot} {rest : List Value} (k : own_Go tb e below F (T.setTop (mkF m pc Ls rest))) : own_Go tb e below F (T.setTop (mkF m pc Ls ((none : Option Value).toList ++ rest))) := k
theorem own_byR {tb : Tables} {F : State → Prop} {T U : State} {m : MethodId} {pc : Nat} {Ls : Array Slot} {v : Value} {rest : List Value} (q : ∀ t, Steps tb e below (T.setTop (mkF m pc Ls ((some v).toList ++ rest))) t → Steps tb e below U t) (pc' : Nat) (hp : pc = pc') (k : own_Go tb e below F (T.setTop (mkF m pc' Ls (v :: rest)))) : own_Go tb e below F U := by
  subst hp
  exact own_by q k
theorem own_byV {tb : Tables} {F : State → Prop} {T U : State} {m : MethodId} {pc : Nat} {Ls : Array Slot} {rest : List Value} (q : ∀ t, Steps tb e below (T.setTop (mkF m pc Ls ((none : Option Value).toList ++ rest))) t → Steps tb e below U t) (pc' : Nat) (hp : pc = pc') (k : own_Go tb e below F (T.setTop (mkF m pc' Ls rest))) : own_Go tb e below F U := by
  subst hp
  exact own_by q k
/-- the method has returned, and what its contract says holds -/
def own_Fin (s : State) (below : List Frame) (Q : Option Value → Heap → List Loc → Prop) (C N : Nat) (t : State) : Prop := ∃ o, t.status = .running ∧ Ended t below o ∧ ∃ v L, o = .returned v ∧ Q v t.heap L ∧ FrameEnd s o t L C N
theorem own_fin (X : Stand p l e R s m args below meth c T locs cells slots) {Q : Option Value → Heap → List Loc → Prop} {C N : Nat} {v : Option Value} (hk : meth.locks = false) (hv : meth.sig.returnType = none → v = none) {U : State}
    (hst : ∀ fs, (∀ (f : JFrame) (acts : List Action), f.method = m → f.locked = none → f.entered = [] → (doReturn e (T.setTop f) acts v).1 = T.setFrames fs) → Steps p.tables e below U (T.setFrames fs)) (hQ : Q v T.heap locs) (hC : cells ≤ C) (hN : slots ≤ N) :
    own_Go p.tables e below (own_Fin s below Q C N) U := by
  obtain ⟨fs, hr, hrun, hended, hW, hsame⟩ := X.leave (v := v) hv hk
  exact ⟨_, hst fs hr, _, hrun, hended, v, locs, rfl, hQ, ⟨_, rfl⟩, hW, hsame.mono hC hN⟩
theorem own_ret (X : Stand p l e R s m args below meth c T locs cells slots) (hx : p.tables.exec = Jvm.exec) {Q : Option Value → Heap → List Loc → Prop} {C N : Nat} (hk : meth.locks = false) {pc : Nat} {Ls : Array Slot} {w : Value} {t : FieldType} {i : Instr} {rest : List Value} (hret : meth.sig.returnType = some t) (hn : narrow t w = w)
    (hi : (i = .ireturn ∧ (t = .int ∨ t = .boolean ∨ t = .byte ∨ t = .char ∨ t = .short) ∧ ∃ z, w = .int z) ∨ (i = .lreturn ∧ t = .long ∧ ∃ z, w = .long z) ∨ (i = .dreturn ∧ t = .double ∧ ∃ z, w = .double z) ∨ (i = .freturn ∧ t = .float ∧ ∃ z, w = .float z) ∨ (i = .areturn ∧ t.isReference = true ∧ w.isRef = true))
    (hd : decode c.code pc = .ok (i, 1)) (hQ : Q (some w) T.heap locs) (hC : cells ≤ C) (hN : slots ≤ N) : own_Go p.tables e below (own_Fin s below Q C N) (T.setTop (mkF m pc Ls (w :: rest))) :=
  own_fin X hk (fun q => by rw [hret] at q; cases q) (fun fs hr => retOut X hx hret hn hi hd hr) hQ hC hN
theorem own_retI (X : Stand p l e R s m args below meth c T locs cells slots) (hx : p.tables.exec = Jvm.exec) {Q : Option Value → Heap → List Loc → Prop} {C N : Nat} (hk : meth.locks = false) {pc : Nat} {Ls : Array Slot} {z : Int32} {rest : List Value} (hret : meth.sig.returnType = some .int)
    (hd : decode c.code pc = .ok (.ireturn, 1)) (hQ : Q (some (.int z)) T.heap locs) (hC : cells ≤ C) (hN : slots ≤ N) : own_Go p.tables e below (own_Fin s below Q C N) (T.setTop (mkF m pc Ls (.int z :: rest))) :=
  own_ret X hx hk hret rfl (Or.inl ⟨rfl, Or.inl rfl, z, rfl⟩) hd hQ hC hN
theorem own_retZ (X : Stand p l e R s m args below meth c T locs cells slots) (hx : p.tables.exec = Jvm.exec) {Q : Option Value → Heap → List Loc → Prop} {C N : Nat} (hk : meth.locks = false) {pc : Nat} {Ls : Array Slot} {z z' : Int32} {rest : List Value} (hret : meth.sig.returnType = some .boolean)
    (hd : decode c.code pc = .ok (.ireturn, 1)) (hz : nar .boolean z = z') (hQ : Q (some (.int z')) T.heap locs) (hC : cells ≤ C) (hN : slots ≤ N) : own_Go p.tables e below (own_Fin s below Q C N) (T.setTop (mkF m pc Ls (.int z :: rest))) := by
  subst hz
  exact own_fin X hk (fun q => by rw [hret] at q; cases q) (fun fs hr => retN X hx hret (Or.inl rfl) hd hr) hQ hC hN
theorem own_retA (X : Stand p l e R s m args below meth c T locs cells slots) (hx : p.tables.exec = Jvm.exec) {Q : Option Value → Heap → List Loc → Prop} {C N : Nat} (hk : meth.locks = false) {pc : Nat} {Ls : Array Slot} {w : Value} {t : FieldType} {rest : List Value} (hret : meth.sig.returnType = some t) (ht : t.isReference = true) (hw : w.isRef = true)
    (hd : decode c.code pc = .ok (.areturn, 1)) (hn : narrow t w = w) (hQ : Q (some w) T.heap locs) (hC : cells ≤ C) (hN : slots ≤ N) : own_Go p.tables e below (own_Fin s below Q C N) (T.setTop (mkF m pc Ls (w :: rest))) :=
  own_ret X hx hk hret hn (Or.inr (Or.inr (Or.inr (Or.inr ⟨rfl, ht, hw⟩)))) hd hQ hC hN
theorem own_retJ (X : Stand p l e R s m args below meth c T locs cells slots) (hx : p.tables.exec = Jvm.exec) {Q : Option Value → Heap → List Loc → Prop} {C N : Nat} (hk : meth.locks = false) {pc : Nat} {Ls : Array Slot} {z : Int64} {rest : List Value} (hret : meth.sig.returnType = some .long)
    (hd : decode c.code pc = .ok (.lreturn, 1)) (hQ : Q (some (.long z)) T.heap locs) (hC : cells ≤ C) (hN : slots ≤ N) : own_Go p.tables e below (own_Fin s below Q C N) (T.setTop (mkF m pc Ls (.long z :: rest))) :=
  own_ret X hx hk hret rfl (Or.inr (Or.inl ⟨rfl, rfl, z, rfl⟩)) hd hQ hC hN
theorem own_retV (X : Stand p l e R s m args below meth c T locs cells slots) (hx : p.tables.exec = Jvm.exec) {Q : Option Value → Heap → List Loc → Prop} {C N : Nat} (hk : meth.locks = false) {pc : Nat} {Ls : Array Slot} (hret : meth.sig.returnType = none)
    (hd : decode c.code pc = .ok (.return_, 1)) (hQ : Q none T.heap locs) (hC : cells ≤ C) (hN : slots ≤ N) : own_Go p.tables e below (own_Fin s below Q C N) (T.setTop (mkF m pc Ls [])) :=
  own_fin X hk (fun _ => rfl) (fun fs hr => X.returnOut hx hret hd hr) hQ hC hN
theorem own_lsw0 {tb : Tables} [Ours tb] {target : State} {g : JFrame} (q : At T m c below) (hx : tb.exec = Jvm.exec) (hg : g.method = m) {dflt : Int} {pairs : Array (Int × Int)} {len : Nat} {o : Int} {pc0 pc' : Nat} (hpc : g.pc = pc0) (hd : decode c.code g.pc = .ok (.lookupswitch dflt pairs, len)) {i : Int32} {rest : List Value} (hs : g.stack = .int i :: rest)
    (hoff : lookupswitch.offset pairs.toList dflt i.toInt = o) (hso : (pairs.toList.zip pairs.toList.tail).all (fun q => decide (q.1.1 < q.2.1)) = true) (ho : 0 ≤ (pc0 : Int) + o) (hp : ((pc0 : Int) + o).toNat = pc') (hr : Steps tb e below (T.setTop { g with pc := pc', stack := rest }) target) : Steps tb e below (T.setTop g) target := by
  subst hg hpc hp
  jvm_step q [q.top, hx, hd, hs, hoff, ho, lookupswitch.wp_chain]
  refine ⟨fun a b a1 b1 hm => ?_, hr⟩
  simpa using List.all_eq_true.mp hso _ hm
theorem own_iload_n (X : Stand p l e R s m args below meth c T locs cells slots) (hx : p.tables.exec = Jvm.exec) {F : State → Prop} {pc : Nat} {Ls : Array Slot} {St : List Value} {i : Fin 4} {z : Int32} (hd : decode c.code pc = .ok (.iload_n i, 1)) (hl : Ls[i.val]? = some (.val (.int z))) (pc' : Nat) (hp : pc + 1 = pc') (k : own_Go p.tables e below F (T.setTop (mkF m pc' Ls (.int z :: St)))) : own_Go p.tables e below F (T.setTop (mkF m pc Ls (St))) := by
  subst hp
  exact own_by (fun _ q => XS.iloadN X.here hx rfl hd hl q) k
theorem own_iload (X : Stand p l e R s m args below meth c T locs cells slots) (hx : p.tables.exec = Jvm.exec) {F : State → Prop} {pc : Nat} {Ls : Array Slot} {St : List Value} {i : Nat} {z : Int32} (hd : decode c.code pc = .ok (.iload i, 2)) (hl : Ls[i]? = some (.val (.int z))) (pc' : Nat) (hp : pc + 2 = pc') (k : own_Go p.tables e below F (T.setTop (mkF m pc' Ls (.int z :: St)))) : own_Go p.tables e below F (T.setTop (mkF m pc Ls (St))) := by
  subst hp
  exact own_by (fun _ q => XS.iload X.here hx rfl hd hl q) k
theorem own_istore_n (X : Stand p l e R s m args below meth c T locs cells slots) (hx : p.tables.exec = Jvm.exec) {F : State → Prop} {pc : Nat} {Ls : Array Slot} {St : List Value} {i : Fin 4} {z : Int32} (hd : decode c.code pc = .ok (.istore_n i, 1)) (l' : Array Slot) (hl : storeLocals Ls i.val (.int z) = some l') (pc' : Nat) (hp : pc + 1 = pc') (k : own_Go p.tables e below F (T.setTop (mkF m pc' l' (St)))) : own_Go p.tables e below F (T.setTop (mkF m pc Ls (.int z :: St))) := by
  subst hp
  exact own_by (fun _ q => XS.istoreN X.here hx rfl hd rfl hl q) k
theorem own_istore (X : Stand p l e R s m args below meth c T locs cells slots) (hx : p.tables.exec = Jvm.exec) {F : State → Prop} {pc : Nat} {Ls : Array Slot} {St : List Value} {i : Nat} {z : Int32} (hd : decode c.code pc = .ok (.istore i, 2)) (l' : Array Slot) (hl : storeLocals Ls i (.int z) = some l') (pc' : Nat) (hp : pc + 2 = pc') (k : own_Go p.tables e below F (T.setTop (mkF m pc' l' (St)))) : own_Go p.tables e below F (T.setTop (mkF m pc Ls (.int z :: St))) := by
  subst hp
  exact own_by (fun _ q => XS.istore X.here hx rfl hd rfl hl q) k
theorem own_lload_n (X : Stand p l e R s m args below meth c T locs cells slots) (hx : p.tables.exec = Jvm.exec) {F : State → Prop} {pc : Nat} {Ls : Array Slot} {St : List Value} {i : Fin 4} {z : Int64} (hd : decode c.code pc = .ok (.lload_n i, 1)) (hl : Ls[i.val]? = some (.val (.long z))) (pc' : Nat) (hp : pc + 1 = pc') (k : own_Go p.tables e below F (T.setTop (mkF m pc' Ls (.long z :: St)))) : own_Go p.tables e below F (T.setTop (mkF m pc Ls (St))) := by
  subst hp
  exact own_by (fun _ q => XS.lloadN X.here hx rfl hd hl q) k
theorem own_lload (X : Stand p l e R s m args below meth c T locs cells slots) (hx : p.tables.exec = Jvm.exec) {F : State → Prop} {pc : Nat} {Ls : Array Slot} {St : List Value} {i : Nat} {z : Int64} (hd : decode c.code pc = .ok (.lload i, 2)) (hl : Ls[i]? = some (.val (.long z))) (pc' : Nat) (hp : pc + 2 = pc') (k : own_Go p.tables e below F (T.setTop (mkF m pc' Ls (.long z :: St)))) : own_Go p.tables e below F (T.setTop (mkF m pc Ls (St))) := by
  subst hp
  exact own_by (fun _ q => XS.lload X.here hx rfl hd hl q) k
theorem own_lstore_n (X : Stand p l e R s m args below meth c T locs cells slots) (hx : p.tables.exec = Jvm.exec) {F : State → Prop} {pc : Nat} {Ls : Array Slot} {St : List Value} {i : Fin 4} {z : Int64} (hd : decode c.code pc = .ok (.lstore_n i, 1)) (l' : Array Slot) (hl : storeLocals Ls i.val (.long z) = some l') (pc' : Nat) (hp : pc + 1 = pc') (k : own_Go p.tables e below F (T.setTop (mkF m pc' l' (St)))) : own_Go p.tables e below F (T.setTop (mkF m pc Ls (.long z :: St))) := by
  subst hp
  exact own_by (fun _ q => XS.lstoreN X.here hx rfl hd rfl hl q) k
theorem own_lstore (X : Stand p l e R s m args below meth c T locs cells slots) (hx : p.tables.exec = Jvm.exec) {F : State → Prop} {pc : Nat} {Ls : Array Slot} {St : List Value} {i : Nat} {z : Int64} (hd : decode c.code pc = .ok (.lstore i, 2)) (l' : Array Slot) (hl : storeLocals Ls i (.long z) = some l') (pc' : Nat) (hp : pc + 2 = pc') (k : own_Go p.tables e below F (T.setTop (mkF m pc' l' (St)))) : own_Go p.tables e below F (T.setTop (mkF m pc Ls (.long z :: St))) := by
  subst hp
  exact own_by (fun _ q => XS.lstore X.here hx rfl hd rfl hl q) k
theorem own_aload_n (X : Stand p l e R s m args below meth c T locs cells slots) (hx : p.tables.exec = Jvm.exec) {F : State → Prop} {pc : Nat} {Ls : Array Slot} {St : List Value} {i : Fin 4} {v : Value} (hd : decode c.code pc = .ok (.aload_n i, 1)) (hl : Ls[i.val]? = some (.val v)) (hv : v.isRef = true) (pc' : Nat) (hp : pc + 1 = pc') (k : own_Go p.tables e below F (T.setTop (mkF m pc' Ls (v :: St)))) : own_Go p.tables e below F (T.setTop (mkF m pc Ls (St))) := by
  subst hp
  exact own_by (fun _ q => XS.aloadN X.here hx rfl hd hl hv q) k
theorem own_aload (X : Stand p l e R s m args below meth c T locs cells slots) (hx : p.tables.exec = Jvm.exec) {F : State → Prop} {pc : Nat} {Ls : Array Slot} {St : List Value} {i : Nat} {v : Value} (hd : decode c.code pc = .ok (.aload i, 2)) (hl : Ls[i]? = some (.val v)) (hv : v.isRef = true) (pc' : Nat) (hp : pc + 2 = pc') (k : own_Go p.tables e below F (T.setTop (mkF m pc' Ls (v :: St)))) : own_Go p.tables e below F (T.setTop (mkF m pc Ls (St))) := by
  subst hp
  exact own_by (fun _ q => XS.aload X.here hx rfl hd hl hv q) k
theorem own_astore_n (X : Stand p l e R s m args below meth c T locs cells slots) (hx : p.tables.exec = Jvm.exec) {F : State → Prop} {pc : Nat} {Ls : Array Slot} {St : List Value} {i : Fin 4} {v : Value} (hd : decode c.code pc = .ok (.astore_n i, 1)) (l' : Array Slot) (hv : v.isRef = true) (hl : storeLocals Ls i.val v = some l') (pc' : Nat) (hp : pc + 1 = pc') (k : own_Go p.tables e below F (T.setTop (mkF m pc' l' (St)))) : own_Go p.tables e below F (T.setTop (mkF m pc Ls (v :: St))) := by
  subst hp
  exact own_by (fun _ q => XS.astoreN X.here hx rfl hd rfl hv hl q) k
theorem own_astore (X : Stand p l e R s m args below meth c T locs cells slots) (hx : p.tables.exec = Jvm.exec) {F : State → Prop} {pc : Nat} {Ls : Array Slot} {St : List Value} {i : Nat} {v : Value} (hd : decode c.code pc = .ok (.astore i, 2)) (l' : Array Slot) (hv : v.isRef = true) (hl : storeLocals Ls i v = some l') (pc' : Nat) (hp : pc + 2 = pc') (k : own_Go p.tables e below F (T.setTop (mkF m pc' l' (St)))) : own_Go p.tables e below F (T.setTop (mkF m pc Ls (v :: St))) := by
  subst hp
  exact own_by (fun _ q => XS.astore X.here hx rfl hd rfl hv hl q) k
theorem own_iconst (X : Stand p l e R s m args below meth c T locs cells slots) (hx : p.tables.exec = Jvm.exec) {F : State → Prop} {pc : Nat} {Ls : Array Slot} {St : List Value} {i : Int} (hd : decode c.code pc = .ok (.iconst i, 1)) (z : Int32) (hz : Int32.ofInt i = z) (pc' : Nat) (hp : pc + 1 = pc') (k : own_Go p.tables e below F (T.setTop (mkF m pc' Ls (.int z :: St)))) : own_Go p.tables e below F (T.setTop (mkF m pc Ls (St))) := by
  subst hp hz
  exact own_by (fun _ q => XS.iconst X.here hx rfl hd  q) k
theorem own_bipush (X : Stand p l e R s m args below meth c T locs cells slots) (hx : p.tables.exec = Jvm.exec) {F : State → Prop} {pc : Nat} {Ls : Array Slot} {St : List Value} {i : Int} (hd : decode c.code pc = .ok (.bipush i, 2)) (z : Int32) (hz : (Int8.ofInt i).toInt32 = z) (pc' : Nat) (hp : pc + 2 = pc') (k : own_Go p.tables e below F (T.setTop (mkF m pc' Ls (.int z :: St)))) : own_Go p.tables e below F (T.setTop (mkF m pc Ls (St))) := by
  subst hp hz
  exact own_by (fun _ q => XS.bipush X.here hx rfl hd  q) k
theorem own_sipush (X : Stand p l e R s m args below meth c T locs cells slots) (hx : p.tables.exec = Jvm.exec) {F : State → Prop} {pc : Nat} {Ls : Array Slot} {St : List Value} {i : Int} (hd : decode c.code pc = .ok (.sipush i, 3)) (z : Int32) (hz : (Int16.ofInt i).toInt32 = z) (pc' : Nat) (hp : pc + 3 = pc') (k : own_Go p.tables e below F (T.setTop (mkF m pc' Ls (.int z :: St)))) : own_Go p.tables e below F (T.setTop (mkF m pc Ls (St))) := by
  subst hp hz
  exact own_by (fun _ q => XS.sipush X.here hx rfl hd  q) k
theorem own_lconst (X : Stand p l e R s m args below meth c T locs cells slots) (hx : p.tables.exec = Jvm.exec) {F : State → Prop} {pc : Nat} {Ls : Array Slot} {St : List Value} {i : Fin 2} (hd : decode c.code pc = .ok (.lconst i, 1)) (z : Int64) (hz : Int64.ofNat i = z) (pc' : Nat) (hp : pc + 1 = pc') (k : own_Go p.tables e below F (T.setTop (mkF m pc' Ls (.long z :: St)))) : own_Go p.tables e below F (T.setTop (mkF m pc Ls (St))) := by
  subst hp hz
  exact own_by (fun _ q => XS.lconst X.here hx rfl hd  q) k
theorem own_aconst_null (X : Stand p l e R s m args below meth c T locs cells slots) (hx : p.tables.exec = Jvm.exec) {F : State → Prop} {pc : Nat} {Ls : Array Slot} {St : List Value}  (hd : decode c.code pc = .ok (.aconst_null, 1)) (pc' : Nat) (hp : pc + 1 = pc') (k : own_Go p.tables e below F (T.setTop (mkF m pc' Ls (.null :: St)))) : own_Go p.tables e below F (T.setTop (mkF m pc Ls (St))) := by
  subst hp
  exact own_by (fun _ q => XS.aconstNull X.here hx rfl hd  q) k
theorem own_iadd (X : Stand p l e R s m args below meth c T locs cells slots) (hx : p.tables.exec = Jvm.exec) {F : State → Prop} {pc : Nat} {Ls : Array Slot} {St : List Value} {x y : Int32} (hd : decode c.code pc = .ok (.iadd, 1)) (pc' : Nat) (hp : pc + 1 = pc') (k : own_Go p.tables e below F (T.setTop (mkF m pc' Ls (.int (x + y) :: St)))) : own_Go p.tables e below F (T.setTop (mkF m pc Ls (.int y :: .int x :: St))) := by
  subst hp
  exact own_by (fun _ q => XS.iadd X.here hx rfl hd rfl q) k
theorem own_isub (X : Stand p l e R s m args below meth c T locs cells slots) (hx : p.tables.exec = Jvm.exec) {F : State → Prop} {pc : Nat} {Ls : Array Slot} {St : List Value} {x y : Int32} (hd : decode c.code pc = .ok (.isub, 1)) (pc' : Nat) (hp : pc + 1 = pc') (k : own_Go p.tables e below F (T.setTop (mkF m pc' Ls (.int (x - y) :: St)))) : own_Go p.tables e below F (T.setTop (mkF m pc Ls (.int y :: .int x :: St))) := by
  subst hp
  exact own_by (fun _ q => XS.isub X.here hx rfl hd rfl q) k
theorem own_imul (X : Stand p l e R s m args below meth c T locs cells slots) (hx : p.tables.exec = Jvm.exec) {F : State → Prop} {pc : Nat} {Ls : Array Slot} {St : List Value} {x y : Int32} (hd : decode c.code pc = .ok (.imul, 1)) (pc' : Nat) (hp : pc + 1 = pc') (k : own_Go p.tables e below F (T.setTop (mkF m pc' Ls (.int (x * y) :: St)))) : own_Go p.tables e below F (T.setTop (mkF m pc Ls (.int y :: .int x :: St))) := by
  subst hp
  exact own_by (fun _ q => XS.imul X.here hx rfl hd rfl q) k
theorem own_iand (X : Stand p l e R s m args below meth c T locs cells slots) (hx : p.tables.exec = Jvm.exec) {F : State → Prop} {pc : Nat} {Ls : Array Slot} {St : List Value} {x y : Int32} (hd : decode c.code pc = .ok (.iand, 1)) (pc' : Nat) (hp : pc + 1 = pc') (k : own_Go p.tables e below F (T.setTop (mkF m pc' Ls (.int (x &&& y) :: St)))) : own_Go p.tables e below F (T.setTop (mkF m pc Ls (.int y :: .int x :: St))) := by
  subst hp
  exact own_by (fun _ q => XS.iand X.here hx rfl hd rfl q) k
theorem own_ior (X : Stand p l e R s m args below meth c T locs cells slots) (hx : p.tables.exec = Jvm.exec) {F : State → Prop} {pc : Nat} {Ls : Array Slot} {St : List Value} {x y : Int32} (hd : decode c.code pc = .ok (.ior, 1)) (pc' : Nat) (hp : pc + 1 = pc') (k : own_Go p.tables e below F (T.setTop (mkF m pc' Ls (.int (x ||| y) :: St)))) : own_Go p.tables e below F (T.setTop (mkF m pc Ls (.int y :: .int x :: St))) := by
  subst hp
  exact own_by (fun _ q => XS.ior X.here hx rfl hd rfl q) k
theorem own_ixor (X : Stand p l e R s m args below meth c T locs cells slots) (hx : p.tables.exec = Jvm.exec) {F : State → Prop} {pc : Nat} {Ls : Array Slot} {St : List Value} {x y : Int32} (hd : decode c.code pc = .ok (.ixor, 1)) (pc' : Nat) (hp : pc + 1 = pc') (k : own_Go p.tables e below F (T.setTop (mkF m pc' Ls (.int (x ^^^ y) :: St)))) : own_Go p.tables e below F (T.setTop (mkF m pc Ls (.int y :: .int x :: St))) := by
  subst hp
  exact own_by (fun _ q => XS.ixor X.here hx rfl hd rfl q) k
theorem own_ishl (X : Stand p l e R s m args below meth c T locs cells slots) (hx : p.tables.exec = Jvm.exec) {F : State → Prop} {pc : Nat} {Ls : Array Slot} {St : List Value} {x y : Int32} (hd : decode c.code pc = .ok (.ishl, 1)) (pc' : Nat) (hp : pc + 1 = pc') (k : own_Go p.tables e below F (T.setTop (mkF m pc' Ls (.int (x <<< (y &&& 31)) :: St)))) : own_Go p.tables e below F (T.setTop (mkF m pc Ls (.int y :: .int x :: St))) := by
  subst hp
  exact own_by (fun _ q => XS.ishl X.here hx rfl hd rfl q) k
theorem own_ishr (X : Stand p l e R s m args below meth c T locs cells slots) (hx : p.tables.exec = Jvm.exec) {F : State → Prop} {pc : Nat} {Ls : Array Slot} {St : List Value} {x y : Int32} (hd : decode c.code pc = .ok (.ishr, 1)) (pc' : Nat) (hp : pc + 1 = pc') (k : own_Go p.tables e below F (T.setTop (mkF m pc' Ls (.int (x >>> (y &&& 31)) :: St)))) : own_Go p.tables e below F (T.setTop (mkF m pc Ls (.int y :: .int x :: St))) := by
  subst hp
  exact own_by (fun _ q => XS.ishr X.here hx rfl hd rfl q) k
theorem own_iushr (X : Stand p l e R s m args below meth c T locs cells slots) (hx : p.tables.exec = Jvm.exec) {F : State → Prop} {pc : Nat} {Ls : Array Slot} {St : List Value} {x y : Int32} (hd : decode c.code pc = .ok (.iushr, 1)) (pc' : Nat) (hp : pc + 1 = pc') (k : own_Go p.tables e below F (T.setTop (mkF m pc' Ls (.int ((x.toUInt32 >>> (y &&& 31).toUInt32).toInt32) :: St)))) : own_Go p.tables e below F (T.setTop (mkF m pc Ls (.int y :: .int x :: St))) := by
  subst hp
  exact own_by (fun _ q => XS.iushr X.here hx rfl hd rfl q) k
theorem own_ladd (X : Stand p l e R s m args below meth c T locs cells slots) (hx : p.tables.exec = Jvm.exec) {F : State → Prop} {pc : Nat} {Ls : Array Slot} {St : List Value} {x y : Int64} (hd : decode c.code pc = .ok (.ladd, 1)) (pc' : Nat) (hp : pc + 1 = pc') (k : own_Go p.tables e below F (T.setTop (mkF m pc' Ls (.long (x + y) :: St)))) : own_Go p.tables e below F (T.setTop (mkF m pc Ls (.long y :: .long x :: St))) := by
  subst hp
  exact own_by (fun _ q => XS.ladd X.here hx rfl hd rfl q) k
theorem own_lsub (X : Stand p l e R s m args below meth c T locs cells slots) (hx : p.tables.exec = Jvm.exec) {F : State → Prop} {pc : Nat} {Ls : Array Slot} {St : List Value} {x y : Int64} (hd : decode c.code pc = .ok (.lsub, 1)) (pc' : Nat) (hp : pc + 1 = pc') (k : own_Go p.tables e below F (T.setTop (mkF m pc' Ls (.long (x - y) :: St)))) : own_Go p.tables e below F (T.setTop (mkF m pc Ls (.long y :: .long x :: St))) := by
  subst hp
  exact own_by (fun _ q => XS.lsub X.here hx rfl hd rfl q) k
theorem own_lmul (X : Stand p l e R s m args below meth c T locs cells slots) (hx : p.tables.exec = Jvm.exec) {F : State → Prop} {pc : Nat} {Ls : Array Slot} {St : List Value} {x y : Int64} (hd : decode c.code pc = .ok (.lmul, 1)) (pc' : Nat) (hp : pc + 1 = pc') (k : own_Go p.tables e below F (T.setTop (mkF m pc' Ls (.long (x * y) :: St)))) : own_Go p.tables e below F (T.setTop (mkF m pc Ls (.long y :: .long x :: St))) := by
  subst hp
  exact own_by (fun _ q => XS.lmul X.here hx rfl hd rfl q) k
theorem own_land (X : Stand p l e R s m args below meth c T locs cells slots) (hx : p.tables.exec = Jvm.exec) {F : State → Prop} {pc : Nat} {Ls : Array Slot} {St : List Value} {x y : Int64} (hd : decode c.code pc = .ok (.land, 1)) (pc' : Nat) (hp : pc + 1 = pc') (k : own_Go p.tables e below F (T.setTop (mkF m pc' Ls (.long (x &&& y) :: St)))) : own_Go p.tables e below F (T.setTop (mkF m pc Ls (.long y :: .long x :: St))) := by
  subst hp
  exact own_by (fun _ q => XS.land X.here hx rfl hd rfl q) k
theorem own_lor (X : Stand p l e R s m args below meth c T locs cells slots) (hx : p.tables.exec = Jvm.exec) {F : State → Prop} {pc : Nat} {Ls : Array Slot} {St : List Value} {x y : Int64} (hd : decode c.code pc = .ok (.lor, 1)) (pc' : Nat) (hp : pc + 1 = pc') (k : own_Go p.tables e below F (T.setTop (mkF m pc' Ls (.long (x ||| y) :: St)))) : own_Go p.tables e below F (T.setTop (mkF m pc Ls (.long y :: .long x :: St))) := by
  subst hp
  exact own_by (fun _ q => XS.lor X.here hx rfl hd rfl q) k
theorem own_lxor (X : Stand p l e R s m args below meth c T locs cells slots) (hx : p.tables.exec = Jvm.exec) {F : State → Prop} {pc : Nat} {Ls : Array Slot} {St : List Value} {x y : Int64} (hd : decode c.code pc = .ok (.lxor, 1)) (pc' : Nat) (hp : pc + 1 = pc') (k : own_Go p.tables e below F (T.setTop (mkF m pc' Ls (.long (x ^^^ y) :: St)))) : own_Go p.tables e below F (T.setTop (mkF m pc Ls (.long y :: .long x :: St))) := by
  subst hp
  exact own_by (fun _ q => XS.lxor X.here hx rfl hd rfl q) k
theorem own_lshl (X : Stand p l e R s m args below meth c T locs cells slots) (hx : p.tables.exec = Jvm.exec) {F : State → Prop} {pc : Nat} {Ls : Array Slot} {St : List Value} {x : Int64} {y : Int32} (hd : decode c.code pc = .ok (.lshl, 1)) (pc' : Nat) (hp : pc + 1 = pc') (k : own_Go p.tables e below F (T.setTop (mkF m pc' Ls (.long (x <<< (y &&& 0x3f).toInt64) :: St)))) : own_Go p.tables e below F (T.setTop (mkF m pc Ls (.int y :: .long x :: St))) := by
  subst hp
  exact own_by (fun _ q => XS.lshl X.here hx rfl hd rfl q) k
theorem own_lshr (X : Stand p l e R s m args below meth c T locs cells slots) (hx : p.tables.exec = Jvm.exec) {F : State → Prop} {pc : Nat} {Ls : Array Slot} {St : List Value} {x : Int64} {y : Int32} (hd : decode c.code pc = .ok (.lshr, 1)) (pc' : Nat) (hp : pc + 1 = pc') (k : own_Go p.tables e below F (T.setTop (mkF m pc' Ls (.long (x >>> (y &&& 0x3f).toInt64) :: St)))) : own_Go p.tables e below F (T.setTop (mkF m pc Ls (.int y :: .long x :: St))) := by
  subst hp
  exact own_by (fun _ q => XS.lshr X.here hx rfl hd rfl q) k
theorem own_lushr (X : Stand p l e R s m args below meth c T locs cells slots) (hx : p.tables.exec = Jvm.exec) {F : State → Prop} {pc : Nat} {Ls : Array Slot} {St : List Value} {x : Int64} {y : Int32} (hd : decode c.code pc = .ok (.lushr, 1)) (pc' : Nat) (hp : pc + 1 = pc') (k : own_Go p.tables e below F (T.setTop (mkF m pc' Ls (.long ((x.toUInt64 >>> (y &&& 0x3f).toInt64.toUInt64).toInt64) :: St)))) : own_Go p.tables e below F (T.setTop (mkF m pc Ls (.int y :: .long x :: St))) := by
  subst hp
  exact own_by (fun _ q => XS.lushr X.here hx rfl hd rfl q) k
theorem own_idiv (X : Stand p l e R s m args below meth c T locs cells slots) (hx : p.tables.exec = Jvm.exec) {F : State → Prop} {pc : Nat} {Ls : Array Slot} {St : List Value} {x y : Int32} (hd : decode c.code pc = .ok (.idiv, 1)) (hy : y ≠ 0) (pc' : Nat) (hp : pc + 1 = pc') (k : own_Go p.tables e below F (T.setTop (mkF m pc' Ls (.int (x / y) :: St)))) : own_Go p.tables e below F (T.setTop (mkF m pc Ls (.int y :: .int x :: St))) := by
  subst hp
  exact own_by (fun _ q => XS.idiv X.here hx rfl hd rfl hy q) k
theorem own_ineg (X : Stand p l e R s m args below meth c T locs cells slots) (hx : p.tables.exec = Jvm.exec) {F : State → Prop} {pc : Nat} {Ls : Array Slot} {St : List Value} {x : Int32} (hd : decode c.code pc = .ok (.ineg, 1)) (pc' : Nat) (hp : pc + 1 = pc') (k : own_Go p.tables e below F (T.setTop (mkF m pc' Ls (.int (-x) :: St)))) : own_Go p.tables e below F (T.setTop (mkF m pc Ls (.int x :: St))) := by
  subst hp
  exact own_by (fun _ q => XS.ineg X.here hx rfl hd rfl q) k
theorem own_i2l (X : Stand p l e R s m args below meth c T locs cells slots) (hx : p.tables.exec = Jvm.exec) {F : State → Prop} {pc : Nat} {Ls : Array Slot} {St : List Value} {x : Int32} (hd : decode c.code pc = .ok (.i2l, 1)) (pc' : Nat) (hp : pc + 1 = pc') (k : own_Go p.tables e below F (T.setTop (mkF m pc' Ls (.long (x.toInt64) :: St)))) : own_Go p.tables e below F (T.setTop (mkF m pc Ls (.int x :: St))) := by
  subst hp
  exact own_by (fun _ q => XS.i2l X.here hx rfl hd rfl q) k
theorem own_l2i (X : Stand p l e R s m args below meth c T locs cells slots) (hx : p.tables.exec = Jvm.exec) {F : State → Prop} {pc : Nat} {Ls : Array Slot} {St : List Value} {x : Int64} (hd : decode c.code pc = .ok (.l2i, 1)) (pc' : Nat) (hp : pc + 1 = pc') (k : own_Go p.tables e below F (T.setTop (mkF m pc' Ls (.int (x.toInt32) :: St)))) : own_Go p.tables e below F (T.setTop (mkF m pc Ls (.long x :: St))) := by
  subst hp
  exact own_by (fun _ q => XS.l2i X.here hx rfl hd rfl q) k
theorem own_i2b (X : Stand p l e R s m args below meth c T locs cells slots) (hx : p.tables.exec = Jvm.exec) {F : State → Prop} {pc : Nat} {Ls : Array Slot} {St : List Value} {x : Int32} (hd : decode c.code pc = .ok (.i2b, 1)) (pc' : Nat) (hp : pc + 1 = pc') (k : own_Go p.tables e below F (T.setTop (mkF m pc' Ls (.int (x.toInt8.toInt32) :: St)))) : own_Go p.tables e below F (T.setTop (mkF m pc Ls (.int x :: St))) := by
  subst hp
  exact own_by (fun _ q => XS.i2b X.here hx rfl hd rfl q) k
theorem own_i2c (X : Stand p l e R s m args below meth c T locs cells slots) (hx : p.tables.exec = Jvm.exec) {F : State → Prop} {pc : Nat} {Ls : Array Slot} {St : List Value} {x : Int32} (hd : decode c.code pc = .ok (.i2c, 1)) (pc' : Nat) (hp : pc + 1 = pc') (k : own_Go p.tables e below F (T.setTop (mkF m pc' Ls (.int (x.toUInt32.toUInt16.toUInt32.toInt32) :: St)))) : own_Go p.tables e below F (T.setTop (mkF m pc Ls (.int x :: St))) := by
  subst hp
  exact own_by (fun _ q => XS.i2c X.here hx rfl hd rfl q) k
theorem own_i2s (X : Stand p l e R s m args below meth c T locs cells slots) (hx : p.tables.exec = Jvm.exec) {F : State → Prop} {pc : Nat} {Ls : Array Slot} {St : List Value} {x : Int32} (hd : decode c.code pc = .ok (.i2s, 1)) (pc' : Nat) (hp : pc + 1 = pc') (k : own_Go p.tables e below F (T.setTop (mkF m pc' Ls (.int (x.toInt16.toInt32) :: St)))) : own_Go p.tables e below F (T.setTop (mkF m pc Ls (.int x :: St))) := by
  subst hp
  exact own_by (fun _ q => XS.i2s X.here hx rfl hd rfl q) k
theorem own_lcmp (X : Stand p l e R s m args below meth c T locs cells slots) (hx : p.tables.exec = Jvm.exec) {F : State → Prop} {pc : Nat} {Ls : Array Slot} {St : List Value} {x y : Int64} (hd : decode c.code pc = .ok (.lcmp, 1)) (pc' : Nat) (hp : pc + 1 = pc') (k : own_Go p.tables e below F (T.setTop (mkF m pc' Ls (.int (lcmpW x y) :: St)))) : own_Go p.tables e below F (T.setTop (mkF m pc Ls (.long y :: .long x :: St))) := by
  subst hp
  exact own_by (fun _ q => XS.lcmp X.here hx rfl hd rfl q) k
theorem own_iinc (X : Stand p l e R s m args below meth c T locs cells slots) (hx : p.tables.exec = Jvm.exec) {F : State → Prop} {pc : Nat} {Ls : Array Slot} {St : List Value} {i : Nat} {cst : Int} {x : Int32} (hd : decode c.code pc = .ok (.iinc i cst, 3)) (l' : Array Slot) (hl : Ls[i]? = some (.val (.int x))) (hl' : storeLocals Ls i (.int (x + Int32.ofInt cst)) = some l') (pc' : Nat) (hp : pc + 3 = pc') (k : own_Go p.tables e below F (T.setTop (mkF m pc' l' (St)))) : own_Go p.tables e below F (T.setTop (mkF m pc Ls (St))) := by
  subst hp
  exact own_by (fun _ q => XS.iinc X.here hx rfl hd hl hl' q) k
theorem own_dup (X : Stand p l e R s m args below meth c T locs cells slots) (hx : p.tables.exec = Jvm.exec) {F : State → Prop} {pc : Nat} {Ls : Array Slot} {St : List Value} {v : Value} (hd : decode c.code pc = .ok (.dup, 1)) (hc : v.category = 1) (pc' : Nat) (hp : pc + 1 = pc') (k : own_Go p.tables e below F (T.setTop (mkF m pc' Ls (v :: v :: St)))) : own_Go p.tables e below F (T.setTop (mkF m pc Ls (v :: St))) := by
  subst hp
  exact own_by (fun _ q => XS.dup X.here hx rfl hd rfl hc q) k
theorem own_pop (X : Stand p l e R s m args below meth c T locs cells slots) (hx : p.tables.exec = Jvm.exec) {F : State → Prop} {pc : Nat} {Ls : Array Slot} {St : List Value} {v : Value} (hd : decode c.code pc = .ok (.pop, 1)) (hc : v.category = 1) (pc' : Nat) (hp : pc + 1 = pc') (k : own_Go p.tables e below F (T.setTop (mkF m pc' Ls (St)))) : own_Go p.tables e below F (T.setTop (mkF m pc Ls (v :: St))) := by
  subst hp
  exact own_by (fun _ q => XS.pop X.here hx rfl hd rfl hc q) k
theorem own_dup_x1 (X : Stand p l e R s m args below meth c T locs cells slots) (hx : p.tables.exec = Jvm.exec) {F : State → Prop} {pc : Nat} {Ls : Array Slot} {St : List Value} {v w : Value} (hd : decode c.code pc = .ok (.dup_x1, 1)) (hc : v.category = 1) (hc' : w.category = 1) (pc' : Nat) (hp : pc + 1 = pc') (k : own_Go p.tables e below F (T.setTop (mkF m pc' Ls (v :: w :: v :: St)))) : own_Go p.tables e below F (T.setTop (mkF m pc Ls (v :: w :: St))) := by
  subst hp
  exact own_by (fun _ q => XS.dupX1 X.here hx rfl hd rfl hc hc' q) k
theorem own_goto (X : Stand p l e R s m args below meth c T locs cells slots) (hx : p.tables.exec = Jvm.exec) {F : State → Prop} {pc : Nat} {Ls : Array Slot} {St : List Value}  {o : Int} (hd : decode c.code pc = .ok (.goto o, 3)) (pc' : Nat) (ho : 0 ≤ (pc : Int) + o) (hp : ((pc : Int) + o).toNat = pc') (k : own_Go p.tables e below F (T.setTop (mkF m pc' Ls (St)))) : own_Go p.tables e below F (T.setTop (mkF m pc Ls (St))) :=
  own_by (fun _ q => XS.goto X.here hx rfl (pc0 := pc) rfl hd  ho hp q) k
theorem own_ifY (X : Stand p l e R s m args below meth c T locs cells slots) (hx : p.tables.exec = Jvm.exec) {F : State → Prop} {pc : Nat} {Ls : Array Slot} {St : List Value} {cd : ClassFile.Cond} {x : Int32} {o : Int} (hd : decode c.code pc = .ok (.ifCond cd o, 3)) (hc : ifCond.holds cd x = true) (pc' : Nat) (ho : 0 ≤ (pc : Int) + o) (hp : ((pc : Int) + o).toNat = pc') (k : own_Go p.tables e below F (T.setTop (mkF m pc' Ls (St)))) : own_Go p.tables e below F (T.setTop (mkF m pc Ls (.int x :: St))) :=
  own_by (fun _ q => XS.ifYes X.here hx rfl (pc0 := pc) rfl hd rfl hc ho hp q) k
theorem own_icmpY (X : Stand p l e R s m args below meth c T locs cells slots) (hx : p.tables.exec = Jvm.exec) {F : State → Prop} {pc : Nat} {Ls : Array Slot} {St : List Value} {cd : ClassFile.Cond} {x y : Int32} {o : Int} (hd : decode c.code pc = .ok (.if_icmp cd o, 3)) (hc : if_icmp.holds cd x y = true) (pc' : Nat) (ho : 0 ≤ (pc : Int) + o) (hp : ((pc : Int) + o).toNat = pc') (k : own_Go p.tables e below F (T.setTop (mkF m pc' Ls (St)))) : own_Go p.tables e below F (T.setTop (mkF m pc Ls (.int y :: .int x :: St))) :=
  own_by (fun _ q => XS.icmpYes X.here hx rfl (pc0 := pc) rfl hd rfl hc ho hp q) k
theorem own_ifnullY (X : Stand p l e R s m args below meth c T locs cells slots) (hx : p.tables.exec = Jvm.exec) {F : State → Prop} {pc : Nat} {Ls : Array Slot} {St : List Value}  {o : Int} (hd : decode c.code pc = .ok (.ifnull o, 3)) (pc' : Nat) (ho : 0 ≤ (pc : Int) + o) (hp : ((pc : Int) + o).toNat = pc') (k : own_Go p.tables e below F (T.setTop (mkF m pc' Ls (St)))) : own_Go p.tables e below F (T.setTop (mkF m pc Ls (.null :: St))) :=
  own_by (fun _ q => XS.ifnullYes X.here hx rfl (pc0 := pc) rfl hd rfl ho hp q) k
theorem own_ifnonnullY (X : Stand p l e R s m args below meth c T locs cells slots) (hx : p.tables.exec = Jvm.exec) {F : State → Prop} {pc : Nat} {Ls : Array Slot} {St : List Value} {b : Addr} {o : Int} (hd : decode c.code pc = .ok (.ifnonnull o, 3)) (pc' : Nat) (ho : 0 ≤ (pc : Int) + o) (hp : ((pc : Int) + o).toNat = pc') (k : own_Go p.tables e below F (T.setTop (mkF m pc' Ls (St)))) : own_Go p.tables e below F (T.setTop (mkF m pc Ls (.ref b :: St))) :=
  own_by (fun _ q => XS.ifnonnullYes X.here hx rfl (pc0 := pc) rfl hd rfl ho hp q) k
theorem own_ifN (X : Stand p l e R s m args below meth c T locs cells slots) (hx : p.tables.exec = Jvm.exec) {F : State → Prop} {pc : Nat} {Ls : Array Slot} {St : List Value} {o : Int} {cd : ClassFile.Cond} {x : Int32} (hd : decode c.code pc = .ok (.ifCond cd o, 3)) (hc : ifCond.holds cd x = false) (pc' : Nat) (hp : pc + 3 = pc') (k : own_Go p.tables e below F (T.setTop (mkF m pc' Ls (St)))) : own_Go p.tables e below F (T.setTop (mkF m pc Ls (.int x :: St))) := by
  subst hp
  exact own_by (fun _ q => XS.ifNo X.here hx rfl hd rfl hc q) k
theorem own_icmpN (X : Stand p l e R s m args below meth c T locs cells slots) (hx : p.tables.exec = Jvm.exec) {F : State → Prop} {pc : Nat} {Ls : Array Slot} {St : List Value} {o : Int} {cd : ClassFile.Cond} {x y : Int32} (hd : decode c.code pc = .ok (.if_icmp cd o, 3)) (hc : if_icmp.holds cd x y = false) (pc' : Nat) (hp : pc + 3 = pc') (k : own_Go p.tables e below F (T.setTop (mkF m pc' Ls (St)))) : own_Go p.tables e below F (T.setTop (mkF m pc Ls (.int y :: .int x :: St))) := by
  subst hp
  exact own_by (fun _ q => XS.icmpNo X.here hx rfl hd rfl hc q) k
theorem own_ifnullN (X : Stand p l e R s m args below meth c T locs cells slots) (hx : p.tables.exec = Jvm.exec) {F : State → Prop} {pc : Nat} {Ls : Array Slot} {St : List Value} {o : Int} {b : Addr} (hd : decode c.code pc = .ok (.ifnull o, 3)) (pc' : Nat) (hp : pc + 3 = pc') (k : own_Go p.tables e below F (T.setTop (mkF m pc' Ls (St)))) : own_Go p.tables e below F (T.setTop (mkF m pc Ls (.ref b :: St))) := by
  subst hp
  exact own_by (fun _ q => XS.ifnullNo X.here hx rfl hd rfl q) k
theorem own_ifnonnullN (X : Stand p l e R s m args below meth c T locs cells slots) (hx : p.tables.exec = Jvm.exec) {F : State → Prop} {pc : Nat} {Ls : Array Slot} {St : List Value} {o : Int} (hd : decode c.code pc = .ok (.ifnonnull o, 3)) (pc' : Nat) (hp : pc + 3 = pc') (k : own_Go p.tables e below F (T.setTop (mkF m pc' Ls (St)))) : own_Go p.tables e below F (T.setTop (mkF m pc Ls (.null :: St))) := by
  subst hp
  exact own_by (fun _ q => XS.ifnonnullNo X.here hx rfl hd rfl q) k
theorem own_irem (X : Stand p l e R s m args below meth c T locs cells slots) (hx : p.tables.exec = Jvm.exec) {F : State → Prop} {pc : Nat} {Ls : Array Slot} {St : List Value} {x y : Int32} (hd : decode c.code pc = .ok (.irem, 1)) (hy : y ≠ 0) (pc' : Nat) (hp : pc + 1 = pc') (k : own_Go p.tables e below F (T.setTop (mkF m pc' Ls (.int (x % y) :: St)))) : own_Go p.tables e below F (T.setTop (mkF m pc Ls (.int y :: .int x :: St))) := by
  subst hp
  exact own_by (fun _ q => iremM X hx rfl hd rfl hy q) k
theorem own_acmp (X : Stand p l e R s m args below meth c T locs cells slots) (hx : p.tables.exec = Jvm.exec) {F : State → Prop} {pc : Nat} {Ls : Array Slot} {St : List Value} {cd : ACond} {x y : Value} {o : Int} (same : Bool) (hd : decode c.code pc = .ok (.if_acmp cd o, 3)) (h1 : x.isRef = true) (h2 : y.isRef = true) (hq : decide (x = y) = same) (pc' : Nat) (ho : 0 ≤ (pc : Int) + o) (hp : pc' = if acV cd same = true then ((pc : Int) + o).toNat else pc + 3) (k : own_Go p.tables e below F (T.setTop (mkF m pc' Ls St))) : own_Go p.tables e below F (T.setTop (mkF m pc Ls (y :: x :: St))) :=
  own_by (fun _ q => Jvm.RoadKit.acmp (g := mkF m pc Ls (y :: x :: St)) X hx rfl h1 h2 (pc0 := pc) rfl hd rfl hq ho hp q) k
theorem own_ldc (X : Stand p l e R s m args below meth c T locs cells slots) (hx : p.tables.exec = Jvm.exec) {F : State → Prop} {pc : Nat} {Ls : Array Slot} {St : List Value} (hZ : Z.Warmed39 s.vm) {own : String} {i : Nat} {z : Int32} (hown : s.vm.findClass own = some m.cls) (w : (Cond.constant own i z).before a0 Z = true) (hd : decode c.code pc = .ok (.ldc i, 2)) (pc' : Nat) (hp : pc + 2 = pc') (k : own_Go p.tables e below F (T.setTop (mkF m pc' Ls (.int z :: St)))) : own_Go p.tables e below F (T.setTop (mkF m pc Ls St)) := by
  subst hp
  exact own_by (fun _ q => X.ldcInt hx hown (mvT hZ w) (g := mkF m pc Ls St) rfl hd _ q) k
theorem own_getS (X : Stand p l e R s m args below meth c T locs cells slots) (hx : p.tables.exec = Jvm.exec) {F : State → Prop} {pc : Nat} {Ls : Array Slot} {St : List Value} (hZ : Z.Warmed39 s.vm) {own R0 O n d host : String} {i : Nat} (hown : s.vm.findClass own = some m.cls) (w : (Cond.fieldLink own i R0 n d).before a0 Z = true ∨ (Cond.fieldLinkNest own i R0 n d host).before a0 Z = true) (via : Via Z R0 O n d) (eT : T.heap = h) {v : Value} (S : Sta Z h O n d v) (hd : decode c.code pc = .ok (.getstatic i, 3)) (pc' : Nat) (hp : pc + 3 = pc')
    (k : ∀ T', Stand p l e R s m args below meth c T' locs cells slots → T'.heap = h → own_Go p.tables e below F (T'.setTop (mkF m pc' Ls (v :: St)))) : own_Go p.tables e below F (T.setTop (mkF m pc Ls St)) := by
  subst hp
  obtain ⟨T', X', e', st⟩ := getS2 X hx hZ hown w via eT S (g := mkF m pc Ls St) rfl hd
  exact own_by st (k T' X' e')
theorem own_getF (X : Stand p l e R s m args below meth c T locs cells slots) (hx : p.tables.exec = Jvm.exec) {F : State → Prop} {pc : Nat} {Ls : Array Slot} {St : List Value} (hZ : Z.Warmed39 s.vm) {own R0 O n d host : String} {i : Nat} (hown : s.vm.findClass own = some m.cls) (w : (Cond.fieldLink own i R0 n d).before a0 Z = true ∨ (Cond.fieldLinkNest own i R0 n d host).before a0 Z = true) (via : Via Z R0 O n d) (eT : T.heap = h) {a : Addr} {v : Value} (S : Fld Z h a O n d v) (hd : decode c.code pc = .ok (.getfield i, 3)) (pc' : Nat) (hp : pc + 3 = pc')
    (k : ∀ T', Stand p l e R s m args below meth c T' locs cells slots → T'.heap = h → own_Go p.tables e below F (T'.setTop (mkF m pc' Ls (v :: St)))) : own_Go p.tables e below F (T.setTop (mkF m pc Ls (.ref a :: St))) := by
  subst hp
  obtain ⟨T', X', e', st⟩ := getF X hx hZ hown w via eT S (g := mkF m pc Ls (.ref a :: St)) rfl rfl hd
  exact own_by st (k T' X' e')
theorem own_lsw (X : Stand p l e R s m args below meth c T locs cells slots) (hx : p.tables.exec = Jvm.exec) {F : State → Prop} {pc : Nat} {Ls : Array Slot} {St : List Value} {dflt : Int} {pairs : Array (Int × Int)} {len : Nat} {i : Int32} (o : Int) (hd : decode c.code pc = .ok (.lookupswitch dflt pairs, len)) (hoff : lookupswitch.offset pairs.toList dflt i.toInt = o) (hso : (pairs.toList.zip pairs.toList.tail).all (fun q => decide (q.1.1 < q.2.1)) = true) (pc' : Nat) (ho : 0 ≤ (pc : Int) + o) (hp : ((pc : Int) + o).toNat = pc') (k : own_Go p.tables e below F (T.setTop (mkF m pc' Ls St))) : own_Go p.tables e below F (T.setTop (mkF m pc Ls (.int i :: St))) :=
  own_by (fun _ q => own_lsw0 X.here hx rfl (pc0 := pc) rfl hd rfl hoff hso ho hp q) k
theorem own_tsw (X : Stand p l e R s m args below meth c T locs cells slots) (hx : p.tables.exec = Jvm.exec) {F : State → Prop} {pc : Nat} {Ls : Array Slot} {St : List Value} {dflt lo hi : Int} {offs : Array Int} {len : Nat} {i : Int32} (o : Int) (hd : decode c.code pc = .ok (.tableswitch dflt lo hi offs, len)) (hin : ¬ (i.toInt < lo ∨ i.toInt > hi)) (hoff : offs[(i.toInt - lo).toNat]? = some o) (pc' : Nat) (ho : 0 ≤ (pc : Int) + o) (hp : ((pc : Int) + o).toNat = pc') (k : own_Go p.tables e below F (T.setTop (mkF m pc' Ls St))) : own_Go p.tables e below F (T.setTop (mkF m pc Ls (.int i :: St))) :=
  own_by (fun _ q => XS.tswIn X.here hx rfl (pc0 := pc) rfl hd rfl hin hoff ho hp q) k
theorem own_tswD (X : Stand p l e R s m args below meth c T locs cells slots) (hx : p.tables.exec = Jvm.exec) {F : State → Prop} {pc : Nat} {Ls : Array Slot} {St : List Value} {dflt lo hi : Int} {offs : Array Int} {len : Nat} {i : Int32} (hd : decode c.code pc = .ok (.tableswitch dflt lo hi offs, len)) (hout : i.toInt < lo ∨ i.toInt > hi) (pc' : Nat) (ho : 0 ≤ (pc : Int) + dflt) (hp : ((pc : Int) + dflt).toNat = pc') (k : own_Go p.tables e below F (T.setTop (mkF m pc' Ls St))) : own_Go p.tables e below F (T.setTop (mkF m pc Ls (.int i :: St))) :=
  own_by (fun _ q => XS.tswOut X.here hx rfl (pc0 := pc) rfl hd rfl hout ho hp q) k

theorem own_topI {F : State → Prop} {pc : Nat} {Ls : Array Slot} {St : List Value} {x : Int32} (z : Int32) (hz : x = z) (k : own_Go p.tables e below F (T.setTop (mkF m pc Ls (.int z :: St)))) : own_Go p.tables e below F (T.setTop (mkF m pc Ls (.int x :: St))) := by
  subst hz
  exact k
theorem own_topJ {F : State → Prop} {pc : Nat} {Ls : Array Slot} {St : List Value} {x : Int64} (z : Int64) (hz : x = z) (k : own_Go p.tables e below F (T.setTop (mkF m pc Ls (.long z :: St)))) : own_Go p.tables e below F (T.setTop (mkF m pc Ls (.long x :: St))) := by
  subst hz
  exact k
theorem own_lcmp0 (x : Int64) : lcmpW x x = 0 := by simp [lcmpW]
theorem own_lceq (x y : Int64) : lcmpW x y = (0 : Int32) ↔ x = y := by rw [lcW]; exact lc_eq x y
theorem own_iincC (X : Stand p l e R s m args below meth c T locs cells slots) (hx : p.tables.exec = Jvm.exec) {F : State → Prop} {pc : Nat} {Ls : Array Slot} {St : List Value} {i : Nat} {cst : Int} {x : Int32} (hd : decode c.code pc = .ok (.iinc i cst, 3)) (l' : Array Slot) (hl : Ls[i]? = some (.val (.int x))) (z : Int32) (hz : x + Int32.ofInt cst = z) (hl' : storeLocals Ls i (.int z) = some l') (pc' : Nat) (hp : pc + 3 = pc') (k : own_Go p.tables e below F (T.setTop (mkF m pc' l' St))) : own_Go p.tables e below F (T.setTop (mkF m pc Ls St)) := by
  subst hz
  exact own_iinc X hx hd l' hl hl' pc' hp k
/-- a body's contract: y, entered with 'as' over the heap h, ends, and Q holds of what it returns, of the heap and of the places written -/
abbrev own_Met (l : Launch) (y : MethodName) (bytes : ByteArray) (ml : Nat) (ret : Option FieldType) (ws : List Cond) (rm : Room) (Z : State) (as : Array Value) (h : Heap) (Q : Option Value → Heap → List Loc → Prop) : Prop :=
  MetFree l y (head1 (Jvm.Cond.code y bytes ml ret :: ws) rm) (fun a U => a = as ∧ Z.Warmed39 U.vm ∧ U.heap = h) (fun _ _ _ _ _ => True) (fun _ U o U' => ∃ v L, o = .returned v ∧ Q v U'.heap L ∧ FrameEnd U o U' L rm.cells rm.slots)
theorem own_met {y : MethodName} {bytes : ByteArray} {ml : Nat} {ret : Option FieldType} {ws : List Cond} {rm : Room} {as : Array Value} {Q : Option Value → Heap → List Loc → Prop} (hp : plainFor y = true)
    (body : ∀ (p : Program) (e : Env) (s : State) (m : MethodId) (below : List Frame) (meth : Method) (c : Code) (T0 : State), p.tables.exec = Jvm.exec → c.code = bytes → c.maxLocals = ml → s.vm.findClass y.cls = some m.cls → meth.sig.returnType = ret → meth.locks = false → meth.name = y.name → Z.Warmed39 s.vm →
      Stand p l e rm s m as below meth c T0 [] 0 0 → T0.heap = h → own_Go p.tables e below (own_Fin s below Q rm.cells rm.slots) (T0.setTop (entryFrame m as ml))) : own_Met l y bytes ml ret ws rm Z as h Q := by
  refine MetFree.of_bodySF hp hisR ?_
  intro p e s m args below meth c s₁ Bd hml0 hP hK
  obtain ⟨rfl, hZ, hh⟩ := hP
  have e0 : s₁.heap = h := by rw [← hh, Bd.state]; rfl
  obtain ⟨t, h1, o, h2, h3, h4⟩ := body p e s m below meth c s₁ Bd.exec Bd.bytes hml0 (findClass_of_methodNamed Bd.named) Bd.returns (BodyLoose.notSynchronized Bd) (name_of_methodNamed Bd.named Bd.method).1 hZ (Stand.of_body Bd) e0
  exact ⟨t, o, h1, h2, h3, h4⟩
theorem own_callS (X : Stand p l e R s m args below meth c T locs cells slots) (hx : p.tables.exec = Jvm.exec) (hZ : Z.Warmed39 s.vm) {own : String} {index : Nat} {y : MethodName} {bytes : ByteArray} {maxL : Nat} {ret : Option FieldType} {rm : Room} (hown : s.vm.findClass own = some m.cls)
    (w1 : (Cond.methodLink own index y).before a0 Z = true) (w2 : (Cond.static y).before a0 Z = true) (w3 : (Cond.initialized y.cls).before a0 Z = true) (w4 : (Cond.code y bytes maxL ret).before a0 Z = true) (hy : y.cls ≠ "java/lang/invoke/MethodHandle" ∧ y.cls ≠ "java/lang/invoke/VarHandle")
    {Q : Option Value → Heap → List Loc → Prop} (argsL rest : List Value) (W : Nat) (hM : own_Met l y bytes maxL ret [] rm Z argsL.toArray h Q) (hf : rm.frames + 1 ≤ R.frames) (hl : W + (maxL + 11) + rm.locals ≤ R.locals) (eT : T.heap = h) {pc : Nat} {Ls : Array Slot} (hsize : Ls.size = c.maxLocals)
    (hlen : ∀ sig, parseMethodDescriptor y.desc = some sig → argsL.length = sig.parameters.length) (hW : 2 * 0 + (rest.map fun v => v.category).sum ≤ W) (hd : decode c.code pc = .ok (.invokestatic index, 3)) (hC : cells + rm.cells ≤ R.cells) (hN : slots + rm.slots ≤ R.slots) :
    ∃ (v : Option Value) (T' : State) (L : List Loc), Stand p l e R s m args below meth c T' (locs ++ L) (cells + rm.cells) (slots + rm.slots) ∧ Q v T'.heap L ∧ ∀ target, Steps p.tables e below (T'.setTop (mkF m (pc + 3) Ls (v.toList ++ rest))) target → Steps p.tables e below (T.setTop (mkF m pc Ls (argsL.reverse ++ rest))) target := by
  obtain ⟨v, _, ⟨T', L', k', n'⟩, -, X', ⟨L, hQ, h1, h2, h3⟩, st⟩ := Jvm.LawKit.callS X hx (y := y) hown (mvT hZ w1) (mvT hZ w2) (mvT hZ w3) (mvT hZ w4) hy (backOf (W := W) hM hZ w4 w3 hf hl) (g := mkF m pc Ls (argsL.reverse ++ rest)) rfl hsize (argsL := argsL) (rest := rest) hlen rfl hW hd (fun _ _ => ⟨rfl, eT, hC, hN⟩)
  dsimp only [Pt.U, Pt.locs, Pt.cells, Pt.slots] at X' h1 h2 h3 st hQ
  subst h1 h2 h3
  exact ⟨v, T', L, X', hQ, st⟩
theorem own_kS (X : Stand p l e R s m args below meth c T locs cells slots) (hx : p.tables.exec = Jvm.exec) (hZ : Z.Warmed39 s.vm) {own : String} {index : Nat} {y : MethodName} {bytes : ByteArray} {maxL : Nat} {ret : Option FieldType} {rm : Room} (hown : s.vm.findClass own = some m.cls)
    (w1 : (Cond.methodLink own index y).before a0 Z = true) (w2 : (Cond.static y).before a0 Z = true) (w3 : (Cond.initialized y.cls).before a0 Z = true) (w4 : (Cond.code y bytes maxL ret).before a0 Z = true) (hy : y.cls ≠ "java/lang/invoke/MethodHandle" ∧ y.cls ≠ "java/lang/invoke/VarHandle")
    {Q : Option Value → Heap → List Loc → Prop} (argsL rest : List Value) (W : Nat) (hM : own_Met l y bytes maxL ret [] rm Z argsL.toArray h Q) (hf : rm.frames + 1 ≤ R.frames) (hl : W + (maxL + 11) + rm.locals ≤ R.locals) (eT : T.heap = h) {pc : Nat} {Ls : Array Slot} (hsize : Ls.size = c.maxLocals)
    (hlen : ∀ sig, parseMethodDescriptor y.desc = some sig → argsL.length = sig.parameters.length) (hW : 2 * 0 + (rest.map fun v => v.category).sum ≤ W) (hd : decode c.code pc = .ok (.invokestatic index, 3)) (hC : cells + rm.cells ≤ R.cells) (hN : slots + rm.slots ≤ R.slots) (pc' : Nat) (hp : pc + 3 = pc') {F : State → Prop}
    (k : ∀ (v : Option Value) (T' : State) (L : List Loc), Stand p l e R s m args below meth c T' (locs ++ L) (cells + rm.cells) (slots + rm.slots) → Q v T'.heap L → own_Go p.tables e below F (T'.setTop (mkF m pc' Ls (v.toList ++ rest)))) : own_Go p.tables e below F (T.setTop (mkF m pc Ls (argsL.reverse ++ rest))) := by
  subst hp
  obtain ⟨v, T', L, X', hQ, st⟩ := own_callS X hx hZ hown w1 w2 w3 w4 hy argsL rest W hM hf hl eT hsize hlen hW hd hC hN
  exact own_by st (k v T' L X' hQ)
theorem own_callV (X : Stand p l e R s m args below meth c T locs cells slots) (hx : p.tables.exec = Jvm.exec) (hZ : Z.Warmed39 s.vm) {own C : String} {index : Nat} {y z : MethodName} {bytes : ByteArray} {maxL : Nat} {ret : Option FieldType} {rm : Room} (hown : s.vm.findClass own = some m.cls)
    (w1 : (Cond.methodLink own index y).before a0 Z = true) (w2 : (Cond.declares y).before a0 Z = true) (hnf : NotFace s y) (w3 : (Cond.selects C y z).before a0 Z = true) (w4 : (Cond.instanceMethod z).before a0 Z = true) (w5 : (Cond.initialized z.cls).before a0 Z = true) (w6 : (Cond.code z bytes maxL ret).before a0 Z = true) (hy : y.cls ≠ "java/lang/invoke/MethodHandle" ∧ y.cls ≠ "java/lang/invoke/VarHandle")
    {Q : Option Value → Heap → List Loc → Prop} (b : Addr) (argsL rest : List Value) (W : Nat) (hM : own_Met l z bytes maxL ret [] rm Z (.ref b :: argsL).toArray h Q) (hf : rm.frames + 1 ≤ R.frames) (hl : W + (maxL + 11) + rm.locals ≤ R.locals) (eT : T.heap = h) (E : Exa Z h b C) {pc : Nat} {Ls : Array Slot} (hsize : Ls.size = c.maxLocals)
    (hlen : ∀ sig, parseMethodDescriptor y.desc = some sig → argsL.length = sig.parameters.length) (hW : 2 * 0 + (rest.map fun v => v.category).sum ≤ W) (hd : decode c.code pc = .ok (.invokevirtual index, 3)) (hC : cells + rm.cells ≤ R.cells) (hN : slots + rm.slots ≤ R.slots) :
    ∃ (v : Option Value) (T' : State) (L : List Loc), Stand p l e R s m args below meth c T' (locs ++ L) (cells + rm.cells) (slots + rm.slots) ∧ Q v T'.heap L ∧ ∀ target, Steps p.tables e below (T'.setTop (mkF m (pc + 3) Ls (v.toList ++ rest))) target → Steps p.tables e below (T.setTop (mkF m pc Ls (argsL.reverse ++ .ref b :: rest))) target := by
  obtain ⟨cq, kq, qa, qb, qc⟩ := isOf hZ eT E
  obtain ⟨v, _, ⟨T', L', k', n'⟩, -, X', ⟨L, hQ, h1, h2, h3⟩, st⟩ := X.virtualBack hx (y := y) (z := z) hown (mvT hZ w1) (mvT hZ w2) hnf (mvT hZ w3) (mvT hZ w4) hy (backOf (W := W) hM hZ w6 w5 hf hl) qa qc (g := mkF m pc Ls (argsL.reverse ++ .ref b :: rest)) rfl hsize (Steps.refl _) (argsL := argsL) (rest := rest) hlen rfl hW hd (fun _ _ => ⟨rfl, eT, hC, hN⟩)
  dsimp only [Pt.U, Pt.locs, Pt.cells, Pt.slots] at X' h1 h2 h3 st hQ
  subst h1 h2 h3
  exact ⟨v, T', L, X', hQ, fun t k => st.trans k⟩
theorem own_kV (X : Stand p l e R s m args below meth c T locs cells slots) (hx : p.tables.exec = Jvm.exec) (hZ : Z.Warmed39 s.vm) {own C : String} {index : Nat} {y z : MethodName} {bytes : ByteArray} {maxL : Nat} {ret : Option FieldType} {rm : Room} (hown : s.vm.findClass own = some m.cls)
    (w1 : (Cond.methodLink own index y).before a0 Z = true) (w2 : (Cond.declares y).before a0 Z = true) (hnf : NotFace s y) (w3 : (Cond.selects C y z).before a0 Z = true) (w4 : (Cond.instanceMethod z).before a0 Z = true) (w5 : (Cond.initialized z.cls).before a0 Z = true) (w6 : (Cond.code z bytes maxL ret).before a0 Z = true) (hy : y.cls ≠ "java/lang/invoke/MethodHandle" ∧ y.cls ≠ "java/lang/invoke/VarHandle")
    {Q : Option Value → Heap → List Loc → Prop} (b : Addr) (argsL rest : List Value) (W : Nat) (hM : own_Met l z bytes maxL ret [] rm Z (.ref b :: argsL).toArray h Q) (hf : rm.frames + 1 ≤ R.frames) (hl : W + (maxL + 11) + rm.locals ≤ R.locals) (eT : T.heap = h) (E : Exa Z h b C) {pc : Nat} {Ls : Array Slot} (hsize : Ls.size = c.maxLocals)
    (hlen : ∀ sig, parseMethodDescriptor y.desc = some sig → argsL.length = sig.parameters.length) (hW : 2 * 0 + (rest.map fun v => v.category).sum ≤ W) (hd : decode c.code pc = .ok (.invokevirtual index, 3)) (hC : cells + rm.cells ≤ R.cells) (hN : slots + rm.slots ≤ R.slots) (pc' : Nat) (hp : pc + 3 = pc') {F : State → Prop}
    (k : ∀ (v : Option Value) (T' : State) (L : List Loc), Stand p l e R s m args below meth c T' (locs ++ L) (cells + rm.cells) (slots + rm.slots) → Q v T'.heap L → own_Go p.tables e below F (T'.setTop (mkF m pc' Ls (v.toList ++ rest)))) : own_Go p.tables e below F (T.setTop (mkF m pc Ls (argsL.reverse ++ .ref b :: rest))) := by
  subst hp
  obtain ⟨v, T', L, X', hQ, st⟩ := own_callV X hx hZ hown w1 w2 hnf w3 w4 w5 w6 hy b argsL rest W hM hf hl eT E hsize hlen hW hd hC hN
  exact own_by st (k v T' L X' hQ)
theorem own_callU (X : Stand p l e R s m args below meth c T locs cells slots) (hx : p.tables.exec = Jvm.exec) (hZ : Z.Warmed39 s.vm) {own C owner : String} {index : Nat} {x z : MethodName} {bytes : ByteArray} {maxL : Nat} {ret : Option FieldType} {rm : Room} (hown : s.vm.findClass own = some m.cls)
    (w1 : (Cond.methodLink own index x).before a0 Z = true) (w2 : (Cond.sameMethod x.cls owner x.name x.desc).before a0 Z = true) (w2' : (Cond.declares ⟨owner, x.name, x.desc⟩).before a0 Z = true) (hy : owner ≠ "java/lang/invoke/MethodHandle" ∧ owner ≠ "java/lang/invoke/VarHandle") (w3 : (Cond.selects C x z).before a0 Z = true) (w4 : (Cond.instanceMethod z).before a0 Z = true) (w5 : (Cond.initialized z.cls).before a0 Z = true) (w6 : (Cond.code z bytes maxL ret).before a0 Z = true)
    {Q : Option Value → Heap → List Loc → Prop} (b : Addr) (argsL rest : List Value) (W : Nat) (hM : own_Met l z bytes maxL ret [] rm Z (.ref b :: argsL).toArray h Q) (hf : rm.frames + 1 ≤ R.frames) (hl : W + (maxL + 11) + rm.locals ≤ R.locals) (eT : T.heap = h) (E : Exa Z h b C) {pc : Nat} {Ls : Array Slot} (hsize : Ls.size = c.maxLocals)
    (hlen : ∀ sig, parseMethodDescriptor x.desc = some sig → argsL.length = sig.parameters.length) (hW : 2 * 0 + (rest.map fun v => v.category).sum ≤ W) (hd : decode c.code pc = .ok (.invokevirtual index, 3)) (hC : cells + rm.cells ≤ R.cells) (hN : slots + rm.slots ≤ R.slots) :
    ∃ (v : Option Value) (T' : State) (L : List Loc), Stand p l e R s m args below meth c T' (locs ++ L) (cells + rm.cells) (slots + rm.slots) ∧ Q v T'.heap L ∧ ∀ target, Steps p.tables e below (T'.setTop (mkF m (pc + 3) Ls (v.toList ++ rest))) target → Steps p.tables e below (T.setTop (mkF m pc Ls (argsL.reverse ++ .ref b :: rest))) target := by
  obtain ⟨cq, kq, qa, qb, qc⟩ := isOf hZ eT E
  obtain ⟨v, _, ⟨T', L', k', n'⟩, -, X', ⟨L, hQ, h1, h2, h3⟩, st⟩ := X.virtualBackUp hx (x := x) (y := z) (owner := owner) hown (mvT hZ w1) (mvT hZ w2) (mvT hZ w2') hy (mvT hZ w3) (mvT hZ w4) (backOf (W := W) hM hZ w6 w5 hf hl) qa qc (g := mkF m pc Ls (argsL.reverse ++ .ref b :: rest)) rfl hsize (Steps.refl _) (argsL := argsL) (rest := rest) hlen rfl hW hd (fun _ _ => ⟨rfl, eT, hC, hN⟩)
  dsimp only [Pt.U, Pt.locs, Pt.cells, Pt.slots] at X' h1 h2 h3 st hQ
  subst h1 h2 h3
  exact ⟨v, T', L, X', hQ, fun t k => st.trans k⟩
theorem own_kU (X : Stand p l e R s m args below meth c T locs cells slots) (hx : p.tables.exec = Jvm.exec) (hZ : Z.Warmed39 s.vm) {own C owner : String} {index : Nat} {x z : MethodName} {bytes : ByteArray} {maxL : Nat} {ret : Option FieldType} {rm : Room} (hown : s.vm.findClass own = some m.cls)
    (w1 : (Cond.methodLink own index x).before a0 Z = true) (w2 : (Cond.sameMethod x.cls owner x.name x.desc).before a0 Z = true) (w2' : (Cond.declares ⟨owner, x.name, x.desc⟩).before a0 Z = true) (hy : owner ≠ "java/lang/invoke/MethodHandle" ∧ owner ≠ "java/lang/invoke/VarHandle") (w3 : (Cond.selects C x z).before a0 Z = true) (w4 : (Cond.instanceMethod z).before a0 Z = true) (w5 : (Cond.initialized z.cls).before a0 Z = true) (w6 : (Cond.code z bytes maxL ret).before a0 Z = true)
    {Q : Option Value → Heap → List Loc → Prop} (b : Addr) (argsL rest : List Value) (W : Nat) (hM : own_Met l z bytes maxL ret [] rm Z (.ref b :: argsL).toArray h Q) (hf : rm.frames + 1 ≤ R.frames) (hl : W + (maxL + 11) + rm.locals ≤ R.locals) (eT : T.heap = h) (E : Exa Z h b C) {pc : Nat} {Ls : Array Slot} (hsize : Ls.size = c.maxLocals)
    (hlen : ∀ sig, parseMethodDescriptor x.desc = some sig → argsL.length = sig.parameters.length) (hW : 2 * 0 + (rest.map fun v => v.category).sum ≤ W) (hd : decode c.code pc = .ok (.invokevirtual index, 3)) (hC : cells + rm.cells ≤ R.cells) (hN : slots + rm.slots ≤ R.slots) (pc' : Nat) (hp : pc + 3 = pc') {F : State → Prop}
    (k : ∀ (v : Option Value) (T' : State) (L : List Loc), Stand p l e R s m args below meth c T' (locs ++ L) (cells + rm.cells) (slots + rm.slots) → Q v T'.heap L → own_Go p.tables e below F (T'.setTop (mkF m pc' Ls (v.toList ++ rest)))) : own_Go p.tables e below F (T.setTop (mkF m pc Ls (argsL.reverse ++ .ref b :: rest))) := by
  subst hp
  obtain ⟨v, T', L, X', hQ, st⟩ := own_callU X hx hZ hown w1 w2 w2' hy w3 w4 w5 w6 b argsL rest W hM hf hl eT E hsize hlen hW hd hC hN
  exact own_by st (k v T' L X' hQ)
theorem own_callN (X : Stand p l e R s m args below meth c T locs cells slots) (hx : p.tables.exec = Jvm.exec) (hZ : Z.Warmed39 s.vm) {own : String} {index : Nat} {y : MethodName} {bytes : ByteArray} {maxL : Nat} {rm : Room} (hy1 : y.name = "<init>") (hown : s.vm.findClass own = some m.cls)
    (w1 : (Cond.methodLink own index y).before a0 Z = true) (w4 : (Cond.instanceMethod y).before a0 Z = true) (w5 : (Cond.initialized y.cls).before a0 Z = true) (w6 : (Cond.code y bytes maxL none).before a0 Z = true) (hy : y.cls ≠ "java/lang/invoke/MethodHandle" ∧ y.cls ≠ "java/lang/invoke/VarHandle")
    {Q : Option Value → Heap → List Loc → Prop} (b : Addr) (argsL rest : List Value) (W : Nat) (hM : own_Met l y bytes maxL none [] rm Z (.ref b :: argsL).toArray h Q) (hf : rm.frames + 1 ≤ R.frames) (hl : W + (maxL + 11) + rm.locals ≤ R.locals) (eT : T.heap = h) {pc : Nat} {Ls : Array Slot} (hsize : Ls.size = c.maxLocals)
    (hlen : ∀ sig, parseMethodDescriptor y.desc = some sig → argsL.length = sig.parameters.length) (hW : 2 * 0 + (rest.map fun v => v.category).sum ≤ W) (hd : decode c.code pc = .ok (.invokespecial index, 3)) (hC : cells + rm.cells ≤ R.cells) (hN : slots + rm.slots ≤ R.slots) :
    ∃ (v : Option Value) (T' : State) (L : List Loc), Stand p l e R s m args below meth c T' (locs ++ L) (cells + rm.cells) (slots + rm.slots) ∧ Q v T'.heap L ∧ ∀ target, Steps p.tables e below (T'.setTop (mkF m (pc + 3) Ls (v.toList ++ rest))) target → Steps p.tables e below (T.setTop (mkF m pc Ls (argsL.reverse ++ .ref b :: rest))) target := by
  obtain ⟨v, _, ⟨T', L', k', n'⟩, -, X', ⟨L, hQ, h1, h2, h3⟩, st⟩ := X.specialBack hx (y := y) hy1 hown (mvT hZ w1) (mvT hZ w4) (mvT hZ w6) hy (backOf (W := W) hM hZ w6 w5 hf hl) (g := mkF m pc Ls (argsL.reverse ++ .ref b :: rest)) rfl hsize (Steps.refl _) (a := b) (argsL := argsL) (rest := rest) hlen rfl hW hd (fun _ _ => ⟨rfl, eT, hC, hN⟩)
  dsimp only [Pt.U, Pt.locs, Pt.cells, Pt.slots] at X' h1 h2 h3 st hQ
  subst h1 h2 h3
  exact ⟨v, T', L, X', hQ, fun t k => st.trans k⟩
theorem own_kN (X : Stand p l e R s m args below meth c T locs cells slots) (hx : p.tables.exec = Jvm.exec) (hZ : Z.Warmed39 s.vm) {own : String} {index : Nat} {y : MethodName} {bytes : ByteArray} {maxL : Nat} {rm : Room} (hy1 : y.name = "<init>") (hown : s.vm.findClass own = some m.cls)
    (w1 : (Cond.methodLink own index y).before a0 Z = true) (w4 : (Cond.instanceMethod y).before a0 Z = true) (w5 : (Cond.initialized y.cls).before a0 Z = true) (w6 : (Cond.code y bytes maxL none).before a0 Z = true) (hy : y.cls ≠ "java/lang/invoke/MethodHandle" ∧ y.cls ≠ "java/lang/invoke/VarHandle")
    {Q : Option Value → Heap → List Loc → Prop} (b : Addr) (argsL rest : List Value) (W : Nat) (hM : own_Met l y bytes maxL none [] rm Z (.ref b :: argsL).toArray h Q) (hf : rm.frames + 1 ≤ R.frames) (hl : W + (maxL + 11) + rm.locals ≤ R.locals) (eT : T.heap = h) {pc : Nat} {Ls : Array Slot} (hsize : Ls.size = c.maxLocals)
    (hlen : ∀ sig, parseMethodDescriptor y.desc = some sig → argsL.length = sig.parameters.length) (hW : 2 * 0 + (rest.map fun v => v.category).sum ≤ W) (hd : decode c.code pc = .ok (.invokespecial index, 3)) (hC : cells + rm.cells ≤ R.cells) (hN : slots + rm.slots ≤ R.slots) (pc' : Nat) (hp : pc + 3 = pc') {F : State → Prop}
    (k : ∀ (v : Option Value) (T' : State) (L : List Loc), Stand p l e R s m args below meth c T' (locs ++ L) (cells + rm.cells) (slots + rm.slots) → Q v T'.heap L → own_Go p.tables e below F (T'.setTop (mkF m pc' Ls (v.toList ++ rest)))) : own_Go p.tables e below F (T.setTop (mkF m pc Ls (argsL.reverse ++ .ref b :: rest))) := by
  subst hp
  obtain ⟨v, T', L, X', hQ, st⟩ := own_callN X hx hZ hy1 hown w1 w4 w5 w6 hy b argsL rest W hM hf hl eT hsize hlen hW hd hC hN
  exact own_by st (k v T' L X' hQ)
abbrev own_HW (Z : State) (a0 : Array Value) : Prop := ∀ d ∈ tables_1, d.before a0 Z = true
theorem own_w {a0 : Array Value} {Z : State} (hw : ∀ d ∈ tables_1, d.before a0 Z = true) (i : Nat) {d : Jvm.Cond} (q : tables_1[i]? = some d) : d.before a0 Z = true := hw _ (List.mem_of_getElem? q)
/-- a body that writes nothing and makes nothing -/
def own_R (r : Option Value) (h0 : Heap) (v : Option Value) (h : Heap) (L : List Loc) : Prop := v = r ∧ h = h0 ∧ L = []
theorem own_same {rm : Room} {T' : State} {L : List Loc} (hc : rm.cells = 0) (hs : rm.slots = 0) (X : Stand p l e R s m args below meth c T' (locs ++ L) (cells + rm.cells) (slots + rm.slots)) (q : L = []) : Stand p l e R s m args below meth c T' locs cells slots := by
  subst q
  rw [hc, hs, List.append_nil] at X
  exact X
theorem own_pureS (X : Stand p l e R s m args below meth c T locs cells slots) (hx : p.tables.exec = Jvm.exec) {F : State → Prop} (hZ : Z.Warmed39 s.vm) {own : String} {index : Nat} {y : MethodName} {bytes : ByteArray} {maxL : Nat} {ret : Option FieldType} {rm : Room} (hown : s.vm.findClass own = some m.cls)
    (w1 : (Cond.methodLink own index y).before a0 Z = true) (w2 : (Cond.static y).before a0 Z = true) (w3 : (Cond.initialized y.cls).before a0 Z = true) (w4 : (Cond.code y bytes maxL ret).before a0 Z = true) (hy : y.cls ≠ "java/lang/invoke/MethodHandle" ∧ y.cls ≠ "java/lang/invoke/VarHandle")
    (argsL rest : List Value) (W : Nat) {r : Value} (hM : own_Met l y bytes maxL ret [] rm Z argsL.toArray h (own_R (some r) h)) (hf : rm.frames + 1 ≤ R.frames) (hl : W + (maxL + 11) + rm.locals ≤ R.locals) (hc0 : rm.cells = 0) (hs0 : rm.slots = 0) (eT : T.heap = h) {pc : Nat} {Ls : Array Slot} (hsize : Ls.size = c.maxLocals)
    (hlen : ∀ sig, parseMethodDescriptor y.desc = some sig → argsL.length = sig.parameters.length) (hW : 2 * 0 + (rest.map fun v => v.category).sum ≤ W) (hd : decode c.code pc = .ok (.invokestatic index, 3)) (pc' : Nat) (hp : pc + 3 = pc') {St : List Value} (hs : St = argsL.reverse ++ rest) (hC : cells ≤ R.cells) (hN : slots ≤ R.slots)
    (k : ∀ T', Stand p l e R s m args below meth c T' locs cells slots → T'.heap = h → own_Go p.tables e below F (T'.setTop (mkF m pc' Ls (r :: rest)))) : own_Go p.tables e below F (T.setTop (mkF m pc Ls St)) := by
  subst hp hs
  obtain ⟨v, T', L, X', ⟨q1, q2, q3⟩, st⟩ := own_callS X hx hZ hown w1 w2 w3 w4 hy argsL rest W hM hf hl eT hsize hlen hW hd (by rw [hc0]; exact hC) (by rw [hs0]; exact hN)
  subst q1
  exact own_by st (k T' (own_same hc0 hs0 X' q3) q2)
theorem own_pureV (X : Stand p l e R s m args below meth c T locs cells slots) (hx : p.tables.exec = Jvm.exec) {F : State → Prop} (hZ : Z.Warmed39 s.vm) {own C : String} {index : Nat} {y z : MethodName} {bytes : ByteArray} {maxL : Nat} {ret : Option FieldType} {rm : Room} (hown : s.vm.findClass own = some m.cls)
    (w1 : (Cond.methodLink own index y).before a0 Z = true) (w2 : (Cond.declares y).before a0 Z = true) (hnf : NotFace s y) (w3 : (Cond.selects C y z).before a0 Z = true) (w4 : (Cond.instanceMethod z).before a0 Z = true) (w5 : (Cond.initialized z.cls).before a0 Z = true) (w6 : (Cond.code z bytes maxL ret).before a0 Z = true) (hy : y.cls ≠ "java/lang/invoke/MethodHandle" ∧ y.cls ≠ "java/lang/invoke/VarHandle")
    (b : Addr) (argsL rest : List Value) (W : Nat) {r : Value} (hM : own_Met l z bytes maxL ret [] rm Z (.ref b :: argsL).toArray h (own_R (some r) h)) (hf : rm.frames + 1 ≤ R.frames) (hl : W + (maxL + 11) + rm.locals ≤ R.locals) (hc0 : rm.cells = 0) (hs0 : rm.slots = 0) (eT : T.heap = h) (E : Exa Z h b C) {pc : Nat} {Ls : Array Slot} (hsize : Ls.size = c.maxLocals)
    (hlen : ∀ sig, parseMethodDescriptor y.desc = some sig → argsL.length = sig.parameters.length) (hW : 2 * 0 + (rest.map fun v => v.category).sum ≤ W) (hd : decode c.code pc = .ok (.invokevirtual index, 3)) (pc' : Nat) (hp : pc + 3 = pc') {St : List Value} (hs : St = argsL.reverse ++ .ref b :: rest) (hC : cells ≤ R.cells) (hN : slots ≤ R.slots)
    (k : ∀ T', Stand p l e R s m args below meth c T' locs cells slots → T'.heap = h → own_Go p.tables e below F (T'.setTop (mkF m pc' Ls (r :: rest)))) : own_Go p.tables e below F (T.setTop (mkF m pc Ls St)) := by
  subst hp hs
  obtain ⟨v, T', L, X', ⟨q1, q2, q3⟩, st⟩ := own_callV X hx hZ hown w1 w2 hnf w3 w4 w5 w6 hy b argsL rest W hM hf hl eT E hsize hlen hW hd (by rw [hc0]; exact hC) (by rw [hs0]; exact hN)
  subst q1
  exact own_by st (k T' (own_same hc0 hs0 X' q3) q2)
theorem own_pureU (X : Stand p l e R s m args below meth c T locs cells slots) (hx : p.tables.exec = Jvm.exec) {F : State → Prop} (hZ : Z.Warmed39 s.vm) {own C owner : String} {index : Nat} {x z : MethodName} {bytes : ByteArray} {maxL : Nat} {ret : Option FieldType} {rm : Room} (hown : s.vm.findClass own = some m.cls)
    (w1 : (Cond.methodLink own index x).before a0 Z = true) (w2 : (Cond.sameMethod x.cls owner x.name x.desc).before a0 Z = true) (w2' : (Cond.declares ⟨owner, x.name, x.desc⟩).before a0 Z = true) (hy : owner ≠ "java/lang/invoke/MethodHandle" ∧ owner ≠ "java/lang/invoke/VarHandle") (w3 : (Cond.selects C x z).before a0 Z = true) (w4 : (Cond.instanceMethod z).before a0 Z = true) (w5 : (Cond.initialized z.cls).before a0 Z = true) (w6 : (Cond.code z bytes maxL ret).before a0 Z = true)
    (b : Addr) (argsL rest : List Value) (W : Nat) {r : Value} (hM : own_Met l z bytes maxL ret [] rm Z (.ref b :: argsL).toArray h (own_R (some r) h)) (hf : rm.frames + 1 ≤ R.frames) (hl : W + (maxL + 11) + rm.locals ≤ R.locals) (hc0 : rm.cells = 0) (hs0 : rm.slots = 0) (eT : T.heap = h) (E : Exa Z h b C) {pc : Nat} {Ls : Array Slot} (hsize : Ls.size = c.maxLocals)
    (hlen : ∀ sig, parseMethodDescriptor x.desc = some sig → argsL.length = sig.parameters.length) (hW : 2 * 0 + (rest.map fun v => v.category).sum ≤ W) (hd : decode c.code pc = .ok (.invokevirtual index, 3)) (pc' : Nat) (hp : pc + 3 = pc') {St : List Value} (hs : St = argsL.reverse ++ .ref b :: rest) (hC : cells ≤ R.cells) (hN : slots ≤ R.slots)
    (k : ∀ T', Stand p l e R s m args below meth c T' locs cells slots → T'.heap = h → own_Go p.tables e below F (T'.setTop (mkF m pc' Ls (r :: rest)))) : own_Go p.tables e below F (T.setTop (mkF m pc Ls St)) := by
  subst hp hs
  obtain ⟨v, T', L, X', ⟨q1, q2, q3⟩, st⟩ := own_callU X hx hZ hown w1 w2 w2' hy w3 w4 w5 w6 b argsL rest W hM hf hl eT E hsize hlen hW hd (by rw [hc0]; exact hC) (by rw [hs0]; exact hN)
  subst q1
  exact own_by st (k T' (own_same hc0 hs0 X' q3) q2)
theorem own_voidS (X : Stand p l e R s m args below meth c T locs cells slots) (hx : p.tables.exec = Jvm.exec) {F : State → Prop} (hZ : Z.Warmed39 s.vm) {own : String} {index : Nat} {y : MethodName} {bytes : ByteArray} {maxL : Nat} {ret : Option FieldType} {rm : Room} (hown : s.vm.findClass own = some m.cls)
    (w1 : (Cond.methodLink own index y).before a0 Z = true) (w2 : (Cond.static y).before a0 Z = true) (w3 : (Cond.initialized y.cls).before a0 Z = true) (w4 : (Cond.code y bytes maxL ret).before a0 Z = true) (hy : y.cls ≠ "java/lang/invoke/MethodHandle" ∧ y.cls ≠ "java/lang/invoke/VarHandle")
    (argsL rest : List Value) (W : Nat) (hM : own_Met l y bytes maxL ret [] rm Z argsL.toArray h (own_R none h)) (hf : rm.frames + 1 ≤ R.frames) (hl : W + (maxL + 11) + rm.locals ≤ R.locals) (hc0 : rm.cells = 0) (hs0 : rm.slots = 0) (eT : T.heap = h) {pc : Nat} {Ls : Array Slot} (hsize : Ls.size = c.maxLocals)
    (hlen : ∀ sig, parseMethodDescriptor y.desc = some sig → argsL.length = sig.parameters.length) (hW : 2 * 0 + (rest.map fun v => v.category).sum ≤ W) (hd : decode c.code pc = .ok (.invokestatic index, 3)) (pc' : Nat) (hp : pc + 3 = pc') {St : List Value} (hs : St = argsL.reverse ++ rest) (hC : cells ≤ R.cells) (hN : slots ≤ R.slots)
    (k : ∀ T', Stand p l e R s m args below meth c T' locs cells slots → T'.heap = h → own_Go p.tables e below F (T'.setTop (mkF m pc' Ls rest))) : own_Go p.tables e below F (T.setTop (mkF m pc Ls St)) := by
  subst hp hs
  obtain ⟨v, T', L, X', ⟨q1, q2, q3⟩, st⟩ := own_callS X hx hZ hown w1 w2 w3 w4 hy argsL rest W hM hf hl eT hsize hlen hW hd (by rw [hc0]; exact hC) (by rw [hs0]; exact hN)
  subst q1
  exact own_by st (k T' (own_same hc0 hs0 X' q3) q2)
theorem own_voidV (X : Stand p l e R s m args below meth c T locs cells slots) (hx : p.tables.exec = Jvm.exec) {F : State → Prop} (hZ : Z.Warmed39 s.vm) {own C : String} {index : Nat} {y z : MethodName} {bytes : ByteArray} {maxL : Nat} {ret : Option FieldType} {rm : Room} (hown : s.vm.findClass own = some m.cls)
    (w1 : (Cond.methodLink own index y).before a0 Z = true) (w2 : (Cond.declares y).before a0 Z = true) (hnf : NotFace s y) (w3 : (Cond.selects C y z).before a0 Z = true) (w4 : (Cond.instanceMethod z).before a0 Z = true) (w5 : (Cond.initialized z.cls).before a0 Z = true) (w6 : (Cond.code z bytes maxL ret).before a0 Z = true) (hy : y.cls ≠ "java/lang/invoke/MethodHandle" ∧ y.cls ≠ "java/lang/invoke/VarHandle")
    (b : Addr) (argsL rest : List Value) (W : Nat) (hM : own_Met l z bytes maxL ret [] rm Z (.ref b :: argsL).toArray h (own_R none h)) (hf : rm.frames + 1 ≤ R.frames) (hl : W + (maxL + 11) + rm.locals ≤ R.locals) (hc0 : rm.cells = 0) (hs0 : rm.slots = 0) (eT : T.heap = h) (E : Exa Z h b C) {pc : Nat} {Ls : Array Slot} (hsize : Ls.size = c.maxLocals)
    (hlen : ∀ sig, parseMethodDescriptor y.desc = some sig → argsL.length = sig.parameters.length) (hW : 2 * 0 + (rest.map fun v => v.category).sum ≤ W) (hd : decode c.code pc = .ok (.invokevirtual index, 3)) (pc' : Nat) (hp : pc + 3 = pc') {St : List Value} (hs : St = argsL.reverse ++ .ref b :: rest) (hC : cells ≤ R.cells) (hN : slots ≤ R.slots)
    (k : ∀ T', Stand p l e R s m args below meth c T' locs cells slots → T'.heap = h → own_Go p.tables e below F (T'.setTop (mkF m pc' Ls rest))) : own_Go p.tables e below F (T.setTop (mkF m pc Ls St)) := by
  subst hp hs
  obtain ⟨v, T', L, X', ⟨q1, q2, q3⟩, st⟩ := own_callV X hx hZ hown w1 w2 hnf w3 w4 w5 w6 hy b argsL rest W hM hf hl eT E hsize hlen hW hd (by rw [hc0]; exact hC) (by rw [hs0]; exact hN)
  subst q1
  exact own_by st (k T' (own_same hc0 hs0 X' q3) q2)
theorem own_voidN (X : Stand p l e R s m args below meth c T locs cells slots) (hx : p.tables.exec = Jvm.exec) {F : State → Prop} (hZ : Z.Warmed39 s.vm) {own : String} {index : Nat} {y : MethodName} {bytes : ByteArray} {maxL : Nat} {rm : Room} (hy1 : y.name = "<init>") (hown : s.vm.findClass own = some m.cls)
    (w1 : (Cond.methodLink own index y).before a0 Z = true) (w4 : (Cond.instanceMethod y).before a0 Z = true) (w5 : (Cond.initialized y.cls).before a0 Z = true) (w6 : (Cond.code y bytes maxL none).before a0 Z = true) (hy : y.cls ≠ "java/lang/invoke/MethodHandle" ∧ y.cls ≠ "java/lang/invoke/VarHandle")
    (b : Addr) (argsL rest : List Value) (W : Nat) (hM : own_Met l y bytes maxL none [] rm Z (.ref b :: argsL).toArray h (own_R none h)) (hf : rm.frames + 1 ≤ R.frames) (hl : W + (maxL + 11) + rm.locals ≤ R.locals) (hc0 : rm.cells = 0) (hs0 : rm.slots = 0) (eT : T.heap = h) {pc : Nat} {Ls : Array Slot} (hsize : Ls.size = c.maxLocals)
    (hlen : ∀ sig, parseMethodDescriptor y.desc = some sig → argsL.length = sig.parameters.length) (hW : 2 * 0 + (rest.map fun v => v.category).sum ≤ W) (hd : decode c.code pc = .ok (.invokespecial index, 3)) (pc' : Nat) (hp : pc + 3 = pc') {St : List Value} (hs : St = argsL.reverse ++ .ref b :: rest) (hC : cells ≤ R.cells) (hN : slots ≤ R.slots)
    (k : ∀ T', Stand p l e R s m args below meth c T' locs cells slots → T'.heap = h → own_Go p.tables e below F (T'.setTop (mkF m pc' Ls rest))) : own_Go p.tables e below F (T.setTop (mkF m pc Ls St)) := by
  subst hp hs
  obtain ⟨v, T', L, X', ⟨q1, q2, q3⟩, st⟩ := own_callN X hx hZ hy1 hown w1 w4 w5 w6 hy b argsL rest W hM hf hl eT hsize hlen hW hd (by rw [hc0]; exact hC) (by rw [hs0]; exact hN)
  subst q1
  exact own_by st (k T' (own_same hc0 hs0 X' q3) q2)
def own_Q0 (n0 : Nat) (v : Option Value) (h : Heap) (L : List Loc) : Prop := v = some (.int 1) ∧ Fr n0 L
end OwnHead
section OwnHeap
variable {p : Program} {l : Launch} {e : Env} {R : Room} {s : State} {m : MethodId} {args : Array Value} {below : List Frame} {meth : Method} {c : Code} {T : State} {locs : List Loc} {cells slots : Nat} {Z : State} {a0 : Array Value} {h : Heap}
theorem own_osz {n0 : Nat} (O : Old Z n0 h) : n0 ≤ h.size := O.1 ▸ O.2.1
theorem own_newO (X : Stand p l e R s m args below meth c T locs cells slots) (hx : p.tables.exec = Jvm.exec) {F : State → Prop} {pc : Nat} {Ls : Array Slot} {St : List Value} (hZ : Z.Warmed39 s.vm) {own C : String} {i n : Nat} (hown : s.vm.findClass own = some m.cls) (w : (Cond.classLink own i C).before a0 Z = true) (wi : (Cond.instantiable C n).before a0 Z = true) (wz : (Cond.initialized C).before a0 Z = true) (eT : T.heap = h)
    (hd : decode c.code pc = .ok (.new i, 3)) (pc' : Nat) (hp : pc + 3 = pc') (hC : cells + 1 ≤ R.cells) (hN : slots + n ≤ R.slots)
    (k : ∀ (T' : State) (a : Addr), h.size = a → Stand p l e R s m args below meth c T' locs (cells + 1) (slots + n) → Ext h T'.heap → Exa Z T'.heap a C → (∀ {O nm d : String} {ty : FieldType}, Laid Z a0 C O nm d → parseFieldDescriptor d = some ty → Fld Z T'.heap a O nm d (defaultValue ty)) → own_Go p.tables e below F (T'.setTop (mkF m pc' Ls (.ref a :: St)))) :
    own_Go p.tables e below F (T.setTop (mkF m pc Ls St)) := by
  subst hp
  obtain ⟨T', h', X', e', E, A, D, -, st⟩ := newO X hx hZ hown w wi wz eT (g := mkF m pc Ls St) rfl hd hC hN
  subst e'
  exact own_by st (k T' h.size rfl X' E A fun q r => D q r)
theorem own_fo {h h' : Heap} {a b : Addr} {sl : Nat} {v w : Value} {C n d : String} (F : Fld Z h b C n d w) (W : Wr h h' a sl v) (q : a ≠ b) : Fld Z h' b C n d w := F.other W (Or.inl q.symm)
theorem own_vo {h h' : Heap} {a b : Addr} {k : ClassId} {ty : FieldType} {z : Int32} {vs : List Value} {dv : Value} {sl : Nat} {v : Value} (F : Arv Z h b k ty z vs dv) (W : Wr h h' a sl v) (q : a ≠ b) : Arv Z h' b k ty z vs dv := F.other W q.symm
theorem own_nl {a b n k : Nat} (h1 : a < n) (h2 : n ≤ k) (h3 : k ≤ b) : a ≠ b := Nat.ne_of_lt (Nat.lt_of_lt_of_le h1 (Nat.le_trans h2 h3))
theorem own_putF (X : Stand p l e R s m args below meth c T locs cells slots) (hx : p.tables.exec = Jvm.exec) {F : State → Prop} {pc : Nat} {Ls : Array Slot} {St : List Value} (hZ : Z.Warmed39 s.vm) {own R0 O n d host C : String} {i kk : Nat} {ty : FieldType} (hown : s.vm.findClass own = some m.cls)
    (w : (Cond.fieldLink own i R0 n d).before a0 Z = true ∨ (Cond.fieldLinkNest own i R0 n d host).before a0 Z = true) (via : Via Z R0 O n d) (eT : T.heap = h) {a : Addr} {v old : Value} (G : Fld Z h a O n d old) (E : Exa Z h a C) (L : (Cond.lays C O n d).before a0 Z = true ∨ ((Cond.laysFinal C O n d).before a0 Z = true ∧ own = O ∧ meth.name = "<init>")) (wi : (Cond.instantiable C kk).before a0 Z = true)
    (hty : parseFieldDescriptor d = some ty) (hn : narrow ty v = v) (hf : fits ty v = true) (hd : decode c.code pc = .ok (.putfield i, 3)) (pc' : Nat) (hp : pc + 3 = pc')
    (k : ∀ (T' : State), Stand p l e R s m args below meth c T' (locs ++ [⟨a, Jvm.RoadKit.slotOf Z O n d⟩]) cells slots → Wr h T'.heap a (Jvm.RoadKit.slotOf Z O n d) v → own_Go p.tables e below F (T'.setTop (mkF m pc' Ls St))) :
    own_Go p.tables e below F (T.setTop (mkF m pc Ls (v :: .ref a :: St))) := by
  subst hp
  obtain ⟨T', h', X', e', W, st⟩ := putF X hx hZ hown w via eT G E L wi hty hn hf (g := mkF m pc Ls (v :: .ref a :: St)) rfl rfl hd
  subst e'
  exact own_by st (k T' X' W)
theorem own_putFN (X : Stand p l e R s m args below meth c T locs cells slots) (hx : p.tables.exec = Jvm.exec) {F : State → Prop} {pc : Nat} {Ls : Array Slot} {St : List Value} (hZ : Z.Warmed39 s.vm) {own R0 O n d C : String} {i kk : Nat} {ty : FieldType} (hown : s.vm.findClass own = some m.cls)
    (w : (Cond.fieldLink own i R0 n d).before a0 Z = true) (via : Via Z R0 O n d) (eT : T.heap = h) {a : Addr} {v old : Value} (v' : Value) (G : Fld Z h a O n d old) (E : Exa Z h a C) (L : (Cond.lays C O n d).before a0 Z = true ∨ ((Cond.laysFinal C O n d).before a0 Z = true ∧ own = O ∧ meth.name = "<init>")) (wi : (Cond.instantiable C kk).before a0 Z = true)
    (hty : parseFieldDescriptor d = some ty) (hn : narrow ty v = v') (hf : fits ty v' = true) (hd : decode c.code pc = .ok (.putfield i, 3)) (pc' : Nat) (hp : pc + 3 = pc')
    (k : ∀ (T' : State), Stand p l e R s m args below meth c T' (locs ++ [⟨a, Jvm.RoadKit.slotOf Z O n d⟩]) cells slots → Wr h T'.heap a (Jvm.RoadKit.slotOf Z O n d) v' → own_Go p.tables e below F (T'.setTop (mkF m pc' Ls St))) :
    own_Go p.tables e below F (T.setTop (mkF m pc Ls (v :: .ref a :: St))) := by
  subst hp
  obtain ⟨T', h', X', e', W, st⟩ := putFN X hx hZ hown w via eT G E L wi hty hn hf (g := mkF m pc Ls (v :: .ref a :: St)) rfl rfl hd
  subst e'
  exact own_by st (k T' X' W)
theorem own_initO (X : Stand p l e R s m args below meth c T locs cells slots) (hx : p.tables.exec = Jvm.exec) {F : State → Prop} {pc : Nat} {Ls : Array Slot} {St : List Value} (hZ : Z.Warmed39 s.vm) {own : String} {i : Nat} (hown : s.vm.findClass own = some m.cls) (w1 : (Cond.methodLink own i Lib.objectInit).before a0 Z = true) (w2 : (Cond.instanceMethod Lib.objectInit).before a0 Z = true)
    (w3 : (Cond.code Lib.objectInit ⟨#[0xb1]⟩ 1 none).before a0 Z = true) (eT : T.heap = h) (hsize : Ls.size = c.maxLocals) {a : Addr} (hd : decode c.code pc = .ok (.invokespecial i, 3)) (hf : 1 ≤ R.frames) (W : Nat) (hW : 2 * 0 + (St.map fun v => v.category).sum ≤ W) (hl : W + 12 ≤ R.locals) (pc' : Nat) (hp : pc + 3 = pc')
    (k : ∀ T', Stand p l e R s m args below meth c T' locs cells slots → T'.heap = h → own_Go p.tables e below F (T'.setTop (mkF m pc' Ls St))) : own_Go p.tables e below F (T.setTop (mkF m pc Ls (.ref a :: St))) := by
  subst hp
  obtain ⟨T', X', e', st⟩ := initO X hx hZ hown w1 w2 w3 eT (g := mkF m pc Ls (.ref a :: St)) rfl hsize rfl hd hf hW hl
  exact own_by st (k T' X' e')
theorem own_newP (X : Stand p l e R s m args below meth c T locs cells slots) (hx : p.tables.exec = Jvm.exec) {F : State → Prop} {pc : Nat} {Ls : Array Slot} {St : List Value} (hZ : Z.Warmed39 s.vm) {aty : ArrayType} (w : (Cond.arrayClass (newarray.typeOf aty)).before a0 Z = true) (eT : T.heap = h) (hd : decode c.code pc = .ok (.newarray aty, 2)) {n : Int32}
    (hn : ¬ n < 0) (cap : Nat) (hcap : n.toNatClampNeg ≤ cap) (hb : cap * 8 ≤ 536870912) (hC : cells + 1 ≤ R.cells) (hN : slots + cap ≤ R.slots) (ad : String) (had : "[" ++ (newarray.typeOf aty).toString = ad) (pc' : Nat) (hp : pc + 2 = pc')
    (k : ∀ (T' : State) (a : Addr) (cA : ClassId), h.size = a → Stand p l e R s m args below meth c T' locs (cells + 1) (slots + cap) → Ext h T'.heap → Arv Z T'.heap a cA (newarray.typeOf aty) n [] (defaultValue (newarray.typeOf aty)) → Exa Z T'.heap a ad → own_Go p.tables e below F (T'.setTop (mkF m pc' Ls (.ref a :: St)))) :
    own_Go p.tables e below F (T.setTop (mkF m pc Ls (.int n :: St))) := by
  subst hp
  obtain ⟨T', h', cA, X', e', E, A, D, st⟩ := newPE X hx hZ w eT (g := mkF m pc Ls (.int n :: St)) rfl hd rfl hn hcap hb hC hN had
  subst e'
  exact own_by st (k T' h.size cA rfl X' E (Arv.new A hn) D)
theorem own_newR (X : Stand p l e R s m args below meth c T locs cells slots) (hx : p.tables.exec = Jvm.exec) {F : State → Prop} {pc : Nat} {Ls : Array Slot} {St : List Value} (hZ : Z.Warmed39 s.vm) {own C : String} {i : Nat} (hown : s.vm.findClass own = some m.cls) (w1 : (Cond.classLink own i C).before a0 Z = true) (w2 : (Cond.arrayOver (.object C)).before a0 Z = true) (eT : T.heap = h) (hd : decode c.code pc = .ok (.anewarray i, 3)) {n : Int32}
    (hn : ¬ n < 0) (cap : Nat) (hcap : n.toNatClampNeg ≤ cap) (hb : cap * 8 ≤ 536870912) (hC : cells + 1 ≤ R.cells) (hN : slots + cap ≤ R.slots) (ad : String) (had : "[" ++ (FieldType.object C).toString = ad) (pc' : Nat) (hp : pc + 3 = pc')
    (k : ∀ (T' : State) (a : Addr) (cA : ClassId), h.size = a → Stand p l e R s m args below meth c T' locs (cells + 1) (slots + cap) → Ext h T'.heap → Arv Z T'.heap a cA (.object C) n [] .null → Exa Z T'.heap a ad → Ovr Z cA C → own_Go p.tables e below F (T'.setTop (mkF m pc' Ls (.ref a :: St)))) :
    own_Go p.tables e below F (T.setTop (mkF m pc Ls (.int n :: St))) := by
  subst hp
  obtain ⟨T', h', cA, X', e', E, A, D, O, st⟩ := newRE X hx hZ hown w1 w2 eT (g := mkF m pc Ls (.int n :: St)) rfl hd rfl hn hcap hb hC hN had
  subst e'
  exact own_by st (k T' h.size cA rfl X' E (Arv.new A hn) D O)
theorem own_newRA (X : Stand p l e R s m args below meth c T locs cells slots) (hx : p.tables.exec = Jvm.exec) {F : State → Prop} {pc : Nat} {Ls : Array Slot} {St : List Value} (hZ : Z.Warmed39 s.vm) {own C : String} {ty : FieldType} {i : Nat} (hown : s.vm.findClass own = some m.cls) (hCn : (FieldType.array ty).toString = C) (w1 : (Cond.classLink own i C).before a0 Z = true) (w2 : (Cond.arrayOver (.array ty)).before a0 Z = true) (eT : T.heap = h) (hd : decode c.code pc = .ok (.anewarray i, 3)) {n : Int32}
    (hn : ¬ n < 0) (cap : Nat) (hcap : n.toNatClampNeg ≤ cap) (hb : cap * 8 ≤ 536870912) (hC : cells + 1 ≤ R.cells) (hN : slots + cap ≤ R.slots) (ad : String) (had : "[" ++ C = ad) (pc' : Nat) (hp : pc + 3 = pc')
    (k : ∀ (T' : State) (a : Addr) (cA : ClassId), h.size = a → Stand p l e R s m args below meth c T' locs (cells + 1) (slots + cap) → Ext h T'.heap → Arv Z T'.heap a cA (.array ty) n [] .null → Exa Z T'.heap a ad → OvrA Z cA ty C → own_Go p.tables e below F (T'.setTop (mkF m pc' Ls (.ref a :: St)))) :
    own_Go p.tables e below F (T.setTop (mkF m pc Ls (.int n :: St))) := by
  subst hp
  obtain ⟨T', h', cA, X', e', E, A, D, O, st⟩ := newRA X hx hZ hown hCn w1 w2 eT (g := mkF m pc Ls (.int n :: St)) rfl hd rfl hn hcap hb hC hN had
  subst e'
  exact own_by st (k T' h.size cA rfl X' E (Arv.new A hn) D O)
theorem own_iastore (X : Stand p l e R s m args below meth c T locs cells slots) (hx : p.tables.exec = Jvm.exec) {F : State → Prop} {pc : Nat} {Ls : Array Slot} {St : List Value} (hZ : Z.Warmed39 s.vm) (eT : T.heap = h) {a : Addr} {ka : ClassId} {n j x : Int32} {vs : List Value} {dv : Value} (V : Arv Z h a ka .int n vs dv) (i : Nat) (hj : j.toNatClampNeg = i) (hb : ¬ j < 0 ∧ j < n) (hi : i < vs.length) (vs' : List Value) (hvs : vs.set i (.int x) = vs')
    (hd : decode c.code pc = .ok (.iastore, 1)) (pc' : Nat) (hp : pc + 1 = pc') (k : ∀ (T' : State), Stand p l e R s m args below meth c T' (locs ++ [⟨a, j.toNatClampNeg⟩]) cells slots → Wr h T'.heap a j.toNatClampNeg (.int x) → Arv Z T'.heap a ka .int n vs' dv → own_Go p.tables e below F (T'.setTop (mkF m pc' Ls St))) :
    own_Go p.tables e below F (T.setTop (mkF m pc Ls (.int x :: .int j :: .ref a :: St))) := by
  subst hp hvs
  obtain ⟨cl, A, q1, S, N, H, G⟩ := V
  obtain ⟨T', h', X', e', W, st⟩ := stI X hx hZ eT A (j := j) (inb_of S hb) (g := mkF m pc Ls (.int x :: .int j :: .ref a :: St)) rfl rfl hd
  subst e'
  exact own_by st (k T' X' W (Arv.set A q1 S N H G rfl W i hj hi))
theorem own_lastore (X : Stand p l e R s m args below meth c T locs cells slots) (hx : p.tables.exec = Jvm.exec) {F : State → Prop} {pc : Nat} {Ls : Array Slot} {St : List Value} (hZ : Z.Warmed39 s.vm) (eT : T.heap = h) {a : Addr} {ka : ClassId} {n j : Int32} {x : Int64} {vs : List Value} {dv : Value} (V : Arv Z h a ka .long n vs dv) (i : Nat) (hj : j.toNatClampNeg = i) (hb : ¬ j < 0 ∧ j < n) (hi : i < vs.length) (vs' : List Value) (hvs : vs.set i (.long x) = vs')
    (hd : decode c.code pc = .ok (.lastore, 1)) (pc' : Nat) (hp : pc + 1 = pc') (k : ∀ (T' : State), Stand p l e R s m args below meth c T' (locs ++ [⟨a, j.toNatClampNeg⟩]) cells slots → Wr h T'.heap a j.toNatClampNeg (.long x) → Arv Z T'.heap a ka .long n vs' dv → own_Go p.tables e below F (T'.setTop (mkF m pc' Ls St))) :
    own_Go p.tables e below F (T.setTop (mkF m pc Ls (.long x :: .int j :: .ref a :: St))) := by
  subst hp hvs
  obtain ⟨cl, A, q1, S, N, H, G⟩ := V
  obtain ⟨T', h', X', e', W, st⟩ := stJ X hx hZ eT A (j := j) (inb_of S hb) (g := mkF m pc Ls (.long x :: .int j :: .ref a :: St)) rfl rfl hd
  subst e'
  exact own_by st (k T' X' W (Arv.set A q1 S N H G rfl W i hj hi))
theorem own_aastore (X : Stand p l e R s m args below meth c T locs cells slots) (hx : p.tables.exec = Jvm.exec) {F : State → Prop} {pc : Nat} {Ls : Array Slot} {St : List Value} (hZ : Z.Warmed39 s.vm) (eT : T.heap = h) {a : Addr} {ka : ClassId} {ty : FieldType} {n j : Int32} {v : Value} {vs : List Value} {dv : Value} (V : Arv Z h a ka ty n vs dv) (hty : ty.isReference = true) (hv : fits ty v = true) (so : ∀ cl : Cell, Arr Z h a cl ty → cl.cls = ka → Sto Z h a v) (i : Nat) (hj : j.toNatClampNeg = i) (hb : ¬ j < 0 ∧ j < n) (hi : i < vs.length) (vs' : List Value) (hvs : vs.set i v = vs')
    (hd : decode c.code pc = .ok (.aastore, 1)) (pc' : Nat) (hp : pc + 1 = pc') (k : ∀ (T' : State), Stand p l e R s m args below meth c T' (locs ++ [⟨a, j.toNatClampNeg⟩]) cells slots → Wr h T'.heap a j.toNatClampNeg v → Arv Z T'.heap a ka ty n vs' dv → own_Go p.tables e below F (T'.setTop (mkF m pc' Ls St))) :
    own_Go p.tables e below F (T.setTop (mkF m pc Ls (v :: .int j :: .ref a :: St))) := by
  subst hp hvs
  obtain ⟨cl, A, q1, S, N, H, G⟩ := V
  obtain ⟨T', h', X', e', W, st⟩ := stR X hx hZ eT A (j := j) (inb_of S hb) hty (so cl A q1) (g := mkF m pc Ls (v :: .int j :: .ref a :: St)) rfl rfl hd
  subst e'
  exact own_by st (k T' X' W (Arv.set A q1 S N H G hv W i hj hi))
theorem own_iaload (X : Stand p l e R s m args below meth c T locs cells slots) (hx : p.tables.exec = Jvm.exec) {F : State → Prop} {pc : Nat} {Ls : Array Slot} {St : List Value} (hZ : Z.Warmed39 s.vm) (eT : T.heap = h) {a : Addr} {ka : ClassId} {n j : Int32} {vs : List Value} {dv : Value} (V : Arv Z h a ka .int n vs dv) (v : Value) (hb : ¬ j < 0 ∧ j < n) (u : vs.getD j.toNatClampNeg dv = v) (hd : decode c.code pc = .ok (.iaload, 1)) (pc' : Nat) (hp : pc + 1 = pc')
    (k : own_Go p.tables e below F (T.setTop (mkF m pc' Ls (v :: St)))) : own_Go p.tables e below F (T.setTop (mkF m pc Ls (.int j :: .ref a :: St))) := by
  subst hp
  obtain ⟨cl, A, q1, S, N, H, G⟩ := V
  exact own_by (fun _ q => X.iaload hx (j := j) (v := v) (by rw [eT]; exact A.1) (State.isArrayOf_alike hZ.alike A.2.1) A.2.2 (inb_of S hb) (H.at (inb_of S hb) u) (g := mkF m pc Ls (.int j :: .ref a :: St)) rfl rfl hd _ q) k
theorem own_laload (X : Stand p l e R s m args below meth c T locs cells slots) (hx : p.tables.exec = Jvm.exec) {F : State → Prop} {pc : Nat} {Ls : Array Slot} {St : List Value} (hZ : Z.Warmed39 s.vm) (eT : T.heap = h) {a : Addr} {ka : ClassId} {n j : Int32} {vs : List Value} {dv : Value} (V : Arv Z h a ka .long n vs dv) (v : Value) (hb : ¬ j < 0 ∧ j < n) (u : vs.getD j.toNatClampNeg dv = v) (hd : decode c.code pc = .ok (.laload, 1)) (pc' : Nat) (hp : pc + 1 = pc')
    (k : own_Go p.tables e below F (T.setTop (mkF m pc' Ls (v :: St)))) : own_Go p.tables e below F (T.setTop (mkF m pc Ls (.int j :: .ref a :: St))) := by
  subst hp
  obtain ⟨cl, A, q1, S, N, H, G⟩ := V
  exact own_by (fun _ q => X.laload hx (j := j) (v := v) (by rw [eT]; exact A.1) (State.isArrayOf_alike hZ.alike A.2.1) A.2.2 (inb_of S hb) (H.at (inb_of S hb) u) (g := mkF m pc Ls (.int j :: .ref a :: St)) rfl rfl hd _ q) k
theorem own_aaload (X : Stand p l e R s m args below meth c T locs cells slots) (hx : p.tables.exec = Jvm.exec) {F : State → Prop} {pc : Nat} {Ls : Array Slot} {St : List Value} (hZ : Z.Warmed39 s.vm) (eT : T.heap = h) {a : Addr} {ka : ClassId} {ty : FieldType} {n j : Int32} {vs : List Value} {dv : Value} (V : Arv Z h a ka ty n vs dv) (hty : ty.isReference = true) (v : Value) (hb : ¬ j < 0 ∧ j < n) (u : vs.getD j.toNatClampNeg dv = v) (hd : decode c.code pc = .ok (.aaload, 1)) (pc' : Nat) (hp : pc + 1 = pc')
    (k : own_Go p.tables e below F (T.setTop (mkF m pc' Ls (v :: St)))) : own_Go p.tables e below F (T.setTop (mkF m pc Ls (.int j :: .ref a :: St))) := by
  subst hp
  obtain ⟨cl, A, q1, S, N, H, G⟩ := V
  exact own_by (fun _ q => X.aaload hx (j := j) (v := v) (by rw [eT]; exact A.1) (State.isArrayOf_alike hZ.alike A.2.1) hty A.2.2 (inb_of S hb) (H.at (inb_of S hb) u) (g := mkF m pc Ls (.int j :: .ref a :: St)) rfl rfl hd _ q) k
theorem own_alen (X : Stand p l e R s m args below meth c T locs cells slots) (hx : p.tables.exec = Jvm.exec) {F : State → Prop} {pc : Nat} {Ls : Array Slot} {St : List Value} (hZ : Z.Warmed39 s.vm) (eT : T.heap = h) {a : Addr} {ka : ClassId} {ty : FieldType} {n : Int32} {vs : List Value} {dv : Value} (V : Arv Z h a ka ty n vs dv) (hd : decode c.code pc = .ok (.arraylength, 1)) (pc' : Nat) (hp : pc + 1 = pc')
    (k : own_Go p.tables e below F (T.setTop (mkF m pc' Ls (.int n :: St)))) : own_Go p.tables e below F (T.setTop (mkF m pc Ls (.ref a :: St))) := by
  subst hp
  obtain ⟨cl, A, q1, S, N, H, G⟩ := V
  refine own_by (fun _ q => X.arraylength hx (by rw [eT]; exact A.1) (State.isArrayOf_alike hZ.alike A.2.1) (g := mkF m pc Ls (.ref a :: St)) rfl rfl hd _ q) ?_
  rw [len_of S N]
  exact k
theorem own_ldc2 (X : Stand p l e R s m args below meth c T locs cells slots) (hx : p.tables.exec = Jvm.exec) {F : State → Prop} {pc : Nat} {Ls : Array Slot} {St : List Value} (hZ : Z.Warmed39 s.vm) {own : String} {i : Nat} {z : Int64} (hown : s.vm.findClass own = some m.cls) (w : (Cond.constantLong own i z).before a0 Z = true) (hd : decode c.code pc = .ok (.ldc2_w i, 3)) (pc' : Nat) (hp : pc + 3 = pc')
    (k : own_Go p.tables e below F (T.setTop (mkF m pc' Ls (.long z :: St)))) : own_Go p.tables e below F (T.setTop (mkF m pc Ls St)) := by
  subst hp
  exact own_by (fun _ q => X.ldc2Long hx hown (mvT hZ w) (g := mkF m pc Ls St) rfl hd _ q) k
theorem own_cast (X : Stand p l e R s m args below meth c T locs cells slots) (hx : p.tables.exec = Jvm.exec) {F : State → Prop} {pc : Nat} {Ls : Array Slot} {St : List Value} (hZ : Z.Warmed39 s.vm) {own K : String} {i : Nat} (hown : s.vm.findClass own = some m.cls) (w : (Cond.classLink own i K).before a0 Z = true) (eT : T.heap = h) {a : Addr} (I : Ins Z h a K true) (hd : decode c.code pc = .ok (.checkcast i, 3)) (pc' : Nat) (hp : pc + 3 = pc')
    (k : ∀ T', Stand p l e R s m args below meth c T' locs cells slots → T'.heap = h → own_Go p.tables e below F (T'.setTop (mkF m pc' Ls (.ref a :: St)))) : own_Go p.tables e below F (T.setTop (mkF m pc Ls (.ref a :: St))) := by
  subst hp
  obtain ⟨T', X', e', st⟩ := castY X hx hZ hown w eT I (g := mkF m pc Ls (.ref a :: St)) rfl rfl hd
  exact own_by st (k T' X' e')
theorem own_instY (X : Stand p l e R s m args below meth c T locs cells slots) (hx : p.tables.exec = Jvm.exec) {F : State → Prop} {pc : Nat} {Ls : Array Slot} {St : List Value} (hZ : Z.Warmed39 s.vm) {own K : String} {i : Nat} (hown : s.vm.findClass own = some m.cls) (w : (Cond.classLink own i K).before a0 Z = true) (eT : T.heap = h) {a : Addr} (I : Ins Z h a K true) (hd : decode c.code pc = .ok (.instanceof i, 3)) (pc' : Nat) (hp : pc + 3 = pc')
    (k : ∀ T', Stand p l e R s m args below meth c T' locs cells slots → T'.heap = h → own_Go p.tables e below F (T'.setTop (mkF m pc' Ls (.int 1 :: St)))) : own_Go p.tables e below F (T.setTop (mkF m pc Ls (.ref a :: St))) := by
  subst hp
  obtain ⟨T', X', e', st⟩ := instY X hx hZ hown w eT I (g := mkF m pc Ls (.ref a :: St)) rfl rfl hd
  exact own_by st (k T' X' e')
theorem own_instNull (X : Stand p l e R s m args below meth c T locs cells slots) (hx : p.tables.exec = Jvm.exec) {F : State → Prop} {pc : Nat} {Ls : Array Slot} {St : List Value} {i : Nat} (hd : decode c.code pc = .ok (.instanceof i, 3)) (pc' : Nat) (hp : pc + 3 = pc')
    (k : own_Go p.tables e below F (T.setTop (mkF m pc' Ls (.int 0 :: St)))) : own_Go p.tables e below F (T.setTop (mkF m pc Ls (.null :: St))) := by
  subst hp
  exact own_by (fun _ q => X.instanceofNull hx (g := mkF m pc Ls (.null :: St)) rfl rfl hd _ q) k
/-- a static stands where only objects were written -/
theorem own_staKeep {C n d : String} {w : Value} {h' : Heap} {ws : List Addr} (S : Sta Z h C n d w) (K : Keep h h' ws) (q : ∀ x ∈ ws, ∀ cell : Cell, h[x]? = some cell → cell.vm.isStatics = false) : Sta Z h' C n d w := by
  obtain ⟨cf, i, k, f, st, cell, h1, h2, h3, h4, h5, h6, h7⟩ := S
  exact ⟨cf, i, k, f, st, cell, h1, h2, h3, h4, K.2.1 st cell h5 (fun y => by rw [q st y cell h5] at h6; cases h6), h6, h7⟩
end OwnHeap

theorem own_fldI {Z : State} {args : Array Value} {t : Term} {a : Addr} {C n d : String} {k : Int32} (ev : t.eval args Z none [] Z = some (.ref a)) (q : (Cond.eq (.field t C n d) (.int k)).value args Z none Z [] = some true) : Fld Z Z.heap a C n d (.int k) := by
  exact Fld.start ((fld_at ev).symm.trans (eqv_i (F := .int k) rfl q))
theorem own_fldN {Z : State} {args : Array Value} {t : Term} {a : Addr} {C n d : String} (ev : t.eval args Z none [] Z = some (.ref a)) (q : (Cond.eq (.field t C n d) .null).value args Z none Z [] = some true) : Fld Z Z.heap a C n d .null := by
  exact Fld.start ((fld_at ev).symm.trans (null_v q))
theorem own_fldR {Z : State} {args : Array Value} {t u : Term} {a b : Addr} {C n d : String} (ev : t.eval args Z none [] Z = some (.ref a)) (eu : u.eval args Z none [] Z = some (.ref b)) (q : (Cond.eq (.field t C n d) u).value args Z none Z [] = some true) : Fld Z Z.heap a C n d (.ref b) := by
  obtain ⟨x, y, hx, hy, hk, hk'⟩ := cmp_v (Or.inl q)
  cases eu.symm.trans hy
  refine Fld.start ((fld_at ev).symm.trans ?_)
  rw [hx]
  cases x with
  | ref z => simp [Cond.value, hx, hy] at q; rw [q]
  | null => simp [Cond.value, hx, hy] at q
  | _ => simp_all [Kin, Value.isRef]

def own_C (Z : State) (h0 : Heap) (w_Mux_Type_NO_OPERATION w_Mux_Type_SHUTDOWN w_Mux_Type_PING w_Mux_Type_PING_ACK w_Mux_Type_ERROR w_Mux_Type_INCREMENT_RATION w_Mux_Type_ABORT w_Mux_Type_CLOSE w_Mux_Type_ACKNOWLEDGMENT w_Mux_Type_DATA w_Mux_Side_CLIENT w_Mux_Side_SERVER : Addr) : Prop := Sta Z h0 "com/example/lodestar/lodestar/Mux$Type" "NO_OPERATION" "Lcom/example/lodestar/lodestar/Mux$Type;" (.ref w_Mux_Type_NO_OPERATION) ∧ Exa Z h0 w_Mux_Type_NO_OPERATION "com/example/lodestar/lodestar/Mux$Type" ∧ Sta Z h0 "com/example/lodestar/lodestar/Mux$Type" "SHUTDOWN" "Lcom/example/lodestar/lodestar/Mux$Type;" (.ref w_Mux_Type_SHUTDOWN) ∧ Exa Z h0 w_Mux_Type_SHUTDOWN "com/example/lodestar/lodestar/Mux$Type" ∧ Sta Z h0 "com/example/lodestar/lodestar/Mux$Type" "PING" "Lcom/example/lodestar/lodestar/Mux$Type;" (.ref w_Mux_Type_PING) ∧ Exa Z h0 w_Mux_Type_PING "com/example/lodestar/lodestar/Mux$Type" ∧ Sta Z h0 "com/example/lodestar/lodestar/Mux$Type" "PING_ACK" "Lcom/example/lodestar/lodestar/Mux$Type;" (.ref w_Mux_Type_PING_ACK) ∧ Exa Z h0 w_Mux_Type_PING_ACK "com/example/lodestar/lodestar/Mux$Type" ∧ Sta Z h0 "com/example/lodestar/lodestar/Mux$Type" "ERROR" "Lcom/example/lodestar/lodestar/Mux$Type;" (.ref w_Mux_Type_ERROR) ∧ Exa Z h0 w_Mux_Type_ERROR "com/example/lodestar/lodestar/Mux$Type" ∧ Sta Z h0 "com/example/lodestar/lodestar/Mux$Type" "INCREMENT_RATION" "Lcom/example/lodestar/lodestar/Mux$Type;" (.ref w_Mux_Type_INCREMENT_RATION) ∧ Exa Z h0 w_Mux_Type_INCREMENT_RATION "com/example/lodestar/lodestar/Mux$Type" ∧ Sta Z h0 "com/example/lodestar/lodestar/Mux$Type" "ABORT" "Lcom/example/lodestar/lodestar/Mux$Type;" (.ref w_Mux_Type_ABORT) ∧ Exa Z h0 w_Mux_Type_ABORT "com/example/lodestar/lodestar/Mux$Type" ∧ Sta Z h0 "com/example/lodestar/lodestar/Mux$Type" "CLOSE" "Lcom/example/lodestar/lodestar/Mux$Type;" (.ref w_Mux_Type_CLOSE) ∧ Exa Z h0 w_Mux_Type_CLOSE "com/example/lodestar/lodestar/Mux$Type" ∧ Sta Z h0 "com/example/lodestar/lodestar/Mux$Type" "ACKNOWLEDGMENT" "Lcom/example/lodestar/lodestar/Mux$Type;" (.ref w_Mux_Type_ACKNOWLEDGMENT) ∧ Exa Z h0 w_Mux_Type_ACKNOWLEDGMENT "com/example/lodestar/lodestar/Mux$Type" ∧ Sta Z h0 "com/example/lodestar/lodestar/Mux$Type" "DATA" "Lcom/example/lodestar/lodestar/Mux$Type;" (.ref w_Mux_Type_DATA) ∧ Exa Z h0 w_Mux_Type_DATA "com/example/lodestar/lodestar/Mux$Type" ∧ Sta Z h0 "com/example/lodestar/lodestar/Mux$Side" "CLIENT" "Lcom/example/lodestar/lodestar/Mux$Side;" (.ref w_Mux_Side_CLIENT) ∧ Exa Z h0 w_Mux_Side_CLIENT "com/example/lodestar/lodestar/Mux$Side" ∧ Sta Z h0 "com/example/lodestar/lodestar/Mux$Side" "SERVER" "Lcom/example/lodestar/lodestar/Mux$Side;" (.ref w_Mux_Side_SERVER) ∧ Exa Z h0 w_Mux_Side_SERVER "com/example/lodestar/lodestar/Mux$Side" ∧ Fld Z h0 w_Mux_Type_NO_OPERATION "com/example/lodestar/lodestar/Mux$Type" "sender" "Lcom/example/lodestar/lodestar/Mux$Side;" .null ∧ Fld Z h0 w_Mux_Type_PING_ACK "com/example/lodestar/lodestar/Mux$Type" "sender" "Lcom/example/lodestar/lodestar/Mux$Side;" .null ∧ Fld Z h0 w_Mux_Type_SHUTDOWN "com/example/lodestar/lodestar/Mux$Type" "sender" "Lcom/example/lodestar/lodestar/Mux$Side;" (.ref w_Mux_Side_SERVER) ∧ Fld Z h0 w_Mux_Side_SERVER "java/lang/Enum" "ordinal" "I" (.int (1 : Int32)) ∧ Fld Z h0 w_Mux_Side_CLIENT "java/lang/Enum" "ordinal" "I" (.int (0 : Int32)) ∧ Fld Z h0 w_Mux_Type_ERROR "com/example/lodestar/lodestar/Mux$Type" "sender" "Lcom/example/lodestar/lodestar/Mux$Side;" .null ∧ Fld Z h0 w_Mux_Type_CLOSE "com/example/lodestar/lodestar/Mux$Type" "sender" "Lcom/example/lodestar/lodestar/Mux$Side;" (.ref w_Mux_Side_SERVER) ∧ Fld Z h0 w_Mux_Type_PING "com/example/lodestar/lodestar/Mux$Type" "sender" "Lcom/example/lodestar/lodestar/Mux$Side;" .null ∧ Fld Z h0 w_Mux_Type_ACKNOWLEDGMENT "com/example/lodestar/lodestar/Mux$Type" "sender" "Lcom/example/lodestar/lodestar/Mux$Side;" (.ref w_Mux_Side_CLIENT) ∧ Fld Z h0 w_Mux_Type_DATA "com/example/lodestar/lodestar/Mux$Type" "sender" "Lcom/example/lodestar/lodestar/Mux$Side;" .null ∧ Fld Z h0 w_Mux_Type_INCREMENT_RATION "com/example/lodestar/lodestar/Mux$Type" "sender" "Lcom/example/lodestar/lodestar/Mux$Side;" .null ∧ Fld Z h0 w_Mux_Type_ABORT "com/example/lodestar/lodestar/Mux$Type" "sender" "Lcom/example/lodestar/lodestar/Mux$Side;" .null ∧ w_Mux_Side_CLIENT ≠ w_Mux_Side_SERVER
theorem own_mod10 (x : Int32) : ((x &&& (2147483647 : Int32)) % (10 : Int32)) = (0 : Int32) ∨ ((x &&& (2147483647 : Int32)) % (10 : Int32)) = (1 : Int32) ∨ ((x &&& (2147483647 : Int32)) % (10 : Int32)) = (2 : Int32) ∨ ((x &&& (2147483647 : Int32)) % (10 : Int32)) = (3 : Int32) ∨ ((x &&& (2147483647 : Int32)) % (10 : Int32)) = (4 : Int32) ∨ ((x &&& (2147483647 : Int32)) % (10 : Int32)) = (5 : Int32) ∨ ((x &&& (2147483647 : Int32)) % (10 : Int32)) = (6 : Int32) ∨ ((x &&& (2147483647 : Int32)) % (10 : Int32)) = (7 : Int32) ∨ ((x &&& (2147483647 : Int32)) % (10 : Int32)) = (8 : Int32) ∨ ((x &&& (2147483647 : Int32)) % (10 : Int32)) = (9 : Int32) := by
  have e := Jvm.Kit.i32_mask x (2147483647 : Int32) (k := 31) (by decide) (by decide)
  have r : ((x &&& (2147483647 : Int32)) % (10 : Int32)).toInt = (x &&& (2147483647 : Int32)).toInt % ((10 : Int32)).toInt := Jvm.Kit.i32_rem_nonneg (by rw [e]; omega)
  have l0 : ((0 : Int32)).toInt = 0 := by decide
  have l1 : ((1 : Int32)).toInt = 1 := by decide
  have l2 : ((2 : Int32)).toInt = 2 := by decide
  have l3 : ((3 : Int32)).toInt = 3 := by decide
  have l4 : ((4 : Int32)).toInt = 4 := by decide
  have l5 : ((5 : Int32)).toInt = 5 := by decide
  have l6 : ((6 : Int32)).toInt = 6 := by decide
  have l7 : ((7 : Int32)).toInt = 7 := by decide
  have l8 : ((8 : Int32)).toInt = 8 := by decide
  have l9 : ((9 : Int32)).toInt = 9 := by decide
  have l10 : ((10 : Int32)).toInt = 10 := by decide
  rw [l10] at r
  simp only [← Int32.toInt_inj, l0, l1, l2, l3, l4, l5, l6, l7, l8, l9]
  generalize ((x &&& (2147483647 : Int32)) % (10 : Int32)).toInt = z at r ⊢
  omega
theorem d0_0 : decode prog_30_method_5_code 0 = .ok (.aload_n 0, 1) := by decide +kernel
theorem d0_1 : decode prog_30_method_5_code 1 = .ok (.getfield 60, 3) := by decide +kernel
theorem d0_4 : decode prog_30_method_5_code 4 = .ok (.ifnull 11, 3) := by decide +kernel
theorem d0_15 : decode prog_30_method_5_code 15 = .ok (.iconst 1, 1) := by decide +kernel
theorem d0_16 : decode prog_30_method_5_code 16 = .ok (.goto 4, 3) := by decide +kernel
theorem d0_20 : decode prog_30_method_5_code 20 = .ok (.ireturn, 1) := by decide +kernel
theorem pn_0 : plainName "com/example/lodestar/lodestar/Mux$Type" = true := by first | (simp [plainName, overriddenIn]; done) | decide +kernel
theorem ef_0 (m : MethodId) (y0 : Addr) (y1 : Addr) : entryFrame m #[(.ref y0), (.ref y1)] 2 = mkF m 0 #[.val (.ref y0), .val (.ref y1)] [] := by first | (simp [entryFrame, mkF, argsToLocals, Value.category]; done) | rfl
theorem rm_mayBeSentBy_1 (l : Launch) (Z : State) (a0 : Array Value) (hw : own_HW Z a0) (ws : List Jvm.Cond)  (h0 : Heap) (n0 : Nat) {w_Mux_Type_NO_OPERATION w_Mux_Type_SHUTDOWN w_Mux_Type_PING w_Mux_Type_PING_ACK w_Mux_Type_ERROR w_Mux_Type_INCREMENT_RATION w_Mux_Type_ABORT w_Mux_Type_CLOSE w_Mux_Type_ACKNOWLEDGMENT w_Mux_Type_DATA w_Mux_Side_CLIENT w_Mux_Side_SERVER : Addr} (H : own_C Z Z.heap w_Mux_Type_NO_OPERATION w_Mux_Type_SHUTDOWN w_Mux_Type_PING w_Mux_Type_PING_ACK w_Mux_Type_ERROR w_Mux_Type_INCREMENT_RATION w_Mux_Type_ABORT w_Mux_Type_CLOSE w_Mux_Type_ACKNOWLEDGMENT w_Mux_Type_DATA w_Mux_Side_CLIENT w_Mux_Side_SERVER) (O : Old Z n0 h0)  :
    own_Met l (⟨"com/example/lodestar/lodestar/Mux$Type", "mayBeSentBy", "(Lcom/example/lodestar/lodestar/Mux$Side;)Z"⟩ : MethodName) prog_30_method_5_code 2 (some .boolean) ws (own_rm 0 0 0 0) Z #[(.ref w_Mux_Type_NO_OPERATION), (.ref w_Mux_Side_CLIENT)] h0 (own_R (some (.int (1 : Int32))) h0) := by
  refine own_met (plainFor_of_name pn_0) ?_
  intro p e s m below meth c T0 hx hby hml hown hret hk hnm hZ X0 e0
  have hown : s.vm.findClass "com/example/lodestar/lodestar/Mux$Type" = some m.cls := hown
  obtain ⟨-, -, -, -, -, -, -, -, -, -, -, -, -, -, -, -, -, -, -, -, -, -, -, -, F_w_Mux_Type_NO_OPERATION_sender, -, -, -, -, -, -, -, -, -, -, -, -⟩ := id H
  refine own_ent (ef_0 m w_Mux_Type_NO_OPERATION w_Mux_Side_CLIENT) ?_
  refine own_aload_n X0 hx (hb hby d0_0) rfl rfl 1 rfl ?_
  refine own_getF X0 hx hZ hown (host := "") (Or.inl (own_w hw 33 rfl)) Via.refl e0 (F_w_Mux_Type_NO_OPERATION_sender.ext O.2) (hb hby d0_1) 4 rfl fun T1 X1 e1 => ?_
  refine own_ifnullY X1 hx (hb hby d0_4) 15 (by decide) (by decide) ?_
  refine own_iconst X1 hx (hb hby d0_15) (1 : Int32) rfl 16 rfl ?_
  refine own_goto X1 hx (hb hby d0_16) 20 (by decide) (by decide) ?_
  exact own_retZ X1 hx hk hret (hb hby d0_20) rfl ⟨rfl, e1, rfl⟩ (by decide) (by decide)
theorem rm_mayBeSentBy_2 (l : Launch) (Z : State) (a0 : Array Value) (hw : own_HW Z a0) (ws : List Jvm.Cond)  (h0 : Heap) (n0 : Nat) {w_Mux_Type_NO_OPERATION w_Mux_Type_SHUTDOWN w_Mux_Type_PING w_Mux_Type_PING_ACK w_Mux_Type_ERROR w_Mux_Type_INCREMENT_RATION w_Mux_Type_ABORT w_Mux_Type_CLOSE w_Mux_Type_ACKNOWLEDGMENT w_Mux_Type_DATA w_Mux_Side_CLIENT w_Mux_Side_SERVER : Addr} (H : own_C Z Z.heap w_Mux_Type_NO_OPERATION w_Mux_Type_SHUTDOWN w_Mux_Type_PING w_Mux_Type_PING_ACK w_Mux_Type_ERROR w_Mux_Type_INCREMENT_RATION w_Mux_Type_ABORT w_Mux_Type_CLOSE w_Mux_Type_ACKNOWLEDGMENT w_Mux_Type_DATA w_Mux_Side_CLIENT w_Mux_Side_SERVER) (O : Old Z n0 h0)  :
    own_Met l (⟨"com/example/lodestar/lodestar/Mux$Type", "mayBeSentBy", "(Lcom/example/lodestar/lodestar/Mux$Side;)Z"⟩ : MethodName) prog_30_method_5_code 2 (some .boolean) ws (own_rm 0 0 0 0) Z #[(.ref w_Mux_Type_NO_OPERATION), (.ref w_Mux_Side_SERVER)] h0 (own_R (some (.int (1 : Int32))) h0) := by
  refine own_met (plainFor_of_name pn_0) ?_
  intro p e s m below meth c T0 hx hby hml hown hret hk hnm hZ X0 e0
  have hown : s.vm.findClass "com/example/lodestar/lodestar/Mux$Type" = some m.cls := hown
  obtain ⟨-, -, -, -, -, -, -, -, -, -, -, -, -, -, -, -, -, -, -, -, -, -, -, -, F_w_Mux_Type_NO_OPERATION_sender, -, -, -, -, -, -, -, -, -, -, -, -⟩ := id H
  refine own_ent (ef_0 m w_Mux_Type_NO_OPERATION w_Mux_Side_SERVER) ?_
  refine own_aload_n X0 hx (hb hby d0_0) rfl rfl 1 rfl ?_
  refine own_getF X0 hx hZ hown (host := "") (Or.inl (own_w hw 33 rfl)) Via.refl e0 (F_w_Mux_Type_NO_OPERATION_sender.ext O.2) (hb hby d0_1) 4 rfl fun T1 X1 e1 => ?_
  refine own_ifnullY X1 hx (hb hby d0_4) 15 (by decide) (by decide) ?_
  refine own_iconst X1 hx (hb hby d0_15) (1 : Int32) rfl 16 rfl ?_
  refine own_goto X1 hx (hb hby d0_16) 20 (by decide) (by decide) ?_
  exact own_retZ X1 hx hk hret (hb hby d0_20) rfl ⟨rfl, e1, rfl⟩ (by decide) (by decide)
theorem d0_7 : decode prog_30_method_5_code 7 = .ok (.aload_n 0, 1) := by decide +kernel
theorem d0_8 : decode prog_30_method_5_code 8 = .ok (.getfield 60, 3) := by decide +kernel
theorem d0_11 : decode prog_30_method_5_code 11 = .ok (.aload_n 1, 1) := by decide +kernel
theorem d0_12 : decode prog_30_method_5_code 12 = .ok (.if_acmp .ne 7, 3) := by decide +kernel
theorem d0_19 : decode prog_30_method_5_code 19 = .ok (.iconst 0, 1) := by decide +kernel
theorem rm_mayBeSentBy_3 (l : Launch) (Z : State) (a0 : Array Value) (hw : own_HW Z a0) (ws : List Jvm.Cond)  (h0 : Heap) (n0 : Nat) {w_Mux_Type_NO_OPERATION w_Mux_Type_SHUTDOWN w_Mux_Type_PING w_Mux_Type_PING_ACK w_Mux_Type_ERROR w_Mux_Type_INCREMENT_RATION w_Mux_Type_ABORT w_Mux_Type_CLOSE w_Mux_Type_ACKNOWLEDGMENT w_Mux_Type_DATA w_Mux_Side_CLIENT w_Mux_Side_SERVER : Addr} (H : own_C Z Z.heap w_Mux_Type_NO_OPERATION w_Mux_Type_SHUTDOWN w_Mux_Type_PING w_Mux_Type_PING_ACK w_Mux_Type_ERROR w_Mux_Type_INCREMENT_RATION w_Mux_Type_ABORT w_Mux_Type_CLOSE w_Mux_Type_ACKNOWLEDGMENT w_Mux_Type_DATA w_Mux_Side_CLIENT w_Mux_Side_SERVER) (O : Old Z n0 h0)  :
    own_Met l (⟨"com/example/lodestar/lodestar/Mux$Type", "mayBeSentBy", "(Lcom/example/lodestar/lodestar/Mux$Side;)Z"⟩ : MethodName) prog_30_method_5_code 2 (some .boolean) ws (own_rm 0 0 0 0) Z #[(.ref w_Mux_Type_SHUTDOWN), (.ref w_Mux_Side_CLIENT)] h0 (own_R (some (.int (0 : Int32))) h0) := by
  refine own_met (plainFor_of_name pn_0) ?_
  intro p e s m below meth c T0 hx hby hml hown hret hk hnm hZ X0 e0
  have hown : s.vm.findClass "com/example/lodestar/lodestar/Mux$Type" = some m.cls := hown
  obtain ⟨-, -, -, -, -, -, -, -, -, -, -, -, -, -, -, -, -, -, -, -, -, -, -, -, -, -, F_w_Mux_Type_SHUTDOWN_sender, -, -, -, -, -, -, -, -, -, ne_w_Mux_Side_CLIENT_w_Mux_Side_SERVER⟩ := id H
  refine own_ent (ef_0 m w_Mux_Type_SHUTDOWN w_Mux_Side_CLIENT) ?_
  refine own_aload_n X0 hx (hb hby d0_0) rfl rfl 1 rfl ?_
  refine own_getF X0 hx hZ hown (host := "") (Or.inl (own_w hw 33 rfl)) Via.refl e0 (F_w_Mux_Type_SHUTDOWN_sender.ext O.2) (hb hby d0_1) 4 rfl fun T1 X1 e1 => ?_
  refine own_ifnullN X1 hx (hb hby d0_4) 7 rfl ?_
  refine own_aload_n X1 hx (hb hby d0_7) rfl rfl 8 rfl ?_
  refine own_getF X1 hx hZ hown (host := "") (Or.inl (own_w hw 33 rfl)) Via.refl e1 (F_w_Mux_Type_SHUTDOWN_sender.ext O.2) (hb hby d0_8) 11 rfl fun T2 X2 e2 => ?_
  refine own_aload_n X2 hx (hb hby d0_11) rfl rfl 12 rfl ?_
  refine own_acmp X2 hx false (hb hby d0_12) rfl rfl (decide_eq_false fun q => (Ne.symm ne_w_Mux_Side_CLIENT_w_Mux_Side_SERVER) (Value.ref.inj q)) 19 (by decide) (by decide) ?_
  refine own_iconst X2 hx (hb hby d0_19) (0 : Int32) rfl 20 rfl ?_
  exact own_retZ X2 hx hk hret (hb hby d0_20) rfl ⟨rfl, e2, rfl⟩ (by decide) (by decide)
theorem rm_mayBeSentBy_4 (l : Launch) (Z : State) (a0 : Array Value) (hw : own_HW Z a0) (ws : List Jvm.Cond)  (h0 : Heap) (n0 : Nat) {w_Mux_Type_NO_OPERATION w_Mux_Type_SHUTDOWN w_Mux_Type_PING w_Mux_Type_PING_ACK w_Mux_Type_ERROR w_Mux_Type_INCREMENT_RATION w_Mux_Type_ABORT w_Mux_Type_CLOSE w_Mux_Type_ACKNOWLEDGMENT w_Mux_Type_DATA w_Mux_Side_CLIENT w_Mux_Side_SERVER : Addr} (H : own_C Z Z.heap w_Mux_Type_NO_OPERATION w_Mux_Type_SHUTDOWN w_Mux_Type_PING w_Mux_Type_PING_ACK w_Mux_Type_ERROR w_Mux_Type_INCREMENT_RATION w_Mux_Type_ABORT w_Mux_Type_CLOSE w_Mux_Type_ACKNOWLEDGMENT w_Mux_Type_DATA w_Mux_Side_CLIENT w_Mux_Side_SERVER) (O : Old Z n0 h0)  :
    own_Met l (⟨"com/example/lodestar/lodestar/Mux$Type", "mayBeSentBy", "(Lcom/example/lodestar/lodestar/Mux$Side;)Z"⟩ : MethodName) prog_30_method_5_code 2 (some .boolean) ws (own_rm 0 0 0 0) Z #[(.ref w_Mux_Type_SHUTDOWN), (.ref w_Mux_Side_SERVER)] h0 (own_R (some (.int (1 : Int32))) h0) := by
  refine own_met (plainFor_of_name pn_0) ?_
  intro p e s m below meth c T0 hx hby hml hown hret hk hnm hZ X0 e0
  have hown : s.vm.findClass "com/example/lodestar/lodestar/Mux$Type" = some m.cls := hown
  obtain ⟨-, -, -, -, -, -, -, -, -, -, -, -, -, -, -, -, -, -, -, -, -, -, -, -, -, -, F_w_Mux_Type_SHUTDOWN_sender, -, -, -, -, -, -, -, -, -, -⟩ := id H
  refine own_ent (ef_0 m w_Mux_Type_SHUTDOWN w_Mux_Side_SERVER) ?_
  refine own_aload_n X0 hx (hb hby d0_0) rfl rfl 1 rfl ?_
  refine own_getF X0 hx hZ hown (host := "") (Or.inl (own_w hw 33 rfl)) Via.refl e0 (F_w_Mux_Type_SHUTDOWN_sender.ext O.2) (hb hby d0_1) 4 rfl fun T1 X1 e1 => ?_
  refine own_ifnullN X1 hx (hb hby d0_4) 7 rfl ?_
  refine own_aload_n X1 hx (hb hby d0_7) rfl rfl 8 rfl ?_
  refine own_getF X1 hx hZ hown (host := "") (Or.inl (own_w hw 33 rfl)) Via.refl e1 (F_w_Mux_Type_SHUTDOWN_sender.ext O.2) (hb hby d0_8) 11 rfl fun T2 X2 e2 => ?_
  refine own_aload_n X2 hx (hb hby d0_11) rfl rfl 12 rfl ?_
  refine own_acmp X2 hx true (hb hby d0_12) rfl rfl (decide_eq_true rfl) 15 (by decide) (by decide) ?_
  refine own_iconst X2 hx (hb hby d0_15) (1 : Int32) rfl 16 rfl ?_
  refine own_goto X2 hx (hb hby d0_16) 20 (by decide) (by decide) ?_
  exact own_retZ X2 hx hk hret (hb hby d0_20) rfl ⟨rfl, e2, rfl⟩ (by decide) (by decide)
theorem rm_mayBeSentBy_5 (l : Launch) (Z : State) (a0 : Array Value) (hw : own_HW Z a0) (ws : List Jvm.Cond)  (h0 : Heap) (n0 : Nat) {w_Mux_Type_NO_OPERATION w_Mux_Type_SHUTDOWN w_Mux_Type_PING w_Mux_Type_PING_ACK w_Mux_Type_ERROR w_Mux_Type_INCREMENT_RATION w_Mux_Type_ABORT w_Mux_Type_CLOSE w_Mux_Type_ACKNOWLEDGMENT w_Mux_Type_DATA w_Mux_Side_CLIENT w_Mux_Side_SERVER : Addr} (H : own_C Z Z.heap w_Mux_Type_NO_OPERATION w_Mux_Type_SHUTDOWN w_Mux_Type_PING w_Mux_Type_PING_ACK w_Mux_Type_ERROR w_Mux_Type_INCREMENT_RATION w_Mux_Type_ABORT w_Mux_Type_CLOSE w_Mux_Type_ACKNOWLEDGMENT w_Mux_Type_DATA w_Mux_Side_CLIENT w_Mux_Side_SERVER) (O : Old Z n0 h0)  :
    own_Met l (⟨"com/example/lodestar/lodestar/Mux$Type", "mayBeSentBy", "(Lcom/example/lodestar/lodestar/Mux$Side;)Z"⟩ : MethodName) prog_30_method_5_code 2 (some .boolean) ws (own_rm 0 0 0 0) Z #[(.ref w_Mux_Type_PING), (.ref w_Mux_Side_CLIENT)] h0 (own_R (some (.int (1 : Int32))) h0) := by
  refine own_met (plainFor_of_name pn_0) ?_
  intro p e s m below meth c T0 hx hby hml hown hret hk hnm hZ X0 e0
  have hown : s.vm.findClass "com/example/lodestar/lodestar/Mux$Type" = some m.cls := hown
  obtain ⟨-, -, -, -, -, -, -, -, -, -, -, -, -, -, -, -, -, -, -, -, -, -, -, -, -, -, -, -, -, -, -, F_w_Mux_Type_PING_sender, -, -, -, -, -⟩ := id H
  refine own_ent (ef_0 m w_Mux_Type_PING w_Mux_Side_CLIENT) ?_
  refine own_aload_n X0 hx (hb hby d0_0) rfl rfl 1 rfl ?_
  refine own_getF X0 hx hZ hown (host := "") (Or.inl (own_w hw 33 rfl)) Via.refl e0 (F_w_Mux_Type_PING_sender.ext O.2) (hb hby d0_1) 4 rfl fun T1 X1 e1 => ?_
  refine own_ifnullY X1 hx (hb hby d0_4) 15 (by decide) (by decide) ?_
  refine own_iconst X1 hx (hb hby d0_15) (1 : Int32) rfl 16 rfl ?_
  refine own_goto X1 hx (hb hby d0_16) 20 (by decide) (by decide) ?_
  exact own_retZ X1 hx hk hret (hb hby d0_20) rfl ⟨rfl, e1, rfl⟩ (by decide) (by decide)
theorem rm_mayBeSentBy_6 (l : Launch) (Z : State) (a0 : Array Value) (hw : own_HW Z a0) (ws : List Jvm.Cond)  (h0 : Heap) (n0 : Nat) {w_Mux_Type_NO_OPERATION w_Mux_Type_SHUTDOWN w_Mux_Type_PING w_Mux_Type_PING_ACK w_Mux_Type_ERROR w_Mux_Type_INCREMENT_RATION w_Mux_Type_ABORT w_Mux_Type_CLOSE w_Mux_Type_ACKNOWLEDGMENT w_Mux_Type_DATA w_Mux_Side_CLIENT w_Mux_Side_SERVER : Addr} (H : own_C Z Z.heap w_Mux_Type_NO_OPERATION w_Mux_Type_SHUTDOWN w_Mux_Type_PING w_Mux_Type_PING_ACK w_Mux_Type_ERROR w_Mux_Type_INCREMENT_RATION w_Mux_Type_ABORT w_Mux_Type_CLOSE w_Mux_Type_ACKNOWLEDGMENT w_Mux_Type_DATA w_Mux_Side_CLIENT w_Mux_Side_SERVER) (O : Old Z n0 h0)  :
    own_Met l (⟨"com/example/lodestar/lodestar/Mux$Type", "mayBeSentBy", "(Lcom/example/lodestar/lodestar/Mux$Side;)Z"⟩ : MethodName) prog_30_method_5_code 2 (some .boolean) ws (own_rm 0 0 0 0) Z #[(.ref w_Mux_Type_PING), (.ref w_Mux_Side_SERVER)] h0 (own_R (some (.int (1 : Int32))) h0) := by
  refine own_met (plainFor_of_name pn_0) ?_
  intro p e s m below meth c T0 hx hby hml hown hret hk hnm hZ X0 e0
  have hown : s.vm.findClass "com/example/lodestar/lodestar/Mux$Type" = some m.cls := hown
  obtain ⟨-, -, -, -, -, -, -, -, -, -, -, -, -, -, -, -, -, -, -, -, -, -, -, -, -, -, -, -, -, -, -, F_w_Mux_Type_PING_sender, -, -, -, -, -⟩ := id H
  refine own_ent (ef_0 m w_Mux_Type_PING w_Mux_Side_SERVER) ?_
  refine own_aload_n X0 hx (hb hby d0_0) rfl rfl 1 rfl ?_
  refine own_getF X0 hx hZ hown (host := "") (Or.inl (own_w hw 33 rfl)) Via.refl e0 (F_w_Mux_Type_PING_sender.ext O.2) (hb hby d0_1) 4 rfl fun T1 X1 e1 => ?_
  refine own_ifnullY X1 hx (hb hby d0_4) 15 (by decide) (by decide) ?_
  refine own_iconst X1 hx (hb hby d0_15) (1 : Int32) rfl 16 rfl ?_
  refine own_goto X1 hx (hb hby d0_16) 20 (by decide) (by decide) ?_
  exact own_retZ X1 hx hk hret (hb hby d0_20) rfl ⟨rfl, e1, rfl⟩ (by decide) (by decide)
theorem rm_mayBeSentBy_7 (l : Launch) (Z : State) (a0 : Array Value) (hw : own_HW Z a0) (ws : List Jvm.Cond)  (h0 : Heap) (n0 : Nat) {w_Mux_Type_NO_OPERATION w_Mux_Type_SHUTDOWN w_Mux_Type_PING w_Mux_Type_PING_ACK w_Mux_Type_ERROR w_Mux_Type_INCREMENT_RATION w_Mux_Type_ABORT w_Mux_Type_CLOSE w_Mux_Type_ACKNOWLEDGMENT w_Mux_Type_DATA w_Mux_Side_CLIENT w_Mux_Side_SERVER : Addr} (H : own_C Z Z.heap w_Mux_Type_NO_OPERATION w_Mux_Type_SHUTDOWN w_Mux_Type_PING w_Mux_Type_PING_ACK w_Mux_Type_ERROR w_Mux_Type_INCREMENT_RATION w_Mux_Type_ABORT w_Mux_Type_CLOSE w_Mux_Type_ACKNOWLEDGMENT w_Mux_Type_DATA w_Mux_Side_CLIENT w_Mux_Side_SERVER) (O : Old Z n0 h0)  :
    own_Met l (⟨"com/example/lodestar/lodestar/Mux$Type", "mayBeSentBy", "(Lcom/example/lodestar/lodestar/Mux$Side;)Z"⟩ : MethodName) prog_30_method_5_code 2 (some .boolean) ws (own_rm 0 0 0 0) Z #[(.ref w_Mux_Type_PING_ACK), (.ref w_Mux_Side_CLIENT)] h0 (own_R (some (.int (1 : Int32))) h0) := by
  refine own_met (plainFor_of_name pn_0) ?_
  intro p e s m below meth c T0 hx hby hml hown hret hk hnm hZ X0 e0
  have hown : s.vm.findClass "com/example/lodestar/lodestar/Mux$Type" = some m.cls := hown
  obtain ⟨-, -, -, -, -, -, -, -, -, -, -, -, -, -, -, -, -, -, -, -, -, -, -, -, -, F_w_Mux_Type_PING_ACK_sender, -, -, -, -, -, -, -, -, -, -, -⟩ := id H
  refine own_ent (ef_0 m w_Mux_Type_PING_ACK w_Mux_Side_CLIENT) ?_
  refine own_aload_n X0 hx (hb hby d0_0) rfl rfl 1 rfl ?_
  refine own_getF X0 hx hZ hown (host := "") (Or.inl (own_w hw 33 rfl)) Via.refl e0 (F_w_Mux_Type_PING_ACK_sender.ext O.2) (hb hby d0_1) 4 rfl fun T1 X1 e1 => ?_
  refine own_ifnullY X1 hx (hb hby d0_4) 15 (by decide) (by decide) ?_
  refine own_iconst X1 hx (hb hby d0_15) (1 : Int32) rfl 16 rfl ?_
  refine own_goto X1 hx (hb hby d0_16) 20 (by decide) (by decide) ?_
  exact own_retZ X1 hx hk hret (hb hby d0_20) rfl ⟨rfl, e1, rfl⟩ (by decide) (by decide)
theorem rm_mayBeSentBy_8 (l : Launch) (Z : State) (a0 : Array Value) (hw : own_HW Z a0) (ws : List Jvm.Cond)  (h0 : Heap) (n0 : Nat) {w_Mux_Type_NO_OPERATION w_Mux_Type_SHUTDOWN w_Mux_Type_PING w_Mux_Type_PING_ACK w_Mux_Type_ERROR w_Mux_Type_INCREMENT_RATION w_Mux_Type_ABORT w_Mux_Type_CLOSE w_Mux_Type_ACKNOWLEDGMENT w_Mux_Type_DATA w_Mux_Side_CLIENT w_Mux_Side_SERVER : Addr} (H : own_C Z Z.heap w_Mux_Type_NO_OPERATION w_Mux_Type_SHUTDOWN w_Mux_Type_PING w_Mux_Type_PING_ACK w_Mux_Type_ERROR w_Mux_Type_INCREMENT_RATION w_Mux_Type_ABORT w_Mux_Type_CLOSE w_Mux_Type_ACKNOWLEDGMENT w_Mux_Type_DATA w_Mux_Side_CLIENT w_Mux_Side_SERVER) (O : Old Z n0 h0)  :
    own_Met l (⟨"com/example/lodestar/lodestar/Mux$Type", "mayBeSentBy", "(Lcom/example/lodestar/lodestar/Mux$Side;)Z"⟩ : MethodName) prog_30_method_5_code 2 (some .boolean) ws (own_rm 0 0 0 0) Z #[(.ref w_Mux_Type_PING_ACK), (.ref w_Mux_Side_SERVER)] h0 (own_R (some (.int (1 : Int32))) h0) := by
  refine own_met (plainFor_of_name pn_0) ?_
  intro p e s m below meth c T0 hx hby hml hown hret hk hnm hZ X0 e0
  have hown : s.vm.findClass "com/example/lodestar/lodestar/Mux$Type" = some m.cls := hown
  obtain ⟨-, -, -, -, -, -, -, -, -, -, -, -, -, -, -, -, -, -, -, -, -, -, -, -, -, F_w_Mux_Type_PING_ACK_sender, -, -, -, -, -, -, -, -, -, -, -⟩ := id H
  refine own_ent (ef_0 m w_Mux_Type_PING_ACK w_Mux_Side_SERVER) ?_
  refine own_aload_n X0 hx (hb hby d0_0) rfl rfl 1 rfl ?_
  refine own_getF X0 hx hZ hown (host := "") (Or.inl (own_w hw 33 rfl)) Via.refl e0 (F_w_Mux_Type_PING_ACK_sender.ext O.2) (hb hby d0_1) 4 rfl fun T1 X1 e1 => ?_
  refine own_ifnullY X1 hx (hb hby d0_4) 15 (by decide) (by decide) ?_
  refine own_iconst X1 hx (hb hby d0_15) (1 : Int32) rfl 16 rfl ?_
  refine own_goto X1 hx (hb hby d0_16) 20 (by decide) (by decide) ?_
  exact own_retZ X1 hx hk hret (hb hby d0_20) rfl ⟨rfl, e1, rfl⟩ (by decide) (by decide)
theorem rm_mayBeSentBy_9 (l : Launch) (Z : State) (a0 : Array Value) (hw : own_HW Z a0) (ws : List Jvm.Cond)  (h0 : Heap) (n0 : Nat) {w_Mux_Type_NO_OPERATION w_Mux_Type_SHUTDOWN w_Mux_Type_PING w_Mux_Type_PING_ACK w_Mux_Type_ERROR w_Mux_Type_INCREMENT_RATION w_Mux_Type_ABORT w_Mux_Type_CLOSE w_Mux_Type_ACKNOWLEDGMENT w_Mux_Type_DATA w_Mux_Side_CLIENT w_Mux_Side_SERVER : Addr} (H : own_C Z Z.heap w_Mux_Type_NO_OPERATION w_Mux_Type_SHUTDOWN w_Mux_Type_PING w_Mux_Type_PING_ACK w_Mux_Type_ERROR w_Mux_Type_INCREMENT_RATION w_Mux_Type_ABORT w_Mux_Type_CLOSE w_Mux_Type_ACKNOWLEDGMENT w_Mux_Type_DATA w_Mux_Side_CLIENT w_Mux_Side_SERVER) (O : Old Z n0 h0)  :
    own_Met l (⟨"com/example/lodestar/lodestar/Mux$Type", "mayBeSentBy", "(Lcom/example/lodestar/lodestar/Mux$Side;)Z"⟩ : MethodName) prog_30_method_5_code 2 (some .boolean) ws (own_rm 0 0 0 0) Z #[(.ref w_Mux_Type_ERROR), (.ref w_Mux_Side_CLIENT)] h0 (own_R (some (.int (1 : Int32))) h0) := by
  refine own_met (plainFor_of_name pn_0) ?_
  intro p e s m below meth c T0 hx hby hml hown hret hk hnm hZ X0 e0
  have hown : s.vm.findClass "com/example/lodestar/lodestar/Mux$Type" = some m.cls := hown
  obtain ⟨-, -, -, -, -, -, -, -, -, -, -, -, -, -, -, -, -, -, -, -, -, -, -, -, -, -, -, -, -, F_w_Mux_Type_ERROR_sender, -, -, -, -, -, -, -⟩ := id H
  refine own_ent (ef_0 m w_Mux_Type_ERROR w_Mux_Side_CLIENT) ?_
  refine own_aload_n X0 hx (hb hby d0_0) rfl rfl 1 rfl ?_
  refine own_getF X0 hx hZ hown (host := "") (Or.inl (own_w hw 33 rfl)) Via.refl e0 (F_w_Mux_Type_ERROR_sender.ext O.2) (hb hby d0_1) 4 rfl fun T1 X1 e1 => ?_
  refine own_ifnullY X1 hx (hb hby d0_4) 15 (by decide) (by decide) ?_
  refine own_iconst X1 hx (hb hby d0_15) (1 : Int32) rfl 16 rfl ?_
  refine own_goto X1 hx (hb hby d0_16) 20 (by decide) (by decide) ?_
  exact own_retZ X1 hx hk hret (hb hby d0_20) rfl ⟨rfl, e1, rfl⟩ (by decide) (by decide)
theorem rm_mayBeSentBy_10 (l : Launch) (Z : State) (a0 : Array Value) (hw : own_HW Z a0) (ws : List Jvm.Cond)  (h0 : Heap) (n0 : Nat) {w_Mux_Type_NO_OPERATION w_Mux_Type_SHUTDOWN w_Mux_Type_PING w_Mux_Type_PING_ACK w_Mux_Type_ERROR w_Mux_Type_INCREMENT_RATION w_Mux_Type_ABORT w_Mux_Type_CLOSE w_Mux_Type_ACKNOWLEDGMENT w_Mux_Type_DATA w_Mux_Side_CLIENT w_Mux_Side_SERVER : Addr} (H : own_C Z Z.heap w_Mux_Type_NO_OPERATION w_Mux_Type_SHUTDOWN w_Mux_Type_PING w_Mux_Type_PING_ACK w_Mux_Type_ERROR w_Mux_Type_INCREMENT_RATION w_Mux_Type_ABORT w_Mux_Type_CLOSE w_Mux_Type_ACKNOWLEDGMENT w_Mux_Type_DATA w_Mux_Side_CLIENT w_Mux_Side_SERVER) (O : Old Z n0 h0)  :
    own_Met l (⟨"com/example/lodestar/lodestar/Mux$Type", "mayBeSentBy", "(Lcom/example/lodestar/lodestar/Mux$Side;)Z"⟩ : MethodName) prog_30_method_5_code 2 (some .boolean) ws (own_rm 0 0 0 0) Z #[(.ref w_Mux_Type_ERROR), (.ref w_Mux_Side_SERVER)] h0 (own_R (some (.int (1 : Int32))) h0) := by
  refine own_met (plainFor_of_name pn_0) ?_
  intro p e s m below meth c T0 hx hby hml hown hret hk hnm hZ X0 e0
  have hown : s.vm.findClass "com/example/lodestar/lodestar/Mux$Type" = some m.cls := hown
  obtain ⟨-, -, -, -, -, -, -, -, -, -, -, -, -, -, -, -, -, -, -, -, -, -, -, -, -, -, -, -, -, F_w_Mux_Type_ERROR_sender, -, -, -, -, -, -, -⟩ := id H
  refine own_ent (ef_0 m w_Mux_Type_ERROR w_Mux_Side_SERVER) ?_
  refine own_aload_n X0 hx (hb hby d0_0) rfl rfl 1 rfl ?_
  refine own_getF X0 hx hZ hown (host := "") (Or.inl (own_w hw 33 rfl)) Via.refl e0 (F_w_Mux_Type_ERROR_sender.ext O.2) (hb hby d0_1) 4 rfl fun T1 X1 e1 => ?_
  refine own_ifnullY X1 hx (hb hby d0_4) 15 (by decide) (by decide) ?_
  refine own_iconst X1 hx (hb hby d0_15) (1 : Int32) rfl 16 rfl ?_
  refine own_goto X1 hx (hb hby d0_16) 20 (by decide) (by decide) ?_
  exact own_retZ X1 hx hk hret (hb hby d0_20) rfl ⟨rfl, e1, rfl⟩ (by decide) (by decide)
theorem rm_mayBeSentBy_11 (l : Launch) (Z : State) (a0 : Array Value) (hw : own_HW Z a0) (ws : List Jvm.Cond)  (h0 : Heap) (n0 : Nat) {w_Mux_Type_NO_OPERATION w_Mux_Type_SHUTDOWN w_Mux_Type_PING w_Mux_Type_PING_ACK w_Mux_Type_ERROR w_Mux_Type_INCREMENT_RATION w_Mux_Type_ABORT w_Mux_Type_CLOSE w_Mux_Type_ACKNOWLEDGMENT w_Mux_Type_DATA w_Mux_Side_CLIENT w_Mux_Side_SERVER : Addr} (H : own_C Z Z.heap w_Mux_Type_NO_OPERATION w_Mux_Type_SHUTDOWN w_Mux_Type_PING w_Mux_Type_PING_ACK w_Mux_Type_ERROR w_Mux_Type_INCREMENT_RATION w_Mux_Type_ABORT w_Mux_Type_CLOSE w_Mux_Type_ACKNOWLEDGMENT w_Mux_Type_DATA w_Mux_Side_CLIENT w_Mux_Side_SERVER) (O : Old Z n0 h0)  :
    own_Met l (⟨"com/example/lodestar/lodestar/Mux$Type", "mayBeSentBy", "(Lcom/example/lodestar/lodestar/Mux$Side;)Z"⟩ : MethodName) prog_30_method_5_code 2 (some .boolean) ws (own_rm 0 0 0 0) Z #[(.ref w_Mux_Type_INCREMENT_RATION), (.ref w_Mux_Side_CLIENT)] h0 (own_R (some (.int (1 : Int32))) h0) := by
  refine own_met (plainFor_of_name pn_0) ?_
  intro p e s m below meth c T0 hx hby hml hown hret hk hnm hZ X0 e0
  have hown : s.vm.findClass "com/example/lodestar/lodestar/Mux$Type" = some m.cls := hown
  obtain ⟨-, -, -, -, -, -, -, -, -, -, -, -, -, -, -, -, -, -, -, -, -, -, -, -, -, -, -, -, -, -, -, -, -, -, F_w_Mux_Type_INCREMENT_RATION_sender, -, -⟩ := id H
  refine own_ent (ef_0 m w_Mux_Type_INCREMENT_RATION w_Mux_Side_CLIENT) ?_
  refine own_aload_n X0 hx (hb hby d0_0) rfl rfl 1 rfl ?_
  refine own_getF X0 hx hZ hown (host := "") (Or.inl (own_w hw 33 rfl)) Via.refl e0 (F_w_Mux_Type_INCREMENT_RATION_sender.ext O.2) (hb hby d0_1) 4 rfl fun T1 X1 e1 => ?_
  refine own_ifnullY X1 hx (hb hby d0_4) 15 (by decide) (by decide) ?_
  refine own_iconst X1 hx (hb hby d0_15) (1 : Int32) rfl 16 rfl ?_
  refine own_goto X1 hx (hb hby d0_16) 20 (by decide) (by decide) ?_
  exact own_retZ X1 hx hk hret (hb hby d0_20) rfl ⟨rfl, e1, rfl⟩ (by decide) (by decide)
theorem rm_mayBeSentBy_12 (l : Launch) (Z : State) (a0 : Array Value) (hw : own_HW Z a0) (ws : List Jvm.Cond)  (h0 : Heap) (n0 : Nat) {w_Mux_Type_NO_OPERATION w_Mux_Type_SHUTDOWN w_Mux_Type_PING w_Mux_Type_PING_ACK w_Mux_Type_ERROR w_Mux_Type_INCREMENT_RATION w_Mux_Type_ABORT w_Mux_Type_CLOSE w_Mux_Type_ACKNOWLEDGMENT w_Mux_Type_DATA w_Mux_Side_CLIENT w_Mux_Side_SERVER : Addr} (H : own_C Z Z.heap w_Mux_Type_NO_OPERATION w_Mux_Type_SHUTDOWN w_Mux_Type_PING w_Mux_Type_PING_ACK w_Mux_Type_ERROR w_Mux_Type_INCREMENT_RATION w_Mux_Type_ABORT w_Mux_Type_CLOSE w_Mux_Type_ACKNOWLEDGMENT w_Mux_Type_DATA w_Mux_Side_CLIENT w_Mux_Side_SERVER) (O : Old Z n0 h0)  :
    own_Met l (⟨"com/example/lodestar/lodestar/Mux$Type", "mayBeSentBy", "(Lcom/example/lodestar/lodestar/Mux$Side;)Z"⟩ : MethodName) prog_30_method_5_code 2 (some .boolean) ws (own_rm 0 0 0 0) Z #[(.ref w_Mux_Type_INCREMENT_RATION), (.ref w_Mux_Side_SERVER)] h0 (own_R (some (.int (1 : Int32))) h0) := by
  refine own_met (plainFor_of_name pn_0) ?_
  intro p e s m below meth c T0 hx hby hml hown hret hk hnm hZ X0 e0
  have hown : s.vm.findClass "com/example/lodestar/lodestar/Mux$Type" = some m.cls := hown
  obtain ⟨-, -, -, -, -, -, -, -, -, -, -, -, -, -, -, -, -, -, -, -, -, -, -, -, -, -, -, -, -, -, -, -, -, -, F_w_Mux_Type_INCREMENT_RATION_sender, -, -⟩ := id H
  refine own_ent (ef_0 m w_Mux_Type_INCREMENT_RATION w_Mux_Side_SERVER) ?_
  refine own_aload_n X0 hx (hb hby d0_0) rfl rfl 1 rfl ?_
  refine own_getF X0 hx hZ hown (host := "") (Or.inl (own_w hw 33 rfl)) Via.refl e0 (F_w_Mux_Type_INCREMENT_RATION_sender.ext O.2) (hb hby d0_1) 4 rfl fun T1 X1 e1 => ?_
  refine own_ifnullY X1 hx (hb hby d0_4) 15 (by decide) (by decide) ?_
  refine own_iconst X1 hx (hb hby d0_15) (1 : Int32) rfl 16 rfl ?_
  refine own_goto X1 hx (hb hby d0_16) 20 (by decide) (by decide) ?_
  exact own_retZ X1 hx hk hret (hb hby d0_20) rfl ⟨rfl, e1, rfl⟩ (by decide) (by decide)
theorem rm_mayBeSentBy_13 (l : Launch) (Z : State) (a0 : Array Value) (hw : own_HW Z a0) (ws : List Jvm.Cond)  (h0 : Heap) (n0 : Nat) {w_Mux_Type_NO_OPERATION w_Mux_Type_SHUTDOWN w_Mux_Type_PING w_Mux_Type_PING_ACK w_Mux_Type_ERROR w_Mux_Type_INCREMENT_RATION w_Mux_Type_ABORT w_Mux_Type_CLOSE w_Mux_Type_ACKNOWLEDGMENT w_Mux_Type_DATA w_Mux_Side_CLIENT w_Mux_Side_SERVER : Addr} (H : own_C Z Z.heap w_Mux_Type_NO_OPERATION w_Mux_Type_SHUTDOWN w_Mux_Type_PING w_Mux_Type_PING_ACK w_Mux_Type_ERROR w_Mux_Type_INCREMENT_RATION w_Mux_Type_ABORT w_Mux_Type_CLOSE w_Mux_Type_ACKNOWLEDGMENT w_Mux_Type_DATA w_Mux_Side_CLIENT w_Mux_Side_SERVER) (O : Old Z n0 h0)  :
    own_Met l (⟨"com/example/lodestar/lodestar/Mux$Type", "mayBeSentBy", "(Lcom/example/lodestar/lodestar/Mux$Side;)Z"⟩ : MethodName) prog_30_method_5_code 2 (some .boolean) ws (own_rm 0 0 0 0) Z #[(.ref w_Mux_Type_ABORT), (.ref w_Mux_Side_CLIENT)] h0 (own_R (some (.int (1 : Int32))) h0) := by
  refine own_met (plainFor_of_name pn_0) ?_
  intro p e s m below meth c T0 hx hby hml hown hret hk hnm hZ X0 e0
  have hown : s.vm.findClass "com/example/lodestar/lodestar/Mux$Type" = some m.cls := hown
  obtain ⟨-, -, -, -, -, -, -, -, -, -, -, -, -, -, -, -, -, -, -, -, -, -, -, -, -, -, -, -, -, -, -, -, -, -, -, F_w_Mux_Type_ABORT_sender, -⟩ := id H
  refine own_ent (ef_0 m w_Mux_Type_ABORT w_Mux_Side_CLIENT) ?_
  refine own_aload_n X0 hx (hb hby d0_0) rfl rfl 1 rfl ?_
  refine own_getF X0 hx hZ hown (host := "") (Or.inl (own_w hw 33 rfl)) Via.refl e0 (F_w_Mux_Type_ABORT_sender.ext O.2) (hb hby d0_1) 4 rfl fun T1 X1 e1 => ?_
  refine own_ifnullY X1 hx (hb hby d0_4) 15 (by decide) (by decide) ?_
  refine own_iconst X1 hx (hb hby d0_15) (1 : Int32) rfl 16 rfl ?_
  refine own_goto X1 hx (hb hby d0_16) 20 (by decide) (by decide) ?_
  exact own_retZ X1 hx hk hret (hb hby d0_20) rfl ⟨rfl, e1, rfl⟩ (by decide) (by decide)
theorem rm_mayBeSentBy_14 (l : Launch) (Z : State) (a0 : Array Value) (hw : own_HW Z a0) (ws : List Jvm.Cond)  (h0 : Heap) (n0 : Nat) {w_Mux_Type_NO_OPERATION w_Mux_Type_SHUTDOWN w_Mux_Type_PING w_Mux_Type_PING_ACK w_Mux_Type_ERROR w_Mux_Type_INCREMENT_RATION w_Mux_Type_ABORT w_Mux_Type_CLOSE w_Mux_Type_ACKNOWLEDGMENT w_Mux_Type_DATA w_Mux_Side_CLIENT w_Mux_Side_SERVER : Addr} (H : own_C Z Z.heap w_Mux_Type_NO_OPERATION w_Mux_Type_SHUTDOWN w_Mux_Type_PING w_Mux_Type_PING_ACK w_Mux_Type_ERROR w_Mux_Type_INCREMENT_RATION w_Mux_Type_ABORT w_Mux_Type_CLOSE w_Mux_Type_ACKNOWLEDGMENT w_Mux_Type_DATA w_Mux_Side_CLIENT w_Mux_Side_SERVER) (O : Old Z n0 h0)  :
    own_Met l (⟨"com/example/lodestar/lodestar/Mux$Type", "mayBeSentBy", "(Lcom/example/lodestar/lodestar/Mux$Side;)Z"⟩ : MethodName) prog_30_method_5_code 2 (some .boolean) ws (own_rm 0 0 0 0) Z #[(.ref w_Mux_Type_ABORT), (.ref w_Mux_Side_SERVER)] h0 (own_R (some (.int (1 : Int32))) h0) := by
  refine own_met (plainFor_of_name pn_0) ?_
  intro p e s m below meth c T0 hx hby hml hown hret hk hnm hZ X0 e0
  have hown : s.vm.findClass "com/example/lodestar/lodestar/Mux$Type" = some m.cls := hown
  obtain ⟨-, -, -, -, -, -, -, -, -, -, -, -, -, -, -, -, -, -, -, -, -, -, -, -, -, -, -, -, -, -, -, -, -, -, -, F_w_Mux_Type_ABORT_sender, -⟩ := id H
  refine own_ent (ef_0 m w_Mux_Type_ABORT w_Mux_Side_SERVER) ?_
  refine own_aload_n X0 hx (hb hby d0_0) rfl rfl 1 rfl ?_
  refine own_getF X0 hx hZ hown (host := "") (Or.inl (own_w hw 33 rfl)) Via.refl e0 (F_w_Mux_Type_ABORT_sender.ext O.2) (hb hby d0_1) 4 rfl fun T1 X1 e1 => ?_
  refine own_ifnullY X1 hx (hb hby d0_4) 15 (by decide) (by decide) ?_
  refine own_iconst X1 hx (hb hby d0_15) (1 : Int32) rfl 16 rfl ?_
  refine own_goto X1 hx (hb hby d0_16) 20 (by decide) (by decide) ?_
  exact own_retZ X1 hx hk hret (hb hby d0_20) rfl ⟨rfl, e1, rfl⟩ (by decide) (by decide)
theorem rm_mayBeSentBy_15 (l : Launch) (Z : State) (a0 : Array Value) (hw : own_HW Z a0) (ws : List Jvm.Cond)  (h0 : Heap) (n0 : Nat) {w_Mux_Type_NO_OPERATION w_Mux_Type_SHUTDOWN w_Mux_Type_PING w_Mux_Type_PING_ACK w_Mux_Type_ERROR w_Mux_Type_INCREMENT_RATION w_Mux_Type_ABORT w_Mux_Type_CLOSE w_Mux_Type_ACKNOWLEDGMENT w_Mux_Type_DATA w_Mux_Side_CLIENT w_Mux_Side_SERVER : Addr} (H : own_C Z Z.heap w_Mux_Type_NO_OPERATION w_Mux_Type_SHUTDOWN w_Mux_Type_PING w_Mux_Type_PING_ACK w_Mux_Type_ERROR w_Mux_Type_INCREMENT_RATION w_Mux_Type_ABORT w_Mux_Type_CLOSE w_Mux_Type_ACKNOWLEDGMENT w_Mux_Type_DATA w_Mux_Side_CLIENT w_Mux_Side_SERVER) (O : Old Z n0 h0)  :
    own_Met l (⟨"com/example/lodestar/lodestar/Mux$Type", "mayBeSentBy", "(Lcom/example/lodestar/lodestar/Mux$Side;)Z"⟩ : MethodName) prog_30_method_5_code 2 (some .boolean) ws (own_rm 0 0 0 0) Z #[(.ref w_Mux_Type_CLOSE), (.ref w_Mux_Side_CLIENT)] h0 (own_R (some (.int (0 : Int32))) h0) := by
  refine own_met (plainFor_of_name pn_0) ?_
  intro p e s m below meth c T0 hx hby hml hown hret hk hnm hZ X0 e0
  have hown : s.vm.findClass "com/example/lodestar/lodestar/Mux$Type" = some m.cls := hown
  obtain ⟨-, -, -, -, -, -, -, -, -, -, -, -, -, -, -, -, -, -, -, -, -, -, -, -, -, -, -, -, -, -, F_w_Mux_Type_CLOSE_sender, -, -, -, -, -, ne_w_Mux_Side_CLIENT_w_Mux_Side_SERVER⟩ := id H
  refine own_ent (ef_0 m w_Mux_Type_CLOSE w_Mux_Side_CLIENT) ?_
  refine own_aload_n X0 hx (hb hby d0_0) rfl rfl 1 rfl ?_
  refine own_getF X0 hx hZ hown (host := "") (Or.inl (own_w hw 33 rfl)) Via.refl e0 (F_w_Mux_Type_CLOSE_sender.ext O.2) (hb hby d0_1) 4 rfl fun T1 X1 e1 => ?_
  refine own_ifnullN X1 hx (hb hby d0_4) 7 rfl ?_
  refine own_aload_n X1 hx (hb hby d0_7) rfl rfl 8 rfl ?_
  refine own_getF X1 hx hZ hown (host := "") (Or.inl (own_w hw 33 rfl)) Via.refl e1 (F_w_Mux_Type_CLOSE_sender.ext O.2) (hb hby d0_8) 11 rfl fun T2 X2 e2 => ?_
  refine own_aload_n X2 hx (hb hby d0_11) rfl rfl 12 rfl ?_
  refine own_acmp X2 hx false (hb hby d0_12) rfl rfl (decide_eq_false fun q => (Ne.symm ne_w_Mux_Side_CLIENT_w_Mux_Side_SERVER) (Value.ref.inj q)) 19 (by decide) (by decide) ?_
  refine own_iconst X2 hx (hb hby d0_19) (0 : Int32) rfl 20 rfl ?_
  exact own_retZ X2 hx hk hret (hb hby d0_20) rfl ⟨rfl, e2, rfl⟩ (by decide) (by decide)
theorem rm_mayBeSentBy_16 (l : Launch) (Z : State) (a0 : Array Value) (hw : own_HW Z a0) (ws : List Jvm.Cond)  (h0 : Heap) (n0 : Nat) {w_Mux_Type_NO_OPERATION w_Mux_Type_SHUTDOWN w_Mux_Type_PING w_Mux_Type_PING_ACK w_Mux_Type_ERROR w_Mux_Type_INCREMENT_RATION w_Mux_Type_ABORT w_Mux_Type_CLOSE w_Mux_Type_ACKNOWLEDGMENT w_Mux_Type_DATA w_Mux_Side_CLIENT w_Mux_Side_SERVER : Addr} (H : own_C Z Z.heap w_Mux_Type_NO_OPERATION w_Mux_Type_SHUTDOWN w_Mux_Type_PING w_Mux_Type_PING_ACK w_Mux_Type_ERROR w_Mux_Type_INCREMENT_RATION w_Mux_Type_ABORT w_Mux_Type_CLOSE w_Mux_Type_ACKNOWLEDGMENT w_Mux_Type_DATA w_Mux_Side_CLIENT w_Mux_Side_SERVER) (O : Old Z n0 h0)  :
    own_Met l (⟨"com/example/lodestar/lodestar/Mux$Type", "mayBeSentBy", "(Lcom/example/lodestar/lodestar/Mux$Side;)Z"⟩ : MethodName) prog_30_method_5_code 2 (some .boolean) ws (own_rm 0 0 0 0) Z #[(.ref w_Mux_Type_CLOSE), (.ref w_Mux_Side_SERVER)] h0 (own_R (some (.int (1 : Int32))) h0) := by
  refine own_met (plainFor_of_name pn_0) ?_
  intro p e s m below meth c T0 hx hby hml hown hret hk hnm hZ X0 e0
  have hown : s.vm.findClass "com/example/lodestar/lodestar/Mux$Type" = some m.cls := hown
  obtain ⟨-, -, -, -, -, -, -, -, -, -, -, -, -, -, -, -, -, -, -, -, -, -, -, -, -, -, -, -, -, -, F_w_Mux_Type_CLOSE_sender, -, -, -, -, -, -⟩ := id H
  refine own_ent (ef_0 m w_Mux_Type_CLOSE w_Mux_Side_SERVER) ?_
  refine own_aload_n X0 hx (hb hby d0_0) rfl rfl 1 rfl ?_
  refine own_getF X0 hx hZ hown (host := "") (Or.inl (own_w hw 33 rfl)) Via.refl e0 (F_w_Mux_Type_CLOSE_sender.ext O.2) (hb hby d0_1) 4 rfl fun T1 X1 e1 => ?_
  refine own_ifnullN X1 hx (hb hby d0_4) 7 rfl ?_
  refine own_aload_n X1 hx (hb hby d0_7) rfl rfl 8 rfl ?_
  refine own_getF X1 hx hZ hown (host := "") (Or.inl (own_w hw 33 rfl)) Via.refl e1 (F_w_Mux_Type_CLOSE_sender.ext O.2) (hb hby d0_8) 11 rfl fun T2 X2 e2 => ?_
  refine own_aload_n X2 hx (hb hby d0_11) rfl rfl 12 rfl ?_
  refine own_acmp X2 hx true (hb hby d0_12) rfl rfl (decide_eq_true rfl) 15 (by decide) (by decide) ?_
  refine own_iconst X2 hx (hb hby d0_15) (1 : Int32) rfl 16 rfl ?_
  refine own_goto X2 hx (hb hby d0_16) 20 (by decide) (by decide) ?_
  exact own_retZ X2 hx hk hret (hb hby d0_20) rfl ⟨rfl, e2, rfl⟩ (by decide) (by decide)
theorem rm_mayBeSentBy_17 (l : Launch) (Z : State) (a0 : Array Value) (hw : own_HW Z a0) (ws : List Jvm.Cond)  (h0 : Heap) (n0 : Nat) {w_Mux_Type_NO_OPERATION w_Mux_Type_SHUTDOWN w_Mux_Type_PING w_Mux_Type_PING_ACK w_Mux_Type_ERROR w_Mux_Type_INCREMENT_RATION w_Mux_Type_ABORT w_Mux_Type_CLOSE w_Mux_Type_ACKNOWLEDGMENT w_Mux_Type_DATA w_Mux_Side_CLIENT w_Mux_Side_SERVER : Addr} (H : own_C Z Z.heap w_Mux_Type_NO_OPERATION w_Mux_Type_SHUTDOWN w_Mux_Type_PING w_Mux_Type_PING_ACK w_Mux_Type_ERROR w_Mux_Type_INCREMENT_RATION w_Mux_Type_ABORT w_Mux_Type_CLOSE w_Mux_Type_ACKNOWLEDGMENT w_Mux_Type_DATA w_Mux_Side_CLIENT w_Mux_Side_SERVER) (O : Old Z n0 h0)  :
    own_Met l (⟨"com/example/lodestar/lodestar/Mux$Type", "mayBeSentBy", "(Lcom/example/lodestar/lodestar/Mux$Side;)Z"⟩ : MethodName) prog_30_method_5_code 2 (some .boolean) ws (own_rm 0 0 0 0) Z #[(.ref w_Mux_Type_ACKNOWLEDGMENT), (.ref w_Mux_Side_CLIENT)] h0 (own_R (some (.int (1 : Int32))) h0) := by
  refine own_met (plainFor_of_name pn_0) ?_
  intro p e s m below meth c T0 hx hby hml hown hret hk hnm hZ X0 e0
  have hown : s.vm.findClass "com/example/lodestar/lodestar/Mux$Type" = some m.cls := hown
  obtain ⟨-, -, -, -, -, -, -, -, -, -, -, -, -, -, -, -, -, -, -, -, -, -, -, -, -, -, -, -, -, -, -, -, F_w_Mux_Type_ACKNOWLEDGMENT_sender, -, -, -, -⟩ := id H
  refine own_ent (ef_0 m w_Mux_Type_ACKNOWLEDGMENT w_Mux_Side_CLIENT) ?_
  refine own_aload_n X0 hx (hb hby d0_0) rfl rfl 1 rfl ?_
  refine own_getF X0 hx hZ hown (host := "") (Or.inl (own_w hw 33 rfl)) Via.refl e0 (F_w_Mux_Type_ACKNOWLEDGMENT_sender.ext O.2) (hb hby d0_1) 4 rfl fun T1 X1 e1 => ?_
  refine own_ifnullN X1 hx (hb hby d0_4) 7 rfl ?_
  refine own_aload_n X1 hx (hb hby d0_7) rfl rfl 8 rfl ?_
  refine own_getF X1 hx hZ hown (host := "") (Or.inl (own_w hw 33 rfl)) Via.refl e1 (F_w_Mux_Type_ACKNOWLEDGMENT_sender.ext O.2) (hb hby d0_8) 11 rfl fun T2 X2 e2 => ?_
  refine own_aload_n X2 hx (hb hby d0_11) rfl rfl 12 rfl ?_
  refine own_acmp X2 hx true (hb hby d0_12) rfl rfl (decide_eq_true rfl) 15 (by decide) (by decide) ?_
  refine own_iconst X2 hx (hb hby d0_15) (1 : Int32) rfl 16 rfl ?_
  refine own_goto X2 hx (hb hby d0_16) 20 (by decide) (by decide) ?_
  exact own_retZ X2 hx hk hret (hb hby d0_20) rfl ⟨rfl, e2, rfl⟩ (by decide) (by decide)
theorem rm_mayBeSentBy_18 (l : Launch) (Z : State) (a0 : Array Value) (hw : own_HW Z a0) (ws : List Jvm.Cond)  (h0 : Heap) (n0 : Nat) {w_Mux_Type_NO_OPERATION w_Mux_Type_SHUTDOWN w_Mux_Type_PING w_Mux_Type_PING_ACK w_Mux_Type_ERROR w_Mux_Type_INCREMENT_RATION w_Mux_Type_ABORT w_Mux_Type_CLOSE w_Mux_Type_ACKNOWLEDGMENT w_Mux_Type_DATA w_Mux_Side_CLIENT w_Mux_Side_SERVER : Addr} (H : own_C Z Z.heap w_Mux_Type_NO_OPERATION w_Mux_Type_SHUTDOWN w_Mux_Type_PING w_Mux_Type_PING_ACK w_Mux_Type_ERROR w_Mux_Type_INCREMENT_RATION w_Mux_Type_ABORT w_Mux_Type_CLOSE w_Mux_Type_ACKNOWLEDGMENT w_Mux_Type_DATA w_Mux_Side_CLIENT w_Mux_Side_SERVER) (O : Old Z n0 h0)  :
    own_Met l (⟨"com/example/lodestar/lodestar/Mux$Type", "mayBeSentBy", "(Lcom/example/lodestar/lodestar/Mux$Side;)Z"⟩ : MethodName) prog_30_method_5_code 2 (some .boolean) ws (own_rm 0 0 0 0) Z #[(.ref w_Mux_Type_ACKNOWLEDGMENT), (.ref w_Mux_Side_SERVER)] h0 (own_R (some (.int (0 : Int32))) h0) := by
  refine own_met (plainFor_of_name pn_0) ?_
  intro p e s m below meth c T0 hx hby hml hown hret hk hnm hZ X0 e0
  have hown : s.vm.findClass "com/example/lodestar/lodestar/Mux$Type" = some m.cls := hown
  obtain ⟨-, -, -, -, -, -, -, -, -, -, -, -, -, -, -, -, -, -, -, -, -, -, -, -, -, -, -, -, -, -, -, -, F_w_Mux_Type_ACKNOWLEDGMENT_sender, -, -, -, ne_w_Mux_Side_CLIENT_w_Mux_Side_SERVER⟩ := id H
  refine own_ent (ef_0 m w_Mux_Type_ACKNOWLEDGMENT w_Mux_Side_SERVER) ?_
  refine own_aload_n X0 hx (hb hby d0_0) rfl rfl 1 rfl ?_
  refine own_getF X0 hx hZ hown (host := "") (Or.inl (own_w hw 33 rfl)) Via.refl e0 (F_w_Mux_Type_ACKNOWLEDGMENT_sender.ext O.2) (hb hby d0_1) 4 rfl fun T1 X1 e1 => ?_
  refine own_ifnullN X1 hx (hb hby d0_4) 7 rfl ?_
  refine own_aload_n X1 hx (hb hby d0_7) rfl rfl 8 rfl ?_
  refine own_getF X1 hx hZ hown (host := "") (Or.inl (own_w hw 33 rfl)) Via.refl e1 (F_w_Mux_Type_ACKNOWLEDGMENT_sender.ext O.2) (hb hby d0_8) 11 rfl fun T2 X2 e2 => ?_
  refine own_aload_n X2 hx (hb hby d0_11) rfl rfl 12 rfl ?_
  refine own_acmp X2 hx false (hb hby d0_12) rfl rfl (decide_eq_false fun q => ne_w_Mux_Side_CLIENT_w_Mux_Side_SERVER (Value.ref.inj q)) 19 (by decide) (by decide) ?_
  refine own_iconst X2 hx (hb hby d0_19) (0 : Int32) rfl 20 rfl ?_
  exact own_retZ X2 hx hk hret (hb hby d0_20) rfl ⟨rfl, e2, rfl⟩ (by decide) (by decide)
theorem rm_mayBeSentBy_19 (l : Launch) (Z : State) (a0 : Array Value) (hw : own_HW Z a0) (ws : List Jvm.Cond)  (h0 : Heap) (n0 : Nat) {w_Mux_Type_NO_OPERATION w_Mux_Type_SHUTDOWN w_Mux_Type_PING w_Mux_Type_PING_ACK w_Mux_Type_ERROR w_Mux_Type_INCREMENT_RATION w_Mux_Type_ABORT w_Mux_Type_CLOSE w_Mux_Type_ACKNOWLEDGMENT w_Mux_Type_DATA w_Mux_Side_CLIENT w_Mux_Side_SERVER : Addr} (H : own_C Z Z.heap w_Mux_Type_NO_OPERATION w_Mux_Type_SHUTDOWN w_Mux_Type_PING w_Mux_Type_PING_ACK w_Mux_Type_ERROR w_Mux_Type_INCREMENT_RATION w_Mux_Type_ABORT w_Mux_Type_CLOSE w_Mux_Type_ACKNOWLEDGMENT w_Mux_Type_DATA w_Mux_Side_CLIENT w_Mux_Side_SERVER) (O : Old Z n0 h0)  :
    own_Met l (⟨"com/example/lodestar/lodestar/Mux$Type", "mayBeSentBy", "(Lcom/example/lodestar/lodestar/Mux$Side;)Z"⟩ : MethodName) prog_30_method_5_code 2 (some .boolean) ws (own_rm 0 0 0 0) Z #[(.ref w_Mux_Type_DATA), (.ref w_Mux_Side_CLIENT)] h0 (own_R (some (.int (1 : Int32))) h0) := by
  refine own_met (plainFor_of_name pn_0) ?_
  intro p e s m below meth c T0 hx hby hml hown hret hk hnm hZ X0 e0
  have hown : s.vm.findClass "com/example/lodestar/lodestar/Mux$Type" = some m.cls := hown
  obtain ⟨-, -, -, -, -, -, -, -, -, -, -, -, -, -, -, -, -, -, -, -, -, -, -, -, -, -, -, -, -, -, -, -, -, F_w_Mux_Type_DATA_sender, -, -, -⟩ := id H
  refine own_ent (ef_0 m w_Mux_Type_DATA w_Mux_Side_CLIENT) ?_
  refine own_aload_n X0 hx (hb hby d0_0) rfl rfl 1 rfl ?_
  refine own_getF X0 hx hZ hown (host := "") (Or.inl (own_w hw 33 rfl)) Via.refl e0 (F_w_Mux_Type_DATA_sender.ext O.2) (hb hby d0_1) 4 rfl fun T1 X1 e1 => ?_
  refine own_ifnullY X1 hx (hb hby d0_4) 15 (by decide) (by decide) ?_
  refine own_iconst X1 hx (hb hby d0_15) (1 : Int32) rfl 16 rfl ?_
  refine own_goto X1 hx (hb hby d0_16) 20 (by decide) (by decide) ?_
  exact own_retZ X1 hx hk hret (hb hby d0_20) rfl ⟨rfl, e1, rfl⟩ (by decide) (by decide)
theorem rm_mayBeSentBy_20 (l : Launch) (Z : State) (a0 : Array Value) (hw : own_HW Z a0) (ws : List Jvm.Cond)  (h0 : Heap) (n0 : Nat) {w_Mux_Type_NO_OPERATION w_Mux_Type_SHUTDOWN w_Mux_Type_PING w_Mux_Type_PING_ACK w_Mux_Type_ERROR w_Mux_Type_INCREMENT_RATION w_Mux_Type_ABORT w_Mux_Type_CLOSE w_Mux_Type_ACKNOWLEDGMENT w_Mux_Type_DATA w_Mux_Side_CLIENT w_Mux_Side_SERVER : Addr} (H : own_C Z Z.heap w_Mux_Type_NO_OPERATION w_Mux_Type_SHUTDOWN w_Mux_Type_PING w_Mux_Type_PING_ACK w_Mux_Type_ERROR w_Mux_Type_INCREMENT_RATION w_Mux_Type_ABORT w_Mux_Type_CLOSE w_Mux_Type_ACKNOWLEDGMENT w_Mux_Type_DATA w_Mux_Side_CLIENT w_Mux_Side_SERVER) (O : Old Z n0 h0)  :
    own_Met l (⟨"com/example/lodestar/lodestar/Mux$Type", "mayBeSentBy", "(Lcom/example/lodestar/lodestar/Mux$Side;)Z"⟩ : MethodName) prog_30_method_5_code 2 (some .boolean) ws (own_rm 0 0 0 0) Z #[(.ref w_Mux_Type_DATA), (.ref w_Mux_Side_SERVER)] h0 (own_R (some (.int (1 : Int32))) h0) := by
  refine own_met (plainFor_of_name pn_0) ?_
  intro p e s m below meth c T0 hx hby hml hown hret hk hnm hZ X0 e0
  have hown : s.vm.findClass "com/example/lodestar/lodestar/Mux$Type" = some m.cls := hown
  obtain ⟨-, -, -, -, -, -, -, -, -, -, -, -, -, -, -, -, -, -, -, -, -, -, -, -, -, -, -, -, -, -, -, -, -, F_w_Mux_Type_DATA_sender, -, -, -⟩ := id H
  refine own_ent (ef_0 m w_Mux_Type_DATA w_Mux_Side_SERVER) ?_
  refine own_aload_n X0 hx (hb hby d0_0) rfl rfl 1 rfl ?_
  refine own_getF X0 hx hZ hown (host := "") (Or.inl (own_w hw 33 rfl)) Via.refl e0 (F_w_Mux_Type_DATA_sender.ext O.2) (hb hby d0_1) 4 rfl fun T1 X1 e1 => ?_
  refine own_ifnullY X1 hx (hb hby d0_4) 15 (by decide) (by decide) ?_
  refine own_iconst X1 hx (hb hby d0_15) (1 : Int32) rfl 16 rfl ?_
  refine own_goto X1 hx (hb hby d0_16) 20 (by decide) (by decide) ?_
  exact own_retZ X1 hx hk hret (hb hby d0_20) rfl ⟨rfl, e1, rfl⟩ (by decide) (by decide)
theorem pd_0 : parseMethodDescriptor "(Lcom/example/lodestar/lodestar/Mux$Side;)Z" = some ⟨[(.object "com/example/lodestar/lodestar/Mux$Side")], some .boolean⟩ := by decide +kernel
theorem pn_1 : plainName "com/example/lodestar/lodestar/TypeMayBeSentByPinLaw" = true := by first | (simp [plainName, overriddenIn]; done) | decide +kernel
theorem ef_1 (m : MethodId) (y0 : Int32) : entryFrame m #[(.int y0)] maxLocals = mkF m 0 #[.val (.int y0), .unset, .unset, .unset, .unset, .unset, .unset, .unset] [] := by first | (simp [entryFrame, mkF, argsToLocals, Value.category, maxLocals]; done) | rfl
theorem rm0 (l : Launch) (Z : State) (a0 : Array Value) (hw : own_HW Z a0) (ws : List Jvm.Cond) (x0 : Int32) (h0 : Heap) (n0 : Nat) {w_Mux_Type_NO_OPERATION w_Mux_Type_SHUTDOWN w_Mux_Type_PING w_Mux_Type_PING_ACK w_Mux_Type_ERROR w_Mux_Type_INCREMENT_RATION w_Mux_Type_ABORT w_Mux_Type_CLOSE w_Mux_Type_ACKNOWLEDGMENT w_Mux_Type_DATA w_Mux_Side_CLIENT w_Mux_Side_SERVER : Addr} (H : own_C Z Z.heap w_Mux_Type_NO_OPERATION w_Mux_Type_SHUTDOWN w_Mux_Type_PING w_Mux_Type_PING_ACK w_Mux_Type_ERROR w_Mux_Type_INCREMENT_RATION w_Mux_Type_ABORT w_Mux_Type_CLOSE w_Mux_Type_ACKNOWLEDGMENT w_Mux_Type_DATA w_Mux_Side_CLIENT w_Mux_Side_SERVER) (O : Old Z n0 h0) :
    own_Met l x code maxLocals ret ws room_1 Z #[(.int x0)] h0 (own_Q0 n0) := by
  refine own_met (plainFor_of_name pn_1) ?_
  intro p e s m below meth c T0 hx hby hml hown hret hk hnm hZ X0 e0
  have hown : s.vm.findClass "com/example/lodestar/lodestar/TypeMayBeSentByPinLaw" = some m.cls := hown
  obtain ⟨S_w_Mux_Type_NO_OPERATION, E_w_Mux_Type_NO_OPERATION, S_w_Mux_Type_SHUTDOWN, E_w_Mux_Type_SHUTDOWN, S_w_Mux_Type_PING, E_w_Mux_Type_PING, S_w_Mux_Type_PING_ACK, E_w_Mux_Type_PING_ACK, S_w_Mux_Type_ERROR, E_w_Mux_Type_ERROR, S_w_Mux_Type_INCREMENT_RATION, E_w_Mux_Type_INCREMENT_RATION, S_w_Mux_Type_ABORT, E_w_Mux_Type_ABORT, S_w_Mux_Type_CLOSE, E_w_Mux_Type_CLOSE, S_w_Mux_Type_ACKNOWLEDGMENT, E_w_Mux_Type_ACKNOWLEDGMENT, S_w_Mux_Type_DATA, E_w_Mux_Type_DATA, S_w_Mux_Side_CLIENT, -, S_w_Mux_Side_SERVER, -, -, -, -, -, -, -, -, -, -, -, -, -, -⟩ := id H
  refine own_ent (ef_1 m x0) ?_
  refine own_bipush X0 hx (hb hby at_0) (10 : Int32) rfl 2 rfl ?_
  refine own_newR X0 hx hZ hown (own_w hw 0 rfl) (own_w hw 1 rfl) e0 (hb hby at_2) (by decide) 10 (by decide) (by decide) (by decide) (by decide) "[Lcom/example/lodestar/lodestar/Mux$Type;" (by decide) 5 rfl fun T1 a1 c1 g1 X1 E1 V1 A1 P1 => ?_
  have g_a1 : n0 ≤ a1 := Nat.le_trans (own_osz O) (Nat.le_of_eq g1)
  have O2 := O.ext E1
  have V1 : Arv Z T1.heap a1 c1 (.object "com/example/lodestar/lodestar/Mux$Type") (10 : Int32) [] .null := V1
  refine own_dup X1 hx (hb hby at_5) rfl 6 rfl ?_
  refine own_iconst X1 hx (hb hby at_6) (0 : Int32) rfl 7 rfl ?_
  refine own_getS X1 hx hZ hown (host := "") (Or.inl (own_w hw 2 rfl)) Via.refl rfl (S_w_Mux_Type_NO_OPERATION.ext O2.2) (hb hby at_7) 10 rfl fun T3 X3 e3 => ?_
  have V4 : Arv Z T1.heap a1 c1 (.object "com/example/lodestar/lodestar/Mux$Type") (10 : Int32) [.null] .null := V1.pad (pad_rep [] .null 1)
  refine own_aastore X3 hx hZ e3 V4 rfl rfl (fun _ u q => Sto.ofV u q P1 (Ins.self (E_w_Mux_Type_NO_OPERATION.ext O2.2))) 0 (by decide) (by decide) (by simp) [(.ref w_Mux_Type_NO_OPERATION)] rfl (hb hby at_10) 11 rfl fun T5 X5 W5 V5 => ?_
  have O6 := O2.wr W5 g_a1
  have N6 := Fr.snoc X5 (Fr.nil n0) g_a1
  refine own_dup X5 hx (hb hby at_11) rfl 12 rfl ?_
  refine own_iconst X5 hx (hb hby at_12) (1 : Int32) rfl 13 rfl ?_
  refine own_getS X5 hx hZ hown (host := "") (Or.inl (own_w hw 6 rfl)) Via.refl rfl (S_w_Mux_Type_SHUTDOWN.ext O6.2) (hb hby at_13) 16 rfl fun T7 X7 e7 => ?_
  have V8 : Arv Z T5.heap a1 c1 (.object "com/example/lodestar/lodestar/Mux$Type") (10 : Int32) [(.ref w_Mux_Type_NO_OPERATION), .null] .null := V5.pad (pad_rep [(.ref w_Mux_Type_NO_OPERATION)] .null 1)
  refine own_aastore X7 hx hZ e7 V8 rfl rfl (fun _ u q => Sto.ofV u q P1 (Ins.self (E_w_Mux_Type_SHUTDOWN.ext O6.2))) 1 (by decide) (by decide) (by simp) [(.ref w_Mux_Type_NO_OPERATION), (.ref w_Mux_Type_SHUTDOWN)] rfl (hb hby at_16) 17 rfl fun T9 X9 W9 V9 => ?_
  have O10 := O6.wr W9 g_a1
  have N10 := Fr.snoc X9 N6 g_a1
  refine own_dup X9 hx (hb hby at_17) rfl 18 rfl ?_
  refine own_iconst X9 hx (hb hby at_18) (2 : Int32) rfl 19 rfl ?_
  refine own_getS X9 hx hZ hown (host := "") (Or.inl (own_w hw 8 rfl)) Via.refl rfl (S_w_Mux_Type_PING.ext O10.2) (hb hby at_19) 22 rfl fun T11 X11 e11 => ?_
  have V12 : Arv Z T9.heap a1 c1 (.object "com/example/lodestar/lodestar/Mux$Type") (10 : Int32) [(.ref w_Mux_Type_NO_OPERATION), (.ref w_Mux_Type_SHUTDOWN), .null] .null := V9.pad (pad_rep [(.ref w_Mux_Type_NO_OPERATION), (.ref w_Mux_Type_SHUTDOWN)] .null 1)
  refine own_aastore X11 hx hZ e11 V12 rfl rfl (fun _ u q => Sto.ofV u q P1 (Ins.self (E_w_Mux_Type_PING.ext O10.2))) 2 (by decide) (by decide) (by simp) [(.ref w_Mux_Type_NO_OPERATION), (.ref w_Mux_Type_SHUTDOWN), (.ref w_Mux_Type_PING)] rfl (hb hby at_22) 23 rfl fun T13 X13 W13 V13 => ?_
  have O14 := O10.wr W13 g_a1
  have N14 := Fr.snoc X13 N10 g_a1
  refine own_dup X13 hx (hb hby at_23) rfl 24 rfl ?_
  refine own_iconst X13 hx (hb hby at_24) (3 : Int32) rfl 25 rfl ?_
  refine own_getS X13 hx hZ hown (host := "") (Or.inl (own_w hw 10 rfl)) Via.refl rfl (S_w_Mux_Type_PING_ACK.ext O14.2) (hb hby at_25) 28 rfl fun T15 X15 e15 => ?_
  have V16 : Arv Z T13.heap a1 c1 (.object "com/example/lodestar/lodestar/Mux$Type") (10 : Int32) [(.ref w_Mux_Type_NO_OPERATION), (.ref w_Mux_Type_SHUTDOWN), (.ref w_Mux_Type_PING), .null] .null := V13.pad (pad_rep [(.ref w_Mux_Type_NO_OPERATION), (.ref w_Mux_Type_SHUTDOWN), (.ref w_Mux_Type_PING)] .null 1)
  refine own_aastore X15 hx hZ e15 V16 rfl rfl (fun _ u q => Sto.ofV u q P1 (Ins.self (E_w_Mux_Type_PING_ACK.ext O14.2))) 3 (by decide) (by decide) (by simp) [(.ref w_Mux_Type_NO_OPERATION), (.ref w_Mux_Type_SHUTDOWN), (.ref w_Mux_Type_PING), (.ref w_Mux_Type_PING_ACK)] rfl (hb hby at_28) 29 rfl fun T17 X17 W17 V17 => ?_
  have O18 := O14.wr W17 g_a1
  have N18 := Fr.snoc X17 N14 g_a1
  refine own_dup X17 hx (hb hby at_29) rfl 30 rfl ?_
  refine own_iconst X17 hx (hb hby at_30) (4 : Int32) rfl 31 rfl ?_
  refine own_getS X17 hx hZ hown (host := "") (Or.inl (own_w hw 12 rfl)) Via.refl rfl (S_w_Mux_Type_ERROR.ext O18.2) (hb hby at_31) 34 rfl fun T19 X19 e19 => ?_
  have V20 : Arv Z T17.heap a1 c1 (.object "com/example/lodestar/lodestar/Mux$Type") (10 : Int32) [(.ref w_Mux_Type_NO_OPERATION), (.ref w_Mux_Type_SHUTDOWN), (.ref w_Mux_Type_PING), (.ref w_Mux_Type_PING_ACK), .null] .null := V17.pad (pad_rep [(.ref w_Mux_Type_NO_OPERATION), (.ref w_Mux_Type_SHUTDOWN), (.ref w_Mux_Type_PING), (.ref w_Mux_Type_PING_ACK)] .null 1)
  refine own_aastore X19 hx hZ e19 V20 rfl rfl (fun _ u q => Sto.ofV u q P1 (Ins.self (E_w_Mux_Type_ERROR.ext O18.2))) 4 (by decide) (by decide) (by simp) [(.ref w_Mux_Type_NO_OPERATION), (.ref w_Mux_Type_SHUTDOWN), (.ref w_Mux_Type_PING), (.ref w_Mux_Type_PING_ACK), (.ref w_Mux_Type_ERROR)] rfl (hb hby at_34) 35 rfl fun T21 X21 W21 V21 => ?_
  have O22 := O18.wr W21 g_a1
  have N22 := Fr.snoc X21 N18 g_a1
  refine own_dup X21 hx (hb hby at_35) rfl 36 rfl ?_
  refine own_iconst X21 hx (hb hby at_36) (5 : Int32) rfl 37 rfl ?_
  refine own_getS X21 hx hZ hown (host := "") (Or.inl (own_w hw 14 rfl)) Via.refl rfl (S_w_Mux_Type_INCREMENT_RATION.ext O22.2) (hb hby at_37) 40 rfl fun T23 X23 e23 => ?_
  have V24 : Arv Z T21.heap a1 c1 (.object "com/example/lodestar/lodestar/Mux$Type") (10 : Int32) [(.ref w_Mux_Type_NO_OPERATION), (.ref w_Mux_Type_SHUTDOWN), (.ref w_Mux_Type_PING), (.ref w_Mux_Type_PING_ACK), (.ref w_Mux_Type_ERROR), .null] .null := V21.pad (pad_rep [(.ref w_Mux_Type_NO_OPERATION), (.ref w_Mux_Type_SHUTDOWN), (.ref w_Mux_Type_PING), (.ref w_Mux_Type_PING_ACK), (.ref w_Mux_Type_ERROR)] .null 1)
  refine own_aastore X23 hx hZ e23 V24 rfl rfl (fun _ u q => Sto.ofV u q P1 (Ins.self (E_w_Mux_Type_INCREMENT_RATION.ext O22.2))) 5 (by decide) (by decide) (by simp) [(.ref w_Mux_Type_NO_OPERATION), (.ref w_Mux_Type_SHUTDOWN), (.ref w_Mux_Type_PING), (.ref w_Mux_Type_PING_ACK), (.ref w_Mux_Type_ERROR), (.ref w_Mux_Type_INCREMENT_RATION)] rfl (hb hby at_40) 41 rfl fun T25 X25 W25 V25 => ?_
  have O26 := O22.wr W25 g_a1
  have N26 := Fr.snoc X25 N22 g_a1
  refine own_dup X25 hx (hb hby at_41) rfl 42 rfl ?_
  refine own_bipush X25 hx (hb hby at_42) (6 : Int32) rfl 44 rfl ?_
  refine own_getS X25 hx hZ hown (host := "") (Or.inl (own_w hw 16 rfl)) Via.refl rfl (S_w_Mux_Type_ABORT.ext O26.2) (hb hby at_44) 47 rfl fun T27 X27 e27 => ?_
  have V28 : Arv Z T25.heap a1 c1 (.object "com/example/lodestar/lodestar/Mux$Type") (10 : Int32) [(.ref w_Mux_Type_NO_OPERATION), (.ref w_Mux_Type_SHUTDOWN), (.ref w_Mux_Type_PING), (.ref w_Mux_Type_PING_ACK), (.ref w_Mux_Type_ERROR), (.ref w_Mux_Type_INCREMENT_RATION), .null] .null := V25.pad (pad_rep [(.ref w_Mux_Type_NO_OPERATION), (.ref w_Mux_Type_SHUTDOWN), (.ref w_Mux_Type_PING), (.ref w_Mux_Type_PING_ACK), (.ref w_Mux_Type_ERROR), (.ref w_Mux_Type_INCREMENT_RATION)] .null 1)
  refine own_aastore X27 hx hZ e27 V28 rfl rfl (fun _ u q => Sto.ofV u q P1 (Ins.self (E_w_Mux_Type_ABORT.ext O26.2))) 6 (by decide) (by decide) (by simp) [(.ref w_Mux_Type_NO_OPERATION), (.ref w_Mux_Type_SHUTDOWN), (.ref w_Mux_Type_PING), (.ref w_Mux_Type_PING_ACK), (.ref w_Mux_Type_ERROR), (.ref w_Mux_Type_INCREMENT_RATION), (.ref w_Mux_Type_ABORT)] rfl (hb hby at_47) 48 rfl fun T29 X29 W29 V29 => ?_
  have O30 := O26.wr W29 g_a1
  have N30 := Fr.snoc X29 N26 g_a1
  refine own_dup X29 hx (hb hby at_48) rfl 49 rfl ?_
  refine own_bipush X29 hx (hb hby at_49) (7 : Int32) rfl 51 rfl ?_
  refine own_getS X29 hx hZ hown (host := "") (Or.inl (own_w hw 18 rfl)) Via.refl rfl (S_w_Mux_Type_CLOSE.ext O30.2) (hb hby at_51) 54 rfl fun T31 X31 e31 => ?_
  have V32 : Arv Z T29.heap a1 c1 (.object "com/example/lodestar/lodestar/Mux$Type") (10 : Int32) [(.ref w_Mux_Type_NO_OPERATION), (.ref w_Mux_Type_SHUTDOWN), (.ref w_Mux_Type_PING), (.ref w_Mux_Type_PING_ACK), (.ref w_Mux_Type_ERROR), (.ref w_Mux_Type_INCREMENT_RATION), (.ref w_Mux_Type_ABORT), .null] .null := V29.pad (pad_rep [(.ref w_Mux_Type_NO_OPERATION), (.ref w_Mux_Type_SHUTDOWN), (.ref w_Mux_Type_PING), (.ref w_Mux_Type_PING_ACK), (.ref w_Mux_Type_ERROR), (.ref w_Mux_Type_INCREMENT_RATION), (.ref w_Mux_Type_ABORT)] .null 1)
  refine own_aastore X31 hx hZ e31 V32 rfl rfl (fun _ u q => Sto.ofV u q P1 (Ins.self (E_w_Mux_Type_CLOSE.ext O30.2))) 7 (by decide) (by decide) (by simp) [(.ref w_Mux_Type_NO_OPERATION), (.ref w_Mux_Type_SHUTDOWN), (.ref w_Mux_Type_PING), (.ref w_Mux_Type_PING_ACK), (.ref w_Mux_Type_ERROR), (.ref w_Mux_Type_INCREMENT_RATION), (.ref w_Mux_Type_ABORT), (.ref w_Mux_Type_CLOSE)] rfl (hb hby at_54) 55 rfl fun T33 X33 W33 V33 => ?_
  have O34 := O30.wr W33 g_a1
  have N34 := Fr.snoc X33 N30 g_a1
  refine own_dup X33 hx (hb hby at_55) rfl 56 rfl ?_
  refine own_bipush X33 hx (hb hby at_56) (8 : Int32) rfl 58 rfl ?_
  refine own_getS X33 hx hZ hown (host := "") (Or.inl (own_w hw 20 rfl)) Via.refl rfl (S_w_Mux_Type_ACKNOWLEDGMENT.ext O34.2) (hb hby at_58) 61 rfl fun T35 X35 e35 => ?_
  have V36 : Arv Z T33.heap a1 c1 (.object "com/example/lodestar/lodestar/Mux$Type") (10 : Int32) [(.ref w_Mux_Type_NO_OPERATION), (.ref w_Mux_Type_SHUTDOWN), (.ref w_Mux_Type_PING), (.ref w_Mux_Type_PING_ACK), (.ref w_Mux_Type_ERROR), (.ref w_Mux_Type_INCREMENT_RATION), (.ref w_Mux_Type_ABORT), (.ref w_Mux_Type_CLOSE), .null] .null := V33.pad (pad_rep [(.ref w_Mux_Type_NO_OPERATION), (.ref w_Mux_Type_SHUTDOWN), (.ref w_Mux_Type_PING), (.ref w_Mux_Type_PING_ACK), (.ref w_Mux_Type_ERROR), (.ref w_Mux_Type_INCREMENT_RATION), (.ref w_Mux_Type_ABORT), (.ref w_Mux_Type_CLOSE)] .null 1)
  refine own_aastore X35 hx hZ e35 V36 rfl rfl (fun _ u q => Sto.ofV u q P1 (Ins.self (E_w_Mux_Type_ACKNOWLEDGMENT.ext O34.2))) 8 (by decide) (by decide) (by simp) [(.ref w_Mux_Type_NO_OPERATION), (.ref w_Mux_Type_SHUTDOWN), (.ref w_Mux_Type_PING), (.ref w_Mux_Type_PING_ACK), (.ref w_Mux_Type_ERROR), (.ref w_Mux_Type_INCREMENT_RATION), (.ref w_Mux_Type_ABORT), (.ref w_Mux_Type_CLOSE), (.ref w_Mux_Type_ACKNOWLEDGMENT)] rfl (hb hby at_61) 62 rfl fun T37 X37 W37 V37 => ?_
  have O38 := O34.wr W37 g_a1
  have N38 := Fr.snoc X37 N34 g_a1
  refine own_dup X37 hx (hb hby at_62) rfl 63 rfl ?_
  refine own_bipush X37 hx (hb hby at_63) (9 : Int32) rfl 65 rfl ?_
  refine own_getS X37 hx hZ hown (host := "") (Or.inl (own_w hw 22 rfl)) Via.refl rfl (S_w_Mux_Type_DATA.ext O38.2) (hb hby at_65) 68 rfl fun T39 X39 e39 => ?_
  have V40 : Arv Z T37.heap a1 c1 (.object "com/example/lodestar/lodestar/Mux$Type") (10 : Int32) [(.ref w_Mux_Type_NO_OPERATION), (.ref w_Mux_Type_SHUTDOWN), (.ref w_Mux_Type_PING), (.ref w_Mux_Type_PING_ACK), (.ref w_Mux_Type_ERROR), (.ref w_Mux_Type_INCREMENT_RATION), (.ref w_Mux_Type_ABORT), (.ref w_Mux_Type_CLOSE), (.ref w_Mux_Type_ACKNOWLEDGMENT), .null] .null := V37.pad (pad_rep [(.ref w_Mux_Type_NO_OPERATION), (.ref w_Mux_Type_SHUTDOWN), (.ref w_Mux_Type_PING), (.ref w_Mux_Type_PING_ACK), (.ref w_Mux_Type_ERROR), (.ref w_Mux_Type_INCREMENT_RATION), (.ref w_Mux_Type_ABORT), (.ref w_Mux_Type_CLOSE), (.ref w_Mux_Type_ACKNOWLEDGMENT)] .null 1)
  refine own_aastore X39 hx hZ e39 V40 rfl rfl (fun _ u q => Sto.ofV u q P1 (Ins.self (E_w_Mux_Type_DATA.ext O38.2))) 9 (by decide) (by decide) (by simp) [(.ref w_Mux_Type_NO_OPERATION), (.ref w_Mux_Type_SHUTDOWN), (.ref w_Mux_Type_PING), (.ref w_Mux_Type_PING_ACK), (.ref w_Mux_Type_ERROR), (.ref w_Mux_Type_INCREMENT_RATION), (.ref w_Mux_Type_ABORT), (.ref w_Mux_Type_CLOSE), (.ref w_Mux_Type_ACKNOWLEDGMENT), (.ref w_Mux_Type_DATA)] rfl (hb hby at_68) 69 rfl fun T41 X41 W41 V41 => ?_
  have O42 := O38.wr W41 g_a1
  have N42 := Fr.snoc X41 N38 g_a1
  refine own_astore_n X41 hx (hb hby at_69) #[.val (.int x0), .val (.ref a1), .unset, .unset, .unset, .unset, .unset, .unset] rfl rfl 70 rfl ?_
  refine own_iload_n X41 hx (hb hby at_70) rfl 71 rfl ?_
  refine own_ldc X41 hx hZ hown (own_w hw 24 rfl) (hb hby at_71) 73 rfl ?_
  refine own_iand X41 hx (hb hby at_73) 74 rfl ?_
  refine own_bipush X41 hx (hb hby at_74) (10 : Int32) rfl 76 rfl ?_
  refine own_irem X41 hx (hb hby at_76) (by decide) 77 rfl ?_
  rcases own_mod10 x0 with q43 | q43 | q43 | q43 | q43 | q43 | q43 | q43 | q43 | q43
  · rw [q43]
    refine own_istore_n X41 hx (hb hby at_77) #[.val (.int x0), .val (.ref a1), .val (.int (0 : Int32)), .unset, .unset, .unset, .unset, .unset] rfl 78 rfl ?_
    refine own_aload_n X41 hx (hb hby at_78) rfl rfl 79 rfl ?_
    refine own_iload_n X41 hx (hb hby at_79) rfl 80 rfl ?_
    refine own_aaload X41 hx hZ rfl V41 rfl (.ref w_Mux_Type_NO_OPERATION) (by decide) rfl (hb hby at_80) 81 rfl ?_
    refine own_astore_n X41 hx (hb hby at_81) #[.val (.int x0), .val (.ref a1), .val (.int (0 : Int32)), .val (.ref w_Mux_Type_NO_OPERATION), .unset, .unset, .unset, .unset] rfl rfl 82 rfl ?_
    refine own_iload_n X41 hx (hb hby at_82) rfl 83 rfl ?_
    refine own_iconst X41 hx (hb hby at_83) (1 : Int32) rfl 84 rfl ?_
    refine own_icmpN X41 hx (hb hby at_84) (feq (by decide : ¬ ((0 : Int32) = (1 : Int32)))).1 87 rfl ?_
    refine own_iload_n X41 hx (hb hby at_87) rfl 88 rfl ?_
    refine own_bipush X41 hx (hb hby at_88) (7 : Int32) rfl 90 rfl ?_
    refine own_icmpY X41 hx (hb hby at_90) (feq (by decide : ¬ ((0 : Int32) = (7 : Int32)))).2 97 (by decide) (by decide) ?_
    refine own_iconst X41 hx (hb hby at_97) (0 : Int32) rfl 98 rfl ?_
    refine own_istore X41 hx (hb hby at_98) #[.val (.int x0), .val (.ref a1), .val (.int (0 : Int32)), .val (.ref w_Mux_Type_NO_OPERATION), .val (.int (0 : Int32)), .unset, .unset, .unset] rfl 100 rfl ?_
    refine own_iload_n X41 hx (hb hby at_100) rfl 101 rfl ?_
    refine own_bipush X41 hx (hb hby at_101) (8 : Int32) rfl 103 rfl ?_
    refine own_icmpY X41 hx (hb hby at_103) (feq (by decide : ¬ ((0 : Int32) = (8 : Int32)))).2 110 (by decide) (by decide) ?_
    refine own_iconst X41 hx (hb hby at_110) (0 : Int32) rfl 111 rfl ?_
    refine own_istore X41 hx (hb hby at_111) #[.val (.int x0), .val (.ref a1), .val (.int (0 : Int32)), .val (.ref w_Mux_Type_NO_OPERATION), .val (.int (0 : Int32)), .val (.int (0 : Int32)), .unset, .unset] rfl 113 rfl ?_
    refine own_iload X41 hx (hb hby at_113) rfl 115 rfl ?_
    refine own_ifN X41 hx (hb hby at_115) ((if0 _ _).trans (teq (by decide : (0 : Int32) = (0 : Int32))).2) 118 rfl ?_
    refine own_iconst X41 hx (hb hby at_118) (1 : Int32) rfl 119 rfl ?_
    refine own_goto X41 hx (hb hby at_119) 123 (by decide) (by decide) ?_
    refine own_istore X41 hx (hb hby at_123) #[.val (.int x0), .val (.ref a1), .val (.int (0 : Int32)), .val (.ref w_Mux_Type_NO_OPERATION), .val (.int (0 : Int32)), .val (.int (0 : Int32)), .val (.int (1 : Int32)), .unset] rfl 125 rfl ?_
    refine own_iload X41 hx (hb hby at_125) rfl 127 rfl ?_
    refine own_ifN X41 hx (hb hby at_127) ((if0 _ _).trans (teq (by decide : (0 : Int32) = (0 : Int32))).2) 130 rfl ?_
    refine own_iconst X41 hx (hb hby at_130) (1 : Int32) rfl 131 rfl ?_
    refine own_goto X41 hx (hb hby at_131) 135 (by decide) (by decide) ?_
    refine own_istore X41 hx (hb hby at_135) #[.val (.int x0), .val (.ref a1), .val (.int (0 : Int32)), .val (.ref w_Mux_Type_NO_OPERATION), .val (.int (0 : Int32)), .val (.int (0 : Int32)), .val (.int (1 : Int32)), .val (.int (1 : Int32))] rfl 137 rfl ?_
    refine own_aload_n X41 hx (hb hby at_137) rfl rfl 138 rfl ?_
    refine own_getS X41 hx hZ hown (host := "") (Or.inl (own_w hw 25 rfl)) Via.refl rfl (S_w_Mux_Side_CLIENT.ext O42.2) (hb hby at_138) 141 rfl fun T44 X44 e44 => ?_
    refine own_pureV X44 hx hZ hown (own_w hw 28 rfl) (own_w hw 29 rfl) (notFace_of_selects (args := #[]) (mvT hZ (own_w hw 31 rfl))) (own_w hw 31 rfl) (own_w hw 30 rfl) (own_w hw 3 rfl) (own_w hw 32 rfl) (by decide) w_Mux_Type_NO_OPERATION [(.ref w_Mux_Side_CLIENT)] [] 0 (rm_mayBeSentBy_1 l Z a0 hw [] T41.heap n0 H O42 ) (by decide) (by decide) rfl rfl e44 (E_w_Mux_Type_NO_OPERATION.ext O42.2) (by rw [hml]; rfl) (lenOf pd_0 rfl) (Nat.le_of_eq rfl) (hb hby at_141) 144 rfl rfl (by decide) (by decide) fun T46 X46 e46 => ?_
    refine own_iload X46 hx (hb hby at_144) rfl 146 rfl ?_
    refine own_icmpN X46 hx (hb hby at_146) (teq (by decide : (1 : Int32) = (1 : Int32))).2 149 rfl ?_
    refine own_aload_n X46 hx (hb hby at_149) rfl rfl 150 rfl ?_
    refine own_getS X46 hx hZ hown (host := "") (Or.inl (own_w hw 35 rfl)) Via.refl e46 (S_w_Mux_Side_SERVER.ext O42.2) (hb hby at_150) 153 rfl fun T47 X47 e47 => ?_
    refine own_pureV X47 hx hZ hown (own_w hw 28 rfl) (own_w hw 29 rfl) (notFace_of_selects (args := #[]) (mvT hZ (own_w hw 31 rfl))) (own_w hw 31 rfl) (own_w hw 30 rfl) (own_w hw 3 rfl) (own_w hw 32 rfl) (by decide) w_Mux_Type_NO_OPERATION [(.ref w_Mux_Side_SERVER)] [] 0 (rm_mayBeSentBy_2 l Z a0 hw [] T41.heap n0 H O42 ) (by decide) (by decide) rfl rfl e47 (E_w_Mux_Type_NO_OPERATION.ext O42.2) (by rw [hml]; rfl) (lenOf pd_0 rfl) (Nat.le_of_eq rfl) (hb hby at_153) 156 rfl rfl (by decide) (by decide) fun T49 X49 e49 => ?_
    refine own_iload X49 hx (hb hby at_156) rfl 158 rfl ?_
    refine own_icmpN X49 hx (hb hby at_158) (teq (by decide : (1 : Int32) = (1 : Int32))).2 161 rfl ?_
    refine own_iconst X49 hx (hb hby at_161) (1 : Int32) rfl 162 rfl ?_
    refine own_goto X49 hx (hb hby at_162) 166 (by decide) (by decide) ?_
    exact own_retZ X49 hx hk hret (hb hby at_166) rfl ⟨rfl, N42⟩ (by decide) (by decide)
  · rw [q43]
    refine own_istore_n X41 hx (hb hby at_77) #[.val (.int x0), .val (.ref a1), .val (.int (1 : Int32)), .unset, .unset, .unset, .unset, .unset] rfl 78 rfl ?_
    refine own_aload_n X41 hx (hb hby at_78) rfl rfl 79 rfl ?_
    refine own_iload_n X41 hx (hb hby at_79) rfl 80 rfl ?_
    refine own_aaload X41 hx hZ rfl V41 rfl (.ref w_Mux_Type_SHUTDOWN) (by decide) rfl (hb hby at_80) 81 rfl ?_
    refine own_astore_n X41 hx (hb hby at_81) #[.val (.int x0), .val (.ref a1), .val (.int (1 : Int32)), .val (.ref w_Mux_Type_SHUTDOWN), .unset, .unset, .unset, .unset] rfl rfl 82 rfl ?_
    refine own_iload_n X41 hx (hb hby at_82) rfl 83 rfl ?_
    refine own_iconst X41 hx (hb hby at_83) (1 : Int32) rfl 84 rfl ?_
    refine own_icmpY X41 hx (hb hby at_84) (teq (by decide : (1 : Int32) = (1 : Int32))).1 93 (by decide) (by decide) ?_
    refine own_iconst X41 hx (hb hby at_93) (1 : Int32) rfl 94 rfl ?_
    refine own_goto X41 hx (hb hby at_94) 98 (by decide) (by decide) ?_
    refine own_istore X41 hx (hb hby at_98) #[.val (.int x0), .val (.ref a1), .val (.int (1 : Int32)), .val (.ref w_Mux_Type_SHUTDOWN), .val (.int (1 : Int32)), .unset, .unset, .unset] rfl 100 rfl ?_
    refine own_iload_n X41 hx (hb hby at_100) rfl 101 rfl ?_
    refine own_bipush X41 hx (hb hby at_101) (8 : Int32) rfl 103 rfl ?_
    refine own_icmpY X41 hx (hb hby at_103) (feq (by decide : ¬ ((1 : Int32) = (8 : Int32)))).2 110 (by decide) (by decide) ?_
    refine own_iconst X41 hx (hb hby at_110) (0 : Int32) rfl 111 rfl ?_
    refine own_istore X41 hx (hb hby at_111) #[.val (.int x0), .val (.ref a1), .val (.int (1 : Int32)), .val (.ref w_Mux_Type_SHUTDOWN), .val (.int (1 : Int32)), .val (.int (0 : Int32)), .unset, .unset] rfl 113 rfl ?_
    refine own_iload X41 hx (hb hby at_113) rfl 115 rfl ?_
    refine own_ifY X41 hx (hb hby at_115) ((if0 _ _).trans (feq (by decide : ¬ ((1 : Int32) = (0 : Int32)))).2) 122 (by decide) (by decide) ?_
    refine own_iconst X41 hx (hb hby at_122) (0 : Int32) rfl 123 rfl ?_
    refine own_istore X41 hx (hb hby at_123) #[.val (.int x0), .val (.ref a1), .val (.int (1 : Int32)), .val (.ref w_Mux_Type_SHUTDOWN), .val (.int (1 : Int32)), .val (.int (0 : Int32)), .val (.int (0 : Int32)), .unset] rfl 125 rfl ?_
    refine own_iload X41 hx (hb hby at_125) rfl 127 rfl ?_
    refine own_ifN X41 hx (hb hby at_127) ((if0 _ _).trans (teq (by decide : (0 : Int32) = (0 : Int32))).2) 130 rfl ?_
    refine own_iconst X41 hx (hb hby at_130) (1 : Int32) rfl 131 rfl ?_
    refine own_goto X41 hx (hb hby at_131) 135 (by decide) (by decide) ?_
    refine own_istore X41 hx (hb hby at_135) #[.val (.int x0), .val (.ref a1), .val (.int (1 : Int32)), .val (.ref w_Mux_Type_SHUTDOWN), .val (.int (1 : Int32)), .val (.int (0 : Int32)), .val (.int (0 : Int32)), .val (.int (1 : Int32))] rfl 137 rfl ?_
    refine own_aload_n X41 hx (hb hby at_137) rfl rfl 138 rfl ?_
    refine own_getS X41 hx hZ hown (host := "") (Or.inl (own_w hw 25 rfl)) Via.refl rfl (S_w_Mux_Side_CLIENT.ext O42.2) (hb hby at_138) 141 rfl fun T50 X50 e50 => ?_
    refine own_pureV X50 hx hZ hown (own_w hw 28 rfl) (own_w hw 29 rfl) (notFace_of_selects (args := #[]) (mvT hZ (own_w hw 31 rfl))) (own_w hw 31 rfl) (own_w hw 30 rfl) (own_w hw 3 rfl) (own_w hw 32 rfl) (by decide) w_Mux_Type_SHUTDOWN [(.ref w_Mux_Side_CLIENT)] [] 0 (rm_mayBeSentBy_3 l Z a0 hw [] T41.heap n0 H O42 ) (by decide) (by decide) rfl rfl e50 (E_w_Mux_Type_SHUTDOWN.ext O42.2) (by rw [hml]; rfl) (lenOf pd_0 rfl) (Nat.le_of_eq rfl) (hb hby at_141) 144 rfl rfl (by decide) (by decide) fun T52 X52 e52 => ?_
    refine own_iload X52 hx (hb hby at_144) rfl 146 rfl ?_
    refine own_icmpN X52 hx (hb hby at_146) (teq (by decide : (0 : Int32) = (0 : Int32))).2 149 rfl ?_
    refine own_aload_n X52 hx (hb hby at_149) rfl rfl 150 rfl ?_
    refine own_getS X52 hx hZ hown (host := "") (Or.inl (own_w hw 35 rfl)) Via.refl e52 (S_w_Mux_Side_SERVER.ext O42.2) (hb hby at_150) 153 rfl fun T53 X53 e53 => ?_
    refine own_pureV X53 hx hZ hown (own_w hw 28 rfl) (own_w hw 29 rfl) (notFace_of_selects (args := #[]) (mvT hZ (own_w hw 31 rfl))) (own_w hw 31 rfl) (own_w hw 30 rfl) (own_w hw 3 rfl) (own_w hw 32 rfl) (by decide) w_Mux_Type_SHUTDOWN [(.ref w_Mux_Side_SERVER)] [] 0 (rm_mayBeSentBy_4 l Z a0 hw [] T41.heap n0 H O42 ) (by decide) (by decide) rfl rfl e53 (E_w_Mux_Type_SHUTDOWN.ext O42.2) (by rw [hml]; rfl) (lenOf pd_0 rfl) (Nat.le_of_eq rfl) (hb hby at_153) 156 rfl rfl (by decide) (by decide) fun T55 X55 e55 => ?_
    refine own_iload X55 hx (hb hby at_156) rfl 158 rfl ?_
    refine own_icmpN X55 hx (hb hby at_158) (teq (by decide : (1 : Int32) = (1 : Int32))).2 161 rfl ?_
    refine own_iconst X55 hx (hb hby at_161) (1 : Int32) rfl 162 rfl ?_
    refine own_goto X55 hx (hb hby at_162) 166 (by decide) (by decide) ?_
    exact own_retZ X55 hx hk hret (hb hby at_166) rfl ⟨rfl, N42⟩ (by decide) (by decide)
  · rw [q43]
    refine own_istore_n X41 hx (hb hby at_77) #[.val (.int x0), .val (.ref a1), .val (.int (2 : Int32)), .unset, .unset, .unset, .unset, .unset] rfl 78 rfl ?_
    refine own_aload_n X41 hx (hb hby at_78) rfl rfl 79 rfl ?_
    refine own_iload_n X41 hx (hb hby at_79) rfl 80 rfl ?_
    refine own_aaload X41 hx hZ rfl V41 rfl (.ref w_Mux_Type_PING) (by decide) rfl (hb hby at_80) 81 rfl ?_
    refine own_astore_n X41 hx (hb hby at_81) #[.val (.int x0), .val (.ref a1), .val (.int (2 : Int32)), .val (.ref w_Mux_Type_PING), .unset, .unset, .unset, .unset] rfl rfl 82 rfl ?_
    refine own_iload_n X41 hx (hb hby at_82) rfl 83 rfl ?_
    refine own_iconst X41 hx (hb hby at_83) (1 : Int32) rfl 84 rfl ?_
    refine own_icmpN X41 hx (hb hby at_84) (feq (by decide : ¬ ((2 : Int32) = (1 : Int32)))).1 87 rfl ?_
    refine own_iload_n X41 hx (hb hby at_87) rfl 88 rfl ?_
    refine own_bipush X41 hx (hb hby at_88) (7 : Int32) rfl 90 rfl ?_
    refine own_icmpY X41 hx (hb hby at_90) (feq (by decide : ¬ ((2 : Int32) = (7 : Int32)))).2 97 (by decide) (by decide) ?_
    refine own_iconst X41 hx (hb hby at_97) (0 : Int32) rfl 98 rfl ?_
    refine own_istore X41 hx (hb hby at_98) #[.val (.int x0), .val (.ref a1), .val (.int (2 : Int32)), .val (.ref w_Mux_Type_PING), .val (.int (0 : Int32)), .unset, .unset, .unset] rfl 100 rfl ?_
    refine own_iload_n X41 hx (hb hby at_100) rfl 101 rfl ?_
    refine own_bipush X41 hx (hb hby at_101) (8 : Int32) rfl 103 rfl ?_
    refine own_icmpY X41 hx (hb hby at_103) (feq (by decide : ¬ ((2 : Int32) = (8 : Int32)))).2 110 (by decide) (by decide) ?_
    refine own_iconst X41 hx (hb hby at_110) (0 : Int32) rfl 111 rfl ?_
    refine own_istore X41 hx (hb hby at_111) #[.val (.int x0), .val (.ref a1), .val (.int (2 : Int32)), .val (.ref w_Mux_Type_PING), .val (.int (0 : Int32)), .val (.int (0 : Int32)), .unset, .unset] rfl 113 rfl ?_
    refine own_iload X41 hx (hb hby at_113) rfl 115 rfl ?_
    refine own_ifN X41 hx (hb hby at_115) ((if0 _ _).trans (teq (by decide : (0 : Int32) = (0 : Int32))).2) 118 rfl ?_
    refine own_iconst X41 hx (hb hby at_118) (1 : Int32) rfl 119 rfl ?_
    refine own_goto X41 hx (hb hby at_119) 123 (by decide) (by decide) ?_
    refine own_istore X41 hx (hb hby at_123) #[.val (.int x0), .val (.ref a1), .val (.int (2 : Int32)), .val (.ref w_Mux_Type_PING), .val (.int (0 : Int32)), .val (.int (0 : Int32)), .val (.int (1 : Int32)), .unset] rfl 125 rfl ?_
    refine own_iload X41 hx (hb hby at_125) rfl 127 rfl ?_
    refine own_ifN X41 hx (hb hby at_127) ((if0 _ _).trans (teq (by decide : (0 : Int32) = (0 : Int32))).2) 130 rfl ?_
    refine own_iconst X41 hx (hb hby at_130) (1 : Int32) rfl 131 rfl ?_
    refine own_goto X41 hx (hb hby at_131) 135 (by decide) (by decide) ?_
    refine own_istore X41 hx (hb hby at_135) #[.val (.int x0), .val (.ref a1), .val (.int (2 : Int32)), .val (.ref w_Mux_Type_PING), .val (.int (0 : Int32)), .val (.int (0 : Int32)), .val (.int (1 : Int32)), .val (.int (1 : Int32))] rfl 137 rfl ?_
    refine own_aload_n X41 hx (hb hby at_137) rfl rfl 138 rfl ?_
    refine own_getS X41 hx hZ hown (host := "") (Or.inl (own_w hw 25 rfl)) Via.refl rfl (S_w_Mux_Side_CLIENT.ext O42.2) (hb hby at_138) 141 rfl fun T56 X56 e56 => ?_
    refine own_pureV X56 hx hZ hown (own_w hw 28 rfl) (own_w hw 29 rfl) (notFace_of_selects (args := #[]) (mvT hZ (own_w hw 31 rfl))) (own_w hw 31 rfl) (own_w hw 30 rfl) (own_w hw 3 rfl) (own_w hw 32 rfl) (by decide) w_Mux_Type_PING [(.ref w_Mux_Side_CLIENT)] [] 0 (rm_mayBeSentBy_5 l Z a0 hw [] T41.heap n0 H O42 ) (by decide) (by decide) rfl rfl e56 (E_w_Mux_Type_PING.ext O42.2) (by rw [hml]; rfl) (lenOf pd_0 rfl) (Nat.le_of_eq rfl) (hb hby at_141) 144 rfl rfl (by decide) (by decide) fun T58 X58 e58 => ?_
    refine own_iload X58 hx (hb hby at_144) rfl 146 rfl ?_
    refine own_icmpN X58 hx (hb hby at_146) (teq (by decide : (1 : Int32) = (1 : Int32))).2 149 rfl ?_
    refine own_aload_n X58 hx (hb hby at_149) rfl rfl 150 rfl ?_
    refine own_getS X58 hx hZ hown (host := "") (Or.inl (own_w hw 35 rfl)) Via.refl e58 (S_w_Mux_Side_SERVER.ext O42.2) (hb hby at_150) 153 rfl fun T59 X59 e59 => ?_
    refine own_pureV X59 hx hZ hown (own_w hw 28 rfl) (own_w hw 29 rfl) (notFace_of_selects (args := #[]) (mvT hZ (own_w hw 31 rfl))) (own_w hw 31 rfl) (own_w hw 30 rfl) (own_w hw 3 rfl) (own_w hw 32 rfl) (by decide) w_Mux_Type_PING [(.ref w_Mux_Side_SERVER)] [] 0 (rm_mayBeSentBy_6 l Z a0 hw [] T41.heap n0 H O42 ) (by decide) (by decide) rfl rfl e59 (E_w_Mux_Type_PING.ext O42.2) (by rw [hml]; rfl) (lenOf pd_0 rfl) (Nat.le_of_eq rfl) (hb hby at_153) 156 rfl rfl (by decide) (by decide) fun T61 X61 e61 => ?_
    refine own_iload X61 hx (hb hby at_156) rfl 158 rfl ?_
    refine own_icmpN X61 hx (hb hby at_158) (teq (by decide : (1 : Int32) = (1 : Int32))).2 161 rfl ?_
    refine own_iconst X61 hx (hb hby at_161) (1 : Int32) rfl 162 rfl ?_
    refine own_goto X61 hx (hb hby at_162) 166 (by decide) (by decide) ?_
    exact own_retZ X61 hx hk hret (hb hby at_166) rfl ⟨rfl, N42⟩ (by decide) (by decide)
  · rw [q43]
    refine own_istore_n X41 hx (hb hby at_77) #[.val (.int x0), .val (.ref a1), .val (.int (3 : Int32)), .unset, .unset, .unset, .unset, .unset] rfl 78 rfl ?_
    refine own_aload_n X41 hx (hb hby at_78) rfl rfl 79 rfl ?_
    refine own_iload_n X41 hx (hb hby at_79) rfl 80 rfl ?_
    refine own_aaload X41 hx hZ rfl V41 rfl (.ref w_Mux_Type_PING_ACK) (by decide) rfl (hb hby at_80) 81 rfl ?_
    refine own_astore_n X41 hx (hb hby at_81) #[.val (.int x0), .val (.ref a1), .val (.int (3 : Int32)), .val (.ref w_Mux_Type_PING_ACK), .unset, .unset, .unset, .unset] rfl rfl 82 rfl ?_
    refine own_iload_n X41 hx (hb hby at_82) rfl 83 rfl ?_
    refine own_iconst X41 hx (hb hby at_83) (1 : Int32) rfl 84 rfl ?_
    refine own_icmpN X41 hx (hb hby at_84) (feq (by decide : ¬ ((3 : Int32) = (1 : Int32)))).1 87 rfl ?_
    refine own_iload_n X41 hx (hb hby at_87) rfl 88 rfl ?_
    refine own_bipush X41 hx (hb hby at_88) (7 : Int32) rfl 90 rfl ?_
    refine own_icmpY X41 hx (hb hby at_90) (feq (by decide : ¬ ((3 : Int32) = (7 : Int32)))).2 97 (by decide) (by decide) ?_
    refine own_iconst X41 hx (hb hby at_97) (0 : Int32) rfl 98 rfl ?_
    refine own_istore X41 hx (hb hby at_98) #[.val (.int x0), .val (.ref a1), .val (.int (3 : Int32)), .val (.ref w_Mux_Type_PING_ACK), .val (.int (0 : Int32)), .unset, .unset, .unset] rfl 100 rfl ?_
    refine own_iload_n X41 hx (hb hby at_100) rfl 101 rfl ?_
    refine own_bipush X41 hx (hb hby at_101) (8 : Int32) rfl 103 rfl ?_
    refine own_icmpY X41 hx (hb hby at_103) (feq (by decide : ¬ ((3 : Int32) = (8 : Int32)))).2 110 (by decide) (by decide) ?_
    refine own_iconst X41 hx (hb hby at_110) (0 : Int32) rfl 111 rfl ?_
    refine own_istore X41 hx (hb hby at_111) #[.val (.int x0), .val (.ref a1), .val (.int (3 : Int32)), .val (.ref w_Mux_Type_PING_ACK), .val (.int (0 : Int32)), .val (.int (0 : Int32)), .unset, .unset] rfl 113 rfl ?_
    refine own_iload X41 hx (hb hby at_113) rfl 115 rfl ?_
    refine own_ifN X41 hx (hb hby at_115) ((if0 _ _).trans (teq (by decide : (0 : Int32) = (0 : Int32))).2) 118 rfl ?_
    refine own_iconst X41 hx (hb hby at_118) (1 : Int32) rfl 119 rfl ?_
    refine own_goto X41 hx (hb hby at_119) 123 (by decide) (by decide) ?_
    refine own_istore X41 hx (hb hby at_123) #[.val (.int x0), .val (.ref a1), .val (.int (3 : Int32)), .val (.ref w_Mux_Type_PING_ACK), .val (.int (0 : Int32)), .val (.int (0 : Int32)), .val (.int (1 : Int32)), .unset] rfl 125 rfl ?_
    refine own_iload X41 hx (hb hby at_125) rfl 127 rfl ?_
    refine own_ifN X41 hx (hb hby at_127) ((if0 _ _).trans (teq (by decide : (0 : Int32) = (0 : Int32))).2) 130 rfl ?_
    refine own_iconst X41 hx (hb hby at_130) (1 : Int32) rfl 131 rfl ?_
    refine own_goto X41 hx (hb hby at_131) 135 (by decide) (by decide) ?_
    refine own_istore X41 hx (hb hby at_135) #[.val (.int x0), .val (.ref a1), .val (.int (3 : Int32)), .val (.ref w_Mux_Type_PING_ACK), .val (.int (0 : Int32)), .val (.int (0 : Int32)), .val (.int (1 : Int32)), .val (.int (1 : Int32))] rfl 137 rfl ?_
    refine own_aload_n X41 hx (hb hby at_137) rfl rfl 138 rfl ?_
    refine own_getS X41 hx hZ hown (host := "") (Or.inl (own_w hw 25 rfl)) Via.refl rfl (S_w_Mux_Side_CLIENT.ext O42.2) (hb hby at_138) 141 rfl fun T62 X62 e62 => ?_
    refine own_pureV X62 hx hZ hown (own_w hw 28 rfl) (own_w hw 29 rfl) (notFace_of_selects (args := #[]) (mvT hZ (own_w hw 31 rfl))) (own_w hw 31 rfl) (own_w hw 30 rfl) (own_w hw 3 rfl) (own_w hw 32 rfl) (by decide) w_Mux_Type_PING_ACK [(.ref w_Mux_Side_CLIENT)] [] 0 (rm_mayBeSentBy_7 l Z a0 hw [] T41.heap n0 H O42 ) (by decide) (by decide) rfl rfl e62 (E_w_Mux_Type_PING_ACK.ext O42.2) (by rw [hml]; rfl) (lenOf pd_0 rfl) (Nat.le_of_eq rfl) (hb hby at_141) 144 rfl rfl (by decide) (by decide) fun T64 X64 e64 => ?_
    refine own_iload X64 hx (hb hby at_144) rfl 146 rfl ?_
    refine own_icmpN X64 hx (hb hby at_146) (teq (by decide : (1 : Int32) = (1 : Int32))).2 149 rfl ?_
    refine own_aload_n X64 hx (hb hby at_149) rfl rfl 150 rfl ?_
    refine own_getS X64 hx hZ hown (host := "") (Or.inl (own_w hw 35 rfl)) Via.refl e64 (S_w_Mux_Side_SERVER.ext O42.2) (hb hby at_150) 153 rfl fun T65 X65 e65 => ?_
    refine own_pureV X65 hx hZ hown (own_w hw 28 rfl) (own_w hw 29 rfl) (notFace_of_selects (args := #[]) (mvT hZ (own_w hw 31 rfl))) (own_w hw 31 rfl) (own_w hw 30 rfl) (own_w hw 3 rfl) (own_w hw 32 rfl) (by decide) w_Mux_Type_PING_ACK [(.ref w_Mux_Side_SERVER)] [] 0 (rm_mayBeSentBy_8 l Z a0 hw [] T41.heap n0 H O42 ) (by decide) (by decide) rfl rfl e65 (E_w_Mux_Type_PING_ACK.ext O42.2) (by rw [hml]; rfl) (lenOf pd_0 rfl) (Nat.le_of_eq rfl) (hb hby at_153) 156 rfl rfl (by decide) (by decide) fun T67 X67 e67 => ?_
    refine own_iload X67 hx (hb hby at_156) rfl 158 rfl ?_
    refine own_icmpN X67 hx (hb hby at_158) (teq (by decide : (1 : Int32) = (1 : Int32))).2 161 rfl ?_
    refine own_iconst X67 hx (hb hby at_161) (1 : Int32) rfl 162 rfl ?_
    refine own_goto X67 hx (hb hby at_162) 166 (by decide) (by decide) ?_
    exact own_retZ X67 hx hk hret (hb hby at_166) rfl ⟨rfl, N42⟩ (by decide) (by decide)
  · rw [q43]
    refine own_istore_n X41 hx (hb hby at_77) #[.val (.int x0), .val (.ref a1), .val (.int (4 : Int32)), .unset, .unset, .unset, .unset, .unset] rfl 78 rfl ?_
    refine own_aload_n X41 hx (hb hby at_78) rfl rfl 79 rfl ?_
    refine own_iload_n X41 hx (hb hby at_79) rfl 80 rfl ?_
    refine own_aaload X41 hx hZ rfl V41 rfl (.ref w_Mux_Type_ERROR) (by decide) rfl (hb hby at_80) 81 rfl ?_
    refine own_astore_n X41 hx (hb hby at_81) #[.val (.int x0), .val (.ref a1), .val (.int (4 : Int32)), .val (.ref w_Mux_Type_ERROR), .unset, .unset, .unset, .unset] rfl rfl 82 rfl ?_
    refine own_iload_n X41 hx (hb hby at_82) rfl 83 rfl ?_
    refine own_iconst X41 hx (hb hby at_83) (1 : Int32) rfl 84 rfl ?_
    refine own_icmpN X41 hx (hb hby at_84) (feq (by decide : ¬ ((4 : Int32) = (1 : Int32)))).1 87 rfl ?_
    refine own_iload_n X41 hx (hb hby at_87) rfl 88 rfl ?_
    refine own_bipush X41 hx (hb hby at_88) (7 : Int32) rfl 90 rfl ?_
    refine own_icmpY X41 hx (hb hby at_90) (feq (by decide : ¬ ((4 : Int32) = (7 : Int32)))).2 97 (by decide) (by decide) ?_
    refine own_iconst X41 hx (hb hby at_97) (0 : Int32) rfl 98 rfl ?_
    refine own_istore X41 hx (hb hby at_98) #[.val (.int x0), .val (.ref a1), .val (.int (4 : Int32)), .val (.ref w_Mux_Type_ERROR), .val (.int (0 : Int32)), .unset, .unset, .unset] rfl 100 rfl ?_
    refine own_iload_n X41 hx (hb hby at_100) rfl 101 rfl ?_
    refine own_bipush X41 hx (hb hby at_101) (8 : Int32) rfl 103 rfl ?_
    refine own_icmpY X41 hx (hb hby at_103) (feq (by decide : ¬ ((4 : Int32) = (8 : Int32)))).2 110 (by decide) (by decide) ?_
    refine own_iconst X41 hx (hb hby at_110) (0 : Int32) rfl 111 rfl ?_
    refine own_istore X41 hx (hb hby at_111) #[.val (.int x0), .val (.ref a1), .val (.int (4 : Int32)), .val (.ref w_Mux_Type_ERROR), .val (.int (0 : Int32)), .val (.int (0 : Int32)), .unset, .unset] rfl 113 rfl ?_
    refine own_iload X41 hx (hb hby at_113) rfl 115 rfl ?_
    refine own_ifN X41 hx (hb hby at_115) ((if0 _ _).trans (teq (by decide : (0 : Int32) = (0 : Int32))).2) 118 rfl ?_
    refine own_iconst X41 hx (hb hby at_118) (1 : Int32) rfl 119 rfl ?_
    refine own_goto X41 hx (hb hby at_119) 123 (by decide) (by decide) ?_
    refine own_istore X41 hx (hb hby at_123) #[.val (.int x0), .val (.ref a1), .val (.int (4 : Int32)), .val (.ref w_Mux_Type_ERROR), .val (.int (0 : Int32)), .val (.int (0 : Int32)), .val (.int (1 : Int32)), .unset] rfl 125 rfl ?_
    refine own_iload X41 hx (hb hby at_125) rfl 127 rfl ?_
    refine own_ifN X41 hx (hb hby at_127) ((if0 _ _).trans (teq (by decide : (0 : Int32) = (0 : Int32))).2) 130 rfl ?_
    refine own_iconst X41 hx (hb hby at_130) (1 : Int32) rfl 131 rfl ?_
    refine own_goto X41 hx (hb hby at_131) 135 (by decide) (by decide) ?_
    refine own_istore X41 hx (hb hby at_135) #[.val (.int x0), .val (.ref a1), .val (.int (4 : Int32)), .val (.ref w_Mux_Type_ERROR), .val (.int (0 : Int32)), .val (.int (0 : Int32)), .val (.int (1 : Int32)), .val (.int (1 : Int32))] rfl 137 rfl ?_
    refine own_aload_n X41 hx (hb hby at_137) rfl rfl 138 rfl ?_
    refine own_getS X41 hx hZ hown (host := "") (Or.inl (own_w hw 25 rfl)) Via.refl rfl (S_w_Mux_Side_CLIENT.ext O42.2) (hb hby at_138) 141 rfl fun T68 X68 e68 => ?_
    refine own_pureV X68 hx hZ hown (own_w hw 28 rfl) (own_w hw 29 rfl) (notFace_of_selects (args := #[]) (mvT hZ (own_w hw 31 rfl))) (own_w hw 31 rfl) (own_w hw 30 rfl) (own_w hw 3 rfl) (own_w hw 32 rfl) (by decide) w_Mux_Type_ERROR [(.ref w_Mux_Side_CLIENT)] [] 0 (rm_mayBeSentBy_9 l Z a0 hw [] T41.heap n0 H O42 ) (by decide) (by decide) rfl rfl e68 (E_w_Mux_Type_ERROR.ext O42.2) (by rw [hml]; rfl) (lenOf pd_0 rfl) (Nat.le_of_eq rfl) (hb hby at_141) 144 rfl rfl (by decide) (by decide) fun T70 X70 e70 => ?_
    refine own_iload X70 hx (hb hby at_144) rfl 146 rfl ?_
    refine own_icmpN X70 hx (hb hby at_146) (teq (by decide : (1 : Int32) = (1 : Int32))).2 149 rfl ?_
    refine own_aload_n X70 hx (hb hby at_149) rfl rfl 150 rfl ?_
    refine own_getS X70 hx hZ hown (host := "") (Or.inl (own_w hw 35 rfl)) Via.refl e70 (S_w_Mux_Side_SERVER.ext O42.2) (hb hby at_150) 153 rfl fun T71 X71 e71 => ?_
    refine own_pureV X71 hx hZ hown (own_w hw 28 rfl) (own_w hw 29 rfl) (notFace_of_selects (args := #[]) (mvT hZ (own_w hw 31 rfl))) (own_w hw 31 rfl) (own_w hw 30 rfl) (own_w hw 3 rfl) (own_w hw 32 rfl) (by decide) w_Mux_Type_ERROR [(.ref w_Mux_Side_SERVER)] [] 0 (rm_mayBeSentBy_10 l Z a0 hw [] T41.heap n0 H O42 ) (by decide) (by decide) rfl rfl e71 (E_w_Mux_Type_ERROR.ext O42.2) (by rw [hml]; rfl) (lenOf pd_0 rfl) (Nat.le_of_eq rfl) (hb hby at_153) 156 rfl rfl (by decide) (by decide) fun T73 X73 e73 => ?_
    refine own_iload X73 hx (hb hby at_156) rfl 158 rfl ?_
    refine own_icmpN X73 hx (hb hby at_158) (teq (by decide : (1 : Int32) = (1 : Int32))).2 161 rfl ?_
    refine own_iconst X73 hx (hb hby at_161) (1 : Int32) rfl 162 rfl ?_
    refine own_goto X73 hx (hb hby at_162) 166 (by decide) (by decide) ?_
    exact own_retZ X73 hx hk hret (hb hby at_166) rfl ⟨rfl, N42⟩ (by decide) (by decide)
  · rw [q43]
    refine own_istore_n X41 hx (hb hby at_77) #[.val (.int x0), .val (.ref a1), .val (.int (5 : Int32)), .unset, .unset, .unset, .unset, .unset] rfl 78 rfl ?_
    refine own_aload_n X41 hx (hb hby at_78) rfl rfl 79 rfl ?_
    refine own_iload_n X41 hx (hb hby at_79) rfl 80 rfl ?_
    refine own_aaload X41 hx hZ rfl V41 rfl (.ref w_Mux_Type_INCREMENT_RATION) (by decide) rfl (hb hby at_80) 81 rfl ?_
    refine own_astore_n X41 hx (hb hby at_81) #[.val (.int x0), .val (.ref a1), .val (.int (5 : Int32)), .val (.ref w_Mux_Type_INCREMENT_RATION), .unset, .unset, .unset, .unset] rfl rfl 82 rfl ?_
    refine own_iload_n X41 hx (hb hby at_82) rfl 83 rfl ?_
    refine own_iconst X41 hx (hb hby at_83) (1 : Int32) rfl 84 rfl ?_
    refine own_icmpN X41 hx (hb hby at_84) (feq (by decide : ¬ ((5 : Int32) = (1 : Int32)))).1 87 rfl ?_
    refine own_iload_n X41 hx (hb hby at_87) rfl 88 rfl ?_
    refine own_bipush X41 hx (hb hby at_88) (7 : Int32) rfl 90 rfl ?_
    refine own_icmpY X41 hx (hb hby at_90) (feq (by decide : ¬ ((5 : Int32) = (7 : Int32)))).2 97 (by decide) (by decide) ?_
    refine own_iconst X41 hx (hb hby at_97) (0 : Int32) rfl 98 rfl ?_
    refine own_istore X41 hx (hb hby at_98) #[.val (.int x0), .val (.ref a1), .val (.int (5 : Int32)), .val (.ref w_Mux_Type_INCREMENT_RATION), .val (.int (0 : Int32)), .unset, .unset, .unset] rfl 100 rfl ?_
    refine own_iload_n X41 hx (hb hby at_100) rfl 101 rfl ?_
    refine own_bipush X41 hx (hb hby at_101) (8 : Int32) rfl 103 rfl ?_
    refine own_icmpY X41 hx (hb hby at_103) (feq (by decide : ¬ ((5 : Int32) = (8 : Int32)))).2 110 (by decide) (by decide) ?_
    refine own_iconst X41 hx (hb hby at_110) (0 : Int32) rfl 111 rfl ?_
    refine own_istore X41 hx (hb hby at_111) #[.val (.int x0), .val (.ref a1), .val (.int (5 : Int32)), .val (.ref w_Mux_Type_INCREMENT_RATION), .val (.int (0 : Int32)), .val (.int (0 : Int32)), .unset, .unset] rfl 113 rfl ?_
    refine own_iload X41 hx (hb hby at_113) rfl 115 rfl ?_
    refine own_ifN X41 hx (hb hby at_115) ((if0 _ _).trans (teq (by decide : (0 : Int32) = (0 : Int32))).2) 118 rfl ?_
    refine own_iconst X41 hx (hb hby at_118) (1 : Int32) rfl 119 rfl ?_
    refine own_goto X41 hx (hb hby at_119) 123 (by decide) (by decide) ?_
    refine own_istore X41 hx (hb hby at_123) #[.val (.int x0), .val (.ref a1), .val (.int (5 : Int32)), .val (.ref w_Mux_Type_INCREMENT_RATION), .val (.int (0 : Int32)), .val (.int (0 : Int32)), .val (.int (1 : Int32)), .unset] rfl 125 rfl ?_
    refine own_iload X41 hx (hb hby at_125) rfl 127 rfl ?_
    refine own_ifN X41 hx (hb hby at_127) ((if0 _ _).trans (teq (by decide : (0 : Int32) = (0 : Int32))).2) 130 rfl ?_
    refine own_iconst X41 hx (hb hby at_130) (1 : Int32) rfl 131 rfl ?_
    refine own_goto X41 hx (hb hby at_131) 135 (by decide) (by decide) ?_
    refine own_istore X41 hx (hb hby at_135) #[.val (.int x0), .val (.ref a1), .val (.int (5 : Int32)), .val (.ref w_Mux_Type_INCREMENT_RATION), .val (.int (0 : Int32)), .val (.int (0 : Int32)), .val (.int (1 : Int32)), .val (.int (1 : Int32))] rfl 137 rfl ?_
    refine own_aload_n X41 hx (hb hby at_137) rfl rfl 138 rfl ?_
    refine own_getS X41 hx hZ hown (host := "") (Or.inl (own_w hw 25 rfl)) Via.refl rfl (S_w_Mux_Side_CLIENT.ext O42.2) (hb hby at_138) 141 rfl fun T74 X74 e74 => ?_
    refine own_pureV X74 hx hZ hown (own_w hw 28 rfl) (own_w hw 29 rfl) (notFace_of_selects (args := #[]) (mvT hZ (own_w hw 31 rfl))) (own_w hw 31 rfl) (own_w hw 30 rfl) (own_w hw 3 rfl) (own_w hw 32 rfl) (by decide) w_Mux_Type_INCREMENT_RATION [(.ref w_Mux_Side_CLIENT)] [] 0 (rm_mayBeSentBy_11 l Z a0 hw [] T41.heap n0 H O42 ) (by decide) (by decide) rfl rfl e74 (E_w_Mux_Type_INCREMENT_RATION.ext O42.2) (by rw [hml]; rfl) (lenOf pd_0 rfl) (Nat.le_of_eq rfl) (hb hby at_141) 144 rfl rfl (by decide) (by decide) fun T76 X76 e76 => ?_
    refine own_iload X76 hx (hb hby at_144) rfl 146 rfl ?_
    refine own_icmpN X76 hx (hb hby at_146) (teq (by decide : (1 : Int32) = (1 : Int32))).2 149 rfl ?_
    refine own_aload_n X76 hx (hb hby at_149) rfl rfl 150 rfl ?_
    refine own_getS X76 hx hZ hown (host := "") (Or.inl (own_w hw 35 rfl)) Via.refl e76 (S_w_Mux_Side_SERVER.ext O42.2) (hb hby at_150) 153 rfl fun T77 X77 e77 => ?_
    refine own_pureV X77 hx hZ hown (own_w hw 28 rfl) (own_w hw 29 rfl) (notFace_of_selects (args := #[]) (mvT hZ (own_w hw 31 rfl))) (own_w hw 31 rfl) (own_w hw 30 rfl) (own_w hw 3 rfl) (own_w hw 32 rfl) (by decide) w_Mux_Type_INCREMENT_RATION [(.ref w_Mux_Side_SERVER)] [] 0 (rm_mayBeSentBy_12 l Z a0 hw [] T41.heap n0 H O42 ) (by decide) (by decide) rfl rfl e77 (E_w_Mux_Type_INCREMENT_RATION.ext O42.2) (by rw [hml]; rfl) (lenOf pd_0 rfl) (Nat.le_of_eq rfl) (hb hby at_153) 156 rfl rfl (by decide) (by decide) fun T79 X79 e79 => ?_
    refine own_iload X79 hx (hb hby at_156) rfl 158 rfl ?_
    refine own_icmpN X79 hx (hb hby at_158) (teq (by decide : (1 : Int32) = (1 : Int32))).2 161 rfl ?_
    refine own_iconst X79 hx (hb hby at_161) (1 : Int32) rfl 162 rfl ?_
    refine own_goto X79 hx (hb hby at_162) 166 (by decide) (by decide) ?_
    exact own_retZ X79 hx hk hret (hb hby at_166) rfl ⟨rfl, N42⟩ (by decide) (by decide)
  · rw [q43]
    refine own_istore_n X41 hx (hb hby at_77) #[.val (.int x0), .val (.ref a1), .val (.int (6 : Int32)), .unset, .unset, .unset, .unset, .unset] rfl 78 rfl ?_
    refine own_aload_n X41 hx (hb hby at_78) rfl rfl 79 rfl ?_
    refine own_iload_n X41 hx (hb hby at_79) rfl 80 rfl ?_
    refine own_aaload X41 hx hZ rfl V41 rfl (.ref w_Mux_Type_ABORT) (by decide) rfl (hb hby at_80) 81 rfl ?_
    refine own_astore_n X41 hx (hb hby at_81) #[.val (.int x0), .val (.ref a1), .val (.int (6 : Int32)), .val (.ref w_Mux_Type_ABORT), .unset, .unset, .unset, .unset] rfl rfl 82 rfl ?_
    refine own_iload_n X41 hx (hb hby at_82) rfl 83 rfl ?_
    refine own_iconst X41 hx (hb hby at_83) (1 : Int32) rfl 84 rfl ?_
    refine own_icmpN X41 hx (hb hby at_84) (feq (by decide : ¬ ((6 : Int32) = (1 : Int32)))).1 87 rfl ?_
    refine own_iload_n X41 hx (hb hby at_87) rfl 88 rfl ?_
    refine own_bipush X41 hx (hb hby at_88) (7 : Int32) rfl 90 rfl ?_
    refine own_icmpY X41 hx (hb hby at_90) (feq (by decide : ¬ ((6 : Int32) = (7 : Int32)))).2 97 (by decide) (by decide) ?_
    refine own_iconst X41 hx (hb hby at_97) (0 : Int32) rfl 98 rfl ?_
    refine own_istore X41 hx (hb hby at_98) #[.val (.int x0), .val (.ref a1), .val (.int (6 : Int32)), .val (.ref w_Mux_Type_ABORT), .val (.int (0 : Int32)), .unset, .unset, .unset] rfl 100 rfl ?_
    refine own_iload_n X41 hx (hb hby at_100) rfl 101 rfl ?_
    refine own_bipush X41 hx (hb hby at_101) (8 : Int32) rfl 103 rfl ?_
    refine own_icmpY X41 hx (hb hby at_103) (feq (by decide : ¬ ((6 : Int32) = (8 : Int32)))).2 110 (by decide) (by decide) ?_
    refine own_iconst X41 hx (hb hby at_110) (0 : Int32) rfl 111 rfl ?_
    refine own_istore X41 hx (hb hby at_111) #[.val (.int x0), .val (.ref a1), .val (.int (6 : Int32)), .val (.ref w_Mux_Type_ABORT), .val (.int (0 : Int32)), .val (.int (0 : Int32)), .unset, .unset] rfl 113 rfl ?_
    refine own_iload X41 hx (hb hby at_113) rfl 115 rfl ?_
    refine own_ifN X41 hx (hb hby at_115) ((if0 _ _).trans (teq (by decide : (0 : Int32) = (0 : Int32))).2) 118 rfl ?_
    refine own_iconst X41 hx (hb hby at_118) (1 : Int32) rfl 119 rfl ?_
    refine own_goto X41 hx (hb hby at_119) 123 (by decide) (by decide) ?_
    refine own_istore X41 hx (hb hby at_123) #[.val (.int x0), .val (.ref a1), .val (.int (6 : Int32)), .val (.ref w_Mux_Type_ABORT), .val (.int (0 : Int32)), .val (.int (0 : Int32)), .val (.int (1 : Int32)), .unset] rfl 125 rfl ?_
    refine own_iload X41 hx (hb hby at_125) rfl 127 rfl ?_
    refine own_ifN X41 hx (hb hby at_127) ((if0 _ _).trans (teq (by decide : (0 : Int32) = (0 : Int32))).2) 130 rfl ?_
    refine own_iconst X41 hx (hb hby at_130) (1 : Int32) rfl 131 rfl ?_
    refine own_goto X41 hx (hb hby at_131) 135 (by decide) (by decide) ?_
    refine own_istore X41 hx (hb hby at_135) #[.val (.int x0), .val (.ref a1), .val (.int (6 : Int32)), .val (.ref w_Mux_Type_ABORT), .val (.int (0 : Int32)), .val (.int (0 : Int32)), .val (.int (1 : Int32)), .val (.int (1 : Int32))] rfl 137 rfl ?_
    refine own_aload_n X41 hx (hb hby at_137) rfl rfl 138 rfl ?_
    refine own_getS X41 hx hZ hown (host := "") (Or.inl (own_w hw 25 rfl)) Via.refl rfl (S_w_Mux_Side_CLIENT.ext O42.2) (hb hby at_138) 141 rfl fun T80 X80 e80 => ?_
    refine own_pureV X80 hx hZ hown (own_w hw 28 rfl) (own_w hw 29 rfl) (notFace_of_selects (args := #[]) (mvT hZ (own_w hw 31 rfl))) (own_w hw 31 rfl) (own_w hw 30 rfl) (own_w hw 3 rfl) (own_w hw 32 rfl) (by decide) w_Mux_Type_ABORT [(.ref w_Mux_Side_CLIENT)] [] 0 (rm_mayBeSentBy_13 l Z a0 hw [] T41.heap n0 H O42 ) (by decide) (by decide) rfl rfl e80 (E_w_Mux_Type_ABORT.ext O42.2) (by rw [hml]; rfl) (lenOf pd_0 rfl) (Nat.le_of_eq rfl) (hb hby at_141) 144 rfl rfl (by decide) (by decide) fun T82 X82 e82 => ?_
    refine own_iload X82 hx (hb hby at_144) rfl 146 rfl ?_
    refine own_icmpN X82 hx (hb hby at_146) (teq (by decide : (1 : Int32) = (1 : Int32))).2 149 rfl ?_
    refine own_aload_n X82 hx (hb hby at_149) rfl rfl 150 rfl ?_
    refine own_getS X82 hx hZ hown (host := "") (Or.inl (own_w hw 35 rfl)) Via.refl e82 (S_w_Mux_Side_SERVER.ext O42.2) (hb hby at_150) 153 rfl fun T83 X83 e83 => ?_
    refine own_pureV X83 hx hZ hown (own_w hw 28 rfl) (own_w hw 29 rfl) (notFace_of_selects (args := #[]) (mvT hZ (own_w hw 31 rfl))) (own_w hw 31 rfl) (own_w hw 30 rfl) (own_w hw 3 rfl) (own_w hw 32 rfl) (by decide) w_Mux_Type_ABORT [(.ref w_Mux_Side_SERVER)] [] 0 (rm_mayBeSentBy_14 l Z a0 hw [] T41.heap n0 H O42 ) (by decide) (by decide) rfl rfl e83 (E_w_Mux_Type_ABORT.ext O42.2) (by rw [hml]; rfl) (lenOf pd_0 rfl) (Nat.le_of_eq rfl) (hb hby at_153) 156 rfl rfl (by decide) (by decide) fun T85 X85 e85 => ?_
    refine own_iload X85 hx (hb hby at_156) rfl 158 rfl ?_
    refine own_icmpN X85 hx (hb hby at_158) (teq (by decide : (1 : Int32) = (1 : Int32))).2 161 rfl ?_
    refine own_iconst X85 hx (hb hby at_161) (1 : Int32) rfl 162 rfl ?_
    refine own_goto X85 hx (hb hby at_162) 166 (by decide) (by decide) ?_
    exact own_retZ X85 hx hk hret (hb hby at_166) rfl ⟨rfl, N42⟩ (by decide) (by decide)
  · rw [q43]
    refine own_istore_n X41 hx (hb hby at_77) #[.val (.int x0), .val (.ref a1), .val (.int (7 : Int32)), .unset, .unset, .unset, .unset, .unset] rfl 78 rfl ?_
    refine own_aload_n X41 hx (hb hby at_78) rfl rfl 79 rfl ?_
    refine own_iload_n X41 hx (hb hby at_79) rfl 80 rfl ?_
    refine own_aaload X41 hx hZ rfl V41 rfl (.ref w_Mux_Type_CLOSE) (by decide) rfl (hb hby at_80) 81 rfl ?_
    refine own_astore_n X41 hx (hb hby at_81) #[.val (.int x0), .val (.ref a1), .val (.int (7 : Int32)), .val (.ref w_Mux_Type_CLOSE), .unset, .unset, .unset, .unset] rfl rfl 82 rfl ?_
    refine own_iload_n X41 hx (hb hby at_82) rfl 83 rfl ?_
    refine own_iconst X41 hx (hb hby at_83) (1 : Int32) rfl 84 rfl ?_
    refine own_icmpN X41 hx (hb hby at_84) (feq (by decide : ¬ ((7 : Int32) = (1 : Int32)))).1 87 rfl ?_
    refine own_iload_n X41 hx (hb hby at_87) rfl 88 rfl ?_
    refine own_bipush X41 hx (hb hby at_88) (7 : Int32) rfl 90 rfl ?_
    refine own_icmpN X41 hx (hb hby at_90) (teq (by decide : (7 : Int32) = (7 : Int32))).2 93 rfl ?_
    refine own_iconst X41 hx (hb hby at_93) (1 : Int32) rfl 94 rfl ?_
    refine own_goto X41 hx (hb hby at_94) 98 (by decide) (by decide) ?_
    refine own_istore X41 hx (hb hby at_98) #[.val (.int x0), .val (.ref a1), .val (.int (7 : Int32)), .val (.ref w_Mux_Type_CLOSE), .val (.int (1 : Int32)), .unset, .unset, .unset] rfl 100 rfl ?_
    refine own_iload_n X41 hx (hb hby at_100) rfl 101 rfl ?_
    refine own_bipush X41 hx (hb hby at_101) (8 : Int32) rfl 103 rfl ?_
    refine own_icmpY X41 hx (hb hby at_103) (feq (by decide : ¬ ((7 : Int32) = (8 : Int32)))).2 110 (by decide) (by decide) ?_
    refine own_iconst X41 hx (hb hby at_110) (0 : Int32) rfl 111 rfl ?_
    refine own_istore X41 hx (hb hby at_111) #[.val (.int x0), .val (.ref a1), .val (.int (7 : Int32)), .val (.ref w_Mux_Type_CLOSE), .val (.int (1 : Int32)), .val (.int (0 : Int32)), .unset, .unset] rfl 113 rfl ?_
    refine own_iload X41 hx (hb hby at_113) rfl 115 rfl ?_
    refine own_ifY X41 hx (hb hby at_115) ((if0 _ _).trans (feq (by decide : ¬ ((1 : Int32) = (0 : Int32)))).2) 122 (by decide) (by decide) ?_
    refine own_iconst X41 hx (hb hby at_122) (0 : Int32) rfl 123 rfl ?_
    refine own_istore X41 hx (hb hby at_123) #[.val (.int x0), .val (.ref a1), .val (.int (7 : Int32)), .val (.ref w_Mux_Type_CLOSE), .val (.int (1 : Int32)), .val (.int (0 : Int32)), .val (.int (0 : Int32)), .unset] rfl 125 rfl ?_
    refine own_iload X41 hx (hb hby at_125) rfl 127 rfl ?_
    refine own_ifN X41 hx (hb hby at_127) ((if0 _ _).trans (teq (by decide : (0 : Int32) = (0 : Int32))).2) 130 rfl ?_
    refine own_iconst X41 hx (hb hby at_130) (1 : Int32) rfl 131 rfl ?_
    refine own_goto X41 hx (hb hby at_131) 135 (by decide) (by decide) ?_
    refine own_istore X41 hx (hb hby at_135) #[.val (.int x0), .val (.ref a1), .val (.int (7 : Int32)), .val (.ref w_Mux_Type_CLOSE), .val (.int (1 : Int32)), .val (.int (0 : Int32)), .val (.int (0 : Int32)), .val (.int (1 : Int32))] rfl 137 rfl ?_
    refine own_aload_n X41 hx (hb hby at_137) rfl rfl 138 rfl ?_
    refine own_getS X41 hx hZ hown (host := "") (Or.inl (own_w hw 25 rfl)) Via.refl rfl (S_w_Mux_Side_CLIENT.ext O42.2) (hb hby at_138) 141 rfl fun T86 X86 e86 => ?_
    refine own_pureV X86 hx hZ hown (own_w hw 28 rfl) (own_w hw 29 rfl) (notFace_of_selects (args := #[]) (mvT hZ (own_w hw 31 rfl))) (own_w hw 31 rfl) (own_w hw 30 rfl) (own_w hw 3 rfl) (own_w hw 32 rfl) (by decide) w_Mux_Type_CLOSE [(.ref w_Mux_Side_CLIENT)] [] 0 (rm_mayBeSentBy_15 l Z a0 hw [] T41.heap n0 H O42 ) (by decide) (by decide) rfl rfl e86 (E_w_Mux_Type_CLOSE.ext O42.2) (by rw [hml]; rfl) (lenOf pd_0 rfl) (Nat.le_of_eq rfl) (hb hby at_141) 144 rfl rfl (by decide) (by decide) fun T88 X88 e88 => ?_
    refine own_iload X88 hx (hb hby at_144) rfl 146 rfl ?_
    refine own_icmpN X88 hx (hb hby at_146) (teq (by decide : (0 : Int32) = (0 : Int32))).2 149 rfl ?_
    refine own_aload_n X88 hx (hb hby at_149) rfl rfl 150 rfl ?_
    refine own_getS X88 hx hZ hown (host := "") (Or.inl (own_w hw 35 rfl)) Via.refl e88 (S_w_Mux_Side_SERVER.ext O42.2) (hb hby at_150) 153 rfl fun T89 X89 e89 => ?_
    refine own_pureV X89 hx hZ hown (own_w hw 28 rfl) (own_w hw 29 rfl) (notFace_of_selects (args := #[]) (mvT hZ (own_w hw 31 rfl))) (own_w hw 31 rfl) (own_w hw 30 rfl) (own_w hw 3 rfl) (own_w hw 32 rfl) (by decide) w_Mux_Type_CLOSE [(.ref w_Mux_Side_SERVER)] [] 0 (rm_mayBeSentBy_16 l Z a0 hw [] T41.heap n0 H O42 ) (by decide) (by decide) rfl rfl e89 (E_w_Mux_Type_CLOSE.ext O42.2) (by rw [hml]; rfl) (lenOf pd_0 rfl) (Nat.le_of_eq rfl) (hb hby at_153) 156 rfl rfl (by decide) (by decide) fun T91 X91 e91 => ?_
    refine own_iload X91 hx (hb hby at_156) rfl 158 rfl ?_
    refine own_icmpN X91 hx (hb hby at_158) (teq (by decide : (1 : Int32) = (1 : Int32))).2 161 rfl ?_
    refine own_iconst X91 hx (hb hby at_161) (1 : Int32) rfl 162 rfl ?_
    refine own_goto X91 hx (hb hby at_162) 166 (by decide) (by decide) ?_
    exact own_retZ X91 hx hk hret (hb hby at_166) rfl ⟨rfl, N42⟩ (by decide) (by decide)
  · rw [q43]
    refine own_istore_n X41 hx (hb hby at_77) #[.val (.int x0), .val (.ref a1), .val (.int (8 : Int32)), .unset, .unset, .unset, .unset, .unset] rfl 78 rfl ?_
    refine own_aload_n X41 hx (hb hby at_78) rfl rfl 79 rfl ?_
    refine own_iload_n X41 hx (hb hby at_79) rfl 80 rfl ?_
    refine own_aaload X41 hx hZ rfl V41 rfl (.ref w_Mux_Type_ACKNOWLEDGMENT) (by decide) rfl (hb hby at_80) 81 rfl ?_
    refine own_astore_n X41 hx (hb hby at_81) #[.val (.int x0), .val (.ref a1), .val (.int (8 : Int32)), .val (.ref w_Mux_Type_ACKNOWLEDGMENT), .unset, .unset, .unset, .unset] rfl rfl 82 rfl ?_
    refine own_iload_n X41 hx (hb hby at_82) rfl 83 rfl ?_
    refine own_iconst X41 hx (hb hby at_83) (1 : Int32) rfl 84 rfl ?_
    refine own_icmpN X41 hx (hb hby at_84) (feq (by decide : ¬ ((8 : Int32) = (1 : Int32)))).1 87 rfl ?_
    refine own_iload_n X41 hx (hb hby at_87) rfl 88 rfl ?_
    refine own_bipush X41 hx (hb hby at_88) (7 : Int32) rfl 90 rfl ?_
    refine own_icmpY X41 hx (hb hby at_90) (feq (by decide : ¬ ((8 : Int32) = (7 : Int32)))).2 97 (by decide) (by decide) ?_
    refine own_iconst X41 hx (hb hby at_97) (0 : Int32) rfl 98 rfl ?_
    refine own_istore X41 hx (hb hby at_98) #[.val (.int x0), .val (.ref a1), .val (.int (8 : Int32)), .val (.ref w_Mux_Type_ACKNOWLEDGMENT), .val (.int (0 : Int32)), .unset, .unset, .unset] rfl 100 rfl ?_
    refine own_iload_n X41 hx (hb hby at_100) rfl 101 rfl ?_
    refine own_bipush X41 hx (hb hby at_101) (8 : Int32) rfl 103 rfl ?_
    refine own_icmpN X41 hx (hb hby at_103) (teq (by decide : (8 : Int32) = (8 : Int32))).2 106 rfl ?_
    refine own_iconst X41 hx (hb hby at_106) (1 : Int32) rfl 107 rfl ?_
    refine own_goto X41 hx (hb hby at_107) 111 (by decide) (by decide) ?_
    refine own_istore X41 hx (hb hby at_111) #[.val (.int x0), .val (.ref a1), .val (.int (8 : Int32)), .val (.ref w_Mux_Type_ACKNOWLEDGMENT), .val (.int (0 : Int32)), .val (.int (1 : Int32)), .unset, .unset] rfl 113 rfl ?_
    refine own_iload X41 hx (hb hby at_113) rfl 115 rfl ?_
    refine own_ifN X41 hx (hb hby at_115) ((if0 _ _).trans (teq (by decide : (0 : Int32) = (0 : Int32))).2) 118 rfl ?_
    refine own_iconst X41 hx (hb hby at_118) (1 : Int32) rfl 119 rfl ?_
    refine own_goto X41 hx (hb hby at_119) 123 (by decide) (by decide) ?_
    refine own_istore X41 hx (hb hby at_123) #[.val (.int x0), .val (.ref a1), .val (.int (8 : Int32)), .val (.ref w_Mux_Type_ACKNOWLEDGMENT), .val (.int (0 : Int32)), .val (.int (1 : Int32)), .val (.int (1 : Int32)), .unset] rfl 125 rfl ?_
    refine own_iload X41 hx (hb hby at_125) rfl 127 rfl ?_
    refine own_ifY X41 hx (hb hby at_127) ((if0 _ _).trans (feq (by decide : ¬ ((1 : Int32) = (0 : Int32)))).2) 134 (by decide) (by decide) ?_
    refine own_iconst X41 hx (hb hby at_134) (0 : Int32) rfl 135 rfl ?_
    refine own_istore X41 hx (hb hby at_135) #[.val (.int x0), .val (.ref a1), .val (.int (8 : Int32)), .val (.ref w_Mux_Type_ACKNOWLEDGMENT), .val (.int (0 : Int32)), .val (.int (1 : Int32)), .val (.int (1 : Int32)), .val (.int (0 : Int32))] rfl 137 rfl ?_
    refine own_aload_n X41 hx (hb hby at_137) rfl rfl 138 rfl ?_
    refine own_getS X41 hx hZ hown (host := "") (Or.inl (own_w hw 25 rfl)) Via.refl rfl (S_w_Mux_Side_CLIENT.ext O42.2) (hb hby at_138) 141 rfl fun T92 X92 e92 => ?_
    refine own_pureV X92 hx hZ hown (own_w hw 28 rfl) (own_w hw 29 rfl) (notFace_of_selects (args := #[]) (mvT hZ (own_w hw 31 rfl))) (own_w hw 31 rfl) (own_w hw 30 rfl) (own_w hw 3 rfl) (own_w hw 32 rfl) (by decide) w_Mux_Type_ACKNOWLEDGMENT [(.ref w_Mux_Side_CLIENT)] [] 0 (rm_mayBeSentBy_17 l Z a0 hw [] T41.heap n0 H O42 ) (by decide) (by decide) rfl rfl e92 (E_w_Mux_Type_ACKNOWLEDGMENT.ext O42.2) (by rw [hml]; rfl) (lenOf pd_0 rfl) (Nat.le_of_eq rfl) (hb hby at_141) 144 rfl rfl (by decide) (by decide) fun T94 X94 e94 => ?_
    refine own_iload X94 hx (hb hby at_144) rfl 146 rfl ?_
    refine own_icmpN X94 hx (hb hby at_146) (teq (by decide : (1 : Int32) = (1 : Int32))).2 149 rfl ?_
    refine own_aload_n X94 hx (hb hby at_149) rfl rfl 150 rfl ?_
    refine own_getS X94 hx hZ hown (host := "") (Or.inl (own_w hw 35 rfl)) Via.refl e94 (S_w_Mux_Side_SERVER.ext O42.2) (hb hby at_150) 153 rfl fun T95 X95 e95 => ?_
    refine own_pureV X95 hx hZ hown (own_w hw 28 rfl) (own_w hw 29 rfl) (notFace_of_selects (args := #[]) (mvT hZ (own_w hw 31 rfl))) (own_w hw 31 rfl) (own_w hw 30 rfl) (own_w hw 3 rfl) (own_w hw 32 rfl) (by decide) w_Mux_Type_ACKNOWLEDGMENT [(.ref w_Mux_Side_SERVER)] [] 0 (rm_mayBeSentBy_18 l Z a0 hw [] T41.heap n0 H O42 ) (by decide) (by decide) rfl rfl e95 (E_w_Mux_Type_ACKNOWLEDGMENT.ext O42.2) (by rw [hml]; rfl) (lenOf pd_0 rfl) (Nat.le_of_eq rfl) (hb hby at_153) 156 rfl rfl (by decide) (by decide) fun T97 X97 e97 => ?_
    refine own_iload X97 hx (hb hby at_156) rfl 158 rfl ?_
    refine own_icmpN X97 hx (hb hby at_158) (teq (by decide : (0 : Int32) = (0 : Int32))).2 161 rfl ?_
    refine own_iconst X97 hx (hb hby at_161) (1 : Int32) rfl 162 rfl ?_
    refine own_goto X97 hx (hb hby at_162) 166 (by decide) (by decide) ?_
    exact own_retZ X97 hx hk hret (hb hby at_166) rfl ⟨rfl, N42⟩ (by decide) (by decide)
  · rw [q43]
    refine own_istore_n X41 hx (hb hby at_77) #[.val (.int x0), .val (.ref a1), .val (.int (9 : Int32)), .unset, .unset, .unset, .unset, .unset] rfl 78 rfl ?_
    refine own_aload_n X41 hx (hb hby at_78) rfl rfl 79 rfl ?_
    refine own_iload_n X41 hx (hb hby at_79) rfl 80 rfl ?_
    refine own_aaload X41 hx hZ rfl V41 rfl (.ref w_Mux_Type_DATA) (by decide) rfl (hb hby at_80) 81 rfl ?_
    refine own_astore_n X41 hx (hb hby at_81) #[.val (.int x0), .val (.ref a1), .val (.int (9 : Int32)), .val (.ref w_Mux_Type_DATA), .unset, .unset, .unset, .unset] rfl rfl 82 rfl ?_
    refine own_iload_n X41 hx (hb hby at_82) rfl 83 rfl ?_
    refine own_iconst X41 hx (hb hby at_83) (1 : Int32) rfl 84 rfl ?_
    refine own_icmpN X41 hx (hb hby at_84) (feq (by decide : ¬ ((9 : Int32) = (1 : Int32)))).1 87 rfl ?_
    refine own_iload_n X41 hx (hb hby at_87) rfl 88 rfl ?_
    refine own_bipush X41 hx (hb hby at_88) (7 : Int32) rfl 90 rfl ?_
    refine own_icmpY X41 hx (hb hby at_90) (feq (by decide : ¬ ((9 : Int32) = (7 : Int32)))).2 97 (by decide) (by decide) ?_
    refine own_iconst X41 hx (hb hby at_97) (0 : Int32) rfl 98 rfl ?_
    refine own_istore X41 hx (hb hby at_98) #[.val (.int x0), .val (.ref a1), .val (.int (9 : Int32)), .val (.ref w_Mux_Type_DATA), .val (.int (0 : Int32)), .unset, .unset, .unset] rfl 100 rfl ?_
    refine own_iload_n X41 hx (hb hby at_100) rfl 101 rfl ?_
    refine own_bipush X41 hx (hb hby at_101) (8 : Int32) rfl 103 rfl ?_
    refine own_icmpY X41 hx (hb hby at_103) (feq (by decide : ¬ ((9 : Int32) = (8 : Int32)))).2 110 (by decide) (by decide) ?_
    refine own_iconst X41 hx (hb hby at_110) (0 : Int32) rfl 111 rfl ?_
    refine own_istore X41 hx (hb hby at_111) #[.val (.int x0), .val (.ref a1), .val (.int (9 : Int32)), .val (.ref w_Mux_Type_DATA), .val (.int (0 : Int32)), .val (.int (0 : Int32)), .unset, .unset] rfl 113 rfl ?_
    refine own_iload X41 hx (hb hby at_113) rfl 115 rfl ?_
    refine own_ifN X41 hx (hb hby at_115) ((if0 _ _).trans (teq (by decide : (0 : Int32) = (0 : Int32))).2) 118 rfl ?_
    refine own_iconst X41 hx (hb hby at_118) (1 : Int32) rfl 119 rfl ?_
    refine own_goto X41 hx (hb hby at_119) 123 (by decide) (by decide) ?_
    refine own_istore X41 hx (hb hby at_123) #[.val (.int x0), .val (.ref a1), .val (.int (9 : Int32)), .val (.ref w_Mux_Type_DATA), .val (.int (0 : Int32)), .val (.int (0 : Int32)), .val (.int (1 : Int32)), .unset] rfl 125 rfl ?_
    refine own_iload X41 hx (hb hby at_125) rfl 127 rfl ?_
    refine own_ifN X41 hx (hb hby at_127) ((if0 _ _).trans (teq (by decide : (0 : Int32) = (0 : Int32))).2) 130 rfl ?_
    refine own_iconst X41 hx (hb hby at_130) (1 : Int32) rfl 131 rfl ?_
    refine own_goto X41 hx (hb hby at_131) 135 (by decide) (by decide) ?_
    refine own_istore X41 hx (hb hby at_135) #[.val (.int x0), .val (.ref a1), .val (.int (9 : Int32)), .val (.ref w_Mux_Type_DATA), .val (.int (0 : Int32)), .val (.int (0 : Int32)), .val (.int (1 : Int32)), .val (.int (1 : Int32))] rfl 137 rfl ?_
    refine own_aload_n X41 hx (hb hby at_137) rfl rfl 138 rfl ?_
    refine own_getS X41 hx hZ hown (host := "") (Or.inl (own_w hw 25 rfl)) Via.refl rfl (S_w_Mux_Side_CLIENT.ext O42.2) (hb hby at_138) 141 rfl fun T98 X98 e98 => ?_
    refine own_pureV X98 hx hZ hown (own_w hw 28 rfl) (own_w hw 29 rfl) (notFace_of_selects (args := #[]) (mvT hZ (own_w hw 31 rfl))) (own_w hw 31 rfl) (own_w hw 30 rfl) (own_w hw 3 rfl) (own_w hw 32 rfl) (by decide) w_Mux_Type_DATA [(.ref w_Mux_Side_CLIENT)] [] 0 (rm_mayBeSentBy_19 l Z a0 hw [] T41.heap n0 H O42 ) (by decide) (by decide) rfl rfl e98 (E_w_Mux_Type_DATA.ext O42.2) (by rw [hml]; rfl) (lenOf pd_0 rfl) (Nat.le_of_eq rfl) (hb hby at_141) 144 rfl rfl (by decide) (by decide) fun T100 X100 e100 => ?_
    refine own_iload X100 hx (hb hby at_144) rfl 146 rfl ?_
    refine own_icmpN X100 hx (hb hby at_146) (teq (by decide : (1 : Int32) = (1 : Int32))).2 149 rfl ?_
    refine own_aload_n X100 hx (hb hby at_149) rfl rfl 150 rfl ?_
    refine own_getS X100 hx hZ hown (host := "") (Or.inl (own_w hw 35 rfl)) Via.refl e100 (S_w_Mux_Side_SERVER.ext O42.2) (hb hby at_150) 153 rfl fun T101 X101 e101 => ?_
    refine own_pureV X101 hx hZ hown (own_w hw 28 rfl) (own_w hw 29 rfl) (notFace_of_selects (args := #[]) (mvT hZ (own_w hw 31 rfl))) (own_w hw 31 rfl) (own_w hw 30 rfl) (own_w hw 3 rfl) (own_w hw 32 rfl) (by decide) w_Mux_Type_DATA [(.ref w_Mux_Side_SERVER)] [] 0 (rm_mayBeSentBy_20 l Z a0 hw [] T41.heap n0 H O42 ) (by decide) (by decide) rfl rfl e101 (E_w_Mux_Type_DATA.ext O42.2) (by rw [hml]; rfl) (lenOf pd_0 rfl) (Nat.le_of_eq rfl) (hb hby at_153) 156 rfl rfl (by decide) (by decide) fun T103 X103 e103 => ?_
    refine own_iload X103 hx (hb hby at_156) rfl 158 rfl ?_
    refine own_icmpN X103 hx (hb hby at_158) (teq (by decide : (1 : Int32) = (1 : Int32))).2 161 rfl ?_
    refine own_iconst X103 hx (hb hby at_161) (1 : Int32) rfl 162 rfl ?_
    refine own_goto X103 hx (hb hby at_162) 166 (by decide) (by decide) ?_
    exact own_retZ X103 hx hk hret (hb hby at_166) rfl ⟨rfl, N42⟩ (by decide) (by decide)
set_option maxRecDepth 65536 in
set_option maxHeartbeats 40000000 in
theorem comes_1 {Post : Tables → Env → Array Value → State → Outcome → State → Prop} (hpost : ∀ tb e args s v u, (limb_1_1.after args s (.returned v) u = true ∧ limb_1_2.after args s (.returned v) u = true ∧ True) → FrameEnd s (.returned v) u (Jvm.fieldLocs frame_1_writes args s ++ Jvm.arrayLocs frame_1_arrays args s ++ Jvm.staticLocs frame_1_statics s) 16 128 → Post tb e args s (.returned v) u) :
    ArmFor flags0 classFile x code maxLocals ret World_1 tables_1 room_1 Calls_1 rest_1 Pre_1 Post := by
  intro l hfl _ _ p e ha hc hk s m args below hf hA hF happ hP
  obtain ⟨hcalls, hrest, hpre⟩ := hP
  obtain ⟨-, -, -, hnamed, -, -, -, hat⟩ := (Spec.applies_iff hf).mp happ
  obtain ⟨hg, hn⟩ := and_e (Cond.before_iff.mp (show (Jvm.Cond.and given_1 narrow_1).before args s = true from hpre))
  obtain ⟨hn101a, hn101b⟩ := and_e hg
  obtain ⟨w0, rfl⟩ : ∃ w0 : Value, args = #[w0] := by
    have hs : args.size = 1 := by simpa [Cond.value, given_1] using hn101a
    obtain ⟨L⟩ := args
    match L, hs with
    | [w0], _ => exact ⟨w0, rfl⟩
  have hw := fun d (hd : d ∈ tables_1) => atoms_spec (ws := Jvm.Cond.code x code maxLocals ret :: tables_1) hat d (List.mem_cons_of_mem _ hd)
  have hfit : Fit s := fun {y c} hc i hi => by
    obtain ⟨ha, rfl⟩ := Array.getElem?_eq_some_iff.mp hc
    have q := List.all_eq_true.mp ((Array.all_eq_true_iff_forall_mem.mp hF) _ (Array.getElem_mem ha)) i (List.mem_range.mpr hi)
    simpa [Array.getElem?_eq_getElem hi] using q
  obtain ⟨i0, ei0⟩ := is_v hn101b
  obtain rfl : w0 = (.int i0) := Option.some.inj ei0
  obtain ⟨hn1a, hn1b⟩ := and_e hn
  obtain ⟨hn2a, hn2b⟩ := and_e hn1b
  obtain ⟨hn3a, hn3b⟩ := and_e hn2b
  obtain ⟨hn4a, hn4b⟩ := and_e hn3b
  obtain ⟨hn5a, hn5b⟩ := and_e hn4b
  obtain ⟨hn6a, hn6b⟩ := and_e hn5b
  obtain ⟨hn7a, hn7b⟩ := and_e hn6b
  obtain ⟨hn8a, hn8b⟩ := and_e hn7b
  obtain ⟨hn9a, hn9b⟩ := and_e hn8b
  obtain ⟨hn10a, hn10b⟩ := and_e hn9b
  obtain ⟨hn11a, hn11b⟩ := and_e hn10b
  obtain ⟨hn12a, hn12b⟩ := and_e hn11b
  obtain ⟨hn13a, hn13b⟩ := and_e hn12b
  obtain ⟨hn14a, hn14b⟩ := and_e hn13b
  obtain ⟨hn15a, hn15b⟩ := and_e hn14b
  obtain ⟨hn16a, hn16b⟩ := and_e hn15b
  obtain ⟨hn17a, hn17b⟩ := and_e hn16b
  obtain ⟨hn18a, hn18b⟩ := and_e hn17b
  obtain ⟨hn19a, hn19b⟩ := and_e hn18b
  obtain ⟨hn20a, hn20b⟩ := and_e hn19b
  obtain ⟨hn21a, hn21b⟩ := and_e hn20b
  obtain ⟨hn22a, hn22b⟩ := and_e hn21b
  obtain ⟨hn23a, hn23b⟩ := and_e hn22b
  obtain ⟨w_Mux_Type_NO_OPERATION, ev_w_Mux_Type_NO_OPERATION⟩ := exa_v hn1a
  have S_w_Mux_Type_NO_OPERATION := Sta.start ev_w_Mux_Type_NO_OPERATION (Or.inr ⟨(own_w hw 3 rfl), (own_w hw 4 rfl)⟩)
  have E_w_Mux_Type_NO_OPERATION := Exa.start ev_w_Mux_Type_NO_OPERATION hn1a
  obtain ⟨w_Mux_Type_SHUTDOWN, ev_w_Mux_Type_SHUTDOWN⟩ := exa_v hn2a
  have S_w_Mux_Type_SHUTDOWN := Sta.start ev_w_Mux_Type_SHUTDOWN (Or.inr ⟨(own_w hw 3 rfl), (own_w hw 7 rfl)⟩)
  have E_w_Mux_Type_SHUTDOWN := Exa.start ev_w_Mux_Type_SHUTDOWN hn2a
  obtain ⟨w_Mux_Type_PING, ev_w_Mux_Type_PING⟩ := exa_v hn3a
  have S_w_Mux_Type_PING := Sta.start ev_w_Mux_Type_PING (Or.inr ⟨(own_w hw 3 rfl), (own_w hw 9 rfl)⟩)
  have E_w_Mux_Type_PING := Exa.start ev_w_Mux_Type_PING hn3a
  obtain ⟨w_Mux_Type_PING_ACK, ev_w_Mux_Type_PING_ACK⟩ := exa_v hn4a
  have S_w_Mux_Type_PING_ACK := Sta.start ev_w_Mux_Type_PING_ACK (Or.inr ⟨(own_w hw 3 rfl), (own_w hw 11 rfl)⟩)
  have E_w_Mux_Type_PING_ACK := Exa.start ev_w_Mux_Type_PING_ACK hn4a
  obtain ⟨w_Mux_Type_ERROR, ev_w_Mux_Type_ERROR⟩ := exa_v hn5a
  have S_w_Mux_Type_ERROR := Sta.start ev_w_Mux_Type_ERROR (Or.inr ⟨(own_w hw 3 rfl), (own_w hw 13 rfl)⟩)
  have E_w_Mux_Type_ERROR := Exa.start ev_w_Mux_Type_ERROR hn5a
  obtain ⟨w_Mux_Type_INCREMENT_RATION, ev_w_Mux_Type_INCREMENT_RATION⟩ := exa_v hn6a
  have S_w_Mux_Type_INCREMENT_RATION := Sta.start ev_w_Mux_Type_INCREMENT_RATION (Or.inr ⟨(own_w hw 3 rfl), (own_w hw 15 rfl)⟩)
  have E_w_Mux_Type_INCREMENT_RATION := Exa.start ev_w_Mux_Type_INCREMENT_RATION hn6a
  obtain ⟨w_Mux_Type_ABORT, ev_w_Mux_Type_ABORT⟩ := exa_v hn7a
  have S_w_Mux_Type_ABORT := Sta.start ev_w_Mux_Type_ABORT (Or.inr ⟨(own_w hw 3 rfl), (own_w hw 17 rfl)⟩)
  have E_w_Mux_Type_ABORT := Exa.start ev_w_Mux_Type_ABORT hn7a
  obtain ⟨w_Mux_Type_CLOSE, ev_w_Mux_Type_CLOSE⟩ := exa_v hn8a
  have S_w_Mux_Type_CLOSE := Sta.start ev_w_Mux_Type_CLOSE (Or.inr ⟨(own_w hw 3 rfl), (own_w hw 19 rfl)⟩)
  have E_w_Mux_Type_CLOSE := Exa.start ev_w_Mux_Type_CLOSE hn8a
  obtain ⟨w_Mux_Type_ACKNOWLEDGMENT, ev_w_Mux_Type_ACKNOWLEDGMENT⟩ := exa_v hn9a
  have S_w_Mux_Type_ACKNOWLEDGMENT := Sta.start ev_w_Mux_Type_ACKNOWLEDGMENT (Or.inr ⟨(own_w hw 3 rfl), (own_w hw 21 rfl)⟩)
  have E_w_Mux_Type_ACKNOWLEDGMENT := Exa.start ev_w_Mux_Type_ACKNOWLEDGMENT hn9a
  obtain ⟨w_Mux_Type_DATA, ev_w_Mux_Type_DATA⟩ := exa_v hn10a
  have S_w_Mux_Type_DATA := Sta.start ev_w_Mux_Type_DATA (Or.inr ⟨(own_w hw 3 rfl), (own_w hw 23 rfl)⟩)
  have E_w_Mux_Type_DATA := Exa.start ev_w_Mux_Type_DATA hn10a
  obtain ⟨w_Mux_Side_CLIENT, ev_w_Mux_Side_CLIENT⟩ := exa_v hn11a
  have S_w_Mux_Side_CLIENT := Sta.start ev_w_Mux_Side_CLIENT (Or.inr ⟨(own_w hw 26 rfl), (own_w hw 27 rfl)⟩)
  have E_w_Mux_Side_CLIENT := Exa.start ev_w_Mux_Side_CLIENT hn11a
  obtain ⟨w_Mux_Side_SERVER, ev_w_Mux_Side_SERVER⟩ := exa_v hn13a
  have S_w_Mux_Side_SERVER := Sta.start ev_w_Mux_Side_SERVER (Or.inr ⟨(own_w hw 26 rfl), (own_w hw 36 rfl)⟩)
  have E_w_Mux_Side_SERVER := Exa.start ev_w_Mux_Side_SERVER hn13a
  have F_w_Mux_Type_NO_OPERATION_sender := own_fldN ev_w_Mux_Type_NO_OPERATION hn12a
  have F_w_Mux_Type_PING_ACK_sender := own_fldN ev_w_Mux_Type_PING_ACK hn14a
  have F_w_Mux_Type_SHUTDOWN_sender := own_fldR ev_w_Mux_Type_SHUTDOWN ev_w_Mux_Side_SERVER hn15a
  have F_w_Mux_Side_SERVER_ordinal := own_fldI ev_w_Mux_Side_SERVER hn16a
  have F_w_Mux_Side_CLIENT_ordinal := own_fldI ev_w_Mux_Side_CLIENT hn17a
  have F_w_Mux_Type_ERROR_sender := own_fldN ev_w_Mux_Type_ERROR hn18a
  have F_w_Mux_Type_CLOSE_sender := own_fldR ev_w_Mux_Type_CLOSE ev_w_Mux_Side_SERVER hn19a
  have F_w_Mux_Type_PING_sender := own_fldN ev_w_Mux_Type_PING hn20a
  have F_w_Mux_Type_ACKNOWLEDGMENT_sender := own_fldR ev_w_Mux_Type_ACKNOWLEDGMENT ev_w_Mux_Side_CLIENT hn21a
  have F_w_Mux_Type_DATA_sender := own_fldN ev_w_Mux_Type_DATA hn22a
  have F_w_Mux_Type_INCREMENT_RATION_sender := own_fldN ev_w_Mux_Type_INCREMENT_RATION hn23a
  have F_w_Mux_Type_ABORT_sender := own_fldN ev_w_Mux_Type_ABORT hn23b
  have ne_w_Mux_Side_CLIENT_w_Mux_Side_SERVER : w_Mux_Side_CLIENT ≠ w_Mux_Side_SERVER := Fld.ne F_w_Mux_Side_CLIENT_ordinal F_w_Mux_Side_SERVER_ordinal (by intro q; cases q)
  obtain ⟨n, o, h1, h2, h3, _, L, rfl, ⟨rfl, N⟩, hq⟩ := rm0 l s _ hw tables_1 i0 s.heap s.heap.size (show own_C s s.heap w_Mux_Type_NO_OPERATION w_Mux_Type_SHUTDOWN w_Mux_Type_PING w_Mux_Type_PING_ACK w_Mux_Type_ERROR w_Mux_Type_INCREMENT_RATION w_Mux_Type_ABORT w_Mux_Type_CLOSE w_Mux_Type_ACKNOWLEDGMENT w_Mux_Type_DATA w_Mux_Side_CLIENT w_Mux_Side_SERVER from ⟨S_w_Mux_Type_NO_OPERATION, E_w_Mux_Type_NO_OPERATION, S_w_Mux_Type_SHUTDOWN, E_w_Mux_Type_SHUTDOWN, S_w_Mux_Type_PING, E_w_Mux_Type_PING, S_w_Mux_Type_PING_ACK, E_w_Mux_Type_PING_ACK, S_w_Mux_Type_ERROR, E_w_Mux_Type_ERROR, S_w_Mux_Type_INCREMENT_RATION, E_w_Mux_Type_INCREMENT_RATION, S_w_Mux_Type_ABORT, E_w_Mux_Type_ABORT, S_w_Mux_Type_CLOSE, E_w_Mux_Type_CLOSE, S_w_Mux_Type_ACKNOWLEDGMENT, E_w_Mux_Type_ACKNOWLEDGMENT, S_w_Mux_Type_DATA, E_w_Mux_Type_DATA, S_w_Mux_Side_CLIENT, E_w_Mux_Side_CLIENT, S_w_Mux_Side_SERVER, E_w_Mux_Side_SERVER, F_w_Mux_Type_NO_OPERATION_sender, F_w_Mux_Type_PING_ACK_sender, F_w_Mux_Type_SHUTDOWN_sender, F_w_Mux_Side_SERVER_ordinal, F_w_Mux_Side_CLIENT_ordinal, F_w_Mux_Type_ERROR_sender, F_w_Mux_Type_CLOSE_sender, F_w_Mux_Type_PING_sender, F_w_Mux_Type_ACKNOWLEDGMENT_sender, F_w_Mux_Type_DATA_sender, F_w_Mux_Type_INCREMENT_RATION_sender, F_w_Mux_Type_ABORT_sender, ne_w_Mux_Side_CLIENT_w_Mux_Side_SERVER⟩) (Old.start s) p e ha hc hk s m _ below hf ((Spec.applies_iff_loose hf).mp happ).1 ⟨rfl, State.Warmed39.refl s, rfl⟩ trivial
  refine ⟨n, _, h1, h2, h3, hpost _ _ _ _ _ _ ⟨Cond.after_iff.mpr rfl, Cond.after_iff.mpr (eq_i res_at (Term.int_eval (1)) rfl), trivial⟩ ⟨hq.1, hq.2.1, (hq.2.2.sift fun y hy => Or.inr (N y hy)).mono (by decide) (by decide)⟩⟩
theorem main_1_1 : Claimed_1_1 := comes_1 fun _ _ _ _ _ _ h hF => ⟨h.1, hF⟩
theorem main_1_2 : Claimed_1_2 := comes_1 fun _ _ _ _ _ _ h hF => ⟨h.2.1, hF⟩
end Jvm.Pilot.@@N@@
namespace Jvm.Pilot.@@N@@
open Jvm Jvm.ClassFile Sem Op Lib Jvm.Free Jvm.Stand Jvm.Pilot.@@N@@.Jvm.D
/-! MADE BY PROGRAM (witnessworld.py) out of the Statement's table words and the real class files: 14 classes; the members and pool entries that the words name. The judged class is class 1, her method 1. -/
namespace start1
open Jvm.ClassFile
def u (s : String) : CpInfo := .utf8 (stringToUtf16 s)
/-- a pool by its gaps: so many unusable entries, then the entry; so many at the end -/
def gap : Nat → List CpInfo → List CpInfo
  | 0, r => r
  | n + 1, r => .unusable :: gap n r
def poolList (es : List (Nat × CpInfo)) (last : Nat) : List CpInfo := es.foldr (fun e r => gap e.1 (e.2 :: r)) (gap last [])
def pool (es : List (Nat × CpInfo)) (last : Nat) : Array CpInfo := ⟨poolList es last⟩
def fileOf (pool : Array CpInfo) (this : Nat) (attrs : Array Attribute := #[]) (ms : Array MethodInfo := #[]) (fl : Nat := 33) (sup : Nat := 0) (ifs : Array Nat := #[]) (fds : Array FieldInfo := #[]) : ClassFile where
  minorVersion := 0
  majorVersion := 65
  constantPool := pool
  accessFlags := fl
  thisClass := this
  superClass := sup
  interfaces := ifs
  fields := fds
  methods := ms
  attributes := attrs
def plain (name : String) (sup : Option ClassId) : Class where
  name := name
  kind := .ordinary
  loader := none
  accessFlags := 33
  super := sup
  interfaces := #[]
  cf := none
  fields := #[]
  methods := #[]
  instanceTypes := #[]
  staticTypes := #[]
  resolved := #[]
  callSites := []
  init := .initialized
  statics := none
  mirror := none

def pool0 : Array CpInfo := pool [(5, u "<init>"), (0, u "()V"), (1, .class_ 10), (1, u "java/lang/Object")] 113

def k0m0 : Method := { name := "<init>", desc := "()V", sig := { parameters := [], returnType := none }, accessFlags := 1, code := none }
/-- java/lang/Object -/
def k0 : Class := { plain "java/lang/Object" none with
  accessFlags := 33
  interfaces := #[]
  cf := some (fileOf pool0 8 #[] #[{ accessFlags := 1, nameIndex := 5, descriptorIndex := 6, attributes := #[] }] 33 0 #[] #[])
  fields := #[]
  methods := #[k0m0]
  instanceTypes := #[]
  staticTypes := #[]
  resolved := Array.replicate 124 none
  statics := none }

def pool1 : Array CpInfo := pool [(2, .class_ 4), (1, u "java/lang/Object"), (0, u "<init>"), (0, u "()V"), (0, .class_ 8), (0, u "com/example/lodestar/lodestar/Mux$Type"), (0, .fieldref 7 10), (0, .nameAndType 11 12), (0, u "NO_OPERATION"), (0, u "Lcom/example/lodestar/lodestar/Mux$Type;"), (0, .fieldref 7 14), (0, .nameAndType 15 12), (0, u "SHUTDOWN"), (0, .fieldref 7 17), (0, .nameAndType 18 12), (0, u "PING"), (0, .fieldref 7 20), (0, .nameAndType 21 12), (0, u "PING_ACK"), (0, .fieldref 7 23), (0, .nameAndType 24 12), (0, u "ERROR"), (0, .fieldref 7 26), (0, .nameAndType 27 12), (0, u "INCREMENT_RATION"), (0, .fieldref 7 29), (0, .nameAndType 30 12), (0, u "ABORT"), (0, .fieldref 7 32), (0, .nameAndType 33 12), (0, u "CLOSE"), (0, .fieldref 7 35), (0, .nameAndType 36 12), (0, u "ACKNOWLEDGMENT"), (0, .fieldref 7 38), (0, .nameAndType 39 12), (0, u "DATA"), (0, .integer 2147483647), (0, .fieldref 42 43), (0, .class_ 44), (0, .nameAndType 45 46), (0, u "com/example/lodestar/lodestar/Mux$Side"), (0, u "CLIENT"), (0, u "Lcom/example/lodestar/lodestar/Mux$Side;"), (0, .methodref 7 48), (0, .nameAndType 49 50), (0, u "mayBeSentBy"), (0, u "(Lcom/example/lodestar/lodestar/Mux$Side;)Z"), (0, .fieldref 42 52), (0, .nameAndType 53 46), (0, u "SERVER"), (0, .class_ 55), (0, u "com/example/lodestar/lodestar/TypeMayBeSentByPinLaw"), (2, u "law"), (0, u "(I)Z")] 10

def k1m0 : Method := { name := "<init>", desc := "()V", sig := { parameters := [], returnType := none }, accessFlags := 1, code := none }
def k1c1 : Code := { maxStack := 4, maxLocals := 8, code := code, exceptionTable := #[], attributes := #[] }
def k1m1 : Method := { name := "law", desc := "(I)Z", sig := { parameters := [.int], returnType := some .boolean }, accessFlags := 9, code := some k1c1 }
/-- com/example/lodestar/lodestar/TypeMayBeSentByPinLaw -/
def k1 : Class := { plain "com/example/lodestar/lodestar/TypeMayBeSentByPinLaw" (some 0) with
  accessFlags := 49
  interfaces := #[]
  cf := some (fileOf pool1 54 #[] #[{ accessFlags := 1, nameIndex := 5, descriptorIndex := 6, attributes := #[] }, { accessFlags := 9, nameIndex := 58, descriptorIndex := 59, attributes := #[] }] 49 2 #[] #[])
  fields := #[]
  methods := #[k1m0, k1m1]
  instanceTypes := #[]
  staticTypes := #[]
  resolved := Array.replicate 70 none
  statics := none }

def pool2 : Array CpInfo := pool [(1, .class_ 2), (0, u "java/lang/constant/Constable"), (0, .class_ 4), (0, u "java/lang/Object")] 6

/-- java/lang/constant/Constable -/
def k2 : Class := { plain "java/lang/constant/Constable" (some 0) with
  accessFlags := 1537
  interfaces := #[]
  cf := some (fileOf pool2 1 #[] #[] 1537 3 #[] #[])
  fields := #[]
  methods := #[]
  instanceTypes := #[]
  staticTypes := #[]
  resolved := Array.replicate 11 none
  statics := none }

def pool3 : Array CpInfo := pool [(1, .class_ 2), (0, u "java/lang/Comparable"), (0, .class_ 4), (0, u "java/lang/Object")] 7

/-- java/lang/Comparable -/
def k3 : Class := { plain "java/lang/Comparable" (some 0) with
  accessFlags := 1537
  interfaces := #[]
  cf := some (fileOf pool3 1 #[] #[] 1537 3 #[] #[])
  fields := #[]
  methods := #[]
  instanceTypes := #[]
  staticTypes := #[]
  resolved := Array.replicate 12 none
  statics := none }

def pool4 : Array CpInfo := pool [(1, .class_ 2), (0, u "java/io/Serializable"), (0, .class_ 4), (0, u "java/lang/Object")] 2

/-- java/io/Serializable -/
def k4 : Class := { plain "java/io/Serializable" (some 0) with
  accessFlags := 1537
  interfaces := #[]
  cf := some (fileOf pool4 1 #[] #[] 1537 3 #[] #[])
  fields := #[]
  methods := #[]
  instanceTypes := #[]
  staticTypes := #[]
  resolved := Array.replicate 7 none
  statics := none }

def pool5 : Array CpInfo := pool [(2, .class_ 4), (1, u "java/lang/Enum"), (0, u "name"), (0, u "Ljava/lang/String;"), (2, u "ordinal"), (0, u "I"), (1, .class_ 14), (1, u "java/lang/Object"), (4, u "hash"), (86, .class_ 108), (1, u "java/lang/Enum$EnumDesc"), (2, .class_ 112), (0, u "java/lang/constant/Constable"), (0, .class_ 114), (0, u "java/lang/Comparable"), (0, .class_ 116), (0, u "java/io/Serializable")] 87

/-- java/lang/Enum -/
def k5 : Class := { plain "java/lang/Enum" (some 0) with
  accessFlags := 1057
  interfaces := #[2, 3, 4]
  cf := some (fileOf pool5 2 #[.nestMembers #[106]] #[] 1057 12 #[111, 113, 115] #[{ accessFlags := 18, nameIndex := 5, descriptorIndex := 6, attributes := #[] }, { accessFlags := 18, nameIndex := 9, descriptorIndex := 10, attributes := #[] }, { accessFlags := 2, nameIndex := 19, descriptorIndex := 10, attributes := #[] }])
  fields := #[{ name := "name", type := (.object "java/lang/String"), accessFlags := 18, slot := 0, constantValue := 0 }, { name := "ordinal", type := .int, accessFlags := 18, slot := 1, constantValue := 0 }, { name := "hash", type := .int, accessFlags := 2, slot := 2, constantValue := 0 }]
  methods := #[]
  instanceTypes := #[(.object "java/lang/String"), .int, .int]
  staticTypes := #[]
  resolved := Array.replicate 204 none
  statics := none }

def pool6 : Array CpInfo := pool [(1, .class_ 2), (0, u "com/example/lodestar/lodestar/Mux$Type"), (2, u "NO_OPERATION"), (0, u "Lcom/example/lodestar/lodestar/Mux$Type;"), (2, u "SHUTDOWN"), (2, u "PING"), (2, u "PING_ACK"), (2, u "ERROR"), (2, u "INCREMENT_RATION"), (2, u "ABORT"), (2, u "CLOSE"), (2, u "ACKNOWLEDGMENT"), (2, u "DATA"), (2, u "$VALUES"), (0, u "[Lcom/example/lodestar/lodestar/Mux$Type;"), (6, .class_ 46), (1, u "java/lang/Enum"), (8, u "mask"), (0, u "I"), (2, u "pattern"), (0, .fieldref 1 61), (0, .nameAndType 62 63), (0, u "sender"), (0, u "Lcom/example/lodestar/lodestar/Mux$Side;"), (2, u "ALL"), (36, u "mayBeSentBy"), (0, u "(Lcom/example/lodestar/lodestar/Mux$Side;)Z"), (10, .class_ 116), (0, u "com/example/lodestar/lodestar/Mux")] 3

def k6c0 : Code := { maxStack := 2, maxLocals := 2, code := prog_30_method_5_code, exceptionTable := #[], attributes := #[] }
def k6m0 : Method := { name := "mayBeSentBy", desc := "(Lcom/example/lodestar/lodestar/Mux$Side;)Z", sig := { parameters := [(.object "com/example/lodestar/lodestar/Mux$Side")], returnType := some .boolean }, accessFlags := 0, code := some k6c0 }
/-- com/example/lodestar/lodestar/Mux$Type -/
def k6 : Class := { plain "com/example/lodestar/lodestar/Mux$Type" (some 5) with
  accessFlags := 16432
  interfaces := #[]
  cf := some (fileOf pool6 1 #[.nestHost 115] #[{ accessFlags := 0, nameIndex := 103, descriptorIndex := 104, attributes := #[] }] 16432 44 #[] #[{ accessFlags := 16409, nameIndex := 5, descriptorIndex := 6, attributes := #[] }, { accessFlags := 16409, nameIndex := 9, descriptorIndex := 6, attributes := #[] }, { accessFlags := 16409, nameIndex := 12, descriptorIndex := 6, attributes := #[] }, { accessFlags := 16409, nameIndex := 15, descriptorIndex := 6, attributes := #[] }, { accessFlags := 16409, nameIndex := 18, descriptorIndex := 6, attributes := #[] }, { accessFlags := 16409, nameIndex := 21, descriptorIndex := 6, attributes := #[] }, { accessFlags := 16409, nameIndex := 24, descriptorIndex := 6, attributes := #[] }, { accessFlags := 16409, nameIndex := 27, descriptorIndex := 6, attributes := #[] }, { accessFlags := 16409, nameIndex := 30, descriptorIndex := 6, attributes := #[] }, { accessFlags := 16409, nameIndex := 33, descriptorIndex := 6, attributes := #[] }, { accessFlags := 26, nameIndex := 66, descriptorIndex := 37, attributes := #[] }, { accessFlags := 18, nameIndex := 55, descriptorIndex := 56, attributes := #[] }, { accessFlags := 18, nameIndex := 59, descriptorIndex := 56, attributes := #[] }, { accessFlags := 18, nameIndex := 62, descriptorIndex := 63, attributes := #[] }, { accessFlags := 4122, nameIndex := 36, descriptorIndex := 37, attributes := #[] }])
  fields := #[{ name := "NO_OPERATION", type := (.object "com/example/lodestar/lodestar/Mux$Type"), accessFlags := 16409, slot := 0, constantValue := 0 }, { name := "SHUTDOWN", type := (.object "com/example/lodestar/lodestar/Mux$Type"), accessFlags := 16409, slot := 1, constantValue := 0 }, { name := "PING", type := (.object "com/example/lodestar/lodestar/Mux$Type"), accessFlags := 16409, slot := 2, constantValue := 0 }, { name := "PING_ACK", type := (.object "com/example/lodestar/lodestar/Mux$Type"), accessFlags := 16409, slot := 3, constantValue := 0 }, { name := "ERROR", type := (.object "com/example/lodestar/lodestar/Mux$Type"), accessFlags := 16409, slot := 4, constantValue := 0 }, { name := "INCREMENT_RATION", type := (.object "com/example/lodestar/lodestar/Mux$Type"), accessFlags := 16409, slot := 5, constantValue := 0 }, { name := "ABORT", type := (.object "com/example/lodestar/lodestar/Mux$Type"), accessFlags := 16409, slot := 6, constantValue := 0 }, { name := "CLOSE", type := (.object "com/example/lodestar/lodestar/Mux$Type"), accessFlags := 16409, slot := 7, constantValue := 0 }, { name := "ACKNOWLEDGMENT", type := (.object "com/example/lodestar/lodestar/Mux$Type"), accessFlags := 16409, slot := 8, constantValue := 0 }, { name := "DATA", type := (.object "com/example/lodestar/lodestar/Mux$Type"), accessFlags := 16409, slot := 9, constantValue := 0 }, { name := "ALL", type := (.array (.object "com/example/lodestar/lodestar/Mux$Type")), accessFlags := 26, slot := 10, constantValue := 0 }, { name := "mask", type := .int, accessFlags := 18, slot := 3, constantValue := 0 }, { name := "pattern", type := .int, accessFlags := 18, slot := 4, constantValue := 0 }, { name := "sender", type := (.object "com/example/lodestar/lodestar/Mux$Side"), accessFlags := 18, slot := 5, constantValue := 0 }, { name := "$VALUES", type := (.array (.object "com/example/lodestar/lodestar/Mux$Type")), accessFlags := 4122, slot := 11, constantValue := 0 }]
  methods := #[k6m0]
  instanceTypes := #[(.object "java/lang/String"), .int, .int, .int, .int, (.object "com/example/lodestar/lodestar/Mux$Side")]
  staticTypes := #[(.object "com/example/lodestar/lodestar/Mux$Type"), (.object "com/example/lodestar/lodestar/Mux$Type"), (.object "com/example/lodestar/lodestar/Mux$Type"), (.object "com/example/lodestar/lodestar/Mux$Type"), (.object "com/example/lodestar/lodestar/Mux$Type"), (.object "com/example/lodestar/lodestar/Mux$Type"), (.object "com/example/lodestar/lodestar/Mux$Type"), (.object "com/example/lodestar/lodestar/Mux$Type"), (.object "com/example/lodestar/lodestar/Mux$Type"), (.object "com/example/lodestar/lodestar/Mux$Type"), (.array (.object "com/example/lodestar/lodestar/Mux$Type")), (.array (.object "com/example/lodestar/lodestar/Mux$Type"))]
  resolved := Array.replicate 120 none
  statics := some 0 }

def pool7 : Array CpInfo := pool [(1, .class_ 2), (0, u "com/example/lodestar/lodestar/Mux"), (0, .class_ 4), (0, u "com/example/lodestar/lodestar/Mux$Side"), (2, u "CLIENT"), (0, u "Lcom/example/lodestar/lodestar/Mux$Side;"), (2, u "SERVER"), (2, u "$VALUES"), (0, u "[Lcom/example/lodestar/lodestar/Mux$Side;"), (6, .class_ 24), (1, u "java/lang/Enum"), (8, u "dataFlags"), (0, u "I"), (2, u "abortFlags")] 28

/-- com/example/lodestar/lodestar/Mux$Side -/
def k7 : Class := { plain "com/example/lodestar/lodestar/Mux$Side" (some 5) with
  accessFlags := 16432
  interfaces := #[]
  cf := some (fileOf pool7 3 #[.nestHost 1] #[] 16432 22 #[] #[{ accessFlags := 16409, nameIndex := 7, descriptorIndex := 8, attributes := #[] }, { accessFlags := 16409, nameIndex := 11, descriptorIndex := 8, attributes := #[] }, { accessFlags := 18, nameIndex := 33, descriptorIndex := 34, attributes := #[] }, { accessFlags := 18, nameIndex := 37, descriptorIndex := 34, attributes := #[] }, { accessFlags := 4122, nameIndex := 14, descriptorIndex := 15, attributes := #[] }])
  fields := #[{ name := "CLIENT", type := (.object "com/example/lodestar/lodestar/Mux$Side"), accessFlags := 16409, slot := 0, constantValue := 0 }, { name := "SERVER", type := (.object "com/example/lodestar/lodestar/Mux$Side"), accessFlags := 16409, slot := 1, constantValue := 0 }, { name := "dataFlags", type := .int, accessFlags := 18, slot := 3, constantValue := 0 }, { name := "abortFlags", type := .int, accessFlags := 18, slot := 4, constantValue := 0 }, { name := "$VALUES", type := (.array (.object "com/example/lodestar/lodestar/Mux$Side")), accessFlags := 4122, slot := 2, constantValue := 0 }]
  methods := #[]
  instanceTypes := #[(.object "java/lang/String"), .int, .int, .int, .int]
  staticTypes := #[(.object "com/example/lodestar/lodestar/Mux$Side"), (.object "com/example/lodestar/lodestar/Mux$Side"), (.array (.object "com/example/lodestar/lodestar/Mux$Side"))]
  resolved := Array.replicate 66 none
  statics := some 1 }

def pool8 : Array CpInfo := pool [(1, u "java/lang/Cloneable"), (0, .class_ 1), (0, u "java/lang/Object"), (0, .class_ 3)] 3

/-- java/lang/Cloneable -/
def k8 : Class := { plain "java/lang/Cloneable" (some 0) with
  accessFlags := 1537
  interfaces := #[]
  cf := some (fileOf pool8 2 #[] #[] 1537 4 #[] #[])
  fields := #[]
  methods := #[]
  instanceTypes := #[]
  staticTypes := #[]
  resolved := Array.replicate 8 none
  statics := none }

/-- the primitive byte -/
def k9 : Class := { plain "byte" none with kind := .primitive 'B', accessFlags := 0x411 }
/-- [B -/
def k10 : Class := { plain "[B" (some 0) with kind := .array 9 .byte, interfaces := #[8, 4], accessFlags := 1041 }

/-- the primitive int -/
def k11 : Class := { plain "int" none with kind := .primitive 'I', accessFlags := 0x411 }
/-- [I -/
def k12 : Class := { plain "[I" (some 0) with kind := .array 11 .int, interfaces := #[8, 4], accessFlags := 1041 }

/-- [Lcom/example/lodestar/lodestar/Mux$Type; -/
def k13 : Class := { plain "[Lcom/example/lodestar/lodestar/Mux$Type;" (some 0) with kind := .array 6 (.object "com/example/lodestar/lodestar/Mux$Type"), interfaces := #[8, 4], accessFlags := 1041 }

def heap : Heap := #[{ cls := 6, slots := #[.ref 2, .ref 3, .ref 4, .ref 5, .ref 6, .ref 7, .ref 8, .ref 9, .ref 10, .ref 11, .null, .null], vm := .statics 6 },
  { cls := 7, slots := #[.ref 12, .ref 13, .null], vm := .statics 7 },
  { cls := 6, slots := #[.null, .int 0, .int 0, .int 0, .int 0, .null], vm := .none },
  { cls := 6, slots := #[.null, .int 0, .int 0, .int 0, .int 0, .ref 13], vm := .none },
  { cls := 6, slots := #[.null, .int 0, .int 0, .int 0, .int 0, .null], vm := .none },
  { cls := 6, slots := #[.null, .int 0, .int 0, .int 0, .int 0, .null], vm := .none },
  { cls := 6, slots := #[.null, .int 0, .int 0, .int 0, .int 0, .null], vm := .none },
  { cls := 6, slots := #[.null, .int 0, .int 0, .int 0, .int 0, .null], vm := .none },
  { cls := 6, slots := #[.null, .int 0, .int 0, .int 0, .int 0, .null], vm := .none },
  { cls := 6, slots := #[.null, .int 0, .int 0, .int 0, .int 0, .ref 13], vm := .none },
  { cls := 6, slots := #[.null, .int 0, .int 0, .int 0, .int 0, .ref 12], vm := .none },
  { cls := 6, slots := #[.null, .int 0, .int 0, .int 0, .int 0, .null], vm := .none },
  { cls := 7, slots := #[.null, .int 0, .int 0, .int 0, .int 0], vm := .none },
  { cls := 7, slots := #[.null, .int 1, .int 0, .int 0, .int 0], vm := .none }]
def classes : Array Class := #[k0, k1, k2, k3, k4, k5, k6, k7, k8, k9, k10, k11, k12, k13]
def interned : List (Array UInt16 × Addr) := []
def slotsUsed : Nat := 85
def theMethod : MethodId := ⟨1, 1⟩
def args0 : Array Value := #[.int 3]
def aboutOver (below : List Frame) : State where
  vm := { classes := classes, interned := interned.toArray }
  heap := heap
  slotsUsed := slotsUsed
  threads := #[{ frames := .invoking theMethod args0 :: below }]
def below0 : List Frame := [.native { method := ⟨0, 0⟩, args := #[] }]
def about1 : State := aboutOver below0
def p0 : Program := .bare "" "" ""
def e0 : Env := launch0.env 0 0 0
theorem w_frames : about1.frames = Frame.invoking theMethod args0 :: below0 := rfl
set_option maxRecDepth 65536 in
theorem w_args : argsFit about1.vm theMethod args0 = true := by decide +kernel
set_option maxRecDepth 65536 in
theorem w_heap : heapFits about1 = true := by decide +kernel
set_option maxRecDepth 65536 in
theorem w_runnable : about1.curStatus? = some .runnable := by decide +kernel
set_option maxRecDepth 65536 in
theorem w_alone : about1.alone = true := by decide +kernel
set_option maxRecDepth 65536 in
theorem w_named : about1.methodNamed? x = some theMethod := by decide +kernel
set_option maxRecDepth 65536 in
theorem w_hears : about1.hears theMethod below0 = true := by decide +kernel
set_option maxRecDepth 65536 in
theorem w_ripe : about1.ripe theMethod args0 below0 = true := by decide +kernel
theorem w_running : about1.status = .running := rfl
set_option maxRecDepth 65536 in
theorem w_room : about1.hasRoom e0.platform room_1 = true :=
  launch0.hasRoom_least _ room_1 (by decide +kernel) (by decide +kernel) (by decide +kernel) (by decide +kernel) (by decide +kernel) (by decide +kernel)
theorem allAtoms_all (ts : List Jvm.Cond) (a : Array Jvm.Value) (st : Jvm.State) : (allAtoms ts).before a st = ts.all (fun c => c.before a st) := by
  induction ts with
  | nil => rfl
  | cons c t ih =>
    show (Jvm.Cond.and c (allAtoms t)).before a st = _
    rw [Jvm.Cond.before_and, ih, List.all_cons]
def words1 : List Jvm.Cond := Jvm.Cond.code x code maxLocals ret :: tables_1
/-- a 'code' word, met by the world's own term for the bytes: nothing is compared byte by byte -/
theorem code_word {y : MethodName} {bytes : ByteArray} {mx : Nat} {rt : Option FieldType} {a : Array Value} {s : State} {m : MethodId} {meth : Method} {c : Code} (h1 : s.methodNamed? y = some m) (h2 : s.vm.method? m = some meth) (h3 : meth.code = some c) (h4 : c.code = bytes)
    (h5 : (c.maxLocals == mx && c.exceptionTable.isEmpty && decide (c.maxStack ≤ mostOperands) && decide (meth.sig.returnType = rt) && !meth.locks && decide (parseMethodDescriptor y.desc = some meth.sig)) = true) : (Jvm.Cond.code y bytes mx rt).before a s = true := by
  simp only [Bool.and_eq_true, beq_iff_eq, Bool.not_eq_true', decide_eq_true_eq] at h5
  obtain ⟨⟨⟨⟨⟨g1, g2⟩, g3⟩, g4⟩, g5⟩, g6⟩ := h5
  simp [Cond.before, Cond.holds, Cond.value, h1, h2, h3, h4, g1, g2, g3, g4, g5, g6]
def isCode : Jvm.Cond → Bool
  | .code _ _ _ _ => true
  | _ => false
theorem all_split {L : List Jvm.Cond} {P : Jvm.Cond → Bool} (h1 : L.all (fun c => isCode c || P c) = true) (h2 : ∀ c ∈ L.filter isCode, P c = true) : L.all P = true := by
  refine List.all_eq_true.mpr fun c hc => ?_
  have h := List.all_eq_true.mp h1 c hc
  rcases Bool.eq_false_or_eq_true (isCode c) with hi | hi
  · exact h2 c (List.mem_filter.mpr ⟨hc, hi⟩)
  · simpa [hi] using h
set_option maxRecDepth 65536 in
theorem w_c0 : (Jvm.Cond.code x code maxLocals ret).before args0 about1 = true := code_word (m := ⟨1, 1⟩) (meth := k1m1) (c := k1c1) (by decide +kernel) rfl rfl rfl (by decide +kernel)
set_option maxRecDepth 65536 in
theorem w_c1 : (Jvm.Cond.code ({ cls := "com/example/lodestar/lodestar/Mux$Type", name := "mayBeSentBy", desc := "(Lcom/example/lodestar/lodestar/Mux$Side;)Z" } : Jvm.MethodName) prog_30_method_5_code (2 : Nat) (Option.some Jvm.ClassFile.FieldType.boolean)).before args0 about1 = true := code_word (m := ⟨6, 0⟩) (meth := k6m0) (c := k6c0) (by decide +kernel) rfl rfl rfl (by decide +kernel)
def codes1 : List Jvm.Cond := [Jvm.Cond.code x code maxLocals ret, Jvm.Cond.code ({ cls := "com/example/lodestar/lodestar/Mux$Type", name := "mayBeSentBy", desc := "(Lcom/example/lodestar/lodestar/Mux$Side;)Z" } : Jvm.MethodName) prog_30_method_5_code (2 : Nat) (Option.some Jvm.ClassFile.FieldType.boolean)]
set_option maxRecDepth 65536 in
theorem codes_eq : words1.filter isCode = codes1 := rfl
theorem w_codes : ∀ c ∈ words1.filter isCode, c.before args0 about1 = true := by
  rw [codes_eq]
  intro c hc
  simp only [codes1, List.mem_cons, List.not_mem_nil, or_false] at hc
  rcases hc with rfl | rfl
  · exact w_c0
  · exact w_c1
set_option maxRecDepth 65536 in
theorem w_t1 : (words1.take 24).all (fun c => isCode c || c.before args0 about1) = true := by decide +kernel
set_option maxRecDepth 65536 in
theorem w_t2 : (words1.drop 24).all (fun c => isCode c || c.before args0 about1) = true := by decide +kernel
theorem w_tables : (allAtoms (Jvm.Cond.code x code maxLocals ret :: tables_1)).before args0 about1 = true := by
  rw [allAtoms_all]
  show words1.all (fun c => c.before args0 about1) = true
  refine all_split ?_ w_codes
  rw [← List.take_append_drop 24 words1, List.all_append, w_t1, w_t2]
  rfl
set_option maxRecDepth 65536 in
theorem w_case : (Jvm.Cond.and given_1 narrow_1).before args0 about1 = true := by decide +kernel
theorem w_applies : (headSpec (Jvm.Cond.code x code maxLocals ret :: tables_1) room_1).applies x e0.platform about1 = true :=
  (Spec.applies_iff w_frames).mpr ⟨w_running, w_runnable, w_alone, w_named, w_hears, w_ripe, w_room, w_tables⟩
theorem atStart : AtStart classFile x code maxLocals ret World_1 tables_1 room_1 Calls_1 rest_1 Pre_1 launch0 p0 e0 about1 theMethod args0 below0 :=
  ⟨lists_1, trivial, launch0.admits_env _ _ _, launch0.least_env, fairChoices_fair.cas, fairChoices_fair.clock, w_frames, w_args, w_heap, w_applies, trivial, trivial, w_case⟩
end start1
theorem witness_1 : WitnessClaimed_1 := ⟨start1.p0, start1.e0, start1.about1, start1.theMethod, start1.args0, start1.below0, start1.atStart⟩
end Jvm.Pilot.@@N@@
