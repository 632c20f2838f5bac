import JvmDerived
import JvmDerived.Pilot.@@N@@Statement
import JvmDerived.Pilot.@@N@@Code
set_option linter.unusedVariables false
set_option linter.unusedSimpArgs false
set_option maxRecDepth 65536
set_option maxHeartbeats 40000000
@@BLOCK:NumsL.lean.txt@@
namespace Jvm.Pilot.@@N@@
open Jvm Jvm.ClassFile Sem Op Lib Jvm.Free Jvm.Stand Jvm.LawKit Jvm.RoadKit Bundle Jvm.Pilot.@@N@@.Jvm.D
section OwnHead
variable {p : Program} {l : Launch} {e : Env} {R : Room} {s : State} {m : MethodId} {args : Array Value} {below : List Frame} {meth : Method} {c : Code} {T : State} {locs : List Loc} {cells slots : Nat} {Z : State} {a0 : Array Value} {h : Heap}
/-- from here the run comes to a state of which F holds -/
def own_Go (tb : Tables) (e : Env) (below : List Frame) (F : State → Prop) (U : State) : Prop := ∃ t, Steps tb e below U t ∧ F t
theorem own_by {tb : Tables} {F : State → Prop} {U U' : State} (q : ∀ t, Steps tb e below U' t → Steps tb e below U t) (k : own_Go tb e below F U') : own_Go tb e below F U := by
  obtain ⟨t, a, b⟩ := k
  exact ⟨t, q t a, b⟩
theorem own_ent {tb : Tables} {F : State → Prop} {T : State} {f g : JFrame} (q : f = g) (k : own_Go tb e below F (T.setTop g)) : own_Go tb e below F (T.setTop f) := by
  rw [q]
  exact k
abbrev own_rm (f c s l : Nat) : Room := { frames := f, cells := c, slots := s, locals := l }
theorem own_nR {tb : Tables} {F : State → Prop} {T : State} {m : MethodId} {pc : Nat} {Ls : Array Slot} {v : Value} {rest : List Value} (k : own_Go tb e below F (T.setTop (mkF m pc Ls (v :: rest)))) : own_Go tb e below F (T.setTop (mkF m pc Ls ((some v).toList ++ rest))) := k
theorem own_nV {tb : Tables} {F : State → Prop} {T : State} {m : MethodId} {pc : Nat} {Ls : Array Slot} {rest : List Value} (k : own_Go tb e below F (T.setTop (mkF m pc Ls rest))) : own_Go tb e below F (T.setTop (mkF m pc Ls ((none : Option Value).toList ++ rest))) := k
theorem own_byR {tb : Tables} {F : State → Prop} {T U : State} {m : MethodId} {pc : Nat} {Ls : Array Slot} {v : Value} {rest : List Value} (q : ∀ t, Steps tb e below (T.setTop (mkF m pc Ls ((some v).toList ++ rest))) t → Steps tb e below U t) (pc' : Nat) (hp : pc = pc') (k : own_Go tb e below F (T.setTop (mkF m pc' Ls (v :: rest)))) : own_Go tb e below F U := by
  subst hp
  exact own_by q k
theorem own_byV {tb : Tables} {F : State → Prop} {T U : State} {m : MethodId} {pc : Nat} {Ls : Array Slot} {rest : List Value} (q : ∀ t, Steps tb e below (T.setTop (mkF m pc Ls ((none : Option Value).toList ++ rest))) t → Steps tb e below U t) (pc' : Nat) (hp : pc = pc') (k : own_Go tb e below F (T.setTop (mkF m pc' Ls rest))) : own_Go tb e below F U := by
  subst hp
  exact own_by q k
/-- the method has returned, and what its contract says holds -/
def own_Fin (s : State) (below : List Frame) (Q : Option Value → Heap → List Loc → Prop) (C N : Nat) (t : State) : Prop := ∃ o, t.status = .running ∧ Ended t below o ∧ ∃ v L, o = .returned v ∧ Q v t.heap L ∧ FrameEnd s o t L C N
theorem own_fin (X : Stand p l e R s m args below meth c T locs cells slots) {Q : Option Value → Heap → List Loc → Prop} {C N : Nat} {v : Option Value} (hk : meth.locks = false) (hv : meth.sig.returnType = none → v = none) {U : State}
    (hst : ∀ fs, (∀ (f : JFrame) (acts : List Action), f.method = m → f.locked = none → f.entered = [] → (doReturn e (T.setTop f) acts v).1 = T.setFrames fs) → Steps p.tables e below U (T.setFrames fs)) (hQ : Q v T.heap locs) (hC : cells ≤ C) (hN : slots ≤ N) :
    own_Go p.tables e below (own_Fin s below Q C N) U := by
  obtain ⟨fs, hr, hrun, hended, hW, hsame⟩ := X.leave (v := v) hv hk
  exact ⟨_, hst fs hr, _, hrun, hended, v, locs, rfl, hQ, ⟨_, rfl⟩, hW, hsame.mono hC hN⟩
theorem own_ret (X : Stand p l e R s m args below meth c T locs cells slots) (hx : p.tables.exec = Jvm.exec) {Q : Option Value → Heap → List Loc → Prop} {C N : Nat} (hk : meth.locks = false) {pc : Nat} {Ls : Array Slot} {w : Value} {t : FieldType} {i : Instr} {rest : List Value} (hret : meth.sig.returnType = some t) (hn : narrow t w = w)
    (hi : (i = .ireturn ∧ (t = .int ∨ t = .boolean ∨ t = .byte ∨ t = .char ∨ t = .short) ∧ ∃ z, w = .int z) ∨ (i = .lreturn ∧ t = .long ∧ ∃ z, w = .long z) ∨ (i = .dreturn ∧ t = .double ∧ ∃ z, w = .double z) ∨ (i = .freturn ∧ t = .float ∧ ∃ z, w = .float z) ∨ (i = .areturn ∧ t.isReference = true ∧ w.isRef = true))
    (hd : decode c.code pc = .ok (i, 1)) (hQ : Q (some w) T.heap locs) (hC : cells ≤ C) (hN : slots ≤ N) : own_Go p.tables e below (own_Fin s below Q C N) (T.setTop (mkF m pc Ls (w :: rest))) :=
  own_fin X hk (fun q => by rw [hret] at q; cases q) (fun fs hr => retOut X hx hret hn hi hd hr) hQ hC hN
theorem own_retI (X : Stand p l e R s m args below meth c T locs cells slots) (hx : p.tables.exec = Jvm.exec) {Q : Option Value → Heap → List Loc → Prop} {C N : Nat} (hk : meth.locks = false) {pc : Nat} {Ls : Array Slot} {z : Int32} {rest : List Value} (hret : meth.sig.returnType = some .int)
    (hd : decode c.code pc = .ok (.ireturn, 1)) (hQ : Q (some (.int z)) T.heap locs) (hC : cells ≤ C) (hN : slots ≤ N) : own_Go p.tables e below (own_Fin s below Q C N) (T.setTop (mkF m pc Ls (.int z :: rest))) :=
  own_ret X hx hk hret rfl (Or.inl ⟨rfl, Or.inl rfl, z, rfl⟩) hd hQ hC hN
theorem own_retZ (X : Stand p l e R s m args below meth c T locs cells slots) (hx : p.tables.exec = Jvm.exec) {Q : Option Value → Heap → List Loc → Prop} {C N : Nat} (hk : meth.locks = false) {pc : Nat} {Ls : Array Slot} {z z' : Int32} {rest : List Value} (hret : meth.sig.returnType = some .boolean)
    (hd : decode c.code pc = .ok (.ireturn, 1)) (hz : nar .boolean z = z') (hQ : Q (some (.int z')) T.heap locs) (hC : cells ≤ C) (hN : slots ≤ N) : own_Go p.tables e below (own_Fin s below Q C N) (T.setTop (mkF m pc Ls (.int z :: rest))) := by
  subst hz
  exact own_fin X hk (fun q => by rw [hret] at q; cases q) (fun fs hr => retN X hx hret (Or.inl rfl) hd hr) hQ hC hN
theorem own_retA (X : Stand p l e R s m args below meth c T locs cells slots) (hx : p.tables.exec = Jvm.exec) {Q : Option Value → Heap → List Loc → Prop} {C N : Nat} (hk : meth.locks = false) {pc : Nat} {Ls : Array Slot} {w : Value} {t : FieldType} {rest : List Value} (hret : meth.sig.returnType = some t) (ht : t.isReference = true) (hw : w.isRef = true)
    (hd : decode c.code pc = .ok (.areturn, 1)) (hn : narrow t w = w) (hQ : Q (some w) T.heap locs) (hC : cells ≤ C) (hN : slots ≤ N) : own_Go p.tables e below (own_Fin s below Q C N) (T.setTop (mkF m pc Ls (w :: rest))) :=
  own_ret X hx hk hret hn (Or.inr (Or.inr (Or.inr (Or.inr ⟨rfl, ht, hw⟩)))) hd hQ hC hN
theorem own_retJ (X : Stand p l e R s m args below meth c T locs cells slots) (hx : p.tables.exec = Jvm.exec) {Q : Option Value → Heap → List Loc → Prop} {C N : Nat} (hk : meth.locks = false) {pc : Nat} {Ls : Array Slot} {z : Int64} {rest : List Value} (hret : meth.sig.returnType = some .long)
    (hd : decode c.code pc = .ok (.lreturn, 1)) (hQ : Q (some (.long z)) T.heap locs) (hC : cells ≤ C) (hN : slots ≤ N) : own_Go p.tables e below (own_Fin s below Q C N) (T.setTop (mkF m pc Ls (.long z :: rest))) :=
  own_ret X hx hk hret rfl (Or.inr (Or.inl ⟨rfl, rfl, z, rfl⟩)) hd hQ hC hN
theorem own_retV (X : Stand p l e R s m args below meth c T locs cells slots) (hx : p.tables.exec = Jvm.exec) {Q : Option Value → Heap → List Loc → Prop} {C N : Nat} (hk : meth.locks = false) {pc : Nat} {Ls : Array Slot} (hret : meth.sig.returnType = none)
    (hd : decode c.code pc = .ok (.return_, 1)) (hQ : Q none T.heap locs) (hC : cells ≤ C) (hN : slots ≤ N) : own_Go p.tables e below (own_Fin s below Q C N) (T.setTop (mkF m pc Ls [])) :=
  own_fin X hk (fun _ => rfl) (fun fs hr => X.returnOut hx hret hd hr) hQ hC hN
theorem own_lsw0 {tb : Tables} [Ours tb] {target : State} {g : JFrame} (q : At T m c below) (hx : tb.exec = Jvm.exec) (hg : g.method = m) {dflt : Int} {pairs : Array (Int × Int)} {len : Nat} {o : Int} {pc0 pc' : Nat} (hpc : g.pc = pc0) (hd : decode c.code g.pc = .ok (.lookupswitch dflt pairs, len)) {i : Int32} {rest : List Value} (hs : g.stack = .int i :: rest)
    (hoff : lookupswitch.offset pairs.toList dflt i.toInt = o) (hso : (pairs.toList.zip pairs.toList.tail).all (fun q => decide (q.1.1 < q.2.1)) = true) (ho : 0 ≤ (pc0 : Int) + o) (hp : ((pc0 : Int) + o).toNat = pc') (hr : Steps tb e below (T.setTop { g with pc := pc', stack := rest }) target) : Steps tb e below (T.setTop g) target := by
  subst hg hpc hp
  jvm_step q [q.top, hx, hd, hs, hoff, ho, lookupswitch.wp_chain]
  refine ⟨fun a b a1 b1 hm => ?_, hr⟩
  simpa using List.all_eq_true.mp hso _ hm
theorem own_iload_n (X : Stand p l e R s m args below meth c T locs cells slots) (hx : p.tables.exec = Jvm.exec) {F : State → Prop} {pc : Nat} {Ls : Array Slot} {St : List Value} {i : Fin 4} {z : Int32} (hd : decode c.code pc = .ok (.iload_n i, 1)) (hl : Ls[i.val]? = some (.val (.int z))) (pc' : Nat) (hp : pc + 1 = pc') (k : own_Go p.tables e below F (T.setTop (mkF m pc' Ls (.int z :: St)))) : own_Go p.tables e below F (T.setTop (mkF m pc Ls (St))) := by
  subst hp
  exact own_by (fun _ q => XS.iloadN X.here hx rfl hd hl q) k
theorem own_iload (X : Stand p l e R s m args below meth c T locs cells slots) (hx : p.tables.exec = Jvm.exec) {F : State → Prop} {pc : Nat} {Ls : Array Slot} {St : List Value} {i : Nat} {z : Int32} (hd : decode c.code pc = .ok (.iload i, 2)) (hl : Ls[i]? = some (.val (.int z))) (pc' : Nat) (hp : pc + 2 = pc') (k : own_Go p.tables e below F (T.setTop (mkF m pc' Ls (.int z :: St)))) : own_Go p.tables e below F (T.setTop (mkF m pc Ls (St))) := by
  subst hp
  exact own_by (fun _ q => XS.iload X.here hx rfl hd hl q) k
theorem own_istore_n (X : Stand p l e R s m args below meth c T locs cells slots) (hx : p.tables.exec = Jvm.exec) {F : State → Prop} {pc : Nat} {Ls : Array Slot} {St : List Value} {i : Fin 4} {z : Int32} (hd : decode c.code pc = .ok (.istore_n i, 1)) (l' : Array Slot) (hl : storeLocals Ls i.val (.int z) = some l') (pc' : Nat) (hp : pc + 1 = pc') (k : own_Go p.tables e below F (T.setTop (mkF m pc' l' (St)))) : own_Go p.tables e below F (T.setTop (mkF m pc Ls (.int z :: St))) := by
  subst hp
  exact own_by (fun _ q => XS.istoreN X.here hx rfl hd rfl hl q) k
theorem own_istore (X : Stand p l e R s m args below meth c T locs cells slots) (hx : p.tables.exec = Jvm.exec) {F : State → Prop} {pc : Nat} {Ls : Array Slot} {St : List Value} {i : Nat} {z : Int32} (hd : decode c.code pc = .ok (.istore i, 2)) (l' : Array Slot) (hl : storeLocals Ls i (.int z) = some l') (pc' : Nat) (hp : pc + 2 = pc') (k : own_Go p.tables e below F (T.setTop (mkF m pc' l' (St)))) : own_Go p.tables e below F (T.setTop (mkF m pc Ls (.int z :: St))) := by
  subst hp
  exact own_by (fun _ q => XS.istore X.here hx rfl hd rfl hl q) k
theorem own_lload_n (X : Stand p l e R s m args below meth c T locs cells slots) (hx : p.tables.exec = Jvm.exec) {F : State → Prop} {pc : Nat} {Ls : Array Slot} {St : List Value} {i : Fin 4} {z : Int64} (hd : decode c.code pc = .ok (.lload_n i, 1)) (hl : Ls[i.val]? = some (.val (.long z))) (pc' : Nat) (hp : pc + 1 = pc') (k : own_Go p.tables e below F (T.setTop (mkF m pc' Ls (.long z :: St)))) : own_Go p.tables e below F (T.setTop (mkF m pc Ls (St))) := by
  subst hp
  exact own_by (fun _ q => XS.lloadN X.here hx rfl hd hl q) k
theorem own_lload (X : Stand p l e R s m args below meth c T locs cells slots) (hx : p.tables.exec = Jvm.exec) {F : State → Prop} {pc : Nat} {Ls : Array Slot} {St : List Value} {i : Nat} {z : Int64} (hd : decode c.code pc = .ok (.lload i, 2)) (hl : Ls[i]? = some (.val (.long z))) (pc' : Nat) (hp : pc + 2 = pc') (k : own_Go p.tables e below F (T.setTop (mkF m pc' Ls (.long z :: St)))) : own_Go p.tables e below F (T.setTop (mkF m pc Ls (St))) := by
  subst hp
  exact own_by (fun _ q => XS.lload X.here hx rfl hd hl q) k
theorem own_lstore_n (X : Stand p l e R s m args below meth c T locs cells slots) (hx : p.tables.exec = Jvm.exec) {F : State → Prop} {pc : Nat} {Ls : Array Slot} {St : List Value} {i : Fin 4} {z : Int64} (hd : decode c.code pc = .ok (.lstore_n i, 1)) (l' : Array Slot) (hl : storeLocals Ls i.val (.long z) = some l') (pc' : Nat) (hp : pc + 1 = pc') (k : own_Go p.tables e below F (T.setTop (mkF m pc' l' (St)))) : own_Go p.tables e below F (T.setTop (mkF m pc Ls (.long z :: St))) := by
  subst hp
  exact own_by (fun _ q => XS.lstoreN X.here hx rfl hd rfl hl q) k
theorem own_lstore (X : Stand p l e R s m args below meth c T locs cells slots) (hx : p.tables.exec = Jvm.exec) {F : State → Prop} {pc : Nat} {Ls : Array Slot} {St : List Value} {i : Nat} {z : Int64} (hd : decode c.code pc = .ok (.lstore i, 2)) (l' : Array Slot) (hl : storeLocals Ls i (.long z) = some l') (pc' : Nat) (hp : pc + 2 = pc') (k : own_Go p.tables e below F (T.setTop (mkF m pc' l' (St)))) : own_Go p.tables e below F (T.setTop (mkF m pc Ls (.long z :: St))) := by
  subst hp
  exact own_by (fun _ q => XS.lstore X.here hx rfl hd rfl hl q) k
theorem own_aload_n (X : Stand p l e R s m args below meth c T locs cells slots) (hx : p.tables.exec = Jvm.exec) {F : State → Prop} {pc : Nat} {Ls : Array Slot} {St : List Value} {i : Fin 4} {v : Value} (hd : decode c.code pc = .ok (.aload_n i, 1)) (hl : Ls[i.val]? = some (.val v)) (hv : v.isRef = true) (pc' : Nat) (hp : pc + 1 = pc') (k : own_Go p.tables e below F (T.setTop (mkF m pc' Ls (v :: St)))) : own_Go p.tables e below F (T.setTop (mkF m pc Ls (St))) := by
  subst hp
  exact own_by (fun _ q => XS.aloadN X.here hx rfl hd hl hv q) k
theorem own_aload (X : Stand p l e R s m args below meth c T locs cells slots) (hx : p.tables.exec = Jvm.exec) {F : State → Prop} {pc : Nat} {Ls : Array Slot} {St : List Value} {i : Nat} {v : Value} (hd : decode c.code pc = .ok (.aload i, 2)) (hl : Ls[i]? = some (.val v)) (hv : v.isRef = true) (pc' : Nat) (hp : pc + 2 = pc') (k : own_Go p.tables e below F (T.setTop (mkF m pc' Ls (v :: St)))) : own_Go p.tables e below F (T.setTop (mkF m pc Ls (St))) := by
  subst hp
  exact own_by (fun _ q => XS.aload X.here hx rfl hd hl hv q) k
theorem own_astore_n (X : Stand p l e R s m args below meth c T locs cells slots) (hx : p.tables.exec = Jvm.exec) {F : State → Prop} {pc : Nat} {Ls : Array Slot} {St : List Value} {i : Fin 4} {v : Value} (hd : decode c.code pc = .ok (.astore_n i, 1)) (l' : Array Slot) (hv : v.isRef = true) (hl : storeLocals Ls i.val v = some l') (pc' : Nat) (hp : pc + 1 = pc') (k : own_Go p.tables e below F (T.setTop (mkF m pc' l' (St)))) : own_Go p.tables e below F (T.setTop (mkF m pc Ls (v :: St))) := by
  subst hp
  exact own_by (fun _ q => XS.astoreN X.here hx rfl hd rfl hv hl q) k
theorem own_astore (X : Stand p l e R s m args below meth c T locs cells slots) (hx : p.tables.exec = Jvm.exec) {F : State → Prop} {pc : Nat} {Ls : Array Slot} {St : List Value} {i : Nat} {v : Value} (hd : decode c.code pc = .ok (.astore i, 2)) (l' : Array Slot) (hv : v.isRef = true) (hl : storeLocals Ls i v = some l') (pc' : Nat) (hp : pc + 2 = pc') (k : own_Go p.tables e below F (T.setTop (mkF m pc' l' (St)))) : own_Go p.tables e below F (T.setTop (mkF m pc Ls (v :: St))) := by
  subst hp
  exact own_by (fun _ q => XS.astore X.here hx rfl hd rfl hv hl q) k
theorem own_iconst (X : Stand p l e R s m args below meth c T locs cells slots) (hx : p.tables.exec = Jvm.exec) {F : State → Prop} {pc : Nat} {Ls : Array Slot} {St : List Value} {i : Int} (hd : decode c.code pc = .ok (.iconst i, 1)) (z : Int32) (hz : Int32.ofInt i = z) (pc' : Nat) (hp : pc + 1 = pc') (k : own_Go p.tables e below F (T.setTop (mkF m pc' Ls (.int z :: St)))) : own_Go p.tables e below F (T.setTop (mkF m pc Ls (St))) := by
  subst hp hz
  exact own_by (fun _ q => XS.iconst X.here hx rfl hd  q) k
theorem own_bipush (X : Stand p l e R s m args below meth c T locs cells slots) (hx : p.tables.exec = Jvm.exec) {F : State → Prop} {pc : Nat} {Ls : Array Slot} {St : List Value} {i : Int} (hd : decode c.code pc = .ok (.bipush i, 2)) (z : Int32) (hz : (Int8.ofInt i).toInt32 = z) (pc' : Nat) (hp : pc + 2 = pc') (k : own_Go p.tables e below F (T.setTop (mkF m pc' Ls (.int z :: St)))) : own_Go p.tables e below F (T.setTop (mkF m pc Ls (St))) := by
  subst hp hz
  exact own_by (fun _ q => XS.bipush X.here hx rfl hd  q) k
theorem own_sipush (X : Stand p l e R s m args below meth c T locs cells slots) (hx : p.tables.exec = Jvm.exec) {F : State → Prop} {pc : Nat} {Ls : Array Slot} {St : List Value} {i : Int} (hd : decode c.code pc = .ok (.sipush i, 3)) (z : Int32) (hz : (Int16.ofInt i).toInt32 = z) (pc' : Nat) (hp : pc + 3 = pc') (k : own_Go p.tables e below F (T.setTop (mkF m pc' Ls (.int z :: St)))) : own_Go p.tables e below F (T.setTop (mkF m pc Ls (St))) := by
  subst hp hz
  exact own_by (fun _ q => XS.sipush X.here hx rfl hd  q) k
theorem own_lconst (X : Stand p l e R s m args below meth c T locs cells slots) (hx : p.tables.exec = Jvm.exec) {F : State → Prop} {pc : Nat} {Ls : Array Slot} {St : List Value} {i : Fin 2} (hd : decode c.code pc = .ok (.lconst i, 1)) (z : Int64) (hz : Int64.ofNat i = z) (pc' : Nat) (hp : pc + 1 = pc') (k : own_Go p.tables e below F (T.setTop (mkF m pc' Ls (.long z :: St)))) : own_Go p.tables e below F (T.setTop (mkF m pc Ls (St))) := by
  subst hp hz
  exact own_by (fun _ q => XS.lconst X.here hx rfl hd  q) k
theorem own_aconst_null (X : Stand p l e R s m args below meth c T locs cells slots) (hx : p.tables.exec = Jvm.exec) {F : State → Prop} {pc : Nat} {Ls : Array Slot} {St : List Value}  (hd : decode c.code pc = .ok (.aconst_null, 1)) (pc' : Nat) (hp : pc + 1 = pc') (k : own_Go p.tables e below F (T.setTop (mkF m pc' Ls (.null :: St)))) : own_Go p.tables e below F (T.setTop (mkF m pc Ls (St))) := by
  subst hp
  exact own_by (fun _ q => XS.aconstNull X.here hx rfl hd  q) k
theorem own_iadd (X : Stand p l e R s m args below meth c T locs cells slots) (hx : p.tables.exec = Jvm.exec) {F : State → Prop} {pc : Nat} {Ls : Array Slot} {St : List Value} {x y : Int32} (hd : decode c.code pc = .ok (.iadd, 1)) (pc' : Nat) (hp : pc + 1 = pc') (k : own_Go p.tables e below F (T.setTop (mkF m pc' Ls (.int (x + y) :: St)))) : own_Go p.tables e below F (T.setTop (mkF m pc Ls (.int y :: .int x :: St))) := by
  subst hp
  exact own_by (fun _ q => XS.iadd X.here hx rfl hd rfl q) k
theorem own_isub (X : Stand p l e R s m args below meth c T locs cells slots) (hx : p.tables.exec = Jvm.exec) {F : State → Prop} {pc : Nat} {Ls : Array Slot} {St : List Value} {x y : Int32} (hd : decode c.code pc = .ok (.isub, 1)) (pc' : Nat) (hp : pc + 1 = pc') (k : own_Go p.tables e below F (T.setTop (mkF m pc' Ls (.int (x - y) :: St)))) : own_Go p.tables e below F (T.setTop (mkF m pc Ls (.int y :: .int x :: St))) := by
  subst hp
  exact own_by (fun _ q => XS.isub X.here hx rfl hd rfl q) k
theorem own_imul (X : Stand p l e R s m args below meth c T locs cells slots) (hx : p.tables.exec = Jvm.exec) {F : State → Prop} {pc : Nat} {Ls : Array Slot} {St : List Value} {x y : Int32} (hd : decode c.code pc = .ok (.imul, 1)) (pc' : Nat) (hp : pc + 1 = pc') (k : own_Go p.tables e below F (T.setTop (mkF m pc' Ls (.int (x * y) :: St)))) : own_Go p.tables e below F (T.setTop (mkF m pc Ls (.int y :: .int x :: St))) := by
  subst hp
  exact own_by (fun _ q => XS.imul X.here hx rfl hd rfl q) k
theorem own_iand (X : Stand p l e R s m args below meth c T locs cells slots) (hx : p.tables.exec = Jvm.exec) {F : State → Prop} {pc : Nat} {Ls : Array Slot} {St : List Value} {x y : Int32} (hd : decode c.code pc = .ok (.iand, 1)) (pc' : Nat) (hp : pc + 1 = pc') (k : own_Go p.tables e below F (T.setTop (mkF m pc' Ls (.int (x &&& y) :: St)))) : own_Go p.tables e below F (T.setTop (mkF m pc Ls (.int y :: .int x :: St))) := by
  subst hp
  exact own_by (fun _ q => XS.iand X.here hx rfl hd rfl q) k
theorem own_ior (X : Stand p l e R s m args below meth c T locs cells slots) (hx : p.tables.exec = Jvm.exec) {F : State → Prop} {pc : Nat} {Ls : Array Slot} {St : List Value} {x y : Int32} (hd : decode c.code pc = .ok (.ior, 1)) (pc' : Nat) (hp : pc + 1 = pc') (k : own_Go p.tables e below F (T.setTop (mkF m pc' Ls (.int (x ||| y) :: St)))) : own_Go p.tables e below F (T.setTop (mkF m pc Ls (.int y :: .int x :: St))) := by
  subst hp
  exact own_by (fun _ q => XS.ior X.here hx rfl hd rfl q) k
theorem own_ixor (X : Stand p l e R s m args below meth c T locs cells slots) (hx : p.tables.exec = Jvm.exec) {F : State → Prop} {pc : Nat} {Ls : Array Slot} {St : List Value} {x y : Int32} (hd : decode c.code pc = .ok (.ixor, 1)) (pc' : Nat) (hp : pc + 1 = pc') (k : own_Go p.tables e below F (T.setTop (mkF m pc' Ls (.int (x ^^^ y) :: St)))) : own_Go p.tables e below F (T.setTop (mkF m pc Ls (.int y :: .int x :: St))) := by
  subst hp
  exact own_by (fun _ q => XS.ixor X.here hx rfl hd rfl q) k
theorem own_ishl (X : Stand p l e R s m args below meth c T locs cells slots) (hx : p.tables.exec = Jvm.exec) {F : State → Prop} {pc : Nat} {Ls : Array Slot} {St : List Value} {x y : Int32} (hd : decode c.code pc = .ok (.ishl, 1)) (pc' : Nat) (hp : pc + 1 = pc') (k : own_Go p.tables e below F (T.setTop (mkF m pc' Ls (.int (x <<< (y &&& 31)) :: St)))) : own_Go p.tables e below F (T.setTop (mkF m pc Ls (.int y :: .int x :: St))) := by
  subst hp
  exact own_by (fun _ q => XS.ishl X.here hx rfl hd rfl q) k
theorem own_ishr (X : Stand p l e R s m args below meth c T locs cells slots) (hx : p.tables.exec = Jvm.exec) {F : State → Prop} {pc : Nat} {Ls : Array Slot} {St : List Value} {x y : Int32} (hd : decode c.code pc = .ok (.ishr, 1)) (pc' : Nat) (hp : pc + 1 = pc') (k : own_Go p.tables e below F (T.setTop (mkF m pc' Ls (.int (x >>> (y &&& 31)) :: St)))) : own_Go p.tables e below F (T.setTop (mkF m pc Ls (.int y :: .int x :: St))) := by
  subst hp
  exact own_by (fun _ q => XS.ishr X.here hx rfl hd rfl q) k
theorem own_iushr (X : Stand p l e R s m args below meth c T locs cells slots) (hx : p.tables.exec = Jvm.exec) {F : State → Prop} {pc : Nat} {Ls : Array Slot} {St : List Value} {x y : Int32} (hd : decode c.code pc = .ok (.iushr, 1)) (pc' : Nat) (hp : pc + 1 = pc') (k : own_Go p.tables e below F (T.setTop (mkF m pc' Ls (.int ((x.toUInt32 >>> (y &&& 31).toUInt32).toInt32) :: St)))) : own_Go p.tables e below F (T.setTop (mkF m pc Ls (.int y :: .int x :: St))) := by
  subst hp
  exact own_by (fun _ q => XS.iushr X.here hx rfl hd rfl q) k
theorem own_ladd (X : Stand p l e R s m args below meth c T locs cells slots) (hx : p.tables.exec = Jvm.exec) {F : State → Prop} {pc : Nat} {Ls : Array Slot} {St : List Value} {x y : Int64} (hd : decode c.code pc = .ok (.ladd, 1)) (pc' : Nat) (hp : pc + 1 = pc') (k : own_Go p.tables e below F (T.setTop (mkF m pc' Ls (.long (x + y) :: St)))) : own_Go p.tables e below F (T.setTop (mkF m pc Ls (.long y :: .long x :: St))) := by
  subst hp
  exact own_by (fun _ q => XS.ladd X.here hx rfl hd rfl q) k
theorem own_lsub (X : Stand p l e R s m args below meth c T locs cells slots) (hx : p.tables.exec = Jvm.exec) {F : State → Prop} {pc : Nat} {Ls : Array Slot} {St : List Value} {x y : Int64} (hd : decode c.code pc = .ok (.lsub, 1)) (pc' : Nat) (hp : pc + 1 = pc') (k : own_Go p.tables e below F (T.setTop (mkF m pc' Ls (.long (x - y) :: St)))) : own_Go p.tables e below F (T.setTop (mkF m pc Ls (.long y :: .long x :: St))) := by
  subst hp
  exact own_by (fun _ q => XS.lsub X.here hx rfl hd rfl q) k
theorem own_lmul (X : Stand p l e R s m args below meth c T locs cells slots) (hx : p.tables.exec = Jvm.exec) {F : State → Prop} {pc : Nat} {Ls : Array Slot} {St : List Value} {x y : Int64} (hd : decode c.code pc = .ok (.lmul, 1)) (pc' : Nat) (hp : pc + 1 = pc') (k : own_Go p.tables e below F (T.setTop (mkF m pc' Ls (.long (x * y) :: St)))) : own_Go p.tables e below F (T.setTop (mkF m pc Ls (.long y :: .long x :: St))) := by
  subst hp
  exact own_by (fun _ q => XS.lmul X.here hx rfl hd rfl q) k
theorem own_land (X : Stand p l e R s m args below meth c T locs cells slots) (hx : p.tables.exec = Jvm.exec) {F : State → Prop} {pc : Nat} {Ls : Array Slot} {St : List Value} {x y : Int64} (hd : decode c.code pc = .ok (.land, 1)) (pc' : Nat) (hp : pc + 1 = pc') (k : own_Go p.tables e below F (T.setTop (mkF m pc' Ls (.long (x &&& y) :: St)))) : own_Go p.tables e below F (T.setTop (mkF m pc Ls (.long y :: .long x :: St))) := by
  subst hp
  exact own_by (fun _ q => XS.land X.here hx rfl hd rfl q) k
theorem own_lor (X : Stand p l e R s m args below meth c T locs cells slots) (hx : p.tables.exec = Jvm.exec) {F : State → Prop} {pc : Nat} {Ls : Array Slot} {St : List Value} {x y : Int64} (hd : decode c.code pc = .ok (.lor, 1)) (pc' : Nat) (hp : pc + 1 = pc') (k : own_Go p.tables e below F (T.setTop (mkF m pc' Ls (.long (x ||| y) :: St)))) : own_Go p.tables e below F (T.setTop (mkF m pc Ls (.long y :: .long x :: St))) := by
  subst hp
  exact own_by (fun _ q => XS.lor X.here hx rfl hd rfl q) k
theorem own_lxor (X : Stand p l e R s m args below meth c T locs cells slots) (hx : p.tables.exec = Jvm.exec) {F : State → Prop} {pc : Nat} {Ls : Array Slot} {St : List Value} {x y : Int64} (hd : decode c.code pc = .ok (.lxor, 1)) (pc' : Nat) (hp : pc + 1 = pc') (k : own_Go p.tables e below F (T.setTop (mkF m pc' Ls (.long (x ^^^ y) :: St)))) : own_Go p.tables e below F (T.setTop (mkF m pc Ls (.long y :: .long x :: St))) := by
  subst hp
  exact own_by (fun _ q => XS.lxor X.here hx rfl hd rfl q) k
theorem own_lshl (X : Stand p l e R s m args below meth c T locs cells slots) (hx : p.tables.exec = Jvm.exec) {F : State → Prop} {pc : Nat} {Ls : Array Slot} {St : List Value} {x : Int64} {y : Int32} (hd : decode c.code pc = .ok (.lshl, 1)) (pc' : Nat) (hp : pc + 1 = pc') (k : own_Go p.tables e below F (T.setTop (mkF m pc' Ls (.long (x <<< (y &&& 0x3f).toInt64) :: St)))) : own_Go p.tables e below F (T.setTop (mkF m pc Ls (.int y :: .long x :: St))) := by
  subst hp
  exact own_by (fun _ q => XS.lshl X.here hx rfl hd rfl q) k
theorem own_lshr (X : Stand p l e R s m args below meth c T locs cells slots) (hx : p.tables.exec = Jvm.exec) {F : State → Prop} {pc : Nat} {Ls : Array Slot} {St : List Value} {x : Int64} {y : Int32} (hd : decode c.code pc = .ok (.lshr, 1)) (pc' : Nat) (hp : pc + 1 = pc') (k : own_Go p.tables e below F (T.setTop (mkF m pc' Ls (.long (x >>> (y &&& 0x3f).toInt64) :: St)))) : own_Go p.tables e below F (T.setTop (mkF m pc Ls (.int y :: .long x :: St))) := by
  subst hp
  exact own_by (fun _ q => XS.lshr X.here hx rfl hd rfl q) k
theorem own_lushr (X : Stand p l e R s m args below meth c T locs cells slots) (hx : p.tables.exec = Jvm.exec) {F : State → Prop} {pc : Nat} {Ls : Array Slot} {St : List Value} {x : Int64} {y : Int32} (hd : decode c.code pc = .ok (.lushr, 1)) (pc' : Nat) (hp : pc + 1 = pc') (k : own_Go p.tables e below F (T.setTop (mkF m pc' Ls (.long ((x.toUInt64 >>> (y &&& 0x3f).toInt64.toUInt64).toInt64) :: St)))) : own_Go p.tables e below F (T.setTop (mkF m pc Ls (.int y :: .long x :: St))) := by
  subst hp
  exact own_by (fun _ q => XS.lushr X.here hx rfl hd rfl q) k
theorem own_idiv (X : Stand p l e R s m args below meth c T locs cells slots) (hx : p.tables.exec = Jvm.exec) {F : State → Prop} {pc : Nat} {Ls : Array Slot} {St : List Value} {x y : Int32} (hd : decode c.code pc = .ok (.idiv, 1)) (hy : y ≠ 0) (pc' : Nat) (hp : pc + 1 = pc') (k : own_Go p.tables e below F (T.setTop (mkF m pc' Ls (.int (x / y) :: St)))) : own_Go p.tables e below F (T.setTop (mkF m pc Ls (.int y :: .int x :: St))) := by
  subst hp
  exact own_by (fun _ q => XS.idiv X.here hx rfl hd rfl hy q) k
theorem own_ineg (X : Stand p l e R s m args below meth c T locs cells slots) (hx : p.tables.exec = Jvm.exec) {F : State → Prop} {pc : Nat} {Ls : Array Slot} {St : List Value} {x : Int32} (hd : decode c.code pc = .ok (.ineg, 1)) (pc' : Nat) (hp : pc + 1 = pc') (k : own_Go p.tables e below F (T.setTop (mkF m pc' Ls (.int (-x) :: St)))) : own_Go p.tables e below F (T.setTop (mkF m pc Ls (.int x :: St))) := by
  subst hp
  exact own_by (fun _ q => XS.ineg X.here hx rfl hd rfl q) k
theorem own_i2l (X : Stand p l e R s m args below meth c T locs cells slots) (hx : p.tables.exec = Jvm.exec) {F : State → Prop} {pc : Nat} {Ls : Array Slot} {St : List Value} {x : Int32} (hd : decode c.code pc = .ok (.i2l, 1)) (pc' : Nat) (hp : pc + 1 = pc') (k : own_Go p.tables e below F (T.setTop (mkF m pc' Ls (.long (x.toInt64) :: St)))) : own_Go p.tables e below F (T.setTop (mkF m pc Ls (.int x :: St))) := by
  subst hp
  exact own_by (fun _ q => XS.i2l X.here hx rfl hd rfl q) k
theorem own_l2i (X : Stand p l e R s m args below meth c T locs cells slots) (hx : p.tables.exec = Jvm.exec) {F : State → Prop} {pc : Nat} {Ls : Array Slot} {St : List Value} {x : Int64} (hd : decode c.code pc = .ok (.l2i, 1)) (pc' : Nat) (hp : pc + 1 = pc') (k : own_Go p.tables e below F (T.setTop (mkF m pc' Ls (.int (x.toInt32) :: St)))) : own_Go p.tables e below F (T.setTop (mkF m pc Ls (.long x :: St))) := by
  subst hp
  exact own_by (fun _ q => XS.l2i X.here hx rfl hd rfl q) k
theorem own_i2b (X : Stand p l e R s m args below meth c T locs cells slots) (hx : p.tables.exec = Jvm.exec) {F : State → Prop} {pc : Nat} {Ls : Array Slot} {St : List Value} {x : Int32} (hd : decode c.code pc = .ok (.i2b, 1)) (pc' : Nat) (hp : pc + 1 = pc') (k : own_Go p.tables e below F (T.setTop (mkF m pc' Ls (.int (x.toInt8.toInt32) :: St)))) : own_Go p.tables e below F (T.setTop (mkF m pc Ls (.int x :: St))) := by
  subst hp
  exact own_by (fun _ q => XS.i2b X.here hx rfl hd rfl q) k
theorem own_i2c (X : Stand p l e R s m args below meth c T locs cells slots) (hx : p.tables.exec = Jvm.exec) {F : State → Prop} {pc : Nat} {Ls : Array Slot} {St : List Value} {x : Int32} (hd : decode c.code pc = .ok (.i2c, 1)) (pc' : Nat) (hp : pc + 1 = pc') (k : own_Go p.tables e below F (T.setTop (mkF m pc' Ls (.int (x.toUInt32.toUInt16.toUInt32.toInt32) :: St)))) : own_Go p.tables e below F (T.setTop (mkF m pc Ls (.int x :: St))) := by
  subst hp
  exact own_by (fun _ q => XS.i2c X.here hx rfl hd rfl q) k
theorem own_i2s (X : Stand p l e R s m args below meth c T locs cells slots) (hx : p.tables.exec = Jvm.exec) {F : State → Prop} {pc : Nat} {Ls : Array Slot} {St : List Value} {x : Int32} (hd : decode c.code pc = .ok (.i2s, 1)) (pc' : Nat) (hp : pc + 1 = pc') (k : own_Go p.tables e below F (T.setTop (mkF m pc' Ls (.int (x.toInt16.toInt32) :: St)))) : own_Go p.tables e below F (T.setTop (mkF m pc Ls (.int x :: St))) := by
  subst hp
  exact own_by (fun _ q => XS.i2s X.here hx rfl hd rfl q) k
theorem own_lcmp (X : Stand p l e R s m args below meth c T locs cells slots) (hx : p.tables.exec = Jvm.exec) {F : State → Prop} {pc : Nat} {Ls : Array Slot} {St : List Value} {x y : Int64} (hd : decode c.code pc = .ok (.lcmp, 1)) (pc' : Nat) (hp : pc + 1 = pc') (k : own_Go p.tables e below F (T.setTop (mkF m pc' Ls (.int (lcmpW x y) :: St)))) : own_Go p.tables e below F (T.setTop (mkF m pc Ls (.long y :: .long x :: St))) := by
  subst hp
  exact own_by (fun _ q => XS.lcmp X.here hx rfl hd rfl q) k
theorem own_iinc (X : Stand p l e R s m args below meth c T locs cells slots) (hx : p.tables.exec = Jvm.exec) {F : State → Prop} {pc : Nat} {Ls : Array Slot} {St : List Value} {i : Nat} {cst : Int} {x : Int32} (hd : decode c.code pc = .ok (.iinc i cst, 3)) (l' : Array Slot) (hl : Ls[i]? = some (.val (.int x))) (hl' : storeLocals Ls i (.int (x + Int32.ofInt cst)) = some l') (pc' : Nat) (hp : pc + 3 = pc') (k : own_Go p.tables e below F (T.setTop (mkF m pc' l' (St)))) : own_Go p.tables e below F (T.setTop (mkF m pc Ls (St))) := by
  subst hp
  exact own_by (fun _ q => XS.iinc X.here hx rfl hd hl hl' q) k
theorem own_dup (X : Stand p l e R s m args below meth c T locs cells slots) (hx : p.tables.exec = Jvm.exec) {F : State → Prop} {pc : Nat} {Ls : Array Slot} {St : List Value} {v : Value} (hd : decode c.code pc = .ok (.dup, 1)) (hc : v.category = 1) (pc' : Nat) (hp : pc + 1 = pc') (k : own_Go p.tables e below F (T.setTop (mkF m pc' Ls (v :: v :: St)))) : own_Go p.tables e below F (T.setTop (mkF m pc Ls (v :: St))) := by
  subst hp
  exact own_by (fun _ q => XS.dup X.here hx rfl hd rfl hc q) k
theorem own_pop (X : Stand p l e R s m args below meth c T locs cells slots) (hx : p.tables.exec = Jvm.exec) {F : State → Prop} {pc : Nat} {Ls : Array Slot} {St : List Value} {v : Value} (hd : decode c.code pc = .ok (.pop, 1)) (hc : v.category = 1) (pc' : Nat) (hp : pc + 1 = pc') (k : own_Go p.tables e below F (T.setTop (mkF m pc' Ls (St)))) : own_Go p.tables e below F (T.setTop (mkF m pc Ls (v :: St))) := by
  subst hp
  exact own_by (fun _ q => XS.pop X.here hx rfl hd rfl hc q) k
theorem own_dup_x1 (X : Stand p l e R s m args below meth c T locs cells slots) (hx : p.tables.exec = Jvm.exec) {F : State → Prop} {pc : Nat} {Ls : Array Slot} {St : List Value} {v w : Value} (hd : decode c.code pc = .ok (.dup_x1, 1)) (hc : v.category = 1) (hc' : w.category = 1) (pc' : Nat) (hp : pc + 1 = pc') (k : own_Go p.tables e below F (T.setTop (mkF m pc' Ls (v :: w :: v :: St)))) : own_Go p.tables e below F (T.setTop (mkF m pc Ls (v :: w :: St))) := by
  subst hp
  exact own_by (fun _ q => XS.dupX1 X.here hx rfl hd rfl hc hc' q) k
theorem own_goto (X : Stand p l e R s m args below meth c T locs cells slots) (hx : p.tables.exec = Jvm.exec) {F : State → Prop} {pc : Nat} {Ls : Array Slot} {St : List Value}  {o : Int} (hd : decode c.code pc = .ok (.goto o, 3)) (pc' : Nat) (ho : 0 ≤ (pc : Int) + o) (hp : ((pc : Int) + o).toNat = pc') (k : own_Go p.tables e below F (T.setTop (mkF m pc' Ls (St)))) : own_Go p.tables e below F (T.setTop (mkF m pc Ls (St))) :=
  own_by (fun _ q => XS.goto X.here hx rfl (pc0 := pc) rfl hd  ho hp q) k
theorem own_ifY (X : Stand p l e R s m args below meth c T locs cells slots) (hx : p.tables.exec = Jvm.exec) {F : State → Prop} {pc : Nat} {Ls : Array Slot} {St : List Value} {cd : ClassFile.Cond} {x : Int32} {o : Int} (hd : decode c.code pc = .ok (.ifCond cd o, 3)) (hc : ifCond.holds cd x = true) (pc' : Nat) (ho : 0 ≤ (pc : Int) + o) (hp : ((pc : Int) + o).toNat = pc') (k : own_Go p.tables e below F (T.setTop (mkF m pc' Ls (St)))) : own_Go p.tables e below F (T.setTop (mkF m pc Ls (.int x :: St))) :=
  own_by (fun _ q => XS.ifYes X.here hx rfl (pc0 := pc) rfl hd rfl hc ho hp q) k
theorem own_icmpY (X : Stand p l e R s m args below meth c T locs cells slots) (hx : p.tables.exec = Jvm.exec) {F : State → Prop} {pc : Nat} {Ls : Array Slot} {St : List Value} {cd : ClassFile.Cond} {x y : Int32} {o : Int} (hd : decode c.code pc = .ok (.if_icmp cd o, 3)) (hc : if_icmp.holds cd x y = true) (pc' : Nat) (ho : 0 ≤ (pc : Int) + o) (hp : ((pc : Int) + o).toNat = pc') (k : own_Go p.tables e below F (T.setTop (mkF m pc' Ls (St)))) : own_Go p.tables e below F (T.setTop (mkF m pc Ls (.int y :: .int x :: St))) :=
  own_by (fun _ q => XS.icmpYes X.here hx rfl (pc0 := pc) rfl hd rfl hc ho hp q) k
theorem own_ifnullY (X : Stand p l e R s m args below meth c T locs cells slots) (hx : p.tables.exec = Jvm.exec) {F : State → Prop} {pc : Nat} {Ls : Array Slot} {St : List Value}  {o : Int} (hd : decode c.code pc = .ok (.ifnull o, 3)) (pc' : Nat) (ho : 0 ≤ (pc : Int) + o) (hp : ((pc : Int) + o).toNat = pc') (k : own_Go p.tables e below F (T.setTop (mkF m pc' Ls (St)))) : own_Go p.tables e below F (T.setTop (mkF m pc Ls (.null :: St))) :=
  own_by (fun _ q => XS.ifnullYes X.here hx rfl (pc0 := pc) rfl hd rfl ho hp q) k
theorem own_ifnonnullY (X : Stand p l e R s m args below meth c T locs cells slots) (hx : p.tables.exec = Jvm.exec) {F : State → Prop} {pc : Nat} {Ls : Array Slot} {St : List Value} {b : Addr} {o : Int} (hd : decode c.code pc = .ok (.ifnonnull o, 3)) (pc' : Nat) (ho : 0 ≤ (pc : Int) + o) (hp : ((pc : Int) + o).toNat = pc') (k : own_Go p.tables e below F (T.setTop (mkF m pc' Ls (St)))) : own_Go p.tables e below F (T.setTop (mkF m pc Ls (.ref b :: St))) :=
  own_by (fun _ q => XS.ifnonnullYes X.here hx rfl (pc0 := pc) rfl hd rfl ho hp q) k
theorem own_ifN (X : Stand p l e R s m args below meth c T locs cells slots) (hx : p.tables.exec = Jvm.exec) {F : State → Prop} {pc : Nat} {Ls : Array Slot} {St : List Value} {o : Int} {cd : ClassFile.Cond} {x : Int32} (hd : decode c.code pc = .ok (.ifCond cd o, 3)) (hc : ifCond.holds cd x = false) (pc' : Nat) (hp : pc + 3 = pc') (k : own_Go p.tables e below F (T.setTop (mkF m pc' Ls (St)))) : own_Go p.tables e below F (T.setTop (mkF m pc Ls (.int x :: St))) := by
  subst hp
  exact own_by (fun _ q => XS.ifNo X.here hx rfl hd rfl hc q) k
theorem own_icmpN (X : Stand p l e R s m args below meth c T locs cells slots) (hx : p.tables.exec = Jvm.exec) {F : State → Prop} {pc : Nat} {Ls : Array Slot} {St : List Value} {o : Int} {cd : ClassFile.Cond} {x y : Int32} (hd : decode c.code pc = .ok (.if_icmp cd o, 3)) (hc : if_icmp.holds cd x y = false) (pc' : Nat) (hp : pc + 3 = pc') (k : own_Go p.tables e below F (T.setTop (mkF m pc' Ls (St)))) : own_Go p.tables e below F (T.setTop (mkF m pc Ls (.int y :: .int x :: St))) := by
  subst hp
  exact own_by (fun _ q => XS.icmpNo X.here hx rfl hd rfl hc q) k
theorem own_ifnullN (X : Stand p l e R s m args below meth c T locs cells slots) (hx : p.tables.exec = Jvm.exec) {F : State → Prop} {pc : Nat} {Ls : Array Slot} {St : List Value} {o : Int} {b : Addr} (hd : decode c.code pc = .ok (.ifnull o, 3)) (pc' : Nat) (hp : pc + 3 = pc') (k : own_Go p.tables e below F (T.setTop (mkF m pc' Ls (St)))) : own_Go p.tables e below F (T.setTop (mkF m pc Ls (.ref b :: St))) := by
  subst hp
  exact own_by (fun _ q => XS.ifnullNo X.here hx rfl hd rfl q) k
theorem own_ifnonnullN (X : Stand p l e R s m args below meth c T locs cells slots) (hx : p.tables.exec = Jvm.exec) {F : State → Prop} {pc : Nat} {Ls : Array Slot} {St : List Value} {o : Int} (hd : decode c.code pc = .ok (.ifnonnull o, 3)) (pc' : Nat) (hp : pc + 3 = pc') (k : own_Go p.tables e below F (T.setTop (mkF m pc' Ls (St)))) : own_Go p.tables e below F (T.setTop (mkF m pc Ls (.null :: St))) := by
  subst hp
  exact own_by (fun _ q => XS.ifnonnullNo X.here hx rfl hd rfl q) k
theorem own_irem (X : Stand p l e R s m args below meth c T locs cells slots) (hx : p.tables.exec = Jvm.exec) {F : State → Prop} {pc : Nat} {Ls : Array Slot} {St : List Value} {x y : Int32} (hd : decode c.code pc = .ok (.irem, 1)) (hy : y ≠ 0) (pc' : Nat) (hp : pc + 1 = pc') (k : own_Go p.tables e below F (T.setTop (mkF m pc' Ls (.int (x % y) :: St)))) : own_Go p.tables e below F (T.setTop (mkF m pc Ls (.int y :: .int x :: St))) := by
  subst hp
  exact own_by (fun _ q => iremM X hx rfl hd rfl hy q) k
theorem own_acmp (X : Stand p l e R s m args below meth c T locs cells slots) (hx : p.tables.exec = Jvm.exec) {F : State → Prop} {pc : Nat} {Ls : Array Slot} {St : List Value} {cd : ACond} {x y : Value} {o : Int} (same : Bool) (hd : decode c.code pc = .ok (.if_acmp cd o, 3)) (h1 : x.isRef = true) (h2 : y.isRef = true) (hq : decide (x = y) = same) (pc' : Nat) (ho : 0 ≤ (pc : Int) + o) (hp : pc' = if acV cd same = true then ((pc : Int) + o).toNat else pc + 3) (k : own_Go p.tables e below F (T.setTop (mkF m pc' Ls St))) : own_Go p.tables e below F (T.setTop (mkF m pc Ls (y :: x :: St))) :=
  own_by (fun _ q => Jvm.RoadKit.acmp (g := mkF m pc Ls (y :: x :: St)) X hx rfl h1 h2 (pc0 := pc) rfl hd rfl hq ho hp q) k
theorem own_ldc (X : Stand p l e R s m args below meth c T locs cells slots) (hx : p.tables.exec = Jvm.exec) {F : State → Prop} {pc : Nat} {Ls : Array Slot} {St : List Value} (hZ : Z.Warmed39 s.vm) {own : String} {i : Nat} {z : Int32} (hown : s.vm.findClass own = some m.cls) (w : (Cond.constant own i z).before a0 Z = true) (hd : decode c.code pc = .ok (.ldc i, 2)) (pc' : Nat) (hp : pc + 2 = pc') (k : own_Go p.tables e below F (T.setTop (mkF m pc' Ls (.int z :: St)))) : own_Go p.tables e below F (T.setTop (mkF m pc Ls St)) := by
  subst hp
  exact own_by (fun _ q => X.ldcInt hx hown (mvT hZ w) (g := mkF m pc Ls St) rfl hd _ q) k
theorem own_getS (X : Stand p l e R s m args below meth c T locs cells slots) (hx : p.tables.exec = Jvm.exec) {F : State → Prop} {pc : Nat} {Ls : Array Slot} {St : List Value} (hZ : Z.Warmed39 s.vm) {own R0 O n d host : String} {i : Nat} (hown : s.vm.findClass own = some m.cls) (w : (Cond.fieldLink own i R0 n d).before a0 Z = true ∨ (Cond.fieldLinkNest own i R0 n d host).before a0 Z = true) (via : Via Z R0 O n d) (eT : T.heap = h) {v : Value} (S : Sta Z h O n d v) (hd : decode c.code pc = .ok (.getstatic i, 3)) (pc' : Nat) (hp : pc + 3 = pc')
    (k : ∀ T', Stand p l e R s m args below meth c T' locs cells slots → T'.heap = h → own_Go p.tables e below F (T'.setTop (mkF m pc' Ls (v :: St)))) : own_Go p.tables e below F (T.setTop (mkF m pc Ls St)) := by
  subst hp
  obtain ⟨T', X', e', st⟩ := getS2 X hx hZ hown w via eT S (g := mkF m pc Ls St) rfl hd
  exact own_by st (k T' X' e')
theorem own_getF (X : Stand p l e R s m args below meth c T locs cells slots) (hx : p.tables.exec = Jvm.exec) {F : State → Prop} {pc : Nat} {Ls : Array Slot} {St : List Value} (hZ : Z.Warmed39 s.vm) {own R0 O n d host : String} {i : Nat} (hown : s.vm.findClass own = some m.cls) (w : (Cond.fieldLink own i R0 n d).before a0 Z = true ∨ (Cond.fieldLinkNest own i R0 n d host).before a0 Z = true) (via : Via Z R0 O n d) (eT : T.heap = h) {a : Addr} {v : Value} (S : Fld Z h a O n d v) (hd : decode c.code pc = .ok (.getfield i, 3)) (pc' : Nat) (hp : pc + 3 = pc')
    (k : ∀ T', Stand p l e R s m args below meth c T' locs cells slots → T'.heap = h → own_Go p.tables e below F (T'.setTop (mkF m pc' Ls (v :: St)))) : own_Go p.tables e below F (T.setTop (mkF m pc Ls (.ref a :: St))) := by
  subst hp
  obtain ⟨T', X', e', st⟩ := getF X hx hZ hown w via eT S (g := mkF m pc Ls (.ref a :: St)) rfl rfl hd
  exact own_by st (k T' X' e')
theorem own_lsw (X : Stand p l e R s m args below meth c T locs cells slots) (hx : p.tables.exec = Jvm.exec) {F : State → Prop} {pc : Nat} {Ls : Array Slot} {St : List Value} {dflt : Int} {pairs : Array (Int × Int)} {len : Nat} {i : Int32} (o : Int) (hd : decode c.code pc = .ok (.lookupswitch dflt pairs, len)) (hoff : lookupswitch.offset pairs.toList dflt i.toInt = o) (hso : (pairs.toList.zip pairs.toList.tail).all (fun q => decide (q.1.1 < q.2.1)) = true) (pc' : Nat) (ho : 0 ≤ (pc : Int) + o) (hp : ((pc : Int) + o).toNat = pc') (k : own_Go p.tables e below F (T.setTop (mkF m pc' Ls St))) : own_Go p.tables e below F (T.setTop (mkF m pc Ls (.int i :: St))) :=
  own_by (fun _ q => own_lsw0 X.here hx rfl (pc0 := pc) rfl hd rfl hoff hso ho hp q) k
theorem own_tsw (X : Stand p l e R s m args below meth c T locs cells slots) (hx : p.tables.exec = Jvm.exec) {F : State → Prop} {pc : Nat} {Ls : Array Slot} {St : List Value} {dflt lo hi : Int} {offs : Array Int} {len : Nat} {i : Int32} (o : Int) (hd : decode c.code pc = .ok (.tableswitch dflt lo hi offs, len)) (hin : ¬ (i.toInt < lo ∨ i.toInt > hi)) (hoff : offs[(i.toInt - lo).toNat]? = some o) (pc' : Nat) (ho : 0 ≤ (pc : Int) + o) (hp : ((pc : Int) + o).toNat = pc') (k : own_Go p.tables e below F (T.setTop (mkF m pc' Ls St))) : own_Go p.tables e below F (T.setTop (mkF m pc Ls (.int i :: St))) :=
  own_by (fun _ q => XS.tswIn X.here hx rfl (pc0 := pc) rfl hd rfl hin hoff ho hp q) k
theorem own_tswD (X : Stand p l e R s m args below meth c T locs cells slots) (hx : p.tables.exec = Jvm.exec) {F : State → Prop} {pc : Nat} {Ls : Array Slot} {St : List Value} {dflt lo hi : Int} {offs : Array Int} {len : Nat} {i : Int32} (hd : decode c.code pc = .ok (.tableswitch dflt lo hi offs, len)) (hout : i.toInt < lo ∨ i.toInt > hi) (pc' : Nat) (ho : 0 ≤ (pc : Int) + dflt) (hp : ((pc : Int) + dflt).toNat = pc') (k : own_Go p.tables e below F (T.setTop (mkF m pc' Ls St))) : own_Go p.tables e below F (T.setTop (mkF m pc Ls (.int i :: St))) :=
  own_by (fun _ q => XS.tswOut X.here hx rfl (pc0 := pc) rfl hd rfl hout ho hp q) k

theorem own_topI {F : State → Prop} {pc : Nat} {Ls : Array Slot} {St : List Value} {x : Int32} (z : Int32) (hz : x = z) (k : own_Go p.tables e below F (T.setTop (mkF m pc Ls (.int z :: St)))) : own_Go p.tables e below F (T.setTop (mkF m pc Ls (.int x :: St))) := by
  subst hz
  exact k
theorem own_topJ {F : State → Prop} {pc : Nat} {Ls : Array Slot} {St : List Value} {x : Int64} (z : Int64) (hz : x = z) (k : own_Go p.tables e below F (T.setTop (mkF m pc Ls (.long z :: St)))) : own_Go p.tables e below F (T.setTop (mkF m pc Ls (.long x :: St))) := by
  subst hz
  exact k
theorem own_lcmp0 (x : Int64) : lcmpW x x = 0 := by simp [lcmpW]
theorem own_lceq (x y : Int64) : lcmpW x y = (0 : Int32) ↔ x = y := by rw [lcW]; exact lc_eq x y
theorem own_iincC (X : Stand p l e R s m args below meth c T locs cells slots) (hx : p.tables.exec = Jvm.exec) {F : State → Prop} {pc : Nat} {Ls : Array Slot} {St : List Value} {i : Nat} {cst : Int} {x : Int32} (hd : decode c.code pc = .ok (.iinc i cst, 3)) (l' : Array Slot) (hl : Ls[i]? = some (.val (.int x))) (z : Int32) (hz : x + Int32.ofInt cst = z) (hl' : storeLocals Ls i (.int z) = some l') (pc' : Nat) (hp : pc + 3 = pc') (k : own_Go p.tables e below F (T.setTop (mkF m pc' l' St))) : own_Go p.tables e below F (T.setTop (mkF m pc Ls St)) := by
  subst hz
  exact own_iinc X hx hd l' hl hl' pc' hp k
/-- a body's contract: y, entered with 'as' over the heap h, ends, and Q holds of what it returns, of the heap and of the places written -/
abbrev own_Met (l : Launch) (y : MethodName) (bytes : ByteArray) (ml : Nat) (ret : Option FieldType) (ws : List Cond) (rm : Room) (Z : State) (as : Array Value) (h : Heap) (Q : Option Value → Heap → List Loc → Prop) : Prop :=
  MetFree l y (head1 (Jvm.Cond.code y bytes ml ret :: ws) rm) (fun a U => a = as ∧ Z.Warmed39 U.vm ∧ U.heap = h) (fun _ _ _ _ _ => True) (fun _ U o U' => ∃ v L, o = .returned v ∧ Q v U'.heap L ∧ FrameEnd U o U' L rm.cells rm.slots)
theorem own_met {y : MethodName} {bytes : ByteArray} {ml : Nat} {ret : Option FieldType} {ws : List Cond} {rm : Room} {as : Array Value} {Q : Option Value → Heap → List Loc → Prop} (hp : plainFor y = true)
    (body : ∀ (p : Program) (e : Env) (s : State) (m : MethodId) (below : List Frame) (meth : Method) (c : Code) (T0 : State), p.tables.exec = Jvm.exec → c.code = bytes → c.maxLocals = ml → s.vm.findClass y.cls = some m.cls → meth.sig.returnType = ret → meth.locks = false → meth.name = y.name → Z.Warmed39 s.vm →
      Stand p l e rm s m as below meth c T0 [] 0 0 → T0.heap = h → own_Go p.tables e below (own_Fin s below Q rm.cells rm.slots) (T0.setTop (entryFrame m as ml))) : own_Met l y bytes ml ret ws rm Z as h Q := by
  refine MetFree.of_bodySF hp hisR ?_
  intro p e s m args below meth c s₁ Bd hml0 hP hK
  obtain ⟨rfl, hZ, hh⟩ := hP
  have e0 : s₁.heap = h := by rw [← hh, Bd.state]; rfl
  obtain ⟨t, h1, o, h2, h3, h4⟩ := body p e s m below meth c s₁ Bd.exec Bd.bytes hml0 (findClass_of_methodNamed Bd.named) Bd.returns (BodyLoose.notSynchronized Bd) (name_of_methodNamed Bd.named Bd.method).1 hZ (Stand.of_body Bd) e0
  exact ⟨t, o, h1, h2, h3, h4⟩
theorem own_callS (X : Stand p l e R s m args below meth c T locs cells slots) (hx : p.tables.exec = Jvm.exec) (hZ : Z.Warmed39 s.vm) {own : String} {index : Nat} {y : MethodName} {bytes : ByteArray} {maxL : Nat} {ret : Option FieldType} {rm : Room} (hown : s.vm.findClass own = some m.cls)
    (w1 : (Cond.methodLink own index y).before a0 Z = true) (w2 : (Cond.static y).before a0 Z = true) (w3 : (Cond.initialized y.cls).before a0 Z = true) (w4 : (Cond.code y bytes maxL ret).before a0 Z = true) (hy : y.cls ≠ "java/lang/invoke/MethodHandle" ∧ y.cls ≠ "java/lang/invoke/VarHandle")
    {Q : Option Value → Heap → List Loc → Prop} (argsL rest : List Value) (W : Nat) (hM : own_Met l y bytes maxL ret [] rm Z argsL.toArray h Q) (hf : rm.frames + 1 ≤ R.frames) (hl : W + (maxL + 11) + rm.locals ≤ R.locals) (eT : T.heap = h) {pc : Nat} {Ls : Array Slot} (hsize : Ls.size = c.maxLocals)
    (hlen : ∀ sig, parseMethodDescriptor y.desc = some sig → argsL.length = sig.parameters.length) (hW : 2 * 0 + (rest.map fun v => v.category).sum ≤ W) (hd : decode c.code pc = .ok (.invokestatic index, 3)) (hC : cells + rm.cells ≤ R.cells) (hN : slots + rm.slots ≤ R.slots) :
    ∃ (v : Option Value) (T' : State) (L : List Loc), Stand p l e R s m args below meth c T' (locs ++ L) (cells + rm.cells) (slots + rm.slots) ∧ Q v T'.heap L ∧ ∀ target, Steps p.tables e below (T'.setTop (mkF m (pc + 3) Ls (v.toList ++ rest))) target → Steps p.tables e below (T.setTop (mkF m pc Ls (argsL.reverse ++ rest))) target := by
  obtain ⟨v, _, ⟨T', L', k', n'⟩, -, X', ⟨L, hQ, h1, h2, h3⟩, st⟩ := Jvm.LawKit.callS X hx (y := y) hown (mvT hZ w1) (mvT hZ w2) (mvT hZ w3) (mvT hZ w4) hy (backOf (W := W) hM hZ w4 w3 hf hl) (g := mkF m pc Ls (argsL.reverse ++ rest)) rfl hsize (argsL := argsL) (rest := rest) hlen rfl hW hd (fun _ _ => ⟨rfl, eT, hC, hN⟩)
  dsimp only [Pt.U, Pt.locs, Pt.cells, Pt.slots] at X' h1 h2 h3 st hQ
  subst h1 h2 h3
  exact ⟨v, T', L, X', hQ, st⟩
theorem own_kS (X : Stand p l e R s m args below meth c T locs cells slots) (hx : p.tables.exec = Jvm.exec) (hZ : Z.Warmed39 s.vm) {own : String} {index : Nat} {y : MethodName} {bytes : ByteArray} {maxL : Nat} {ret : Option FieldType} {rm : Room} (hown : s.vm.findClass own = some m.cls)
    (w1 : (Cond.methodLink own index y).before a0 Z = true) (w2 : (Cond.static y).before a0 Z = true) (w3 : (Cond.initialized y.cls).before a0 Z = true) (w4 : (Cond.code y bytes maxL ret).before a0 Z = true) (hy : y.cls ≠ "java/lang/invoke/MethodHandle" ∧ y.cls ≠ "java/lang/invoke/VarHandle")
    {Q : Option Value → Heap → List Loc → Prop} (argsL rest : List Value) (W : Nat) (hM : own_Met l y bytes maxL ret [] rm Z argsL.toArray h Q) (hf : rm.frames + 1 ≤ R.frames) (hl : W + (maxL + 11) + rm.locals ≤ R.locals) (eT : T.heap = h) {pc : Nat} {Ls : Array Slot} (hsize : Ls.size = c.maxLocals)
    (hlen : ∀ sig, parseMethodDescriptor y.desc = some sig → argsL.length = sig.parameters.length) (hW : 2 * 0 + (rest.map fun v => v.category).sum ≤ W) (hd : decode c.code pc = .ok (.invokestatic index, 3)) (hC : cells + rm.cells ≤ R.cells) (hN : slots + rm.slots ≤ R.slots) (pc' : Nat) (hp : pc + 3 = pc') {F : State → Prop}
    (k : ∀ (v : Option Value) (T' : State) (L : List Loc), Stand p l e R s m args below meth c T' (locs ++ L) (cells + rm.cells) (slots + rm.slots) → Q v T'.heap L → own_Go p.tables e below F (T'.setTop (mkF m pc' Ls (v.toList ++ rest)))) : own_Go p.tables e below F (T.setTop (mkF m pc Ls (argsL.reverse ++ rest))) := by
  subst hp
  obtain ⟨v, T', L, X', hQ, st⟩ := own_callS X hx hZ hown w1 w2 w3 w4 hy argsL rest W hM hf hl eT hsize hlen hW hd hC hN
  exact own_by st (k v T' L X' hQ)
theorem own_callV (X : Stand p l e R s m args below meth c T locs cells slots) (hx : p.tables.exec = Jvm.exec) (hZ : Z.Warmed39 s.vm) {own C : String} {index : Nat} {y z : MethodName} {bytes : ByteArray} {maxL : Nat} {ret : Option FieldType} {rm : Room} (hown : s.vm.findClass own = some m.cls)
    (w1 : (Cond.methodLink own index y).before a0 Z = true) (w2 : (Cond.declares y).before a0 Z = true) (hnf : NotFace s y) (w3 : (Cond.selects C y z).before a0 Z = true) (w4 : (Cond.instanceMethod z).before a0 Z = true) (w5 : (Cond.initialized z.cls).before a0 Z = true) (w6 : (Cond.code z bytes maxL ret).before a0 Z = true) (hy : y.cls ≠ "java/lang/invoke/MethodHandle" ∧ y.cls ≠ "java/lang/invoke/VarHandle")
    {Q : Option Value → Heap → List Loc → Prop} (b : Addr) (argsL rest : List Value) (W : Nat) (hM : own_Met l z bytes maxL ret [] rm Z (.ref b :: argsL).toArray h Q) (hf : rm.frames + 1 ≤ R.frames) (hl : W + (maxL + 11) + rm.locals ≤ R.locals) (eT : T.heap = h) (E : Exa Z h b C) {pc : Nat} {Ls : Array Slot} (hsize : Ls.size = c.maxLocals)
    (hlen : ∀ sig, parseMethodDescriptor y.desc = some sig → argsL.length = sig.parameters.length) (hW : 2 * 0 + (rest.map fun v => v.category).sum ≤ W) (hd : decode c.code pc = .ok (.invokevirtual index, 3)) (hC : cells + rm.cells ≤ R.cells) (hN : slots + rm.slots ≤ R.slots) :
    ∃ (v : Option Value) (T' : State) (L : List Loc), Stand p l e R s m args below meth c T' (locs ++ L) (cells + rm.cells) (slots + rm.slots) ∧ Q v T'.heap L ∧ ∀ target, Steps p.tables e below (T'.setTop (mkF m (pc + 3) Ls (v.toList ++ rest))) target → Steps p.tables e below (T.setTop (mkF m pc Ls (argsL.reverse ++ .ref b :: rest))) target := by
  obtain ⟨cq, kq, qa, qb, qc⟩ := isOf hZ eT E
  obtain ⟨v, _, ⟨T', L', k', n'⟩, -, X', ⟨L, hQ, h1, h2, h3⟩, st⟩ := X.virtualBack hx (y := y) (z := z) hown (mvT hZ w1) (mvT hZ w2) hnf (mvT hZ w3) (mvT hZ w4) hy (backOf (W := W) hM hZ w6 w5 hf hl) qa qc (g := mkF m pc Ls (argsL.reverse ++ .ref b :: rest)) rfl hsize (Steps.refl _) (argsL := argsL) (rest := rest) hlen rfl hW hd (fun _ _ => ⟨rfl, eT, hC, hN⟩)
  dsimp only [Pt.U, Pt.locs, Pt.cells, Pt.slots] at X' h1 h2 h3 st hQ
  subst h1 h2 h3
  exact ⟨v, T', L, X', hQ, fun t k => st.trans k⟩
theorem own_kV (X : Stand p l e R s m args below meth c T locs cells slots) (hx : p.tables.exec = Jvm.exec) (hZ : Z.Warmed39 s.vm) {own C : String} {index : Nat} {y z : MethodName} {bytes : ByteArray} {maxL : Nat} {ret : Option FieldType} {rm : Room} (hown : s.vm.findClass own = some m.cls)
    (w1 : (Cond.methodLink own index y).before a0 Z = true) (w2 : (Cond.declares y).before a0 Z = true) (hnf : NotFace s y) (w3 : (Cond.selects C y z).before a0 Z = true) (w4 : (Cond.instanceMethod z).before a0 Z = true) (w5 : (Cond.initialized z.cls).before a0 Z = true) (w6 : (Cond.code z bytes maxL ret).before a0 Z = true) (hy : y.cls ≠ "java/lang/invoke/MethodHandle" ∧ y.cls ≠ "java/lang/invoke/VarHandle")
    {Q : Option Value → Heap → List Loc → Prop} (b : Addr) (argsL rest : List Value) (W : Nat) (hM : own_Met l z bytes maxL ret [] rm Z (.ref b :: argsL).toArray h Q) (hf : rm.frames + 1 ≤ R.frames) (hl : W + (maxL + 11) + rm.locals ≤ R.locals) (eT : T.heap = h) (E : Exa Z h b C) {pc : Nat} {Ls : Array Slot} (hsize : Ls.size = c.maxLocals)
    (hlen : ∀ sig, parseMethodDescriptor y.desc = some sig → argsL.length = sig.parameters.length) (hW : 2 * 0 + (rest.map fun v => v.category).sum ≤ W) (hd : decode c.code pc = .ok (.invokevirtual index, 3)) (hC : cells + rm.cells ≤ R.cells) (hN : slots + rm.slots ≤ R.slots) (pc' : Nat) (hp : pc + 3 = pc') {F : State → Prop}
    (k : ∀ (v : Option Value) (T' : State) (L : List Loc), Stand p l e R s m args below meth c T' (locs ++ L) (cells + rm.cells) (slots + rm.slots) → Q v T'.heap L → own_Go p.tables e below F (T'.setTop (mkF m pc' Ls (v.toList ++ rest)))) : own_Go p.tables e below F (T.setTop (mkF m pc Ls (argsL.reverse ++ .ref b :: rest))) := by
  subst hp
  obtain ⟨v, T', L, X', hQ, st⟩ := own_callV X hx hZ hown w1 w2 hnf w3 w4 w5 w6 hy b argsL rest W hM hf hl eT E hsize hlen hW hd hC hN
  exact own_by st (k v T' L X' hQ)
theorem own_callU (X : Stand p l e R s m args below meth c T locs cells slots) (hx : p.tables.exec = Jvm.exec) (hZ : Z.Warmed39 s.vm) {own C owner : String} {index : Nat} {x z : MethodName} {bytes : ByteArray} {maxL : Nat} {ret : Option FieldType} {rm : Room} (hown : s.vm.findClass own = some m.cls)
    (w1 : (Cond.methodLink own index x).before a0 Z = true) (w2 : (Cond.sameMethod x.cls owner x.name x.desc).before a0 Z = true) (w2' : (Cond.declares ⟨owner, x.name, x.desc⟩).before a0 Z = true) (hy : owner ≠ "java/lang/invoke/MethodHandle" ∧ owner ≠ "java/lang/invoke/VarHandle") (w3 : (Cond.selects C x z).before a0 Z = true) (w4 : (Cond.instanceMethod z).before a0 Z = true) (w5 : (Cond.initialized z.cls).before a0 Z = true) (w6 : (Cond.code z bytes maxL ret).before a0 Z = true)
    {Q : Option Value → Heap → List Loc → Prop} (b : Addr) (argsL rest : List Value) (W : Nat) (hM : own_Met l z bytes maxL ret [] rm Z (.ref b :: argsL).toArray h Q) (hf : rm.frames + 1 ≤ R.frames) (hl : W + (maxL + 11) + rm.locals ≤ R.locals) (eT : T.heap = h) (E : Exa Z h b C) {pc : Nat} {Ls : Array Slot} (hsize : Ls.size = c.maxLocals)
    (hlen : ∀ sig, parseMethodDescriptor x.desc = some sig → argsL.length = sig.parameters.length) (hW : 2 * 0 + (rest.map fun v => v.category).sum ≤ W) (hd : decode c.code pc = .ok (.invokevirtual index, 3)) (hC : cells + rm.cells ≤ R.cells) (hN : slots + rm.slots ≤ R.slots) :
    ∃ (v : Option Value) (T' : State) (L : List Loc), Stand p l e R s m args below meth c T' (locs ++ L) (cells + rm.cells) (slots + rm.slots) ∧ Q v T'.heap L ∧ ∀ target, Steps p.tables e below (T'.setTop (mkF m (pc + 3) Ls (v.toList ++ rest))) target → Steps p.tables e below (T.setTop (mkF m pc Ls (argsL.reverse ++ .ref b :: rest))) target := by
  obtain ⟨cq, kq, qa, qb, qc⟩ := isOf hZ eT E
  obtain ⟨v, _, ⟨T', L', k', n'⟩, -, X', ⟨L, hQ, h1, h2, h3⟩, st⟩ := X.virtualBackUp hx (x := x) (y := z) (owner := owner) hown (mvT hZ w1) (mvT hZ w2) (mvT hZ w2') hy (mvT hZ w3) (mvT hZ w4) (backOf (W := W) hM hZ w6 w5 hf hl) qa qc (g := mkF m pc Ls (argsL.reverse ++ .ref b :: rest)) rfl hsize (Steps.refl _) (argsL := argsL) (rest := rest) hlen rfl hW hd (fun _ _ => ⟨rfl, eT, hC, hN⟩)
  dsimp only [Pt.U, Pt.locs, Pt.cells, Pt.slots] at X' h1 h2 h3 st hQ
  subst h1 h2 h3
  exact ⟨v, T', L, X', hQ, fun t k => st.trans k⟩
theorem own_kU (X : Stand p l e R s m args below meth c T locs cells slots) (hx : p.tables.exec = Jvm.exec) (hZ : Z.Warmed39 s.vm) {own C owner : String} {index : Nat} {x z : MethodName} {bytes : ByteArray} {maxL : Nat} {ret : Option FieldType} {rm : Room} (hown : s.vm.findClass own = some m.cls)
    (w1 : (Cond.methodLink own index x).before a0 Z = true) (w2 : (Cond.sameMethod x.cls owner x.name x.desc).before a0 Z = true) (w2' : (Cond.declares ⟨owner, x.name, x.desc⟩).before a0 Z = true) (hy : owner ≠ "java/lang/invoke/MethodHandle" ∧ owner ≠ "java/lang/invoke/VarHandle") (w3 : (Cond.selects C x z).before a0 Z = true) (w4 : (Cond.instanceMethod z).before a0 Z = true) (w5 : (Cond.initialized z.cls).before a0 Z = true) (w6 : (Cond.code z bytes maxL ret).before a0 Z = true)
    {Q : Option Value → Heap → List Loc → Prop} (b : Addr) (argsL rest : List Value) (W : Nat) (hM : own_Met l z bytes maxL ret [] rm Z (.ref b :: argsL).toArray h Q) (hf : rm.frames + 1 ≤ R.frames) (hl : W + (maxL + 11) + rm.locals ≤ R.locals) (eT : T.heap = h) (E : Exa Z h b C) {pc : Nat} {Ls : Array Slot} (hsize : Ls.size = c.maxLocals)
    (hlen : ∀ sig, parseMethodDescriptor x.desc = some sig → argsL.length = sig.parameters.length) (hW : 2 * 0 + (rest.map fun v => v.category).sum ≤ W) (hd : decode c.code pc = .ok (.invokevirtual index, 3)) (hC : cells + rm.cells ≤ R.cells) (hN : slots + rm.slots ≤ R.slots) (pc' : Nat) (hp : pc + 3 = pc') {F : State → Prop}
    (k : ∀ (v : Option Value) (T' : State) (L : List Loc), Stand p l e R s m args below meth c T' (locs ++ L) (cells + rm.cells) (slots + rm.slots) → Q v T'.heap L → own_Go p.tables e below F (T'.setTop (mkF m pc' Ls (v.toList ++ rest)))) : own_Go p.tables e below F (T.setTop (mkF m pc Ls (argsL.reverse ++ .ref b :: rest))) := by
  subst hp
  obtain ⟨v, T', L, X', hQ, st⟩ := own_callU X hx hZ hown w1 w2 w2' hy w3 w4 w5 w6 b argsL rest W hM hf hl eT E hsize hlen hW hd hC hN
  exact own_by st (k v T' L X' hQ)
theorem own_callN (X : Stand p l e R s m args below meth c T locs cells slots) (hx : p.tables.exec = Jvm.exec) (hZ : Z.Warmed39 s.vm) {own : String} {index : Nat} {y : MethodName} {bytes : ByteArray} {maxL : Nat} {rm : Room} (hy1 : y.name = "<init>") (hown : s.vm.findClass own = some m.cls)
    (w1 : (Cond.methodLink own index y).before a0 Z = true) (w4 : (Cond.instanceMethod y).before a0 Z = true) (w5 : (Cond.initialized y.cls).before a0 Z = true) (w6 : (Cond.code y bytes maxL none).before a0 Z = true) (hy : y.cls ≠ "java/lang/invoke/MethodHandle" ∧ y.cls ≠ "java/lang/invoke/VarHandle")
    {Q : Option Value → Heap → List Loc → Prop} (b : Addr) (argsL rest : List Value) (W : Nat) (hM : own_Met l y bytes maxL none [] rm Z (.ref b :: argsL).toArray h Q) (hf : rm.frames + 1 ≤ R.frames) (hl : W + (maxL + 11) + rm.locals ≤ R.locals) (eT : T.heap = h) {pc : Nat} {Ls : Array Slot} (hsize : Ls.size = c.maxLocals)
    (hlen : ∀ sig, parseMethodDescriptor y.desc = some sig → argsL.length = sig.parameters.length) (hW : 2 * 0 + (rest.map fun v => v.category).sum ≤ W) (hd : decode c.code pc = .ok (.invokespecial index, 3)) (hC : cells + rm.cells ≤ R.cells) (hN : slots + rm.slots ≤ R.slots) :
    ∃ (v : Option Value) (T' : State) (L : List Loc), Stand p l e R s m args below meth c T' (locs ++ L) (cells + rm.cells) (slots + rm.slots) ∧ Q v T'.heap L ∧ ∀ target, Steps p.tables e below (T'.setTop (mkF m (pc + 3) Ls (v.toList ++ rest))) target → Steps p.tables e below (T.setTop (mkF m pc Ls (argsL.reverse ++ .ref b :: rest))) target := by
  obtain ⟨v, _, ⟨T', L', k', n'⟩, -, X', ⟨L, hQ, h1, h2, h3⟩, st⟩ := X.specialBack hx (y := y) hy1 hown (mvT hZ w1) (mvT hZ w4) (mvT hZ w6) hy (backOf (W := W) hM hZ w6 w5 hf hl) (g := mkF m pc Ls (argsL.reverse ++ .ref b :: rest)) rfl hsize (Steps.refl _) (a := b) (argsL := argsL) (rest := rest) hlen rfl hW hd (fun _ _ => ⟨rfl, eT, hC, hN⟩)
  dsimp only [Pt.U, Pt.locs, Pt.cells, Pt.slots] at X' h1 h2 h3 st hQ
  subst h1 h2 h3
  exact ⟨v, T', L, X', hQ, fun t k => st.trans k⟩
theorem own_kN (X : Stand p l e R s m args below meth c T locs cells slots) (hx : p.tables.exec = Jvm.exec) (hZ : Z.Warmed39 s.vm) {own : String} {index : Nat} {y : MethodName} {bytes : ByteArray} {maxL : Nat} {rm : Room} (hy1 : y.name = "<init>") (hown : s.vm.findClass own = some m.cls)
    (w1 : (Cond.methodLink own index y).before a0 Z = true) (w4 : (Cond.instanceMethod y).before a0 Z = true) (w5 : (Cond.initialized y.cls).before a0 Z = true) (w6 : (Cond.code y bytes maxL none).before a0 Z = true) (hy : y.cls ≠ "java/lang/invoke/MethodHandle" ∧ y.cls ≠ "java/lang/invoke/VarHandle")
    {Q : Option Value → Heap → List Loc → Prop} (b : Addr) (argsL rest : List Value) (W : Nat) (hM : own_Met l y bytes maxL none [] rm Z (.ref b :: argsL).toArray h Q) (hf : rm.frames + 1 ≤ R.frames) (hl : W + (maxL + 11) + rm.locals ≤ R.locals) (eT : T.heap = h) {pc : Nat} {Ls : Array Slot} (hsize : Ls.size = c.maxLocals)
    (hlen : ∀ sig, parseMethodDescriptor y.desc = some sig → argsL.length = sig.parameters.length) (hW : 2 * 0 + (rest.map fun v => v.category).sum ≤ W) (hd : decode c.code pc = .ok (.invokespecial index, 3)) (hC : cells + rm.cells ≤ R.cells) (hN : slots + rm.slots ≤ R.slots) (pc' : Nat) (hp : pc + 3 = pc') {F : State → Prop}
    (k : ∀ (v : Option Value) (T' : State) (L : List Loc), Stand p l e R s m args below meth c T' (locs ++ L) (cells + rm.cells) (slots + rm.slots) → Q v T'.heap L → own_Go p.tables e below F (T'.setTop (mkF m pc' Ls (v.toList ++ rest)))) : own_Go p.tables e below F (T.setTop (mkF m pc Ls (argsL.reverse ++ .ref b :: rest))) := by
  subst hp
  obtain ⟨v, T', L, X', hQ, st⟩ := own_callN X hx hZ hy1 hown w1 w4 w5 w6 hy b argsL rest W hM hf hl eT hsize hlen hW hd hC hN
  exact own_by st (k v T' L X' hQ)
abbrev own_HW (Z : State) (a0 : Array Value) : Prop := ∀ d ∈ tables_1, d.before a0 Z = true
theorem own_w {a0 : Array Value} {Z : State} (hw : ∀ d ∈ tables_1, d.before a0 Z = true) (i : Nat) {d : Jvm.Cond} (q : tables_1[i]? = some d) : d.before a0 Z = true := hw _ (List.mem_of_getElem? q)
/-- a body that writes nothing and makes nothing -/
def own_R (r : Option Value) (h0 : Heap) (v : Option Value) (h : Heap) (L : List Loc) : Prop := v = r ∧ h = h0 ∧ L = []
theorem own_same {rm : Room} {T' : State} {L : List Loc} (hc : rm.cells = 0) (hs : rm.slots = 0) (X : Stand p l e R s m args below meth c T' (locs ++ L) (cells + rm.cells) (slots + rm.slots)) (q : L = []) : Stand p l e R s m args below meth c T' locs cells slots := by
  subst q
  rw [hc, hs, List.append_nil] at X
  exact X
theorem own_pureS (X : Stand p l e R s m args below meth c T locs cells slots) (hx : p.tables.exec = Jvm.exec) {F : State → Prop} (hZ : Z.Warmed39 s.vm) {own : String} {index : Nat} {y : MethodName} {bytes : ByteArray} {maxL : Nat} {ret : Option FieldType} {rm : Room} (hown : s.vm.findClass own = some m.cls)
    (w1 : (Cond.methodLink own index y).before a0 Z = true) (w2 : (Cond.static y).before a0 Z = true) (w3 : (Cond.initialized y.cls).before a0 Z = true) (w4 : (Cond.code y bytes maxL ret).before a0 Z = true) (hy : y.cls ≠ "java/lang/invoke/MethodHandle" ∧ y.cls ≠ "java/lang/invoke/VarHandle")
    (argsL rest : List Value) (W : Nat) {r : Value} (hM : own_Met l y bytes maxL ret [] rm Z argsL.toArray h (own_R (some r) h)) (hf : rm.frames + 1 ≤ R.frames) (hl : W + (maxL + 11) + rm.locals ≤ R.locals) (hc0 : rm.cells = 0) (hs0 : rm.slots = 0) (eT : T.heap = h) {pc : Nat} {Ls : Array Slot} (hsize : Ls.size = c.maxLocals)
    (hlen : ∀ sig, parseMethodDescriptor y.desc = some sig → argsL.length = sig.parameters.length) (hW : 2 * 0 + (rest.map fun v => v.category).sum ≤ W) (hd : decode c.code pc = .ok (.invokestatic index, 3)) (pc' : Nat) (hp : pc + 3 = pc') {St : List Value} (hs : St = argsL.reverse ++ rest) (hC : cells ≤ R.cells) (hN : slots ≤ R.slots)
    (k : ∀ T', Stand p l e R s m args below meth c T' locs cells slots → T'.heap = h → own_Go p.tables e below F (T'.setTop (mkF m pc' Ls (r :: rest)))) : own_Go p.tables e below F (T.setTop (mkF m pc Ls St)) := by
  subst hp hs
  obtain ⟨v, T', L, X', ⟨q1, q2, q3⟩, st⟩ := own_callS X hx hZ hown w1 w2 w3 w4 hy argsL rest W hM hf hl eT hsize hlen hW hd (by rw [hc0]; exact hC) (by rw [hs0]; exact hN)
  subst q1
  exact own_by st (k T' (own_same hc0 hs0 X' q3) q2)
theorem own_pureV (X : Stand p l e R s m args below meth c T locs cells slots) (hx : p.tables.exec = Jvm.exec) {F : State → Prop} (hZ : Z.Warmed39 s.vm) {own C : String} {index : Nat} {y z : MethodName} {bytes : ByteArray} {maxL : Nat} {ret : Option FieldType} {rm : Room} (hown : s.vm.findClass own = some m.cls)
    (w1 : (Cond.methodLink own index y).before a0 Z = true) (w2 : (Cond.declares y).before a0 Z = true) (hnf : NotFace s y) (w3 : (Cond.selects C y z).before a0 Z = true) (w4 : (Cond.instanceMethod z).before a0 Z = true) (w5 : (Cond.initialized z.cls).before a0 Z = true) (w6 : (Cond.code z bytes maxL ret).before a0 Z = true) (hy : y.cls ≠ "java/lang/invoke/MethodHandle" ∧ y.cls ≠ "java/lang/invoke/VarHandle")
    (b : Addr) (argsL rest : List Value) (W : Nat) {r : Value} (hM : own_Met l z bytes maxL ret [] rm Z (.ref b :: argsL).toArray h (own_R (some r) h)) (hf : rm.frames + 1 ≤ R.frames) (hl : W + (maxL + 11) + rm.locals ≤ R.locals) (hc0 : rm.cells = 0) (hs0 : rm.slots = 0) (eT : T.heap = h) (E : Exa Z h b C) {pc : Nat} {Ls : Array Slot} (hsize : Ls.size = c.maxLocals)
    (hlen : ∀ sig, parseMethodDescriptor y.desc = some sig → argsL.length = sig.parameters.length) (hW : 2 * 0 + (rest.map fun v => v.category).sum ≤ W) (hd : decode c.code pc = .ok (.invokevirtual index, 3)) (pc' : Nat) (hp : pc + 3 = pc') {St : List Value} (hs : St = argsL.reverse ++ .ref b :: rest) (hC : cells ≤ R.cells) (hN : slots ≤ R.slots)
    (k : ∀ T', Stand p l e R s m args below meth c T' locs cells slots → T'.heap = h → own_Go p.tables e below F (T'.setTop (mkF m pc' Ls (r :: rest)))) : own_Go p.tables e below F (T.setTop (mkF m pc Ls St)) := by
  subst hp hs
  obtain ⟨v, T', L, X', ⟨q1, q2, q3⟩, st⟩ := own_callV X hx hZ hown w1 w2 hnf w3 w4 w5 w6 hy b argsL rest W hM hf hl eT E hsize hlen hW hd (by rw [hc0]; exact hC) (by rw [hs0]; exact hN)
  subst q1
  exact own_by st (k T' (own_same hc0 hs0 X' q3) q2)
theorem own_pureU (X : Stand p l e R s m args below meth c T locs cells slots) (hx : p.tables.exec = Jvm.exec) {F : State → Prop} (hZ : Z.Warmed39 s.vm) {own C owner : String} {index : Nat} {x z : MethodName} {bytes : ByteArray} {maxL : Nat} {ret : Option FieldType} {rm : Room} (hown : s.vm.findClass own = some m.cls)
    (w1 : (Cond.methodLink own index x).before a0 Z = true) (w2 : (Cond.sameMethod x.cls owner x.name x.desc).before a0 Z = true) (w2' : (Cond.declares ⟨owner, x.name, x.desc⟩).before a0 Z = true) (hy : owner ≠ "java/lang/invoke/MethodHandle" ∧ owner ≠ "java/lang/invoke/VarHandle") (w3 : (Cond.selects C x z).before a0 Z = true) (w4 : (Cond.instanceMethod z).before a0 Z = true) (w5 : (Cond.initialized z.cls).before a0 Z = true) (w6 : (Cond.code z bytes maxL ret).before a0 Z = true)
    (b : Addr) (argsL rest : List Value) (W : Nat) {r : Value} (hM : own_Met l z bytes maxL ret [] rm Z (.ref b :: argsL).toArray h (own_R (some r) h)) (hf : rm.frames + 1 ≤ R.frames) (hl : W + (maxL + 11) + rm.locals ≤ R.locals) (hc0 : rm.cells = 0) (hs0 : rm.slots = 0) (eT : T.heap = h) (E : Exa Z h b C) {pc : Nat} {Ls : Array Slot} (hsize : Ls.size = c.maxLocals)
    (hlen : ∀ sig, parseMethodDescriptor x.desc = some sig → argsL.length = sig.parameters.length) (hW : 2 * 0 + (rest.map fun v => v.category).sum ≤ W) (hd : decode c.code pc = .ok (.invokevirtual index, 3)) (pc' : Nat) (hp : pc + 3 = pc') {St : List Value} (hs : St = argsL.reverse ++ .ref b :: rest) (hC : cells ≤ R.cells) (hN : slots ≤ R.slots)
    (k : ∀ T', Stand p l e R s m args below meth c T' locs cells slots → T'.heap = h → own_Go p.tables e below F (T'.setTop (mkF m pc' Ls (r :: rest)))) : own_Go p.tables e below F (T.setTop (mkF m pc Ls St)) := by
  subst hp hs
  obtain ⟨v, T', L, X', ⟨q1, q2, q3⟩, st⟩ := own_callU X hx hZ hown w1 w2 w2' hy w3 w4 w5 w6 b argsL rest W hM hf hl eT E hsize hlen hW hd (by rw [hc0]; exact hC) (by rw [hs0]; exact hN)
  subst q1
  exact own_by st (k T' (own_same hc0 hs0 X' q3) q2)
theorem own_voidS (X : Stand p l e R s m args below meth c T locs cells slots) (hx : p.tables.exec = Jvm.exec) {F : State → Prop} (hZ : Z.Warmed39 s.vm) {own : String} {index : Nat} {y : MethodName} {bytes : ByteArray} {maxL : Nat} {ret : Option FieldType} {rm : Room} (hown : s.vm.findClass own = some m.cls)
    (w1 : (Cond.methodLink own index y).before a0 Z = true) (w2 : (Cond.static y).before a0 Z = true) (w3 : (Cond.initialized y.cls).before a0 Z = true) (w4 : (Cond.code y bytes maxL ret).before a0 Z = true) (hy : y.cls ≠ "java/lang/invoke/MethodHandle" ∧ y.cls ≠ "java/lang/invoke/VarHandle")
    (argsL rest : List Value) (W : Nat) (hM : own_Met l y bytes maxL ret [] rm Z argsL.toArray h (own_R none h)) (hf : rm.frames + 1 ≤ R.frames) (hl : W + (maxL + 11) + rm.locals ≤ R.locals) (hc0 : rm.cells = 0) (hs0 : rm.slots = 0) (eT : T.heap = h) {pc : Nat} {Ls : Array Slot} (hsize : Ls.size = c.maxLocals)
    (hlen : ∀ sig, parseMethodDescriptor y.desc = some sig → argsL.length = sig.parameters.length) (hW : 2 * 0 + (rest.map fun v => v.category).sum ≤ W) (hd : decode c.code pc = .ok (.invokestatic index, 3)) (pc' : Nat) (hp : pc + 3 = pc') {St : List Value} (hs : St = argsL.reverse ++ rest) (hC : cells ≤ R.cells) (hN : slots ≤ R.slots)
    (k : ∀ T', Stand p l e R s m args below meth c T' locs cells slots → T'.heap = h → own_Go p.tables e below F (T'.setTop (mkF m pc' Ls rest))) : own_Go p.tables e below F (T.setTop (mkF m pc Ls St)) := by
  subst hp hs
  obtain ⟨v, T', L, X', ⟨q1, q2, q3⟩, st⟩ := own_callS X hx hZ hown w1 w2 w3 w4 hy argsL rest W hM hf hl eT hsize hlen hW hd (by rw [hc0]; exact hC) (by rw [hs0]; exact hN)
  subst q1
  exact own_by st (k T' (own_same hc0 hs0 X' q3) q2)
theorem own_voidV (X : Stand p l e R s m args below meth c T locs cells slots) (hx : p.tables.exec = Jvm.exec) {F : State → Prop} (hZ : Z.Warmed39 s.vm) {own C : String} {index : Nat} {y z : MethodName} {bytes : ByteArray} {maxL : Nat} {ret : Option FieldType} {rm : Room} (hown : s.vm.findClass own = some m.cls)
    (w1 : (Cond.methodLink own index y).before a0 Z = true) (w2 : (Cond.declares y).before a0 Z = true) (hnf : NotFace s y) (w3 : (Cond.selects C y z).before a0 Z = true) (w4 : (Cond.instanceMethod z).before a0 Z = true) (w5 : (Cond.initialized z.cls).before a0 Z = true) (w6 : (Cond.code z bytes maxL ret).before a0 Z = true) (hy : y.cls ≠ "java/lang/invoke/MethodHandle" ∧ y.cls ≠ "java/lang/invoke/VarHandle")
    (b : Addr) (argsL rest : List Value) (W : Nat) (hM : own_Met l z bytes maxL ret [] rm Z (.ref b :: argsL).toArray h (own_R none h)) (hf : rm.frames + 1 ≤ R.frames) (hl : W + (maxL + 11) + rm.locals ≤ R.locals) (hc0 : rm.cells = 0) (hs0 : rm.slots = 0) (eT : T.heap = h) (E : Exa Z h b C) {pc : Nat} {Ls : Array Slot} (hsize : Ls.size = c.maxLocals)
    (hlen : ∀ sig, parseMethodDescriptor y.desc = some sig → argsL.length = sig.parameters.length) (hW : 2 * 0 + (rest.map fun v => v.category).sum ≤ W) (hd : decode c.code pc = .ok (.invokevirtual index, 3)) (pc' : Nat) (hp : pc + 3 = pc') {St : List Value} (hs : St = argsL.reverse ++ .ref b :: rest) (hC : cells ≤ R.cells) (hN : slots ≤ R.slots)
    (k : ∀ T', Stand p l e R s m args below meth c T' locs cells slots → T'.heap = h → own_Go p.tables e below F (T'.setTop (mkF m pc' Ls rest))) : own_Go p.tables e below F (T.setTop (mkF m pc Ls St)) := by
  subst hp hs
  obtain ⟨v, T', L, X', ⟨q1, q2, q3⟩, st⟩ := own_callV X hx hZ hown w1 w2 hnf w3 w4 w5 w6 hy b argsL rest W hM hf hl eT E hsize hlen hW hd (by rw [hc0]; exact hC) (by rw [hs0]; exact hN)
  subst q1
  exact own_by st (k T' (own_same hc0 hs0 X' q3) q2)
theorem own_voidN (X : Stand p l e R s m args below meth c T locs cells slots) (hx : p.tables.exec = Jvm.exec) {F : State → Prop} (hZ : Z.Warmed39 s.vm) {own : String} {index : Nat} {y : MethodName} {bytes : ByteArray} {maxL : Nat} {rm : Room} (hy1 : y.name = "<init>") (hown : s.vm.findClass own = some m.cls)
    (w1 : (Cond.methodLink own index y).before a0 Z = true) (w4 : (Cond.instanceMethod y).before a0 Z = true) (w5 : (Cond.initialized y.cls).before a0 Z = true) (w6 : (Cond.code y bytes maxL none).before a0 Z = true) (hy : y.cls ≠ "java/lang/invoke/MethodHandle" ∧ y.cls ≠ "java/lang/invoke/VarHandle")
    (b : Addr) (argsL rest : List Value) (W : Nat) (hM : own_Met l y bytes maxL none [] rm Z (.ref b :: argsL).toArray h (own_R none h)) (hf : rm.frames + 1 ≤ R.frames) (hl : W + (maxL + 11) + rm.locals ≤ R.locals) (hc0 : rm.cells = 0) (hs0 : rm.slots = 0) (eT : T.heap = h) {pc : Nat} {Ls : Array Slot} (hsize : Ls.size = c.maxLocals)
    (hlen : ∀ sig, parseMethodDescriptor y.desc = some sig → argsL.length = sig.parameters.length) (hW : 2 * 0 + (rest.map fun v => v.category).sum ≤ W) (hd : decode c.code pc = .ok (.invokespecial index, 3)) (pc' : Nat) (hp : pc + 3 = pc') {St : List Value} (hs : St = argsL.reverse ++ .ref b :: rest) (hC : cells ≤ R.cells) (hN : slots ≤ R.slots)
    (k : ∀ T', Stand p l e R s m args below meth c T' locs cells slots → T'.heap = h → own_Go p.tables e below F (T'.setTop (mkF m pc' Ls rest))) : own_Go p.tables e below F (T.setTop (mkF m pc Ls St)) := by
  subst hp hs
  obtain ⟨v, T', L, X', ⟨q1, q2, q3⟩, st⟩ := own_callN X hx hZ hy1 hown w1 w4 w5 w6 hy b argsL rest W hM hf hl eT hsize hlen hW hd (by rw [hc0]; exact hC) (by rw [hs0]; exact hN)
  subst q1
  exact own_by st (k T' (own_same hc0 hs0 X' q3) q2)
def own_Q0 (n0 : Nat) (v : Option Value) (h : Heap) (L : List Loc) : Prop := v = some (.int 1) ∧ Fr n0 L
end OwnHead
section OwnHeap
variable {p : Program} {l : Launch} {e : Env} {R : Room} {s : State} {m : MethodId} {args : Array Value} {below : List Frame} {meth : Method} {c : Code} {T : State} {locs : List Loc} {cells slots : Nat} {Z : State} {a0 : Array Value} {h : Heap}
theorem own_osz {n0 : Nat} (O : Old Z n0 h) : n0 ≤ h.size := O.1 ▸ O.2.1
theorem own_newO (X : Stand p l e R s m args below meth c T locs cells slots) (hx : p.tables.exec = Jvm.exec) {F : State → Prop} {pc : Nat} {Ls : Array Slot} {St : List Value} (hZ : Z.Warmed39 s.vm) {own C : String} {i n : Nat} (hown : s.vm.findClass own = some m.cls) (w : (Cond.classLink own i C).before a0 Z = true) (wi : (Cond.instantiable C n).before a0 Z = true) (wz : (Cond.initialized C).before a0 Z = true) (eT : T.heap = h)
    (hd : decode c.code pc = .ok (.new i, 3)) (pc' : Nat) (hp : pc + 3 = pc') (hC : cells + 1 ≤ R.cells) (hN : slots + n ≤ R.slots)
    (k : ∀ (T' : State) (a : Addr), h.size = a → Stand p l e R s m args below meth c T' locs (cells + 1) (slots + n) → Ext h T'.heap → Exa Z T'.heap a C → (∀ {O nm d : String} {ty : FieldType}, Laid Z a0 C O nm d → parseFieldDescriptor d = some ty → Fld Z T'.heap a O nm d (defaultValue ty)) → own_Go p.tables e below F (T'.setTop (mkF m pc' Ls (.ref a :: St)))) :
    own_Go p.tables e below F (T.setTop (mkF m pc Ls St)) := by
  subst hp
  obtain ⟨T', h', X', e', E, A, D, -, st⟩ := newO X hx hZ hown w wi wz eT (g := mkF m pc Ls St) rfl hd hC hN
  subst e'
  exact own_by st (k T' h.size rfl X' E A fun q r => D q r)
theorem own_fo {h h' : Heap} {a b : Addr} {sl : Nat} {v w : Value} {C n d : String} (F : Fld Z h b C n d w) (W : Wr h h' a sl v) (q : a ≠ b) : Fld Z h' b C n d w := F.other W (Or.inl q.symm)
theorem own_vo {h h' : Heap} {a b : Addr} {k : ClassId} {ty : FieldType} {z : Int32} {vs : List Value} {dv : Value} {sl : Nat} {v : Value} (F : Arv Z h b k ty z vs dv) (W : Wr h h' a sl v) (q : a ≠ b) : Arv Z h' b k ty z vs dv := F.other W q.symm
theorem own_nl {a b n k : Nat} (h1 : a < n) (h2 : n ≤ k) (h3 : k ≤ b) : a ≠ b := Nat.ne_of_lt (Nat.lt_of_lt_of_le h1 (Nat.le_trans h2 h3))
theorem own_putF (X : Stand p l e R s m args below meth c T locs cells slots) (hx : p.tables.exec = Jvm.exec) {F : State → Prop} {pc : Nat} {Ls : Array Slot} {St : List Value} (hZ : Z.Warmed39 s.vm) {own R0 O n d host C : String} {i kk : Nat} {ty : FieldType} (hown : s.vm.findClass own = some m.cls)
    (w : (Cond.fieldLink own i R0 n d).before a0 Z = true ∨ (Cond.fieldLinkNest own i R0 n d host).before a0 Z = true) (via : Via Z R0 O n d) (eT : T.heap = h) {a : Addr} {v old : Value} (G : Fld Z h a O n d old) (E : Exa Z h a C) (L : (Cond.lays C O n d).before a0 Z = true ∨ ((Cond.laysFinal C O n d).before a0 Z = true ∧ own = O ∧ meth.name = "<init>")) (wi : (Cond.instantiable C kk).before a0 Z = true)
    (hty : parseFieldDescriptor d = some ty) (hn : narrow ty v = v) (hf : fits ty v = true) (hd : decode c.code pc = .ok (.putfield i, 3)) (pc' : Nat) (hp : pc + 3 = pc')
    (k : ∀ (T' : State), Stand p l e R s m args below meth c T' (locs ++ [⟨a, Jvm.RoadKit.slotOf Z O n d⟩]) cells slots → Wr h T'.heap a (Jvm.RoadKit.slotOf Z O n d) v → own_Go p.tables e below F (T'.setTop (mkF m pc' Ls St))) :
    own_Go p.tables e below F (T.setTop (mkF m pc Ls (v :: .ref a :: St))) := by
  subst hp
  obtain ⟨T', h', X', e', W, st⟩ := putF X hx hZ hown w via eT G E L wi hty hn hf (g := mkF m pc Ls (v :: .ref a :: St)) rfl rfl hd
  subst e'
  exact own_by st (k T' X' W)
theorem own_putFN (X : Stand p l e R s m args below meth c T locs cells slots) (hx : p.tables.exec = Jvm.exec) {F : State → Prop} {pc : Nat} {Ls : Array Slot} {St : List Value} (hZ : Z.Warmed39 s.vm) {own R0 O n d C : String} {i kk : Nat} {ty : FieldType} (hown : s.vm.findClass own = some m.cls)
    (w : (Cond.fieldLink own i R0 n d).before a0 Z = true) (via : Via Z R0 O n d) (eT : T.heap = h) {a : Addr} {v old : Value} (v' : Value) (G : Fld Z h a O n d old) (E : Exa Z h a C) (L : (Cond.lays C O n d).before a0 Z = true ∨ ((Cond.laysFinal C O n d).before a0 Z = true ∧ own = O ∧ meth.name = "<init>")) (wi : (Cond.instantiable C kk).before a0 Z = true)
    (hty : parseFieldDescriptor d = some ty) (hn : narrow ty v = v') (hf : fits ty v' = true) (hd : decode c.code pc = .ok (.putfield i, 3)) (pc' : Nat) (hp : pc + 3 = pc')
    (k : ∀ (T' : State), Stand p l e R s m args below meth c T' (locs ++ [⟨a, Jvm.RoadKit.slotOf Z O n d⟩]) cells slots → Wr h T'.heap a (Jvm.RoadKit.slotOf Z O n d) v' → own_Go p.tables e below F (T'.setTop (mkF m pc' Ls St))) :
    own_Go p.tables e below F (T.setTop (mkF m pc Ls (v :: .ref a :: St))) := by
  subst hp
  obtain ⟨T', h', X', e', W, st⟩ := putFN X hx hZ hown w via eT G E L wi hty hn hf (g := mkF m pc Ls (v :: .ref a :: St)) rfl rfl hd
  subst e'
  exact own_by st (k T' X' W)
theorem own_initO (X : Stand p l e R s m args below meth c T locs cells slots) (hx : p.tables.exec = Jvm.exec) {F : State → Prop} {pc : Nat} {Ls : Array Slot} {St : List Value} (hZ : Z.Warmed39 s.vm) {own : String} {i : Nat} (hown : s.vm.findClass own = some m.cls) (w1 : (Cond.methodLink own i Lib.objectInit).before a0 Z = true) (w2 : (Cond.instanceMethod Lib.objectInit).before a0 Z = true)
    (w3 : (Cond.code Lib.objectInit ⟨#[0xb1]⟩ 1 none).before a0 Z = true) (eT : T.heap = h) (hsize : Ls.size = c.maxLocals) {a : Addr} (hd : decode c.code pc = .ok (.invokespecial i, 3)) (hf : 1 ≤ R.frames) (W : Nat) (hW : 2 * 0 + (St.map fun v => v.category).sum ≤ W) (hl : W + 12 ≤ R.locals) (pc' : Nat) (hp : pc + 3 = pc')
    (k : ∀ T', Stand p l e R s m args below meth c T' locs cells slots → T'.heap = h → own_Go p.tables e below F (T'.setTop (mkF m pc' Ls St))) : own_Go p.tables e below F (T.setTop (mkF m pc Ls (.ref a :: St))) := by
  subst hp
  obtain ⟨T', X', e', st⟩ := initO X hx hZ hown w1 w2 w3 eT (g := mkF m pc Ls (.ref a :: St)) rfl hsize rfl hd hf hW hl
  exact own_by st (k T' X' e')
theorem own_newP (X : Stand p l e R s m args below meth c T locs cells slots) (hx : p.tables.exec = Jvm.exec) {F : State → Prop} {pc : Nat} {Ls : Array Slot} {St : List Value} (hZ : Z.Warmed39 s.vm) {aty : ArrayType} (w : (Cond.arrayClass (newarray.typeOf aty)).before a0 Z = true) (eT : T.heap = h) (hd : decode c.code pc = .ok (.newarray aty, 2)) {n : Int32}
    (hn : ¬ n < 0) (cap : Nat) (hcap : n.toNatClampNeg ≤ cap) (hb : cap * 8 ≤ 536870912) (hC : cells + 1 ≤ R.cells) (hN : slots + cap ≤ R.slots) (ad : String) (had : "[" ++ (newarray.typeOf aty).toString = ad) (pc' : Nat) (hp : pc + 2 = pc')
    (k : ∀ (T' : State) (a : Addr) (cA : ClassId), h.size = a → Stand p l e R s m args below meth c T' locs (cells + 1) (slots + cap) → Ext h T'.heap → Arv Z T'.heap a cA (newarray.typeOf aty) n [] (defaultValue (newarray.typeOf aty)) → Exa Z T'.heap a ad → own_Go p.tables e below F (T'.setTop (mkF m pc' Ls (.ref a :: St)))) :
    own_Go p.tables e below F (T.setTop (mkF m pc Ls (.int n :: St))) := by
  subst hp
  obtain ⟨T', h', cA, X', e', E, A, D, st⟩ := newPE X hx hZ w eT (g := mkF m pc Ls (.int n :: St)) rfl hd rfl hn hcap hb hC hN had
  subst e'
  exact own_by st (k T' h.size cA rfl X' E (Arv.new A hn) D)
theorem own_newR (X : Stand p l e R s m args below meth c T locs cells slots) (hx : p.tables.exec = Jvm.exec) {F : State → Prop} {pc : Nat} {Ls : Array Slot} {St : List Value} (hZ : Z.Warmed39 s.vm) {own C : String} {i : Nat} (hown : s.vm.findClass own = some m.cls) (w1 : (Cond.classLink own i C).before a0 Z = true) (w2 : (Cond.arrayOver (.object C)).before a0 Z = true) (eT : T.heap = h) (hd : decode c.code pc = .ok (.anewarray i, 3)) {n : Int32}
    (hn : ¬ n < 0) (cap : Nat) (hcap : n.toNatClampNeg ≤ cap) (hb : cap * 8 ≤ 536870912) (hC : cells + 1 ≤ R.cells) (hN : slots + cap ≤ R.slots) (ad : String) (had : "[" ++ (FieldType.object C).toString = ad) (pc' : Nat) (hp : pc + 3 = pc')
    (k : ∀ (T' : State) (a : Addr) (cA : ClassId), h.size = a → Stand p l e R s m args below meth c T' locs (cells + 1) (slots + cap) → Ext h T'.heap → Arv Z T'.heap a cA (.object C) n [] .null → Exa Z T'.heap a ad → Ovr Z cA C → own_Go p.tables e below F (T'.setTop (mkF m pc' Ls (.ref a :: St)))) :
    own_Go p.tables e below F (T.setTop (mkF m pc Ls (.int n :: St))) := by
  subst hp
  obtain ⟨T', h', cA, X', e', E, A, D, O, st⟩ := newRE X hx hZ hown w1 w2 eT (g := mkF m pc Ls (.int n :: St)) rfl hd rfl hn hcap hb hC hN had
  subst e'
  exact own_by st (k T' h.size cA rfl X' E (Arv.new A hn) D O)
theorem own_newRA (X : Stand p l e R s m args below meth c T locs cells slots) (hx : p.tables.exec = Jvm.exec) {F : State → Prop} {pc : Nat} {Ls : Array Slot} {St : List Value} (hZ : Z.Warmed39 s.vm) {own C : String} {ty : FieldType} {i : Nat} (hown : s.vm.findClass own = some m.cls) (hCn : (FieldType.array ty).toString = C) (w1 : (Cond.classLink own i C).before a0 Z = true) (w2 : (Cond.arrayOver (.array ty)).before a0 Z = true) (eT : T.heap = h) (hd : decode c.code pc = .ok (.anewarray i, 3)) {n : Int32}
    (hn : ¬ n < 0) (cap : Nat) (hcap : n.toNatClampNeg ≤ cap) (hb : cap * 8 ≤ 536870912) (hC : cells + 1 ≤ R.cells) (hN : slots + cap ≤ R.slots) (ad : String) (had : "[" ++ C = ad) (pc' : Nat) (hp : pc + 3 = pc')
    (k : ∀ (T' : State) (a : Addr) (cA : ClassId), h.size = a → Stand p l e R s m args below meth c T' locs (cells + 1) (slots + cap) → Ext h T'.heap → Arv Z T'.heap a cA (.array ty) n [] .null → Exa Z T'.heap a ad → OvrA Z cA ty C → own_Go p.tables e below F (T'.setTop (mkF m pc' Ls (.ref a :: St)))) :
    own_Go p.tables e below F (T.setTop (mkF m pc Ls (.int n :: St))) := by
  subst hp
  obtain ⟨T', h', cA, X', e', E, A, D, O, st⟩ := newRA X hx hZ hown hCn w1 w2 eT (g := mkF m pc Ls (.int n :: St)) rfl hd rfl hn hcap hb hC hN had
  subst e'
  exact own_by st (k T' h.size cA rfl X' E (Arv.new A hn) D O)
theorem own_iastore (X : Stand p l e R s m args below meth c T locs cells slots) (hx : p.tables.exec = Jvm.exec) {F : State → Prop} {pc : Nat} {Ls : Array Slot} {St : List Value} (hZ : Z.Warmed39 s.vm) (eT : T.heap = h) {a : Addr} {ka : ClassId} {n j x : Int32} {vs : List Value} {dv : Value} (V : Arv Z h a ka .int n vs dv) (i : Nat) (hj : j.toNatClampNeg = i) (hb : ¬ j < 0 ∧ j < n) (hi : i < vs.length) (vs' : List Value) (hvs : vs.set i (.int x) = vs')
    (hd : decode c.code pc = .ok (.iastore, 1)) (pc' : Nat) (hp : pc + 1 = pc') (k : ∀ (T' : State), Stand p l e R s m args below meth c T' (locs ++ [⟨a, j.toNatClampNeg⟩]) cells slots → Wr h T'.heap a j.toNatClampNeg (.int x) → Arv Z T'.heap a ka .int n vs' dv → own_Go p.tables e below F (T'.setTop (mkF m pc' Ls St))) :
    own_Go p.tables e below F (T.setTop (mkF m pc Ls (.int x :: .int j :: .ref a :: St))) := by
  subst hp hvs
  obtain ⟨cl, A, q1, S, N, H, G⟩ := V
  obtain ⟨T', h', X', e', W, st⟩ := stI X hx hZ eT A (j := j) (inb_of S hb) (g := mkF m pc Ls (.int x :: .int j :: .ref a :: St)) rfl rfl hd
  subst e'
  exact own_by st (k T' X' W (Arv.set A q1 S N H G rfl W i hj hi))
theorem own_lastore (X : Stand p l e R s m args below meth c T locs cells slots) (hx : p.tables.exec = Jvm.exec) {F : State → Prop} {pc : Nat} {Ls : Array Slot} {St : List Value} (hZ : Z.Warmed39 s.vm) (eT : T.heap = h) {a : Addr} {ka : ClassId} {n j : Int32} {x : Int64} {vs : List Value} {dv : Value} (V : Arv Z h a ka .long n vs dv) (i : Nat) (hj : j.toNatClampNeg = i) (hb : ¬ j < 0 ∧ j < n) (hi : i < vs.length) (vs' : List Value) (hvs : vs.set i (.long x) = vs')
    (hd : decode c.code pc = .ok (.lastore, 1)) (pc' : Nat) (hp : pc + 1 = pc') (k : ∀ (T' : State), Stand p l e R s m args below meth c T' (locs ++ [⟨a, j.toNatClampNeg⟩]) cells slots → Wr h T'.heap a j.toNatClampNeg (.long x) → Arv Z T'.heap a ka .long n vs' dv → own_Go p.tables e below F (T'.setTop (mkF m pc' Ls St))) :
    own_Go p.tables e below F (T.setTop (mkF m pc Ls (.long x :: .int j :: .ref a :: St))) := by
  subst hp hvs
  obtain ⟨cl, A, q1, S, N, H, G⟩ := V
  obtain ⟨T', h', X', e', W, st⟩ := stJ X hx hZ eT A (j := j) (inb_of S hb) (g := mkF m pc Ls (.long x :: .int j :: .ref a :: St)) rfl rfl hd
  subst e'
  exact own_by st (k T' X' W (Arv.set A q1 S N H G rfl W i hj hi))
theorem own_aastore (X : Stand p l e R s m args below meth c T locs cells slots) (hx : p.tables.exec = Jvm.exec) {F : State → Prop} {pc : Nat} {Ls : Array Slot} {St : List Value} (hZ : Z.Warmed39 s.vm) (eT : T.heap = h) {a : Addr} {ka : ClassId} {ty : FieldType} {n j : Int32} {v : Value} {vs : List Value} {dv : Value} (V : Arv Z h a ka ty n vs dv) (hty : ty.isReference = true) (hv : fits ty v = true) (so : ∀ cl : Cell, Arr Z h a cl ty → cl.cls = ka → Sto Z h a v) (i : Nat) (hj : j.toNatClampNeg = i) (hb : ¬ j < 0 ∧ j < n) (hi : i < vs.length) (vs' : List Value) (hvs : vs.set i v = vs')
    (hd : decode c.code pc = .ok (.aastore, 1)) (pc' : Nat) (hp : pc + 1 = pc') (k : ∀ (T' : State), Stand p l e R s m args below meth c T' (locs ++ [⟨a, j.toNatClampNeg⟩]) cells slots → Wr h T'.heap a j.toNatClampNeg v → Arv Z T'.heap a ka ty n vs' dv → own_Go p.tables e below F (T'.setTop (mkF m pc' Ls St))) :
    own_Go p.tables e below F (T.setTop (mkF m pc Ls (v :: .int j :: .ref a :: St))) := by
  subst hp hvs
  obtain ⟨cl, A, q1, S, N, H, G⟩ := V
  obtain ⟨T', h', X', e', W, st⟩ := stR X hx hZ eT A (j := j) (inb_of S hb) hty (so cl A q1) (g := mkF m pc Ls (v :: .int j :: .ref a :: St)) rfl rfl hd
  subst e'
  exact own_by st (k T' X' W (Arv.set A q1 S N H G hv W i hj hi))
theorem own_iaload (X : Stand p l e R s m args below meth c T locs cells slots) (hx : p.tables.exec = Jvm.exec) {F : State → Prop} {pc : Nat} {Ls : Array Slot} {St : List Value} (hZ : Z.Warmed39 s.vm) (eT : T.heap = h) {a : Addr} {ka : ClassId} {n j : Int32} {vs : List Value} {dv : Value} (V : Arv Z h a ka .int n vs dv) (v : Value) (hb : ¬ j < 0 ∧ j < n) (u : vs.getD j.toNatClampNeg dv = v) (hd : decode c.code pc = .ok (.iaload, 1)) (pc' : Nat) (hp : pc + 1 = pc')
    (k : own_Go p.tables e below F (T.setTop (mkF m pc' Ls (v :: St)))) : own_Go p.tables e below F (T.setTop (mkF m pc Ls (.int j :: .ref a :: St))) := by
  subst hp
  obtain ⟨cl, A, q1, S, N, H, G⟩ := V
  exact own_by (fun _ q => X.iaload hx (j := j) (v := v) (by rw [eT]; exact A.1) (State.isArrayOf_alike hZ.alike A.2.1) A.2.2 (inb_of S hb) (H.at (inb_of S hb) u) (g := mkF m pc Ls (.int j :: .ref a :: St)) rfl rfl hd _ q) k
theorem own_laload (X : Stand p l e R s m args below meth c T locs cells slots) (hx : p.tables.exec = Jvm.exec) {F : State → Prop} {pc : Nat} {Ls : Array Slot} {St : List Value} (hZ : Z.Warmed39 s.vm) (eT : T.heap = h) {a : Addr} {ka : ClassId} {n j : Int32} {vs : List Value} {dv : Value} (V : Arv Z h a ka .long n vs dv) (v : Value) (hb : ¬ j < 0 ∧ j < n) (u : vs.getD j.toNatClampNeg dv = v) (hd : decode c.code pc = .ok (.laload, 1)) (pc' : Nat) (hp : pc + 1 = pc')
    (k : own_Go p.tables e below F (T.setTop (mkF m pc' Ls (v :: St)))) : own_Go p.tables e below F (T.setTop (mkF m pc Ls (.int j :: .ref a :: St))) := by
  subst hp
  obtain ⟨cl, A, q1, S, N, H, G⟩ := V
  exact own_by (fun _ q => X.laload hx (j := j) (v := v) (by rw [eT]; exact A.1) (State.isArrayOf_alike hZ.alike A.2.1) A.2.2 (inb_of S hb) (H.at (inb_of S hb) u) (g := mkF m pc Ls (.int j :: .ref a :: St)) rfl rfl hd _ q) k
theorem own_aaload (X : Stand p l e R s m args below meth c T locs cells slots) (hx : p.tables.exec = Jvm.exec) {F : State → Prop} {pc : Nat} {Ls : Array Slot} {St : List Value} (hZ : Z.Warmed39 s.vm) (eT : T.heap = h) {a : Addr} {ka : ClassId} {ty : FieldType} {n j : Int32} {vs : List Value} {dv : Value} (V : Arv Z h a ka ty n vs dv) (hty : ty.isReference = true) (v : Value) (hb : ¬ j < 0 ∧ j < n) (u : vs.getD j.toNatClampNeg dv = v) (hd : decode c.code pc = .ok (.aaload, 1)) (pc' : Nat) (hp : pc + 1 = pc')
    (k : own_Go p.tables e below F (T.setTop (mkF m pc' Ls (v :: St)))) : own_Go p.tables e below F (T.setTop (mkF m pc Ls (.int j :: .ref a :: St))) := by
  subst hp
  obtain ⟨cl, A, q1, S, N, H, G⟩ := V
  exact own_by (fun _ q => X.aaload hx (j := j) (v := v) (by rw [eT]; exact A.1) (State.isArrayOf_alike hZ.alike A.2.1) hty A.2.2 (inb_of S hb) (H.at (inb_of S hb) u) (g := mkF m pc Ls (.int j :: .ref a :: St)) rfl rfl hd _ q) k
theorem own_alen (X : Stand p l e R s m args below meth c T locs cells slots) (hx : p.tables.exec = Jvm.exec) {F : State → Prop} {pc : Nat} {Ls : Array Slot} {St : List Value} (hZ : Z.Warmed39 s.vm) (eT : T.heap = h) {a : Addr} {ka : ClassId} {ty : FieldType} {n : Int32} {vs : List Value} {dv : Value} (V : Arv Z h a ka ty n vs dv) (hd : decode c.code pc = .ok (.arraylength, 1)) (pc' : Nat) (hp : pc + 1 = pc')
    (k : own_Go p.tables e below F (T.setTop (mkF m pc' Ls (.int n :: St)))) : own_Go p.tables e below F (T.setTop (mkF m pc Ls (.ref a :: St))) := by
  subst hp
  obtain ⟨cl, A, q1, S, N, H, G⟩ := V
  refine own_by (fun _ q => X.arraylength hx (by rw [eT]; exact A.1) (State.isArrayOf_alike hZ.alike A.2.1) (g := mkF m pc Ls (.ref a :: St)) rfl rfl hd _ q) ?_
  rw [len_of S N]
  exact k
theorem own_ldc2 (X : Stand p l e R s m args below meth c T locs cells slots) (hx : p.tables.exec = Jvm.exec) {F : State → Prop} {pc : Nat} {Ls : Array Slot} {St : List Value} (hZ : Z.Warmed39 s.vm) {own : String} {i : Nat} {z : Int64} (hown : s.vm.findClass own = some m.cls) (w : (Cond.constantLong own i z).before a0 Z = true) (hd : decode c.code pc = .ok (.ldc2_w i, 3)) (pc' : Nat) (hp : pc + 3 = pc')
    (k : own_Go p.tables e below F (T.setTop (mkF m pc' Ls (.long z :: St)))) : own_Go p.tables e below F (T.setTop (mkF m pc Ls St)) := by
  subst hp
  exact own_by (fun _ q => X.ldc2Long hx hown (mvT hZ w) (g := mkF m pc Ls St) rfl hd _ q) k
theorem own_cast (X : Stand p l e R s m args below meth c T locs cells slots) (hx : p.tables.exec = Jvm.exec) {F : State → Prop} {pc : Nat} {Ls : Array Slot} {St : List Value} (hZ : Z.Warmed39 s.vm) {own K : String} {i : Nat} (hown : s.vm.findClass own = some m.cls) (w : (Cond.classLink own i K).before a0 Z = true) (eT : T.heap = h) {a : Addr} (I : Ins Z h a K true) (hd : decode c.code pc = .ok (.checkcast i, 3)) (pc' : Nat) (hp : pc + 3 = pc')
    (k : ∀ T', Stand p l e R s m args below meth c T' locs cells slots → T'.heap = h → own_Go p.tables e below F (T'.setTop (mkF m pc' Ls (.ref a :: St)))) : own_Go p.tables e below F (T.setTop (mkF m pc Ls (.ref a :: St))) := by
  subst hp
  obtain ⟨T', X', e', st⟩ := castY X hx hZ hown w eT I (g := mkF m pc Ls (.ref a :: St)) rfl rfl hd
  exact own_by st (k T' X' e')
theorem own_instY (X : Stand p l e R s m args below meth c T locs cells slots) (hx : p.tables.exec = Jvm.exec) {F : State → Prop} {pc : Nat} {Ls : Array Slot} {St : List Value} (hZ : Z.Warmed39 s.vm) {own K : String} {i : Nat} (hown : s.vm.findClass own = some m.cls) (w : (Cond.classLink own i K).before a0 Z = true) (eT : T.heap = h) {a : Addr} (I : Ins Z h a K true) (hd : decode c.code pc = .ok (.instanceof i, 3)) (pc' : Nat) (hp : pc + 3 = pc')
    (k : ∀ T', Stand p l e R s m args below meth c T' locs cells slots → T'.heap = h → own_Go p.tables e below F (T'.setTop (mkF m pc' Ls (.int 1 :: St)))) : own_Go p.tables e below F (T.setTop (mkF m pc Ls (.ref a :: St))) := by
  subst hp
  obtain ⟨T', X', e', st⟩ := instY X hx hZ hown w eT I (g := mkF m pc Ls (.ref a :: St)) rfl rfl hd
  exact own_by st (k T' X' e')
theorem own_instNull (X : Stand p l e R s m args below meth c T locs cells slots) (hx : p.tables.exec = Jvm.exec) {F : State → Prop} {pc : Nat} {Ls : Array Slot} {St : List Value} {i : Nat} (hd : decode c.code pc = .ok (.instanceof i, 3)) (pc' : Nat) (hp : pc + 3 = pc')
    (k : own_Go p.tables e below F (T.setTop (mkF m pc' Ls (.int 0 :: St)))) : own_Go p.tables e below F (T.setTop (mkF m pc Ls (.null :: St))) := by
  subst hp
  exact own_by (fun _ q => X.instanceofNull hx (g := mkF m pc Ls (.null :: St)) rfl rfl hd _ q) k
/-- a static stands where only objects were written -/
theorem own_staKeep {C n d : String} {w : Value} {h' : Heap} {ws : List Addr} (S : Sta Z h C n d w) (K : Keep h h' ws) (q : ∀ x ∈ ws, ∀ cell : Cell, h[x]? = some cell → cell.vm.isStatics = false) : Sta Z h' C n d w := by
  obtain ⟨cf, i, k, f, st, cell, h1, h2, h3, h4, h5, h6, h7⟩ := S
  exact ⟨cf, i, k, f, st, cell, h1, h2, h3, h4, K.2.1 st cell h5 (fun y => by rw [q st y cell h5] at h6; cases h6), h6, h7⟩
end OwnHeap

theorem own_fldI {Z : State} {args : Array Value} {t : Term} {a : Addr} {C n d : String} {k : Int32} (ev : t.eval args Z none [] Z = some (.ref a)) (q : (Cond.eq (.field t C n d) (.int k)).value args Z none Z [] = some true) : Fld Z Z.heap a C n d (.int k) := by
  exact Fld.start ((fld_at ev).symm.trans (eqv_i (F := .int k) rfl q))
theorem own_fldN {Z : State} {args : Array Value} {t : Term} {a : Addr} {C n d : String} (ev : t.eval args Z none [] Z = some (.ref a)) (q : (Cond.eq (.field t C n d) .null).value args Z none Z [] = some true) : Fld Z Z.heap a C n d .null := by
  exact Fld.start ((fld_at ev).symm.trans (null_v q))
theorem own_fldR {Z : State} {args : Array Value} {t u : Term} {a b : Addr} {C n d : String} (ev : t.eval args Z none [] Z = some (.ref a)) (eu : u.eval args Z none [] Z = some (.ref b)) (q : (Cond.eq (.field t C n d) u).value args Z none Z [] = some true) : Fld Z Z.heap a C n d (.ref b) := by
  obtain ⟨x, y, hx, hy, hk, hk'⟩ := cmp_v (Or.inl q)
  cases eu.symm.trans hy
  refine Fld.start ((fld_at ev).symm.trans ?_)
  rw [hx]
  cases x with
  | ref z => simp [Cond.value, hx, hy] at q; rw [q]
  | null => simp [Cond.value, hx, hy] at q
  | _ => simp_all [Kin, Value.isRef]

section OwnCache
variable {p : Program} {l : Launch} {e : Env} {R : Room} {s : State} {m : MethodId} {args : Array Value} {below : List Frame} {meth : Method} {c : Code} {T : State} {locs : List Loc} {cells slots : Nat} {Z : State} {a0 : Array Value} {h : Heap}
theorem own_lenOf {t : Term} {a : Addr} {cl : Cell} {ty : FieldType} {z : Int32} (ev : t.eval args Z none [] Z = some (.ref a)) (A : Arr Z Z.heap a cl ty) (q : (Cond.eq (.length t) (.int z)).value args Z none Z [] = some true) : cl.slots.size < 2 ^ 31 ∧ cl.slots.size.toInt32 = z := by
  have e1 : (Term.length t).eval args Z none [] Z = some (.int z) := eqv_i (F := .int z) rfl q
  have f := A.fin (Vm.Alike.refl _)
  by_cases hs : cl.slots.size < 2 ^ 31
  · rw [len_f ev f hs] at e1
    exact ⟨hs, Value.int.inj (Option.some.inj e1)⟩
  · simp [Term.eval, ev, f, hs] at e1
theorem own_boxJ {cls nm dsc : String} {a : Addr} (ev : (Term.static cls nm dsc).eval args Z none [] Z = some (.ref a)) (q1 : (Cond.arrayOf (.static cls nm dsc) (.object "java/lang/Long")).value args Z none Z [] = some true) (q2 : (Cond.eq (.length (.static cls nm dsc)) (.int 256)).value args Z none Z [] = some true)
    (q3 : (Cond.all (.static cls nm dsc) (.and (.exactly (.elem (.static cls nm dsc) (.index 0)) "java/lang/Long") (.eq (.field (.elem (.static cls nm dsc) (.index 0)) "java/lang/Long" "value" "J") (.op1 .i2l (.sub (.index 0) (.int 128)))))).value args Z none Z [] = some true) :
    ∃ cl, Bxs Z a cl "java/lang/Long" "J" 256 (fun j => .long (j - 128).toInt64) := by
  obtain ⟨cl, A⟩ := Arr.start ev q1
  obtain ⟨n1, n2⟩ := own_lenOf ev A q2
  refine ⟨cl, Bxs.start (fun _ => ev) A n1 n2 (by decide) q3 fun X j nn q => ?_⟩
  refine eqv_l (i2l_at ?_) q
  have hi : (Term.index 0).eval args Z none [j.toNatClampNeg] Z = some (.int j) := idx_at nn
  simp [Term.eval] at hi ⊢
  rw [hi]
theorem own_boxI {cls nm dsc : String} {a : Addr} (ev : (Term.static cls nm dsc).eval args Z none [] Z = some (.ref a)) (q1 : (Cond.arrayOf (.static cls nm dsc) (.object "java/lang/Integer")).value args Z none Z [] = some true) (q2 : (Cond.eq (.length (.static cls nm dsc)) (.int 256)).value args Z none Z [] = some true)
    (q3 : (Cond.all (.static cls nm dsc) (.and (.exactly (.elem (.static cls nm dsc) (.index 0)) "java/lang/Integer") (.eq (.field (.elem (.static cls nm dsc) (.index 0)) "java/lang/Integer" "value" "I") (.sub (.index 0) (.int 128))))).value args Z none Z [] = some true) :
    ∃ cl, Bxs Z a cl "java/lang/Integer" "I" 256 (fun j => .int (j - 128)) := by
  obtain ⟨cl, A⟩ := Arr.start ev q1
  obtain ⟨n1, n2⟩ := own_lenOf ev A q2
  refine ⟨cl, Bxs.start (fun _ => ev) A n1 n2 (by decide) q3 fun X j nn q => ?_⟩
  refine eqv_i ?_ q
  have hi : (Term.index 0).eval args Z none [j.toNatClampNeg] Z = some (.int j) := idx_at nn
  simp [Term.eval] at hi ⊢
  rw [hi]
theorem own_ixJ (x : Int64) (h1 : ¬ (lcmpW x (-128 : Int64) < (0 : Int32))) (h2 : ¬ ((0 : Int32) < lcmpW x (127 : Int64))) : (¬ (x.toInt32 + (128 : Int32)) < 0 ∧ (x.toInt32 + (128 : Int32)) < 256) ∧ ((x.toInt32 + (128 : Int32)) - 128).toInt64 = x := by
  rw [lcW, lc_lt, Int64.lt_iff_toInt_lt] at h1
  rw [lcW, lc_gt, Int64.lt_iff_toInt_lt] at h2
  have a1 : ((-128 : Int64)).toInt = -128 := by decide
  have a2 : ((127 : Int64)).toInt = 127 := by decide
  have a3 : ((128 : Int32)).toInt = 128 := by decide
  have a4 : ((256 : Int32)).toInt = 256 := by decide
  have a5 : ((0 : Int32)).toInt = 0 := by decide
  rw [a1] at h1
  rw [a2] at h2
  have e1 : x.toInt32.toInt = x.toInt := Jvm.Kit.i32_of_i64 (by omega) (by omega)
  have e2 : (x.toInt32 + (128 : Int32)).toInt = x.toInt + 128 := by rw [Jvm.Kit.i32_add (by rw [e1, a3]; omega) (by rw [e1, a3]; omega), e1, a3]
  have e3 : ((x.toInt32 + (128 : Int32)) - 128).toInt = x.toInt := by rw [Jvm.Kit.i32_sub (by rw [e2, a3]; omega) (by rw [e2, a3]; omega), e2, a3]; omega
  refine ⟨⟨?_, ?_⟩, ?_⟩
  · rw [Int32.lt_iff_toInt_lt, e2, a5]; omega
  · rw [Int32.lt_iff_toInt_lt, e2, a4]; omega
  · rw [← Int64.toInt_inj, Jvm.Kit.i64_of_i32, e3]
theorem own_ixI (x : Int32) (h1 : ¬ (x < (-128 : Int32))) (h2 : ¬ ((127 : Int32) < x)) : (¬ (x + (128 : Int32)) < 0 ∧ (x + (128 : Int32)) < 256) ∧ ((x + (128 : Int32)) - 128) = x := by
  rw [Int32.lt_iff_toInt_lt] at h1 h2
  have a1 : ((-128 : Int32)).toInt = -128 := by decide
  have a2 : ((127 : Int32)).toInt = 127 := by decide
  have a3 : ((128 : Int32)).toInt = 128 := by decide
  have a4 : ((256 : Int32)).toInt = 256 := by decide
  have a5 : ((0 : Int32)).toInt = 0 := by decide
  rw [a1] at h1
  rw [a2] at h2
  have e2 : (x + (128 : Int32)).toInt = x.toInt + 128 := by rw [Jvm.Kit.i32_add (by rw [a3]; omega) (by rw [a3]; omega), a3]
  have e3 : ((x + (128 : Int32)) - 128).toInt = x.toInt := by rw [Jvm.Kit.i32_sub (by rw [e2, a3]; omega) (by rw [e2, a3]; omega), e2, a3]; omega
  refine ⟨⟨?_, ?_⟩, ?_⟩
  · rw [Int32.lt_iff_toInt_lt, e2, a5]; omega
  · rw [Int32.lt_iff_toInt_lt, e2, a4]; omega
  · rw [← Int32.toInt_inj, e3]
/-- a read of a cache of boxes -/
theorem own_box (X : Stand p l e R s m args below meth c T locs cells slots) (hx : p.tables.exec = Jvm.exec) {F : State → Prop} {pc : Nat} {Ls : Array Slot} {St : List Value} (hZ : Z.Warmed39 s.vm) (eT : T.heap = h) {n0 : Nat} (O : Old Z n0 h) {a : Addr} {cl : Cell} {K d : String} {val : Int32 → Value} (B : Bxs Z a cl K d 256 val) {j : Int32} (hb : ¬ j < 0 ∧ j < 256) (hd : decode c.code pc = .ok (.aaload, 1)) (pc' : Nat) (hp : pc + 1 = pc')
    (k : ∀ r : Addr, Exa Z h r K → Fld Z h r K "value" d (val j) → own_Go p.tables e below F (T.setTop (mkF m pc' Ls (.ref r :: St)))) : own_Go p.tables e below F (T.setTop (mkF m pc Ls (.int j :: .ref a :: St))) := by
  subst hp
  obtain ⟨A, S, N, H⟩ := B
  obtain ⟨r, u1, u2, u3⟩ := H j (inb_of S hb)
  exact own_by (fun _ q => X.aaload hx (j := j) (v := .ref r) (by rw [eT]; exact (A.ext O.2).1) (State.isArrayOf_alike hZ.alike A.2.1) rfl A.2.2 (inb_of S hb) u1 (g := mkF m pc Ls (.int j :: .ref a :: St)) rfl rfl hd _ q) (k r (u2.ext O.2) (u3.ext O.2))
theorem own_root {O K : String} {t : ClassId} (w : (Cond.noSuperclass O).before a0 Z = true) (g1 : Z.vm.findClass K = some t) (hn : O ≠ K) : NS Z O K := by
  obtain ⟨c, k, h1, h2, h3, -, -⟩ := Cond.noSuperclass_spec w
  have ne := ids_ne h1 g1 hn
  refine ⟨c, t, h1, g1, fun fuel => ?_⟩
  cases fuel with
  | zero => rfl
  | succ f => simp [Vm.isSubclassAux, ne, h2, h3]
theorem own_no {C S K : String} {n : Nat} (w : (Cond.superclass C S).before a0 Z = true) (wk : (Cond.instantiable K n).before a0 Z = true) (q : NS Z C K) (hn : C ≠ K) : ∃ c t, Z.vm.findClass C = some c ∧ Z.vm.findClass K = some t ∧ Z.vm.assignable c t = false := by
  obtain ⟨c, t, h0, g0, n3⟩ := q
  obtain ⟨p, k, kp, h1, h2, h3, h4, h5, -, h7⟩ := Cond.superclass_spec h0 w
  obtain ⟨c2, k2, i1, i2, i3, i4, -, -⟩ := Cond.instantiable_spec wk
  cases g0.symm.trans i1
  have ne := ids_ne h0 g0 hn
  have i5 : k2.isInterface = false := by simp only [Bool.or_eq_false_iff] at i4; exact i4.1
  refine ⟨c, t, h0, g0, ?_⟩
  show Z.vm.assignableAux (255 + 1) c t = false
  simp [Vm.assignableAux, ne, h2, i2, h5, i3, i5, Vm.isSubclass, n3]
theorem own_instNo (X : Stand p l e R s m args below meth c T locs cells slots) (hx : p.tables.exec = Jvm.exec) {F : State → Prop} {pc : Nat} {Ls : Array Slot} {St : List Value} (hZ : Z.Warmed39 s.vm) {own K C : String} {i : Nat} (hown : s.vm.findClass own = some m.cls) (w : (Cond.classLink own i K).before a0 Z = true) (eT : T.heap = h) {a : Addr} (E : Exa Z h a C) (I : ∃ c t, Z.vm.findClass C = some c ∧ Z.vm.findClass K = some t ∧ Z.vm.assignable c t = false) (hd : decode c.code pc = .ok (.instanceof i, 3)) (pc' : Nat) (hp : pc + 3 = pc')
    (k : ∀ T', Stand p l e R s m args below meth c T' locs cells slots → T'.heap = h → own_Go p.tables e below F (T'.setTop (mkF m pc' Ls (.int 0 :: St)))) : own_Go p.tables e below F (T.setTop (mkF m pc Ls (.ref a :: St))) := by
  subst hp
  obtain ⟨T', X', e', st⟩ := instNo X hx hZ hown w eT E I (g := mkF m pc Ls (.ref a :: St)) rfl rfl hd
  exact own_by st (k T' X' e')
end OwnCache

def own_C (Z : State) (h0 : Heap) (w_cacheJ : Addr) (c_cacheJ : Cell) : Prop := Sta Z h0 "java/lang/Long$LongCache" "cache" "[Ljava/lang/Long;" (.ref w_cacheJ) ∧ Bxs Z w_cacheJ c_cacheJ "java/lang/Long" "J" 256 (fun j => .long (j - 128).toInt64)
theorem sn_0 {Z : State} {a0 : Array Value} (hw : own_HW Z a0) : Jvm.RoadKit.slotOf Z "com/example/maco/maco/model/PoolCounters" "destroyed" "J" ≠ Jvm.RoadKit.slotOf Z "com/example/maco/maco/model/PoolCounters" "created" "J" := Jvm.RoadKit.slot_ne (Or.inr (own_w hw 12 rfl)) (Or.inr (own_w hw 10 rfl)) (by decide) (t := .long) (t' := .long) (by decide) (by decide)
theorem sn_1 {Z : State} {a0 : Array Value} (hw : own_HW Z a0) : Jvm.RoadKit.slotOf Z "com/example/maco/maco/model/PoolCounters" "free" "I" ≠ Jvm.RoadKit.slotOf Z "com/example/maco/maco/model/PoolCounters" "created" "J" := Jvm.RoadKit.slot_ne (Or.inr (own_w hw 14 rfl)) (Or.inr (own_w hw 10 rfl)) (by decide) (t := .int) (t' := .long) (by decide) (by decide)
theorem sn_2 {Z : State} {a0 : Array Value} (hw : own_HW Z a0) : Jvm.RoadKit.slotOf Z "com/example/maco/maco/model/PoolCounters" "free" "I" ≠ Jvm.RoadKit.slotOf Z "com/example/maco/maco/model/PoolCounters" "destroyed" "J" := Jvm.RoadKit.slot_ne (Or.inr (own_w hw 14 rfl)) (Or.inr (own_w hw 12 rfl)) (by decide) (t := .int) (t' := .long) (by decide) (by decide)
theorem sn_3 {Z : State} {a0 : Array Value} (hw : own_HW Z a0) : Jvm.RoadKit.slotOf Z "com/example/maco/maco/model/PoolCounters" "shared" "I" ≠ Jvm.RoadKit.slotOf Z "com/example/maco/maco/model/PoolCounters" "created" "J" := Jvm.RoadKit.slot_ne (Or.inr (own_w hw 16 rfl)) (Or.inr (own_w hw 10 rfl)) (by decide) (t := .int) (t' := .long) (by decide) (by decide)
theorem sn_4 {Z : State} {a0 : Array Value} (hw : own_HW Z a0) : Jvm.RoadKit.slotOf Z "com/example/maco/maco/model/PoolCounters" "shared" "I" ≠ Jvm.RoadKit.slotOf Z "com/example/maco/maco/model/PoolCounters" "destroyed" "J" := Jvm.RoadKit.slot_ne (Or.inr (own_w hw 16 rfl)) (Or.inr (own_w hw 12 rfl)) (by decide) (t := .int) (t' := .long) (by decide) (by decide)
theorem sn_5 {Z : State} {a0 : Array Value} (hw : own_HW Z a0) : Jvm.RoadKit.slotOf Z "com/example/maco/maco/model/PoolCounters" "shared" "I" ≠ Jvm.RoadKit.slotOf Z "com/example/maco/maco/model/PoolCounters" "free" "I" := Jvm.RoadKit.slot_ne (Or.inr (own_w hw 16 rfl)) (Or.inr (own_w hw 14 rfl)) (by decide) (t := .int) (t' := .int) (by decide) (by decide)
theorem sn_6 {Z : State} {a0 : Array Value} (hw : own_HW Z a0) : Jvm.RoadKit.slotOf Z "com/example/maco/maco/model/PoolCounters" "unshared" "I" ≠ Jvm.RoadKit.slotOf Z "com/example/maco/maco/model/PoolCounters" "created" "J" := Jvm.RoadKit.slot_ne (Or.inr (own_w hw 18 rfl)) (Or.inr (own_w hw 10 rfl)) (by decide) (t := .int) (t' := .long) (by decide) (by decide)
theorem sn_7 {Z : State} {a0 : Array Value} (hw : own_HW Z a0) : Jvm.RoadKit.slotOf Z "com/example/maco/maco/model/PoolCounters" "unshared" "I" ≠ Jvm.RoadKit.slotOf Z "com/example/maco/maco/model/PoolCounters" "destroyed" "J" := Jvm.RoadKit.slot_ne (Or.inr (own_w hw 18 rfl)) (Or.inr (own_w hw 12 rfl)) (by decide) (t := .int) (t' := .long) (by decide) (by decide)
theorem sn_8 {Z : State} {a0 : Array Value} (hw : own_HW Z a0) : Jvm.RoadKit.slotOf Z "com/example/maco/maco/model/PoolCounters" "unshared" "I" ≠ Jvm.RoadKit.slotOf Z "com/example/maco/maco/model/PoolCounters" "free" "I" := Jvm.RoadKit.slot_ne (Or.inr (own_w hw 18 rfl)) (Or.inr (own_w hw 14 rfl)) (by decide) (t := .int) (t' := .int) (by decide) (by decide)
theorem sn_9 {Z : State} {a0 : Array Value} (hw : own_HW Z a0) : Jvm.RoadKit.slotOf Z "com/example/maco/maco/model/PoolCounters" "unshared" "I" ≠ Jvm.RoadKit.slotOf Z "com/example/maco/maco/model/PoolCounters" "shared" "I" := Jvm.RoadKit.slot_ne (Or.inr (own_w hw 18 rfl)) (Or.inr (own_w hw 16 rfl)) (by decide) (t := .int) (t' := .int) (by decide) (by decide)
theorem sn_10 {Z : State} {a0 : Array Value} (hw : own_HW Z a0) : Jvm.RoadKit.slotOf Z "com/example/maco/maco/model/PoolCounters" "waiting" "I" ≠ Jvm.RoadKit.slotOf Z "com/example/maco/maco/model/PoolCounters" "created" "J" := Jvm.RoadKit.slot_ne (Or.inr (own_w hw 20 rfl)) (Or.inr (own_w hw 10 rfl)) (by decide) (t := .int) (t' := .long) (by decide) (by decide)
theorem sn_11 {Z : State} {a0 : Array Value} (hw : own_HW Z a0) : Jvm.RoadKit.slotOf Z "com/example/maco/maco/model/PoolCounters" "waiting" "I" ≠ Jvm.RoadKit.slotOf Z "com/example/maco/maco/model/PoolCounters" "destroyed" "J" := Jvm.RoadKit.slot_ne (Or.inr (own_w hw 20 rfl)) (Or.inr (own_w hw 12 rfl)) (by decide) (t := .int) (t' := .long) (by decide) (by decide)
theorem sn_12 {Z : State} {a0 : Array Value} (hw : own_HW Z a0) : Jvm.RoadKit.slotOf Z "com/example/maco/maco/model/PoolCounters" "waiting" "I" ≠ Jvm.RoadKit.slotOf Z "com/example/maco/maco/model/PoolCounters" "free" "I" := Jvm.RoadKit.slot_ne (Or.inr (own_w hw 20 rfl)) (Or.inr (own_w hw 14 rfl)) (by decide) (t := .int) (t' := .int) (by decide) (by decide)
theorem sn_13 {Z : State} {a0 : Array Value} (hw : own_HW Z a0) : Jvm.RoadKit.slotOf Z "com/example/maco/maco/model/PoolCounters" "waiting" "I" ≠ Jvm.RoadKit.slotOf Z "com/example/maco/maco/model/PoolCounters" "shared" "I" := Jvm.RoadKit.slot_ne (Or.inr (own_w hw 20 rfl)) (Or.inr (own_w hw 16 rfl)) (by decide) (t := .int) (t' := .int) (by decide) (by decide)
theorem sn_14 {Z : State} {a0 : Array Value} (hw : own_HW Z a0) : Jvm.RoadKit.slotOf Z "com/example/maco/maco/model/PoolCounters" "waiting" "I" ≠ Jvm.RoadKit.slotOf Z "com/example/maco/maco/model/PoolCounters" "unshared" "I" := Jvm.RoadKit.slot_ne (Or.inr (own_w hw 20 rfl)) (Or.inr (own_w hw 18 rfl)) (by decide) (t := .int) (t' := .int) (by decide) (by decide)
def Q_rm__init__1 (Z : State) (h0 : Heap) (n0 : Nat) (b0 : Addr) (j0 : Int64) (j1 : Int64) (i2 : Int32) (i3 : Int32) (i4 : Int32) (i5 : Int32) (v : Option Value) (h : Heap) (L : List Loc) : Prop := v = none ∧ Fr n0 L ∧ Keep h0 h [b0] ∧ Exa Z h b0 "com/example/maco/maco/model/PoolCounters" ∧ Fld Z h b0 "com/example/maco/maco/model/PoolCounters" "created" "J" (.long j0) ∧ Fld Z h b0 "com/example/maco/maco/model/PoolCounters" "destroyed" "J" (.long j1) ∧ Fld Z h b0 "com/example/maco/maco/model/PoolCounters" "free" "I" (.int i2) ∧ Fld Z h b0 "com/example/maco/maco/model/PoolCounters" "shared" "I" (.int i3) ∧ Fld Z h b0 "com/example/maco/maco/model/PoolCounters" "unshared" "I" (.int i4) ∧ Fld Z h b0 "com/example/maco/maco/model/PoolCounters" "waiting" "I" (.int i5)
theorem d0_0 : decode prog_24_method_1_code 0 = .ok (.aload_n 0, 1) := by decide +kernel
theorem d0_1 : decode prog_24_method_1_code 1 = .ok (.invokespecial 1, 3) := by decide +kernel
theorem d0_4 : decode prog_24_method_1_code 4 = .ok (.aload_n 0, 1) := by decide +kernel
theorem d0_5 : decode prog_24_method_1_code 5 = .ok (.lload_n 1, 1) := by decide +kernel
theorem d0_6 : decode prog_24_method_1_code 6 = .ok (.putfield 7, 3) := by decide +kernel
theorem d0_9 : decode prog_24_method_1_code 9 = .ok (.aload_n 0, 1) := by decide +kernel
theorem d0_10 : decode prog_24_method_1_code 10 = .ok (.lload_n 3, 1) := by decide +kernel
theorem d0_11 : decode prog_24_method_1_code 11 = .ok (.putfield 13, 3) := by decide +kernel
theorem d0_14 : decode prog_24_method_1_code 14 = .ok (.aload_n 0, 1) := by decide +kernel
theorem d0_15 : decode prog_24_method_1_code 15 = .ok (.iload 5, 2) := by decide +kernel
theorem d0_17 : decode prog_24_method_1_code 17 = .ok (.putfield 16, 3) := by decide +kernel
theorem d0_20 : decode prog_24_method_1_code 20 = .ok (.aload_n 0, 1) := by decide +kernel
theorem d0_21 : decode prog_24_method_1_code 21 = .ok (.iload 6, 2) := by decide +kernel
theorem d0_23 : decode prog_24_method_1_code 23 = .ok (.putfield 20, 3) := by decide +kernel
theorem d0_26 : decode prog_24_method_1_code 26 = .ok (.aload_n 0, 1) := by decide +kernel
theorem d0_27 : decode prog_24_method_1_code 27 = .ok (.iload 7, 2) := by decide +kernel
theorem d0_29 : decode prog_24_method_1_code 29 = .ok (.putfield 23, 3) := by decide +kernel
theorem d0_32 : decode prog_24_method_1_code 32 = .ok (.aload_n 0, 1) := by decide +kernel
theorem d0_33 : decode prog_24_method_1_code 33 = .ok (.iload 8, 2) := by decide +kernel
theorem d0_35 : decode prog_24_method_1_code 35 = .ok (.putfield 26, 3) := by decide +kernel
theorem d0_38 : decode prog_24_method_1_code 38 = .ok (.return_, 1) := by decide +kernel
theorem pn_0 : plainName "com/example/maco/maco/model/PoolCounters" = true := by first | (simp [plainName, overriddenIn]; done) | decide +kernel
theorem ef_0 (m : MethodId) (y0 : Addr) (y1 : Int64) (y2 : Int64) (y3 : Int32) (y4 : Int32) (y5 : Int32) (y6 : Int32) : entryFrame m #[(.ref y0), (.long y1), (.long y2), (.int y3), (.int y4), (.int y5), (.int y6)] 9 = mkF m 0 #[.val (.ref y0), .val (.long y1), .second, .val (.long y2), .second, .val (.int y3), .val (.int y4), .val (.int y5), .val (.int y6)] [] := by first | (simp [entryFrame, mkF, argsToLocals, Value.category]; done) | rfl
theorem rm__init__1 (l : Launch) (Z : State) (a0 : Array Value) (hw : own_HW Z a0) (ws : List Jvm.Cond)  (h0 : Heap) (n0 : Nat) (O : Old Z n0 h0) (b0 : Addr) (j0 : Int64) (j1 : Int64) (i2 : Int32) (i3 : Int32) (i4 : Int32) (i5 : Int32) (E_b0 : Exa Z h0 b0 "com/example/maco/maco/model/PoolCounters") (F_b0_created : Fld Z h0 b0 "com/example/maco/maco/model/PoolCounters" "created" "J" (.long (0 : Int64))) (F_b0_destroyed : Fld Z h0 b0 "com/example/maco/maco/model/PoolCounters" "destroyed" "J" (.long (0 : Int64))) (F_b0_free : Fld Z h0 b0 "com/example/maco/maco/model/PoolCounters" "free" "I" (.int (0 : Int32))) (F_b0_shared : Fld Z h0 b0 "com/example/maco/maco/model/PoolCounters" "shared" "I" (.int (0 : Int32))) (F_b0_unshared : Fld Z h0 b0 "com/example/maco/maco/model/PoolCounters" "unshared" "I" (.int (0 : Int32))) (F_b0_waiting : Fld Z h0 b0 "com/example/maco/maco/model/PoolCounters" "waiting" "I" (.int (0 : Int32))) (g_b0 : n0 ≤ b0) :
    own_Met l (⟨"com/example/maco/maco/model/PoolCounters", "<init>", "(JJIIII)V"⟩ : MethodName) prog_24_method_1_code 9 none ws (own_rm 1 0 0 12) Z #[(.ref b0), (.long j0), (.long j1), (.int i2), (.int i3), (.int i4), (.int i5)] h0 (Q_rm__init__1 Z h0 n0 b0 j0 j1 i2 i3 i4 i5) := by
  refine own_met (plainFor_of_name pn_0) ?_
  intro p e s m below meth c T0 hx hby hml hown hret hk hnm hZ X0 e0
  have hown : s.vm.findClass "com/example/maco/maco/model/PoolCounters" = some m.cls := hown
  refine own_ent (ef_0 m b0 j0 j1 i2 i3 i4 i5) ?_
  refine own_aload_n X0 hx (hb hby d0_0) rfl rfl 1 rfl ?_
  refine own_initO X0 hx hZ hown (own_w hw 6 rfl) (own_w hw 7 rfl) (own_w hw 8 rfl) e0 (by rw [hml]; rfl) (hb hby d0_1) (by decide) 0 (Nat.le_of_eq rfl) (by decide) 4 rfl fun T1 X1 e1 => ?_
  refine own_aload_n X1 hx (hb hby d0_4) rfl rfl 5 rfl ?_
  refine own_lload_n X1 hx (hb hby d0_5) rfl 6 rfl ?_
  refine own_putF X1 hx hZ hown (host := "") (Or.inl (own_w hw 9 rfl)) Via.refl e1 F_b0_created E_b0 (Or.inr ⟨(own_w hw 10 rfl), rfl, hnm⟩) (own_w hw 1 rfl) (ty := .long) (by decide) rfl rfl (hb hby d0_6) 9 rfl fun T2 X2 W2 => ?_
  have G2 := Fld.same W2 F_b0_created
  have N3 := Fr.snoc X2 (Fr.nil n0) g_b0
  have K3 := Keep.wr (Keep.refl h0 [b0]) W2 (Or.inl (by simp))
  refine own_aload_n X2 hx (hb hby d0_9) rfl rfl 10 rfl ?_
  refine own_lload_n X2 hx (hb hby d0_10) rfl 11 rfl ?_
  have f5 := (F_b0_destroyed.other W2 (Or.inr (sn_0 hw)))
  have f6 := (E_b0.wr W2)
  refine own_putF X2 hx hZ hown (host := "") (Or.inl (own_w hw 11 rfl)) Via.refl rfl f5 f6 (Or.inr ⟨(own_w hw 12 rfl), rfl, hnm⟩) (own_w hw 1 rfl) (ty := .long) (by decide) rfl rfl (hb hby d0_11) 14 rfl fun T4 X4 W4 => ?_
  have G4 := Fld.same W4 f5
  have N7 := Fr.snoc X4 N3 g_b0
  have K7 := Keep.wr K3 W4 (Or.inl (by simp))
  refine own_aload_n X4 hx (hb hby d0_14) rfl rfl 15 rfl ?_
  refine own_iload X4 hx (hb hby d0_15) rfl 17 rfl ?_
  have f9 := ((F_b0_free.other W2 (Or.inr (sn_1 hw))).other W4 (Or.inr (sn_2 hw)))
  have f10 := (f6.wr W4)
  refine own_putF X4 hx hZ hown (host := "") (Or.inl (own_w hw 13 rfl)) Via.refl rfl f9 f10 (Or.inr ⟨(own_w hw 14 rfl), rfl, hnm⟩) (own_w hw 1 rfl) (ty := .int) (by decide) rfl rfl (hb hby d0_17) 20 rfl fun T8 X8 W8 => ?_
  have G8 := Fld.same W8 f9
  have N11 := Fr.snoc X8 N7 g_b0
  have K11 := Keep.wr K7 W8 (Or.inl (by simp))
  refine own_aload_n X8 hx (hb hby d0_20) rfl rfl 21 rfl ?_
  refine own_iload X8 hx (hb hby d0_21) rfl 23 rfl ?_
  have f13 := (((F_b0_shared.other W2 (Or.inr (sn_3 hw))).other W4 (Or.inr (sn_4 hw))).other W8 (Or.inr (sn_5 hw)))
  have f14 := (f10.wr W8)
  refine own_putF X8 hx hZ hown (host := "") (Or.inl (own_w hw 15 rfl)) Via.refl rfl f13 f14 (Or.inr ⟨(own_w hw 16 rfl), rfl, hnm⟩) (own_w hw 1 rfl) (ty := .int) (by decide) rfl rfl (hb hby d0_23) 26 rfl fun T12 X12 W12 => ?_
  have G12 := Fld.same W12 f13
  have N15 := Fr.snoc X12 N11 g_b0
  have K15 := Keep.wr K11 W12 (Or.inl (by simp))
  refine own_aload_n X12 hx (hb hby d0_26) rfl rfl 27 rfl ?_
  refine own_iload X12 hx (hb hby d0_27) rfl 29 rfl ?_
  have f17 := ((((F_b0_unshared.other W2 (Or.inr (sn_6 hw))).other W4 (Or.inr (sn_7 hw))).other W8 (Or.inr (sn_8 hw))).other W12 (Or.inr (sn_9 hw)))
  have f18 := (f14.wr W12)
  refine own_putF X12 hx hZ hown (host := "") (Or.inl (own_w hw 17 rfl)) Via.refl rfl f17 f18 (Or.inr ⟨(own_w hw 18 rfl), rfl, hnm⟩) (own_w hw 1 rfl) (ty := .int) (by decide) rfl rfl (hb hby d0_29) 32 rfl fun T16 X16 W16 => ?_
  have G16 := Fld.same W16 f17
  have N19 := Fr.snoc X16 N15 g_b0
  have K19 := Keep.wr K15 W16 (Or.inl (by simp))
  refine own_aload_n X16 hx (hb hby d0_32) rfl rfl 33 rfl ?_
  refine own_iload X16 hx (hb hby d0_33) rfl 35 rfl ?_
  have f21 := (((((F_b0_waiting.other W2 (Or.inr (sn_10 hw))).other W4 (Or.inr (sn_11 hw))).other W8 (Or.inr (sn_12 hw))).other W12 (Or.inr (sn_13 hw))).other W16 (Or.inr (sn_14 hw)))
  have f22 := (f18.wr W16)
  refine own_putF X16 hx hZ hown (host := "") (Or.inl (own_w hw 19 rfl)) Via.refl rfl f21 f22 (Or.inr ⟨(own_w hw 20 rfl), rfl, hnm⟩) (own_w hw 1 rfl) (ty := .int) (by decide) rfl rfl (hb hby d0_35) 38 rfl fun T20 X20 W20 => ?_
  have G20 := Fld.same W20 f21
  have N23 := Fr.snoc X20 N19 g_b0
  have K23 := Keep.wr K19 W20 (Or.inl (by simp))
  have f24 := (f22.wr W20)
  have f25 := (((((G2.other W4 (Or.inr (Ne.symm (sn_0 hw)))).other W8 (Or.inr (Ne.symm (sn_1 hw)))).other W12 (Or.inr (Ne.symm (sn_3 hw)))).other W16 (Or.inr (Ne.symm (sn_6 hw)))).other W20 (Or.inr (Ne.symm (sn_10 hw))))
  have f26 := ((((G4.other W8 (Or.inr (Ne.symm (sn_2 hw)))).other W12 (Or.inr (Ne.symm (sn_4 hw)))).other W16 (Or.inr (Ne.symm (sn_7 hw)))).other W20 (Or.inr (Ne.symm (sn_11 hw))))
  have f27 := (((G8.other W12 (Or.inr (Ne.symm (sn_5 hw)))).other W16 (Or.inr (Ne.symm (sn_8 hw)))).other W20 (Or.inr (Ne.symm (sn_12 hw))))
  have f28 := ((G12.other W16 (Or.inr (Ne.symm (sn_9 hw)))).other W20 (Or.inr (Ne.symm (sn_13 hw))))
  have f29 := (G16.other W20 (Or.inr (Ne.symm (sn_14 hw))))
  exact own_retV X20 hx hk hret (hb hby d0_38) (by show Q_rm__init__1 Z h0 n0 b0 j0 j1 i2 i3 i4 i5 _ T20.heap _; exact ⟨rfl, N23, K23, f24, f25, f26, f27, f28, f29, G20⟩) (by decide) (by decide)
theorem d1_0 : decode prog_24_method_8_code 0 = .ok (.aload_n 0, 1) := by decide +kernel
theorem d1_1 : decode prog_24_method_8_code 1 = .ok (.aload_n 1, 1) := by decide +kernel
theorem d1_2 : decode prog_24_method_8_code 2 = .ok (.if_acmp .ne 5, 3) := by decide +kernel
theorem d1_5 : decode prog_24_method_8_code 5 = .ok (.iconst 1, 1) := by decide +kernel
theorem d1_6 : decode prog_24_method_8_code 6 = .ok (.ireturn, 1) := by decide +kernel
theorem ef_1 (m : MethodId) (y0 : Addr) (y1 : Addr) : entryFrame m #[(.ref y0), (.ref y1)] 3 = mkF m 0 #[.val (.ref y0), .val (.ref y1), .unset] [] := by first | (simp [entryFrame, mkF, argsToLocals, Value.category]; done) | rfl
theorem rm_equals_2 (l : Launch) (Z : State) (a0 : Array Value) (hw : own_HW Z a0) (ws : List Jvm.Cond)  (h0 : Heap) (n0 : Nat) (O : Old Z n0 h0) (b0 : Addr) :
    own_Met l (⟨"com/example/maco/maco/model/PoolCounters", "equals", "(Ljava/lang/Object;)Z"⟩ : MethodName) prog_24_method_8_code 3 (some .boolean) ws (own_rm 0 0 0 0) Z #[(.ref b0), (.ref b0)] h0 (own_R (some (.int (1 : Int32))) h0) := by
  refine own_met (plainFor_of_name pn_0) ?_
  intro p e s m below meth c T0 hx hby hml hown hret hk hnm hZ X0 e0
  have hown : s.vm.findClass "com/example/maco/maco/model/PoolCounters" = some m.cls := hown
  refine own_ent (ef_1 m b0 b0) ?_
  refine own_aload_n X0 hx (hb hby d1_0) rfl rfl 1 rfl ?_
  refine own_aload_n X0 hx (hb hby d1_1) rfl rfl 2 rfl ?_
  refine own_acmp X0 hx true (hb hby d1_2) rfl rfl (decide_eq_true rfl) 5 (by decide) (by decide) ?_
  refine own_iconst X0 hx (hb hby d1_5) (1 : Int32) rfl 6 rfl ?_
  exact own_retZ X0 hx hk hret (hb hby d1_6) rfl ⟨rfl, e0, rfl⟩ (by decide) (by decide)
theorem d4_0 : decode jdk_18_method_1_code 0 = .ok (.aload_n 0, 1) := by decide +kernel
theorem d4_1 : decode jdk_18_method_1_code 1 = .ok (.invokespecial 1, 3) := by decide +kernel
theorem d4_4 : decode jdk_18_method_1_code 4 = .ok (.return_, 1) := by decide +kernel
theorem pn_1 : plainName "java/lang/Number" = true := by first | (simp [plainName, overriddenIn]; done) | decide +kernel
theorem ef_2 (m : MethodId) (y0 : Addr) : entryFrame m #[(.ref y0)] 1 = mkF m 0 #[.val (.ref y0)] [] := by first | (simp [entryFrame, mkF, argsToLocals, Value.category]; done) | rfl
theorem rm__init__4 (l : Launch) (Z : State) (a0 : Array Value) (hw : own_HW Z a0) (ws : List Jvm.Cond)  (h0 : Heap) (n0 : Nat) (O : Old Z n0 h0) (b0 : Addr) :
    own_Met l (⟨"java/lang/Number", "<init>", "()V"⟩ : MethodName) jdk_18_method_1_code 1 none ws (own_rm 1 0 0 12) Z #[(.ref b0)] h0 (own_R (none) h0) := by
  refine own_met (plainFor_of_name pn_1) ?_
  intro p e s m below meth c T0 hx hby hml hown hret hk hnm hZ X0 e0
  have hown : s.vm.findClass "java/lang/Number" = some m.cls := hown
  refine own_ent (ef_2 m b0) ?_
  refine own_aload_n X0 hx (hb hby d4_0) rfl rfl 1 rfl ?_
  refine own_initO X0 hx hZ hown (own_w hw 46 rfl) (own_w hw 7 rfl) (own_w hw 8 rfl) e0 (by rw [hml]; rfl) (hb hby d4_1) (by decide) 0 (Nat.le_of_eq rfl) (by decide) 4 rfl fun T1 X1 e1 => ?_
  exact own_retV X1 hx hk hret (hb hby d4_4) ⟨rfl, e1, rfl⟩ (by decide) (by decide)
def Q_rm__init__3 (Z : State) (h0 : Heap) (n0 : Nat) (b0 : Addr) (j0 : Int64) (v : Option Value) (h : Heap) (L : List Loc) : Prop := v = none ∧ Fr n0 L ∧ Keep h0 h [b0] ∧ Exa Z h b0 "java/lang/Long" ∧ Fld Z h b0 "java/lang/Long" "value" "J" (.long j0)
theorem pd_2 : parseMethodDescriptor "()V" = some ⟨[], none⟩ := by decide +kernel
theorem d3_0 : decode jdk_35_method_26_code 0 = .ok (.aload_n 0, 1) := by decide +kernel
theorem d3_1 : decode jdk_35_method_26_code 1 = .ok (.invokespecial 270, 3) := by decide +kernel
theorem d3_4 : decode jdk_35_method_26_code 4 = .ok (.aload_n 0, 1) := by decide +kernel
theorem d3_5 : decode jdk_35_method_26_code 5 = .ok (.lload_n 1, 1) := by decide +kernel
theorem d3_6 : decode jdk_35_method_26_code 6 = .ok (.putfield 273, 3) := by decide +kernel
theorem d3_9 : decode jdk_35_method_26_code 9 = .ok (.return_, 1) := by decide +kernel
theorem pn_2 : plainName "java/lang/Long" = true := by first | (simp [plainName, overriddenIn]; done) | decide +kernel
theorem ef_3 (m : MethodId) (y0 : Addr) (y1 : Int64) : entryFrame m #[(.ref y0), (.long y1)] 3 = mkF m 0 #[.val (.ref y0), .val (.long y1), .second] [] := by first | (simp [entryFrame, mkF, argsToLocals, Value.category]; done) | rfl
theorem rm__init__3 (l : Launch) (Z : State) (a0 : Array Value) (hw : own_HW Z a0) (ws : List Jvm.Cond)  (h0 : Heap) (n0 : Nat) (O : Old Z n0 h0) (b0 : Addr) (j0 : Int64) (E_b0 : Exa Z h0 b0 "java/lang/Long") (F_b0_value : Fld Z h0 b0 "java/lang/Long" "value" "J" (.long (0 : Int64))) (g_b0 : n0 ≤ b0) :
    own_Met l (⟨"java/lang/Long", "<init>", "(J)V"⟩ : MethodName) jdk_35_method_26_code 3 none ws (own_rm 2 0 0 24) Z #[(.ref b0), (.long j0)] h0 (Q_rm__init__3 Z h0 n0 b0 j0) := by
  refine own_met (plainFor_of_name pn_2) ?_
  intro p e s m below meth c T0 hx hby hml hown hret hk hnm hZ X0 e0
  have hown : s.vm.findClass "java/lang/Long" = some m.cls := hown
  refine own_ent (ef_3 m b0 j0) ?_
  refine own_aload_n X0 hx (hb hby d3_0) rfl rfl 1 rfl ?_
  refine own_voidN X0 hx hZ rfl hown (own_w hw 40 rfl) (own_w hw 41 rfl) (own_w hw 44 rfl) (own_w hw 45 rfl) (by decide) b0 [] [] 0 (rm__init__4 l Z a0 hw [] h0 n0 O b0) (by decide) (by decide) rfl rfl e0 (by rw [hml]; rfl) (lenOf pd_2 rfl) (Nat.le_of_eq rfl) (hb hby d3_1) 4 rfl rfl (by decide) (by decide) fun T2 X2 e2 => ?_
  refine own_aload_n X2 hx (hb hby d3_4) rfl rfl 5 rfl ?_
  refine own_lload_n X2 hx (hb hby d3_5) rfl 6 rfl ?_
  refine own_putF X2 hx hZ hown (host := "") (Or.inl (own_w hw 47 rfl)) Via.refl e2 F_b0_value E_b0 (Or.inr ⟨(own_w hw 48 rfl), rfl, hnm⟩) (own_w hw 35 rfl) (ty := .long) (by decide) rfl rfl (hb hby d3_6) 9 rfl fun T3 X3 W3 => ?_
  have G3 := Fld.same W3 F_b0_value
  have N4 := Fr.snoc X3 (Fr.nil n0) g_b0
  have K4 := Keep.wr (Keep.refl h0 [b0]) W3 (Or.inl (by simp))
  have f5 := (E_b0.wr W3)
  exact own_retV X3 hx hk hret (hb hby d3_9) (by show Q_rm__init__3 Z h0 n0 b0 j0 _ T3.heap _; exact ⟨rfl, N4, K4, f5, G3⟩) (by decide) (by decide)
def Q_rm_valueOf_J (Z : State) (h0 : Heap) (n0 : Nat) (x0 : Int64) (v : Option Value) (h : Heap) (L : List Loc) : Prop := ∃ r : Addr, v = some (.ref r) ∧ Fr n0 L ∧ Keep h0 h [] ∧ Exa Z h r "java/lang/Long" ∧ Fld Z h r "java/lang/Long" "value" "J" (.long x0)
theorem pd_3 : parseMethodDescriptor "(J)V" = some ⟨[.long], none⟩ := by decide +kernel
theorem d2_0 : decode jdk_35_method_24_code 0 = .ok (.sipush 128, 3) := by decide +kernel
theorem d2_3 : decode jdk_35_method_24_code 3 = .ok (.istore_n 2, 1) := by decide +kernel
theorem d2_4 : decode jdk_35_method_24_code 4 = .ok (.lload_n 0, 1) := by decide +kernel
theorem d2_5 : decode jdk_35_method_24_code 5 = .ok (.ldc2_w 230, 3) := by decide +kernel
theorem d2_8 : decode jdk_35_method_24_code 8 = .ok (.lcmp, 1) := by decide +kernel
theorem d2_9 : decode jdk_35_method_24_code 9 = .ok (.ifCond .lt 22, 3) := by decide +kernel
theorem d2_12 : decode jdk_35_method_24_code 12 = .ok (.lload_n 0, 1) := by decide +kernel
theorem d2_13 : decode jdk_35_method_24_code 13 = .ok (.ldc2_w 232, 3) := by decide +kernel
theorem d2_16 : decode jdk_35_method_24_code 16 = .ok (.lcmp, 1) := by decide +kernel
theorem d2_17 : decode jdk_35_method_24_code 17 = .ok (.ifCond .gt 14, 3) := by decide +kernel
theorem d2_20 : decode jdk_35_method_24_code 20 = .ok (.getstatic 234, 3) := by decide +kernel
theorem d2_23 : decode jdk_35_method_24_code 23 = .ok (.lload_n 0, 1) := by decide +kernel
theorem d2_24 : decode jdk_35_method_24_code 24 = .ok (.l2i, 1) := by decide +kernel
theorem d2_25 : decode jdk_35_method_24_code 25 = .ok (.sipush 128, 3) := by decide +kernel
theorem d2_28 : decode jdk_35_method_24_code 28 = .ok (.iadd, 1) := by decide +kernel
theorem d2_29 : decode jdk_35_method_24_code 29 = .ok (.aaload, 1) := by decide +kernel
theorem d2_30 : decode jdk_35_method_24_code 30 = .ok (.areturn, 1) := by decide +kernel
theorem d2_31 : decode jdk_35_method_24_code 31 = .ok (.new 1, 3) := by decide +kernel
theorem d2_34 : decode jdk_35_method_24_code 34 = .ok (.dup, 1) := by decide +kernel
theorem d2_35 : decode jdk_35_method_24_code 35 = .ok (.lload_n 0, 1) := by decide +kernel
theorem d2_36 : decode jdk_35_method_24_code 36 = .ok (.invokespecial 240, 3) := by decide +kernel
theorem d2_39 : decode jdk_35_method_24_code 39 = .ok (.areturn, 1) := by decide +kernel
theorem ef_4 (m : MethodId) (y0 : Int64) : entryFrame m #[(.long y0)] 3 = mkF m 0 #[.val (.long y0), .second, .unset] [] := by first | (simp [entryFrame, mkF, argsToLocals, Value.category]; done) | rfl
theorem rm_valueOf_J (l : Launch) (Z : State) (a0 : Array Value) (hw : own_HW Z a0) (ws : List Jvm.Cond) (x0 : Int64) (h0 : Heap) (n0 : Nat) {w_cacheJ : Addr} {c_cacheJ : Cell} (H : own_C Z Z.heap w_cacheJ c_cacheJ) (O : Old Z n0 h0) :
    own_Met l (⟨"java/lang/Long", "valueOf", "(J)Ljava/lang/Long;"⟩ : MethodName) jdk_35_method_24_code 3 (some (.object "java/lang/Long")) ws (own_rm 3 1 1 39) Z #[(.long x0)] h0 (Q_rm_valueOf_J Z h0 n0 x0) := by
  refine own_met (plainFor_of_name pn_2) ?_
  intro p e s m below meth c T0 hx hby hml hown hret hk hnm hZ X0 e0
  have hown : s.vm.findClass "java/lang/Long" = some m.cls := hown
  obtain ⟨S_w_cacheJ, B_w_cacheJ⟩ := id H
  refine own_ent (ef_4 m x0) ?_
  refine own_sipush X0 hx (hb hby d2_0) (128 : Int32) rfl 3 rfl ?_
  refine own_istore_n X0 hx (hb hby d2_3) #[.val (.long x0), .second, .val (.int (128 : Int32))] rfl 4 rfl ?_
  refine own_lload_n X0 hx (hb hby d2_4) rfl 5 rfl ?_
  refine own_ldc2 X0 hx hZ hown (own_w hw 32 rfl) (hb hby d2_5) 8 rfl ?_
  refine own_lcmp X0 hx (hb hby d2_8) 9 rfl ?_
  rcases Decidable.em ((lcmpW x0 (-128 : Int64)) < (0 : Int32)) with hc9_1 | hc9_1
  · skip
    refine own_ifY X0 hx (hb hby d2_9) ((if0 _ _).trans (tlt hc9_1).1) 31 (by decide) (by decide) ?_
    refine own_newO X0 hx hZ hown (own_w hw 34 rfl) (own_w hw 35 rfl) (own_w hw 30 rfl) e0 (hb hby d2_31) 34 rfl (by decide) (by decide) fun T2 a2 g2 X2 E2 A2 D2 => ?_
    have g_a2 : n0 ≤ a2 := Nat.le_trans (own_osz O) (Nat.le_of_eq g2)
    have z_a2 : h0.size ≤ a2 := Nat.le_trans ((Keep.refl h0 [])).1 (Nat.le_of_eq g2)
    have O3 := O.ext E2
    have K3 := Keep.ext (Keep.refl h0 []) E2
    have F2_value : Fld Z T2.heap a2 "java/lang/Long" "value" "J" (.long (0 : Int64)) := D2 (Or.inr (own_w hw 48 rfl)) (ty := .long) (by decide)
    refine own_dup X2 hx (hb hby d2_34) rfl 35 rfl ?_
    refine own_lload_n X2 hx (hb hby d2_35) rfl 36 rfl ?_
    refine own_kN X2 hx hZ rfl hown (own_w hw 36 rfl) (own_w hw 37 rfl) (own_w hw 30 rfl) (own_w hw 39 rfl) (by decide) a2 [(.long x0)] [(.ref a2)] 1 (rm__init__3 l Z a0 hw [] T2.heap n0 O3 a2 x0 A2 F2_value g_a2) (by decide) (by decide) rfl (by rw [hml]; rfl) (lenOf pd_3 rfl) (Nat.le_of_eq rfl) (hb hby d2_36) (by decide) (by decide) 39 rfl fun v4 T4 L4 X4 hQ4 => ?_
    obtain ⟨rfl, Nq4, Kq4, p4_0, p4_1⟩ := hQ4
    have N5 := Fr.app (Fr.nil n0) Nq4
    have K5 := Keep.trans K3 Kq4 (allS (Or.inr z_a2) all0)
    refine own_nV ?_
    exact own_retA X4 hx hk hret rfl rfl (hb hby d2_39) rfl (by show Q_rm_valueOf_J Z h0 n0 x0 _ T4.heap _; exact ⟨a2, rfl, N5, K5, p4_0, p4_1⟩) (by decide) (by decide)
  · skip
    refine own_ifN X0 hx (hb hby d2_9) ((if0 _ _).trans (flt hc9_1).1) 12 rfl ?_
    refine own_lload_n X0 hx (hb hby d2_12) rfl 13 rfl ?_
    refine own_ldc2 X0 hx hZ hown (own_w hw 33 rfl) (hb hby d2_13) 16 rfl ?_
    refine own_lcmp X0 hx (hb hby d2_16) 17 rfl ?_
    rcases Decidable.em ((0 : Int32) < (lcmpW x0 (127 : Int64))) with hc17_6 | hc17_6
    · skip
      refine own_ifY X0 hx (hb hby d2_17) ((if0 _ _).trans (tlt hc17_6).2.2.1) 31 (by decide) (by decide) ?_
      refine own_newO X0 hx hZ hown (own_w hw 34 rfl) (own_w hw 35 rfl) (own_w hw 30 rfl) e0 (hb hby d2_31) 34 rfl (by decide) (by decide) fun T7 a7 g7 X7 E7 A7 D7 => ?_
      have g_a7 : n0 ≤ a7 := Nat.le_trans (own_osz O) (Nat.le_of_eq g7)
      have z_a7 : h0.size ≤ a7 := Nat.le_trans ((Keep.refl h0 [])).1 (Nat.le_of_eq g7)
      have O8 := O.ext E7
      have K8 := Keep.ext (Keep.refl h0 []) E7
      have F7_value : Fld Z T7.heap a7 "java/lang/Long" "value" "J" (.long (0 : Int64)) := D7 (Or.inr (own_w hw 48 rfl)) (ty := .long) (by decide)
      refine own_dup X7 hx (hb hby d2_34) rfl 35 rfl ?_
      refine own_lload_n X7 hx (hb hby d2_35) rfl 36 rfl ?_
      refine own_kN X7 hx hZ rfl hown (own_w hw 36 rfl) (own_w hw 37 rfl) (own_w hw 30 rfl) (own_w hw 39 rfl) (by decide) a7 [(.long x0)] [(.ref a7)] 1 (rm__init__3 l Z a0 hw [] T7.heap n0 O8 a7 x0 A7 F7_value g_a7) (by decide) (by decide) rfl (by rw [hml]; rfl) (lenOf pd_3 rfl) (Nat.le_of_eq rfl) (hb hby d2_36) (by decide) (by decide) 39 rfl fun v9 T9 L9 X9 hQ9 => ?_
      obtain ⟨rfl, Nq9, Kq9, p9_0, p9_1⟩ := hQ9
      have N10 := Fr.app (Fr.nil n0) Nq9
      have K10 := Keep.trans K8 Kq9 (allS (Or.inr z_a7) all0)
      refine own_nV ?_
      exact own_retA X9 hx hk hret rfl rfl (hb hby d2_39) rfl (by show Q_rm_valueOf_J Z h0 n0 x0 _ T9.heap _; exact ⟨a7, rfl, N10, K10, p9_0, p9_1⟩) (by decide) (by decide)
    · skip
      refine own_ifN X0 hx (hb hby d2_17) ((if0 _ _).trans (flt hc17_6).2.2.1) 20 rfl ?_
      refine own_getS X0 hx hZ hown (host := "") (Or.inl (own_w hw 52 rfl)) Via.refl e0 (S_w_cacheJ.ext O.2) (hb hby d2_20) 23 rfl fun T11 X11 e11 => ?_
      refine own_lload_n X11 hx (hb hby d2_23) rfl 24 rfl ?_
      refine own_l2i X11 hx (hb hby d2_24) 25 rfl ?_
      refine own_sipush X11 hx (hb hby d2_25) (128 : Int32) rfl 28 rfl ?_
      refine own_iadd X11 hx (hb hby d2_28) 29 rfl ?_
      have hix := own_ixJ x0 hc9_1 hc17_6
      refine own_box X11 hx hZ e11 O B_w_cacheJ hix.1 (hb hby d2_29) 30 rfl fun r Er Fq => ?_
      have Fr2 : Fld Z h0 r "java/lang/Long" "value" "J" (.long ((((x0.toInt32) + (128 : Int32)) - 128).toInt64)) := Fq
      rw [hix.2] at Fr2
      exact own_retA X11 hx hk hret rfl rfl (hb hby d2_30) rfl (by show Q_rm_valueOf_J Z h0 n0 x0 _ T11.heap _; rw [e11]; exact ⟨r, rfl, (Fr.nil n0), (Keep.refl h0 []), Er, Fr2⟩) (by decide) (by decide)
theorem d1_7 : decode prog_24_method_8_code 7 = .ok (.aload_n 1, 1) := by decide +kernel
theorem d1_8 : decode prog_24_method_8_code 8 = .ok (.instanceof 8, 3) := by decide +kernel
theorem d1_11 : decode prog_24_method_8_code 11 = .ok (.ifCond .ne 5, 3) := by decide +kernel
theorem d1_14 : decode prog_24_method_8_code 14 = .ok (.iconst 0, 1) := by decide +kernel
theorem d1_15 : decode prog_24_method_8_code 15 = .ok (.ireturn, 1) := by decide +kernel
theorem rm_equals_5 (l : Launch) (Z : State) (a0 : Array Value) (hw : own_HW Z a0) (ws : List Jvm.Cond)  (h0 : Heap) (n0 : Nat) (O : Old Z n0 h0) (b0 : Addr) (b1 : Addr) (E_b1 : Exa Z h0 b1 "java/lang/Long") (ne_b0_b1 : b0 ≠ b1) :
    own_Met l (⟨"com/example/maco/maco/model/PoolCounters", "equals", "(Ljava/lang/Object;)Z"⟩ : MethodName) prog_24_method_8_code 3 (some .boolean) ws (own_rm 0 0 0 0) Z #[(.ref b0), (.ref b1)] h0 (own_R (some (.int (0 : Int32))) h0) := by
  refine own_met (plainFor_of_name pn_0) ?_
  intro p e s m below meth c T0 hx hby hml hown hret hk hnm hZ X0 e0
  have hown : s.vm.findClass "com/example/maco/maco/model/PoolCounters" = some m.cls := hown
  refine own_ent (ef_1 m b0 b1) ?_
  refine own_aload_n X0 hx (hb hby d1_0) rfl rfl 1 rfl ?_
  refine own_aload_n X0 hx (hb hby d1_1) rfl rfl 2 rfl ?_
  refine own_acmp X0 hx false (hb hby d1_2) rfl rfl (decide_eq_false fun q => ne_b0_b1 (Value.ref.inj q)) 7 (by decide) (by decide) ?_
  refine own_aload_n X0 hx (hb hby d1_7) rfl rfl 8 rfl ?_
  refine own_instNo X0 hx hZ hown (own_w hw 26 rfl) e0 E_b1 (own_no (own_w hw 49 rfl) (own_w hw 1 rfl) (NS.step (own_w hw 49 rfl) (NS.step (own_w hw 50 rfl) (own_root (own_w hw 51 rfl) (Cond.instantiable_spec (own_w hw 1 rfl)).choose_spec.choose_spec.1 (by decide)) (by decide)) (by decide)) (by decide)) (hb hby d1_8) 11 rfl fun T1 X1 e1 => ?_
  refine own_ifN X1 hx (hb hby d1_11) ((if0 _ _).trans (teq (by decide : (0 : Int32) = (0 : Int32))).2) 14 rfl ?_
  refine own_iconst X1 hx (hb hby d1_14) (0 : Int32) rfl 15 rfl ?_
  exact own_retZ X1 hx hk hret (hb hby d1_15) rfl ⟨rfl, e1, rfl⟩ (by decide) (by decide)
theorem ef_5 (m : MethodId) (y0 : Addr) : entryFrame m #[(.ref y0), .null] 3 = mkF m 0 #[.val (.ref y0), .val .null, .unset] [] := by first | (simp [entryFrame, mkF, argsToLocals, Value.category]; done) | rfl
theorem rm_equals_6 (l : Launch) (Z : State) (a0 : Array Value) (hw : own_HW Z a0) (ws : List Jvm.Cond)  (h0 : Heap) (n0 : Nat) (O : Old Z n0 h0) (b0 : Addr) :
    own_Met l (⟨"com/example/maco/maco/model/PoolCounters", "equals", "(Ljava/lang/Object;)Z"⟩ : MethodName) prog_24_method_8_code 3 (some .boolean) ws (own_rm 0 0 0 0) Z #[(.ref b0), .null] h0 (own_R (some (.int (0 : Int32))) h0) := by
  refine own_met (plainFor_of_name pn_0) ?_
  intro p e s m below meth c T0 hx hby hml hown hret hk hnm hZ X0 e0
  have hown : s.vm.findClass "com/example/maco/maco/model/PoolCounters" = some m.cls := hown
  refine own_ent (ef_5 m b0) ?_
  refine own_aload_n X0 hx (hb hby d1_0) rfl rfl 1 rfl ?_
  refine own_aload_n X0 hx (hb hby d1_1) rfl rfl 2 rfl ?_
  refine own_acmp X0 hx false (hb hby d1_2) rfl rfl (decide_eq_false nofun) 7 (by decide) (by decide) ?_
  refine own_aload_n X0 hx (hb hby d1_7) rfl rfl 8 rfl ?_
  refine own_instNull X0 hx (hb hby d1_8) 11 rfl ?_
  refine own_ifN X0 hx (hb hby d1_11) ((if0 _ _).trans (teq (by decide : (0 : Int32) = (0 : Int32))).2) 14 rfl ?_
  refine own_iconst X0 hx (hb hby d1_14) (0 : Int32) rfl 15 rfl ?_
  exact own_retZ X0 hx hk hret (hb hby d1_15) rfl ⟨rfl, e0, rfl⟩ (by decide) (by decide)
theorem d1_16 : decode prog_24_method_8_code 16 = .ok (.aload_n 1, 1) := by decide +kernel
theorem d1_17 : decode prog_24_method_8_code 17 = .ok (.checkcast 8, 3) := by decide +kernel
theorem d1_20 : decode prog_24_method_8_code 20 = .ok (.astore_n 2, 1) := by decide +kernel
theorem d1_21 : decode prog_24_method_8_code 21 = .ok (.aload_n 0, 1) := by decide +kernel
theorem d1_22 : decode prog_24_method_8_code 22 = .ok (.getfield 7, 3) := by decide +kernel
theorem d1_25 : decode prog_24_method_8_code 25 = .ok (.aload_n 2, 1) := by decide +kernel
theorem d1_26 : decode prog_24_method_8_code 26 = .ok (.getfield 7, 3) := by decide +kernel
theorem d1_29 : decode prog_24_method_8_code 29 = .ok (.lcmp, 1) := by decide +kernel
theorem d1_30 : decode prog_24_method_8_code 30 = .ok (.ifCond .ne 63, 3) := by decide +kernel
theorem d1_33 : decode prog_24_method_8_code 33 = .ok (.aload_n 0, 1) := by decide +kernel
theorem d1_34 : decode prog_24_method_8_code 34 = .ok (.getfield 13, 3) := by decide +kernel
theorem d1_37 : decode prog_24_method_8_code 37 = .ok (.aload_n 2, 1) := by decide +kernel
theorem d1_38 : decode prog_24_method_8_code 38 = .ok (.getfield 13, 3) := by decide +kernel
theorem d1_41 : decode prog_24_method_8_code 41 = .ok (.lcmp, 1) := by decide +kernel
theorem d1_42 : decode prog_24_method_8_code 42 = .ok (.ifCond .ne 51, 3) := by decide +kernel
theorem d1_45 : decode prog_24_method_8_code 45 = .ok (.aload_n 0, 1) := by decide +kernel
theorem d1_46 : decode prog_24_method_8_code 46 = .ok (.getfield 16, 3) := by decide +kernel
theorem d1_49 : decode prog_24_method_8_code 49 = .ok (.aload_n 2, 1) := by decide +kernel
theorem d1_50 : decode prog_24_method_8_code 50 = .ok (.getfield 16, 3) := by decide +kernel
theorem d1_53 : decode prog_24_method_8_code 53 = .ok (.if_icmp .ne 40, 3) := by decide +kernel
theorem d1_56 : decode prog_24_method_8_code 56 = .ok (.aload_n 0, 1) := by decide +kernel
theorem d1_57 : decode prog_24_method_8_code 57 = .ok (.getfield 20, 3) := by decide +kernel
theorem d1_60 : decode prog_24_method_8_code 60 = .ok (.aload_n 2, 1) := by decide +kernel
theorem d1_61 : decode prog_24_method_8_code 61 = .ok (.getfield 20, 3) := by decide +kernel
theorem d1_64 : decode prog_24_method_8_code 64 = .ok (.if_icmp .ne 29, 3) := by decide +kernel
theorem d1_67 : decode prog_24_method_8_code 67 = .ok (.aload_n 0, 1) := by decide +kernel
theorem d1_68 : decode prog_24_method_8_code 68 = .ok (.getfield 23, 3) := by decide +kernel
theorem d1_71 : decode prog_24_method_8_code 71 = .ok (.aload_n 2, 1) := by decide +kernel
theorem d1_72 : decode prog_24_method_8_code 72 = .ok (.getfield 23, 3) := by decide +kernel
theorem d1_75 : decode prog_24_method_8_code 75 = .ok (.if_icmp .ne 18, 3) := by decide +kernel
theorem d1_78 : decode prog_24_method_8_code 78 = .ok (.aload_n 0, 1) := by decide +kernel
theorem d1_79 : decode prog_24_method_8_code 79 = .ok (.getfield 26, 3) := by decide +kernel
theorem d1_82 : decode prog_24_method_8_code 82 = .ok (.aload_n 2, 1) := by decide +kernel
theorem d1_83 : decode prog_24_method_8_code 83 = .ok (.getfield 26, 3) := by decide +kernel
theorem d1_86 : decode prog_24_method_8_code 86 = .ok (.if_icmp .ne 7, 3) := by decide +kernel
theorem d1_89 : decode prog_24_method_8_code 89 = .ok (.iconst 1, 1) := by decide +kernel
theorem d1_90 : decode prog_24_method_8_code 90 = .ok (.goto 4, 3) := by decide +kernel
theorem d1_94 : decode prog_24_method_8_code 94 = .ok (.ireturn, 1) := by decide +kernel
theorem rm_equals_7 (l : Launch) (Z : State) (a0 : Array Value) (hw : own_HW Z a0) (ws : List Jvm.Cond)  (h0 : Heap) (n0 : Nat) (O : Old Z n0 h0) (b0 : Addr) (b1 : Addr) (j0 : Int64) (j1 : Int64) (i2 : Int32) (i3 : Int32) (i4 : Int32) (i5 : Int32) (j6 : Int64) (j7 : Int64) (i8 : Int32) (i9 : Int32) (i10 : Int32) (i11 : Int32) (F_b0_created : Fld Z h0 b0 "com/example/maco/maco/model/PoolCounters" "created" "J" (.long j0)) (F_b0_destroyed : Fld Z h0 b0 "com/example/maco/maco/model/PoolCounters" "destroyed" "J" (.long j1)) (F_b0_free : Fld Z h0 b0 "com/example/maco/maco/model/PoolCounters" "free" "I" (.int i2)) (F_b0_shared : Fld Z h0 b0 "com/example/maco/maco/model/PoolCounters" "shared" "I" (.int i3)) (F_b0_unshared : Fld Z h0 b0 "com/example/maco/maco/model/PoolCounters" "unshared" "I" (.int i4)) (F_b0_waiting : Fld Z h0 b0 "com/example/maco/maco/model/PoolCounters" "waiting" "I" (.int i5)) (E_b1 : Exa Z h0 b1 "com/example/maco/maco/model/PoolCounters") (F_b1_created : Fld Z h0 b1 "com/example/maco/maco/model/PoolCounters" "created" "J" (.long j6)) (F_b1_destroyed : Fld Z h0 b1 "com/example/maco/maco/model/PoolCounters" "destroyed" "J" (.long j7)) (F_b1_free : Fld Z h0 b1 "com/example/maco/maco/model/PoolCounters" "free" "I" (.int i8)) (F_b1_shared : Fld Z h0 b1 "com/example/maco/maco/model/PoolCounters" "shared" "I" (.int i9)) (F_b1_unshared : Fld Z h0 b1 "com/example/maco/maco/model/PoolCounters" "unshared" "I" (.int i10)) (F_b1_waiting : Fld Z h0 b1 "com/example/maco/maco/model/PoolCounters" "waiting" "I" (.int i11)) (ne_b0_b1 : b0 ≠ b1) (kn0 : j6 = j0) (kn1 : j7 = j1) (kn2 : i8 = i2) (kn3 : i9 = i3) (kn4 : i10 = i4) (kn5 : i11 = i5) :
    own_Met l (⟨"com/example/maco/maco/model/PoolCounters", "equals", "(Ljava/lang/Object;)Z"⟩ : MethodName) prog_24_method_8_code 3 (some .boolean) ws (own_rm 0 0 0 0) Z #[(.ref b0), (.ref b1)] h0 (own_R (some (.int (1 : Int32))) h0) := by
  refine own_met (plainFor_of_name pn_0) ?_
  intro p e s m below meth c T0 hx hby hml hown hret hk hnm hZ X0 e0
  have hown : s.vm.findClass "com/example/maco/maco/model/PoolCounters" = some m.cls := hown
  refine own_ent (ef_1 m b0 b1) ?_
  refine own_aload_n X0 hx (hb hby d1_0) rfl rfl 1 rfl ?_
  refine own_aload_n X0 hx (hb hby d1_1) rfl rfl 2 rfl ?_
  refine own_acmp X0 hx false (hb hby d1_2) rfl rfl (decide_eq_false fun q => ne_b0_b1 (Value.ref.inj q)) 7 (by decide) (by decide) ?_
  refine own_aload_n X0 hx (hb hby d1_7) rfl rfl 8 rfl ?_
  refine own_instY X0 hx hZ hown (own_w hw 26 rfl) e0 (Ins.self E_b1) (hb hby d1_8) 11 rfl fun T1 X1 e1 => ?_
  refine own_ifY X1 hx (hb hby d1_11) ((if0 _ _).trans (feq (by decide : ¬ ((1 : Int32) = (0 : Int32)))).2) 16 (by decide) (by decide) ?_
  refine own_aload_n X1 hx (hb hby d1_16) rfl rfl 17 rfl ?_
  refine own_cast X1 hx hZ hown (own_w hw 26 rfl) e1 (Ins.self E_b1) (hb hby d1_17) 20 rfl fun T2 X2 e2 => ?_
  refine own_astore_n X2 hx (hb hby d1_20) #[.val (.ref b0), .val (.ref b1), .val (.ref b1)] rfl rfl 21 rfl ?_
  refine own_aload_n X2 hx (hb hby d1_21) rfl rfl 22 rfl ?_
  refine own_getF X2 hx hZ hown (host := "") (Or.inl (own_w hw 9 rfl)) Via.refl e2 F_b0_created (hb hby d1_22) 25 rfl fun T3 X3 e3 => ?_
  refine own_aload_n X3 hx (hb hby d1_25) rfl rfl 26 rfl ?_
  refine own_getF X3 hx hZ hown (host := "") (Or.inl (own_w hw 9 rfl)) Via.refl e3 F_b1_created (hb hby d1_26) 29 rfl fun T4 X4 e4 => ?_
  refine own_lcmp X4 hx (hb hby d1_29) 30 rfl ?_
  refine own_ifN X4 hx (hb hby d1_30) ((if0 _ _).trans (teq ((own_lceq _ _).mpr (Eq.symm kn0))).2) 33 rfl ?_
  refine own_aload_n X4 hx (hb hby d1_33) rfl rfl 34 rfl ?_
  refine own_getF X4 hx hZ hown (host := "") (Or.inl (own_w hw 11 rfl)) Via.refl e4 F_b0_destroyed (hb hby d1_34) 37 rfl fun T5 X5 e5 => ?_
  refine own_aload_n X5 hx (hb hby d1_37) rfl rfl 38 rfl ?_
  refine own_getF X5 hx hZ hown (host := "") (Or.inl (own_w hw 11 rfl)) Via.refl e5 F_b1_destroyed (hb hby d1_38) 41 rfl fun T6 X6 e6 => ?_
  refine own_lcmp X6 hx (hb hby d1_41) 42 rfl ?_
  refine own_ifN X6 hx (hb hby d1_42) ((if0 _ _).trans (teq ((own_lceq _ _).mpr (Eq.symm kn1))).2) 45 rfl ?_
  refine own_aload_n X6 hx (hb hby d1_45) rfl rfl 46 rfl ?_
  refine own_getF X6 hx hZ hown (host := "") (Or.inl (own_w hw 13 rfl)) Via.refl e6 F_b0_free (hb hby d1_46) 49 rfl fun T7 X7 e7 => ?_
  refine own_aload_n X7 hx (hb hby d1_49) rfl rfl 50 rfl ?_
  refine own_getF X7 hx hZ hown (host := "") (Or.inl (own_w hw 13 rfl)) Via.refl e7 F_b1_free (hb hby d1_50) 53 rfl fun T8 X8 e8 => ?_
  refine own_icmpN X8 hx (hb hby d1_53) (teq (Eq.symm kn2)).2 56 rfl ?_
  refine own_aload_n X8 hx (hb hby d1_56) rfl rfl 57 rfl ?_
  refine own_getF X8 hx hZ hown (host := "") (Or.inl (own_w hw 15 rfl)) Via.refl e8 F_b0_shared (hb hby d1_57) 60 rfl fun T9 X9 e9 => ?_
  refine own_aload_n X9 hx (hb hby d1_60) rfl rfl 61 rfl ?_
  refine own_getF X9 hx hZ hown (host := "") (Or.inl (own_w hw 15 rfl)) Via.refl e9 F_b1_shared (hb hby d1_61) 64 rfl fun T10 X10 e10 => ?_
  refine own_icmpN X10 hx (hb hby d1_64) (teq (Eq.symm kn3)).2 67 rfl ?_
  refine own_aload_n X10 hx (hb hby d1_67) rfl rfl 68 rfl ?_
  refine own_getF X10 hx hZ hown (host := "") (Or.inl (own_w hw 17 rfl)) Via.refl e10 F_b0_unshared (hb hby d1_68) 71 rfl fun T11 X11 e11 => ?_
  refine own_aload_n X11 hx (hb hby d1_71) rfl rfl 72 rfl ?_
  refine own_getF X11 hx hZ hown (host := "") (Or.inl (own_w hw 17 rfl)) Via.refl e11 F_b1_unshared (hb hby d1_72) 75 rfl fun T12 X12 e12 => ?_
  refine own_icmpN X12 hx (hb hby d1_75) (teq (Eq.symm kn4)).2 78 rfl ?_
  refine own_aload_n X12 hx (hb hby d1_78) rfl rfl 79 rfl ?_
  refine own_getF X12 hx hZ hown (host := "") (Or.inl (own_w hw 19 rfl)) Via.refl e12 F_b0_waiting (hb hby d1_79) 82 rfl fun T13 X13 e13 => ?_
  refine own_aload_n X13 hx (hb hby d1_82) rfl rfl 83 rfl ?_
  refine own_getF X13 hx hZ hown (host := "") (Or.inl (own_w hw 19 rfl)) Via.refl e13 F_b1_waiting (hb hby d1_83) 86 rfl fun T14 X14 e14 => ?_
  refine own_icmpN X14 hx (hb hby d1_86) (teq (Eq.symm kn5)).2 89 rfl ?_
  refine own_iconst X14 hx (hb hby d1_89) (1 : Int32) rfl 90 rfl ?_
  refine own_goto X14 hx (hb hby d1_90) 94 (by decide) (by decide) ?_
  exact own_retZ X14 hx hk hret (hb hby d1_94) rfl ⟨rfl, e14, rfl⟩ (by decide) (by decide)
theorem d1_93 : decode prog_24_method_8_code 93 = .ok (.iconst 0, 1) := by decide +kernel
theorem rm_equals_8 (l : Launch) (Z : State) (a0 : Array Value) (hw : own_HW Z a0) (ws : List Jvm.Cond)  (h0 : Heap) (n0 : Nat) (O : Old Z n0 h0) (b0 : Addr) (b1 : Addr) (j0 : Int64) (j1 : Int64) (i2 : Int32) (i3 : Int32) (i4 : Int32) (i5 : Int32) (j6 : Int64) (j7 : Int64) (i8 : Int32) (i9 : Int32) (i10 : Int32) (i11 : Int32) (F_b0_created : Fld Z h0 b0 "com/example/maco/maco/model/PoolCounters" "created" "J" (.long j0)) (F_b0_destroyed : Fld Z h0 b0 "com/example/maco/maco/model/PoolCounters" "destroyed" "J" (.long j1)) (F_b0_free : Fld Z h0 b0 "com/example/maco/maco/model/PoolCounters" "free" "I" (.int i2)) (F_b0_shared : Fld Z h0 b0 "com/example/maco/maco/model/PoolCounters" "shared" "I" (.int i3)) (F_b0_unshared : Fld Z h0 b0 "com/example/maco/maco/model/PoolCounters" "unshared" "I" (.int i4)) (F_b0_waiting : Fld Z h0 b0 "com/example/maco/maco/model/PoolCounters" "waiting" "I" (.int i5)) (E_b1 : Exa Z h0 b1 "com/example/maco/maco/model/PoolCounters") (F_b1_created : Fld Z h0 b1 "com/example/maco/maco/model/PoolCounters" "created" "J" (.long j6)) (F_b1_destroyed : Fld Z h0 b1 "com/example/maco/maco/model/PoolCounters" "destroyed" "J" (.long j7)) (F_b1_free : Fld Z h0 b1 "com/example/maco/maco/model/PoolCounters" "free" "I" (.int i8)) (F_b1_shared : Fld Z h0 b1 "com/example/maco/maco/model/PoolCounters" "shared" "I" (.int i9)) (F_b1_unshared : Fld Z h0 b1 "com/example/maco/maco/model/PoolCounters" "unshared" "I" (.int i10)) (F_b1_waiting : Fld Z h0 b1 "com/example/maco/maco/model/PoolCounters" "waiting" "I" (.int i11)) (ne_b0_b1 : b0 ≠ b1) (kn0 : j6 = j0) (kn1 : j7 = j1) (kn2 : i8 = i2) (kn3 : i9 = i3) (kn4 : i10 = i4) (kn5 : ¬ (i11 = i5)) :
    own_Met l (⟨"com/example/maco/maco/model/PoolCounters", "equals", "(Ljava/lang/Object;)Z"⟩ : MethodName) prog_24_method_8_code 3 (some .boolean) ws (own_rm 0 0 0 0) Z #[(.ref b0), (.ref b1)] h0 (own_R (some (.int (0 : Int32))) h0) := by
  refine own_met (plainFor_of_name pn_0) ?_
  intro p e s m below meth c T0 hx hby hml hown hret hk hnm hZ X0 e0
  have hown : s.vm.findClass "com/example/maco/maco/model/PoolCounters" = some m.cls := hown
  refine own_ent (ef_1 m b0 b1) ?_
  refine own_aload_n X0 hx (hb hby d1_0) rfl rfl 1 rfl ?_
  refine own_aload_n X0 hx (hb hby d1_1) rfl rfl 2 rfl ?_
  refine own_acmp X0 hx false (hb hby d1_2) rfl rfl (decide_eq_false fun q => ne_b0_b1 (Value.ref.inj q)) 7 (by decide) (by decide) ?_
  refine own_aload_n X0 hx (hb hby d1_7) rfl rfl 8 rfl ?_
  refine own_instY X0 hx hZ hown (own_w hw 26 rfl) e0 (Ins.self E_b1) (hb hby d1_8) 11 rfl fun T1 X1 e1 => ?_
  refine own_ifY X1 hx (hb hby d1_11) ((if0 _ _).trans (feq (by decide : ¬ ((1 : Int32) = (0 : Int32)))).2) 16 (by decide) (by decide) ?_
  refine own_aload_n X1 hx (hb hby d1_16) rfl rfl 17 rfl ?_
  refine own_cast X1 hx hZ hown (own_w hw 26 rfl) e1 (Ins.self E_b1) (hb hby d1_17) 20 rfl fun T2 X2 e2 => ?_
  refine own_astore_n X2 hx (hb hby d1_20) #[.val (.ref b0), .val (.ref b1), .val (.ref b1)] rfl rfl 21 rfl ?_
  refine own_aload_n X2 hx (hb hby d1_21) rfl rfl 22 rfl ?_
  refine own_getF X2 hx hZ hown (host := "") (Or.inl (own_w hw 9 rfl)) Via.refl e2 F_b0_created (hb hby d1_22) 25 rfl fun T3 X3 e3 => ?_
  refine own_aload_n X3 hx (hb hby d1_25) rfl rfl 26 rfl ?_
  refine own_getF X3 hx hZ hown (host := "") (Or.inl (own_w hw 9 rfl)) Via.refl e3 F_b1_created (hb hby d1_26) 29 rfl fun T4 X4 e4 => ?_
  refine own_lcmp X4 hx (hb hby d1_29) 30 rfl ?_
  refine own_ifN X4 hx (hb hby d1_30) ((if0 _ _).trans (teq ((own_lceq _ _).mpr (Eq.symm kn0))).2) 33 rfl ?_
  refine own_aload_n X4 hx (hb hby d1_33) rfl rfl 34 rfl ?_
  refine own_getF X4 hx hZ hown (host := "") (Or.inl (own_w hw 11 rfl)) Via.refl e4 F_b0_destroyed (hb hby d1_34) 37 rfl fun T5 X5 e5 => ?_
  refine own_aload_n X5 hx (hb hby d1_37) rfl rfl 38 rfl ?_
  refine own_getF X5 hx hZ hown (host := "") (Or.inl (own_w hw 11 rfl)) Via.refl e5 F_b1_destroyed (hb hby d1_38) 41 rfl fun T6 X6 e6 => ?_
  refine own_lcmp X6 hx (hb hby d1_41) 42 rfl ?_
  refine own_ifN X6 hx (hb hby d1_42) ((if0 _ _).trans (teq ((own_lceq _ _).mpr (Eq.symm kn1))).2) 45 rfl ?_
  refine own_aload_n X6 hx (hb hby d1_45) rfl rfl 46 rfl ?_
  refine own_getF X6 hx hZ hown (host := "") (Or.inl (own_w hw 13 rfl)) Via.refl e6 F_b0_free (hb hby d1_46) 49 rfl fun T7 X7 e7 => ?_
  refine own_aload_n X7 hx (hb hby d1_49) rfl rfl 50 rfl ?_
  refine own_getF X7 hx hZ hown (host := "") (Or.inl (own_w hw 13 rfl)) Via.refl e7 F_b1_free (hb hby d1_50) 53 rfl fun T8 X8 e8 => ?_
  refine own_icmpN X8 hx (hb hby d1_53) (teq (Eq.symm kn2)).2 56 rfl ?_
  refine own_aload_n X8 hx (hb hby d1_56) rfl rfl 57 rfl ?_
  refine own_getF X8 hx hZ hown (host := "") (Or.inl (own_w hw 15 rfl)) Via.refl e8 F_b0_shared (hb hby d1_57) 60 rfl fun T9 X9 e9 => ?_
  refine own_aload_n X9 hx (hb hby d1_60) rfl rfl 61 rfl ?_
  refine own_getF X9 hx hZ hown (host := "") (Or.inl (own_w hw 15 rfl)) Via.refl e9 F_b1_shared (hb hby d1_61) 64 rfl fun T10 X10 e10 => ?_
  refine own_icmpN X10 hx (hb hby d1_64) (teq (Eq.symm kn3)).2 67 rfl ?_
  refine own_aload_n X10 hx (hb hby d1_67) rfl rfl 68 rfl ?_
  refine own_getF X10 hx hZ hown (host := "") (Or.inl (own_w hw 17 rfl)) Via.refl e10 F_b0_unshared (hb hby d1_68) 71 rfl fun T11 X11 e11 => ?_
  refine own_aload_n X11 hx (hb hby d1_71) rfl rfl 72 rfl ?_
  refine own_getF X11 hx hZ hown (host := "") (Or.inl (own_w hw 17 rfl)) Via.refl e11 F_b1_unshared (hb hby d1_72) 75 rfl fun T12 X12 e12 => ?_
  refine own_icmpN X12 hx (hb hby d1_75) (teq (Eq.symm kn4)).2 78 rfl ?_
  refine own_aload_n X12 hx (hb hby d1_78) rfl rfl 79 rfl ?_
  refine own_getF X12 hx hZ hown (host := "") (Or.inl (own_w hw 19 rfl)) Via.refl e12 F_b0_waiting (hb hby d1_79) 82 rfl fun T13 X13 e13 => ?_
  refine own_aload_n X13 hx (hb hby d1_82) rfl rfl 83 rfl ?_
  refine own_getF X13 hx hZ hown (host := "") (Or.inl (own_w hw 19 rfl)) Via.refl e13 F_b1_waiting (hb hby d1_83) 86 rfl fun T14 X14 e14 => ?_
  refine own_icmpY X14 hx (hb hby d1_86) (feq (Ne.symm kn5)).2 93 (by decide) (by decide) ?_
  refine own_iconst X14 hx (hb hby d1_93) (0 : Int32) rfl 94 rfl ?_
  exact own_retZ X14 hx hk hret (hb hby d1_94) rfl ⟨rfl, e14, rfl⟩ (by decide) (by decide)
theorem rm_equals_9 (l : Launch) (Z : State) (a0 : Array Value) (hw : own_HW Z a0) (ws : List Jvm.Cond)  (h0 : Heap) (n0 : Nat) (O : Old Z n0 h0) (b0 : Addr) (b1 : Addr) (j0 : Int64) (j1 : Int64) (i2 : Int32) (i3 : Int32) (i4 : Int32) (j6 : Int64) (j7 : Int64) (i8 : Int32) (i9 : Int32) (i10 : Int32) (F_b0_created : Fld Z h0 b0 "com/example/maco/maco/model/PoolCounters" "created" "J" (.long j0)) (F_b0_destroyed : Fld Z h0 b0 "com/example/maco/maco/model/PoolCounters" "destroyed" "J" (.long j1)) (F_b0_free : Fld Z h0 b0 "com/example/maco/maco/model/PoolCounters" "free" "I" (.int i2)) (F_b0_shared : Fld Z h0 b0 "com/example/maco/maco/model/PoolCounters" "shared" "I" (.int i3)) (F_b0_unshared : Fld Z h0 b0 "com/example/maco/maco/model/PoolCounters" "unshared" "I" (.int i4)) (E_b1 : Exa Z h0 b1 "com/example/maco/maco/model/PoolCounters") (F_b1_created : Fld Z h0 b1 "com/example/maco/maco/model/PoolCounters" "created" "J" (.long j6)) (F_b1_destroyed : Fld Z h0 b1 "com/example/maco/maco/model/PoolCounters" "destroyed" "J" (.long j7)) (F_b1_free : Fld Z h0 b1 "com/example/maco/maco/model/PoolCounters" "free" "I" (.int i8)) (F_b1_shared : Fld Z h0 b1 "com/example/maco/maco/model/PoolCounters" "shared" "I" (.int i9)) (F_b1_unshared : Fld Z h0 b1 "com/example/maco/maco/model/PoolCounters" "unshared" "I" (.int i10)) (ne_b0_b1 : b0 ≠ b1) (kn0 : j6 = j0) (kn1 : j7 = j1) (kn2 : i8 = i2) (kn3 : i9 = i3) (kn4 : ¬ (i10 = i4)) :
    own_Met l (⟨"com/example/maco/maco/model/PoolCounters", "equals", "(Ljava/lang/Object;)Z"⟩ : MethodName) prog_24_method_8_code 3 (some .boolean) ws (own_rm 0 0 0 0) Z #[(.ref b0), (.ref b1)] h0 (own_R (some (.int (0 : Int32))) h0) := by
  refine own_met (plainFor_of_name pn_0) ?_
  intro p e s m below meth c T0 hx hby hml hown hret hk hnm hZ X0 e0
  have hown : s.vm.findClass "com/example/maco/maco/model/PoolCounters" = some m.cls := hown
  refine own_ent (ef_1 m b0 b1) ?_
  refine own_aload_n X0 hx (hb hby d1_0) rfl rfl 1 rfl ?_
  refine own_aload_n X0 hx (hb hby d1_1) rfl rfl 2 rfl ?_
  refine own_acmp X0 hx false (hb hby d1_2) rfl rfl (decide_eq_false fun q => ne_b0_b1 (Value.ref.inj q)) 7 (by decide) (by decide) ?_
  refine own_aload_n X0 hx (hb hby d1_7) rfl rfl 8 rfl ?_
  refine own_instY X0 hx hZ hown (own_w hw 26 rfl) e0 (Ins.self E_b1) (hb hby d1_8) 11 rfl fun T1 X1 e1 => ?_
  refine own_ifY X1 hx (hb hby d1_11) ((if0 _ _).trans (feq (by decide : ¬ ((1 : Int32) = (0 : Int32)))).2) 16 (by decide) (by decide) ?_
  refine own_aload_n X1 hx (hb hby d1_16) rfl rfl 17 rfl ?_
  refine own_cast X1 hx hZ hown (own_w hw 26 rfl) e1 (Ins.self E_b1) (hb hby d1_17) 20 rfl fun T2 X2 e2 => ?_
  refine own_astore_n X2 hx (hb hby d1_20) #[.val (.ref b0), .val (.ref b1), .val (.ref b1)] rfl rfl 21 rfl ?_
  refine own_aload_n X2 hx (hb hby d1_21) rfl rfl 22 rfl ?_
  refine own_getF X2 hx hZ hown (host := "") (Or.inl (own_w hw 9 rfl)) Via.refl e2 F_b0_created (hb hby d1_22) 25 rfl fun T3 X3 e3 => ?_
  refine own_aload_n X3 hx (hb hby d1_25) rfl rfl 26 rfl ?_
  refine own_getF X3 hx hZ hown (host := "") (Or.inl (own_w hw 9 rfl)) Via.refl e3 F_b1_created (hb hby d1_26) 29 rfl fun T4 X4 e4 => ?_
  refine own_lcmp X4 hx (hb hby d1_29) 30 rfl ?_
  refine own_ifN X4 hx (hb hby d1_30) ((if0 _ _).trans (teq ((own_lceq _ _).mpr (Eq.symm kn0))).2) 33 rfl ?_
  refine own_aload_n X4 hx (hb hby d1_33) rfl rfl 34 rfl ?_
  refine own_getF X4 hx hZ hown (host := "") (Or.inl (own_w hw 11 rfl)) Via.refl e4 F_b0_destroyed (hb hby d1_34) 37 rfl fun T5 X5 e5 => ?_
  refine own_aload_n X5 hx (hb hby d1_37) rfl rfl 38 rfl ?_
  refine own_getF X5 hx hZ hown (host := "") (Or.inl (own_w hw 11 rfl)) Via.refl e5 F_b1_destroyed (hb hby d1_38) 41 rfl fun T6 X6 e6 => ?_
  refine own_lcmp X6 hx (hb hby d1_41) 42 rfl ?_
  refine own_ifN X6 hx (hb hby d1_42) ((if0 _ _).trans (teq ((own_lceq _ _).mpr (Eq.symm kn1))).2) 45 rfl ?_
  refine own_aload_n X6 hx (hb hby d1_45) rfl rfl 46 rfl ?_
  refine own_getF X6 hx hZ hown (host := "") (Or.inl (own_w hw 13 rfl)) Via.refl e6 F_b0_free (hb hby d1_46) 49 rfl fun T7 X7 e7 => ?_
  refine own_aload_n X7 hx (hb hby d1_49) rfl rfl 50 rfl ?_
  refine own_getF X7 hx hZ hown (host := "") (Or.inl (own_w hw 13 rfl)) Via.refl e7 F_b1_free (hb hby d1_50) 53 rfl fun T8 X8 e8 => ?_
  refine own_icmpN X8 hx (hb hby d1_53) (teq (Eq.symm kn2)).2 56 rfl ?_
  refine own_aload_n X8 hx (hb hby d1_56) rfl rfl 57 rfl ?_
  refine own_getF X8 hx hZ hown (host := "") (Or.inl (own_w hw 15 rfl)) Via.refl e8 F_b0_shared (hb hby d1_57) 60 rfl fun T9 X9 e9 => ?_
  refine own_aload_n X9 hx (hb hby d1_60) rfl rfl 61 rfl ?_
  refine own_getF X9 hx hZ hown (host := "") (Or.inl (own_w hw 15 rfl)) Via.refl e9 F_b1_shared (hb hby d1_61) 64 rfl fun T10 X10 e10 => ?_
  refine own_icmpN X10 hx (hb hby d1_64) (teq (Eq.symm kn3)).2 67 rfl ?_
  refine own_aload_n X10 hx (hb hby d1_67) rfl rfl 68 rfl ?_
  refine own_getF X10 hx hZ hown (host := "") (Or.inl (own_w hw 17 rfl)) Via.refl e10 F_b0_unshared (hb hby d1_68) 71 rfl fun T11 X11 e11 => ?_
  refine own_aload_n X11 hx (hb hby d1_71) rfl rfl 72 rfl ?_
  refine own_getF X11 hx hZ hown (host := "") (Or.inl (own_w hw 17 rfl)) Via.refl e11 F_b1_unshared (hb hby d1_72) 75 rfl fun T12 X12 e12 => ?_
  refine own_icmpY X12 hx (hb hby d1_75) (feq (Ne.symm kn4)).2 93 (by decide) (by decide) ?_
  refine own_iconst X12 hx (hb hby d1_93) (0 : Int32) rfl 94 rfl ?_
  exact own_retZ X12 hx hk hret (hb hby d1_94) rfl ⟨rfl, e12, rfl⟩ (by decide) (by decide)
theorem rm_equals_10 (l : Launch) (Z : State) (a0 : Array Value) (hw : own_HW Z a0) (ws : List Jvm.Cond)  (h0 : Heap) (n0 : Nat) (O : Old Z n0 h0) (b0 : Addr) (b1 : Addr) (j0 : Int64) (j1 : Int64) (i2 : Int32) (i3 : Int32) (j6 : Int64) (j7 : Int64) (i8 : Int32) (i9 : Int32) (F_b0_created : Fld Z h0 b0 "com/example/maco/maco/model/PoolCounters" "created" "J" (.long j0)) (F_b0_destroyed : Fld Z h0 b0 "com/example/maco/maco/model/PoolCounters" "destroyed" "J" (.long j1)) (F_b0_free : Fld Z h0 b0 "com/example/maco/maco/model/PoolCounters" "free" "I" (.int i2)) (F_b0_shared : Fld Z h0 b0 "com/example/maco/maco/model/PoolCounters" "shared" "I" (.int i3)) (E_b1 : Exa Z h0 b1 "com/example/maco/maco/model/PoolCounters") (F_b1_created : Fld Z h0 b1 "com/example/maco/maco/model/PoolCounters" "created" "J" (.long j6)) (F_b1_destroyed : Fld Z h0 b1 "com/example/maco/maco/model/PoolCounters" "destroyed" "J" (.long j7)) (F_b1_free : Fld Z h0 b1 "com/example/maco/maco/model/PoolCounters" "free" "I" (.int i8)) (F_b1_shared : Fld Z h0 b1 "com/example/maco/maco/model/PoolCounters" "shared" "I" (.int i9)) (ne_b0_b1 : b0 ≠ b1) (kn0 : j6 = j0) (kn1 : j7 = j1) (kn2 : i8 = i2) (kn3 : ¬ (i9 = i3)) :
    own_Met l (⟨"com/example/maco/maco/model/PoolCounters", "equals", "(Ljava/lang/Object;)Z"⟩ : MethodName) prog_24_method_8_code 3 (some .boolean) ws (own_rm 0 0 0 0) Z #[(.ref b0), (.ref b1)] h0 (own_R (some (.int (0 : Int32))) h0) := by
  refine own_met (plainFor_of_name pn_0) ?_
  intro p e s m below meth c T0 hx hby hml hown hret hk hnm hZ X0 e0
  have hown : s.vm.findClass "com/example/maco/maco/model/PoolCounters" = some m.cls := hown
  refine own_ent (ef_1 m b0 b1) ?_
  refine own_aload_n X0 hx (hb hby d1_0) rfl rfl 1 rfl ?_
  refine own_aload_n X0 hx (hb hby d1_1) rfl rfl 2 rfl ?_
  refine own_acmp X0 hx false (hb hby d1_2) rfl rfl (decide_eq_false fun q => ne_b0_b1 (Value.ref.inj q)) 7 (by decide) (by decide) ?_
  refine own_aload_n X0 hx (hb hby d1_7) rfl rfl 8 rfl ?_
  refine own_instY X0 hx hZ hown (own_w hw 26 rfl) e0 (Ins.self E_b1) (hb hby d1_8) 11 rfl fun T1 X1 e1 => ?_
  refine own_ifY X1 hx (hb hby d1_11) ((if0 _ _).trans (feq (by decide : ¬ ((1 : Int32) = (0 : Int32)))).2) 16 (by decide) (by decide) ?_
  refine own_aload_n X1 hx (hb hby d1_16) rfl rfl 17 rfl ?_
  refine own_cast X1 hx hZ hown (own_w hw 26 rfl) e1 (Ins.self E_b1) (hb hby d1_17) 20 rfl fun T2 X2 e2 => ?_
  refine own_astore_n X2 hx (hb hby d1_20) #[.val (.ref b0), .val (.ref b1), .val (.ref b1)] rfl rfl 21 rfl ?_
  refine own_aload_n X2 hx (hb hby d1_21) rfl rfl 22 rfl ?_
  refine own_getF X2 hx hZ hown (host := "") (Or.inl (own_w hw 9 rfl)) Via.refl e2 F_b0_created (hb hby d1_22) 25 rfl fun T3 X3 e3 => ?_
  refine own_aload_n X3 hx (hb hby d1_25) rfl rfl 26 rfl ?_
  refine own_getF X3 hx hZ hown (host := "") (Or.inl (own_w hw 9 rfl)) Via.refl e3 F_b1_created (hb hby d1_26) 29 rfl fun T4 X4 e4 => ?_
  refine own_lcmp X4 hx (hb hby d1_29) 30 rfl ?_
  refine own_ifN X4 hx (hb hby d1_30) ((if0 _ _).trans (teq ((own_lceq _ _).mpr (Eq.symm kn0))).2) 33 rfl ?_
  refine own_aload_n X4 hx (hb hby d1_33) rfl rfl 34 rfl ?_
  refine own_getF X4 hx hZ hown (host := "") (Or.inl (own_w hw 11 rfl)) Via.refl e4 F_b0_destroyed (hb hby d1_34) 37 rfl fun T5 X5 e5 => ?_
  refine own_aload_n X5 hx (hb hby d1_37) rfl rfl 38 rfl ?_
  refine own_getF X5 hx hZ hown (host := "") (Or.inl (own_w hw 11 rfl)) Via.refl e5 F_b1_destroyed (hb hby d1_38) 41 rfl fun T6 X6 e6 => ?_
  refine own_lcmp X6 hx (hb hby d1_41) 42 rfl ?_
  refine own_ifN X6 hx (hb hby d1_42) ((if0 _ _).trans (teq ((own_lceq _ _).mpr (Eq.symm kn1))).2) 45 rfl ?_
  refine own_aload_n X6 hx (hb hby d1_45) rfl rfl 46 rfl ?_
  refine own_getF X6 hx hZ hown (host := "") (Or.inl (own_w hw 13 rfl)) Via.refl e6 F_b0_free (hb hby d1_46) 49 rfl fun T7 X7 e7 => ?_
  refine own_aload_n X7 hx (hb hby d1_49) rfl rfl 50 rfl ?_
  refine own_getF X7 hx hZ hown (host := "") (Or.inl (own_w hw 13 rfl)) Via.refl e7 F_b1_free (hb hby d1_50) 53 rfl fun T8 X8 e8 => ?_
  refine own_icmpN X8 hx (hb hby d1_53) (teq (Eq.symm kn2)).2 56 rfl ?_
  refine own_aload_n X8 hx (hb hby d1_56) rfl rfl 57 rfl ?_
  refine own_getF X8 hx hZ hown (host := "") (Or.inl (own_w hw 15 rfl)) Via.refl e8 F_b0_shared (hb hby d1_57) 60 rfl fun T9 X9 e9 => ?_
  refine own_aload_n X9 hx (hb hby d1_60) rfl rfl 61 rfl ?_
  refine own_getF X9 hx hZ hown (host := "") (Or.inl (own_w hw 15 rfl)) Via.refl e9 F_b1_shared (hb hby d1_61) 64 rfl fun T10 X10 e10 => ?_
  refine own_icmpY X10 hx (hb hby d1_64) (feq (Ne.symm kn3)).2 93 (by decide) (by decide) ?_
  refine own_iconst X10 hx (hb hby d1_93) (0 : Int32) rfl 94 rfl ?_
  exact own_retZ X10 hx hk hret (hb hby d1_94) rfl ⟨rfl, e10, rfl⟩ (by decide) (by decide)
theorem rm_equals_11 (l : Launch) (Z : State) (a0 : Array Value) (hw : own_HW Z a0) (ws : List Jvm.Cond)  (h0 : Heap) (n0 : Nat) (O : Old Z n0 h0) (b0 : Addr) (b1 : Addr) (j0 : Int64) (j1 : Int64) (i2 : Int32) (j6 : Int64) (j7 : Int64) (i8 : Int32) (F_b0_created : Fld Z h0 b0 "com/example/maco/maco/model/PoolCounters" "created" "J" (.long j0)) (F_b0_destroyed : Fld Z h0 b0 "com/example/maco/maco/model/PoolCounters" "destroyed" "J" (.long j1)) (F_b0_free : Fld Z h0 b0 "com/example/maco/maco/model/PoolCounters" "free" "I" (.int i2)) (E_b1 : Exa Z h0 b1 "com/example/maco/maco/model/PoolCounters") (F_b1_created : Fld Z h0 b1 "com/example/maco/maco/model/PoolCounters" "created" "J" (.long j6)) (F_b1_destroyed : Fld Z h0 b1 "com/example/maco/maco/model/PoolCounters" "destroyed" "J" (.long j7)) (F_b1_free : Fld Z h0 b1 "com/example/maco/maco/model/PoolCounters" "free" "I" (.int i8)) (ne_b0_b1 : b0 ≠ b1) (kn0 : j6 = j0) (kn1 : j7 = j1) (kn2 : ¬ (i8 = i2)) :
    own_Met l (⟨"com/example/maco/maco/model/PoolCounters", "equals", "(Ljava/lang/Object;)Z"⟩ : MethodName) prog_24_method_8_code 3 (some .boolean) ws (own_rm 0 0 0 0) Z #[(.ref b0), (.ref b1)] h0 (own_R (some (.int (0 : Int32))) h0) := by
  refine own_met (plainFor_of_name pn_0) ?_
  intro p e s m below meth c T0 hx hby hml hown hret hk hnm hZ X0 e0
  have hown : s.vm.findClass "com/example/maco/maco/model/PoolCounters" = some m.cls := hown
  refine own_ent (ef_1 m b0 b1) ?_
  refine own_aload_n X0 hx (hb hby d1_0) rfl rfl 1 rfl ?_
  refine own_aload_n X0 hx (hb hby d1_1) rfl rfl 2 rfl ?_
  refine own_acmp X0 hx false (hb hby d1_2) rfl rfl (decide_eq_false fun q => ne_b0_b1 (Value.ref.inj q)) 7 (by decide) (by decide) ?_
  refine own_aload_n X0 hx (hb hby d1_7) rfl rfl 8 rfl ?_
  refine own_instY X0 hx hZ hown (own_w hw 26 rfl) e0 (Ins.self E_b1) (hb hby d1_8) 11 rfl fun T1 X1 e1 => ?_
  refine own_ifY X1 hx (hb hby d1_11) ((if0 _ _).trans (feq (by decide : ¬ ((1 : Int32) = (0 : Int32)))).2) 16 (by decide) (by decide) ?_
  refine own_aload_n X1 hx (hb hby d1_16) rfl rfl 17 rfl ?_
  refine own_cast X1 hx hZ hown (own_w hw 26 rfl) e1 (Ins.self E_b1) (hb hby d1_17) 20 rfl fun T2 X2 e2 => ?_
  refine own_astore_n X2 hx (hb hby d1_20) #[.val (.ref b0), .val (.ref b1), .val (.ref b1)] rfl rfl 21 rfl ?_
  refine own_aload_n X2 hx (hb hby d1_21) rfl rfl 22 rfl ?_
  refine own_getF X2 hx hZ hown (host := "") (Or.inl (own_w hw 9 rfl)) Via.refl e2 F_b0_created (hb hby d1_22) 25 rfl fun T3 X3 e3 => ?_
  refine own_aload_n X3 hx (hb hby d1_25) rfl rfl 26 rfl ?_
  refine own_getF X3 hx hZ hown (host := "") (Or.inl (own_w hw 9 rfl)) Via.refl e3 F_b1_created (hb hby d1_26) 29 rfl fun T4 X4 e4 => ?_
  refine own_lcmp X4 hx (hb hby d1_29) 30 rfl ?_
  refine own_ifN X4 hx (hb hby d1_30) ((if0 _ _).trans (teq ((own_lceq _ _).mpr (Eq.symm kn0))).2) 33 rfl ?_
  refine own_aload_n X4 hx (hb hby d1_33) rfl rfl 34 rfl ?_
  refine own_getF X4 hx hZ hown (host := "") (Or.inl (own_w hw 11 rfl)) Via.refl e4 F_b0_destroyed (hb hby d1_34) 37 rfl fun T5 X5 e5 => ?_
  refine own_aload_n X5 hx (hb hby d1_37) rfl rfl 38 rfl ?_
  refine own_getF X5 hx hZ hown (host := "") (Or.inl (own_w hw 11 rfl)) Via.refl e5 F_b1_destroyed (hb hby d1_38) 41 rfl fun T6 X6 e6 => ?_
  refine own_lcmp X6 hx (hb hby d1_41) 42 rfl ?_
  refine own_ifN X6 hx (hb hby d1_42) ((if0 _ _).trans (teq ((own_lceq _ _).mpr (Eq.symm kn1))).2) 45 rfl ?_
  refine own_aload_n X6 hx (hb hby d1_45) rfl rfl 46 rfl ?_
  refine own_getF X6 hx hZ hown (host := "") (Or.inl (own_w hw 13 rfl)) Via.refl e6 F_b0_free (hb hby d1_46) 49 rfl fun T7 X7 e7 => ?_
  refine own_aload_n X7 hx (hb hby d1_49) rfl rfl 50 rfl ?_
  refine own_getF X7 hx hZ hown (host := "") (Or.inl (own_w hw 13 rfl)) Via.refl e7 F_b1_free (hb hby d1_50) 53 rfl fun T8 X8 e8 => ?_
  refine own_icmpY X8 hx (hb hby d1_53) (feq (Ne.symm kn2)).2 93 (by decide) (by decide) ?_
  refine own_iconst X8 hx (hb hby d1_93) (0 : Int32) rfl 94 rfl ?_
  exact own_retZ X8 hx hk hret (hb hby d1_94) rfl ⟨rfl, e8, rfl⟩ (by decide) (by decide)
theorem rm_equals_12 (l : Launch) (Z : State) (a0 : Array Value) (hw : own_HW Z a0) (ws : List Jvm.Cond)  (h0 : Heap) (n0 : Nat) (O : Old Z n0 h0) (b0 : Addr) (b1 : Addr) (j0 : Int64) (j1 : Int64) (j6 : Int64) (j7 : Int64) (F_b0_created : Fld Z h0 b0 "com/example/maco/maco/model/PoolCounters" "created" "J" (.long j0)) (F_b0_destroyed : Fld Z h0 b0 "com/example/maco/maco/model/PoolCounters" "destroyed" "J" (.long j1)) (E_b1 : Exa Z h0 b1 "com/example/maco/maco/model/PoolCounters") (F_b1_created : Fld Z h0 b1 "com/example/maco/maco/model/PoolCounters" "created" "J" (.long j6)) (F_b1_destroyed : Fld Z h0 b1 "com/example/maco/maco/model/PoolCounters" "destroyed" "J" (.long j7)) (ne_b0_b1 : b0 ≠ b1) (kn0 : j6 = j0) (kn1 : ¬ (j7 = j1)) :
    own_Met l (⟨"com/example/maco/maco/model/PoolCounters", "equals", "(Ljava/lang/Object;)Z"⟩ : MethodName) prog_24_method_8_code 3 (some .boolean) ws (own_rm 0 0 0 0) Z #[(.ref b0), (.ref b1)] h0 (own_R (some (.int (0 : Int32))) h0) := by
  refine own_met (plainFor_of_name pn_0) ?_
  intro p e s m below meth c T0 hx hby hml hown hret hk hnm hZ X0 e0
  have hown : s.vm.findClass "com/example/maco/maco/model/PoolCounters" = some m.cls := hown
  refine own_ent (ef_1 m b0 b1) ?_
  refine own_aload_n X0 hx (hb hby d1_0) rfl rfl 1 rfl ?_
  refine own_aload_n X0 hx (hb hby d1_1) rfl rfl 2 rfl ?_
  refine own_acmp X0 hx false (hb hby d1_2) rfl rfl (decide_eq_false fun q => ne_b0_b1 (Value.ref.inj q)) 7 (by decide) (by decide) ?_
  refine own_aload_n X0 hx (hb hby d1_7) rfl rfl 8 rfl ?_
  refine own_instY X0 hx hZ hown (own_w hw 26 rfl) e0 (Ins.self E_b1) (hb hby d1_8) 11 rfl fun T1 X1 e1 => ?_
  refine own_ifY X1 hx (hb hby d1_11) ((if0 _ _).trans (feq (by decide : ¬ ((1 : Int32) = (0 : Int32)))).2) 16 (by decide) (by decide) ?_
  refine own_aload_n X1 hx (hb hby d1_16) rfl rfl 17 rfl ?_
  refine own_cast X1 hx hZ hown (own_w hw 26 rfl) e1 (Ins.self E_b1) (hb hby d1_17) 20 rfl fun T2 X2 e2 => ?_
  refine own_astore_n X2 hx (hb hby d1_20) #[.val (.ref b0), .val (.ref b1), .val (.ref b1)] rfl rfl 21 rfl ?_
  refine own_aload_n X2 hx (hb hby d1_21) rfl rfl 22 rfl ?_
  refine own_getF X2 hx hZ hown (host := "") (Or.inl (own_w hw 9 rfl)) Via.refl e2 F_b0_created (hb hby d1_22) 25 rfl fun T3 X3 e3 => ?_
  refine own_aload_n X3 hx (hb hby d1_25) rfl rfl 26 rfl ?_
  refine own_getF X3 hx hZ hown (host := "") (Or.inl (own_w hw 9 rfl)) Via.refl e3 F_b1_created (hb hby d1_26) 29 rfl fun T4 X4 e4 => ?_
  refine own_lcmp X4 hx (hb hby d1_29) 30 rfl ?_
  refine own_ifN X4 hx (hb hby d1_30) ((if0 _ _).trans (teq ((own_lceq _ _).mpr (Eq.symm kn0))).2) 33 rfl ?_
  refine own_aload_n X4 hx (hb hby d1_33) rfl rfl 34 rfl ?_
  refine own_getF X4 hx hZ hown (host := "") (Or.inl (own_w hw 11 rfl)) Via.refl e4 F_b0_destroyed (hb hby d1_34) 37 rfl fun T5 X5 e5 => ?_
  refine own_aload_n X5 hx (hb hby d1_37) rfl rfl 38 rfl ?_
  refine own_getF X5 hx hZ hown (host := "") (Or.inl (own_w hw 11 rfl)) Via.refl e5 F_b1_destroyed (hb hby d1_38) 41 rfl fun T6 X6 e6 => ?_
  refine own_lcmp X6 hx (hb hby d1_41) 42 rfl ?_
  refine own_ifY X6 hx (hb hby d1_42) ((if0 _ _).trans (feq (fun q => (Ne.symm kn1) ((own_lceq _ _).mp q))).2) 93 (by decide) (by decide) ?_
  refine own_iconst X6 hx (hb hby d1_93) (0 : Int32) rfl 94 rfl ?_
  exact own_retZ X6 hx hk hret (hb hby d1_94) rfl ⟨rfl, e6, rfl⟩ (by decide) (by decide)
theorem rm_equals_13 (l : Launch) (Z : State) (a0 : Array Value) (hw : own_HW Z a0) (ws : List Jvm.Cond)  (h0 : Heap) (n0 : Nat) (O : Old Z n0 h0) (b0 : Addr) (b1 : Addr) (j0 : Int64) (j6 : Int64) (F_b0_created : Fld Z h0 b0 "com/example/maco/maco/model/PoolCounters" "created" "J" (.long j0)) (E_b1 : Exa Z h0 b1 "com/example/maco/maco/model/PoolCounters") (F_b1_created : Fld Z h0 b1 "com/example/maco/maco/model/PoolCounters" "created" "J" (.long j6)) (ne_b0_b1 : b0 ≠ b1) (kn0 : ¬ (j6 = j0)) :
    own_Met l (⟨"com/example/maco/maco/model/PoolCounters", "equals", "(Ljava/lang/Object;)Z"⟩ : MethodName) prog_24_method_8_code 3 (some .boolean) ws (own_rm 0 0 0 0) Z #[(.ref b0), (.ref b1)] h0 (own_R (some (.int (0 : Int32))) h0) := by
  refine own_met (plainFor_of_name pn_0) ?_
  intro p e s m below meth c T0 hx hby hml hown hret hk hnm hZ X0 e0
  have hown : s.vm.findClass "com/example/maco/maco/model/PoolCounters" = some m.cls := hown
  refine own_ent (ef_1 m b0 b1) ?_
  refine own_aload_n X0 hx (hb hby d1_0) rfl rfl 1 rfl ?_
  refine own_aload_n X0 hx (hb hby d1_1) rfl rfl 2 rfl ?_
  refine own_acmp X0 hx false (hb hby d1_2) rfl rfl (decide_eq_false fun q => ne_b0_b1 (Value.ref.inj q)) 7 (by decide) (by decide) ?_
  refine own_aload_n X0 hx (hb hby d1_7) rfl rfl 8 rfl ?_
  refine own_instY X0 hx hZ hown (own_w hw 26 rfl) e0 (Ins.self E_b1) (hb hby d1_8) 11 rfl fun T1 X1 e1 => ?_
  refine own_ifY X1 hx (hb hby d1_11) ((if0 _ _).trans (feq (by decide : ¬ ((1 : Int32) = (0 : Int32)))).2) 16 (by decide) (by decide) ?_
  refine own_aload_n X1 hx (hb hby d1_16) rfl rfl 17 rfl ?_
  refine own_cast X1 hx hZ hown (own_w hw 26 rfl) e1 (Ins.self E_b1) (hb hby d1_17) 20 rfl fun T2 X2 e2 => ?_
  refine own_astore_n X2 hx (hb hby d1_20) #[.val (.ref b0), .val (.ref b1), .val (.ref b1)] rfl rfl 21 rfl ?_
  refine own_aload_n X2 hx (hb hby d1_21) rfl rfl 22 rfl ?_
  refine own_getF X2 hx hZ hown (host := "") (Or.inl (own_w hw 9 rfl)) Via.refl e2 F_b0_created (hb hby d1_22) 25 rfl fun T3 X3 e3 => ?_
  refine own_aload_n X3 hx (hb hby d1_25) rfl rfl 26 rfl ?_
  refine own_getF X3 hx hZ hown (host := "") (Or.inl (own_w hw 9 rfl)) Via.refl e3 F_b1_created (hb hby d1_26) 29 rfl fun T4 X4 e4 => ?_
  refine own_lcmp X4 hx (hb hby d1_29) 30 rfl ?_
  refine own_ifY X4 hx (hb hby d1_30) ((if0 _ _).trans (feq (fun q => (Ne.symm kn0) ((own_lceq _ _).mp q))).2) 93 (by decide) (by decide) ?_
  refine own_iconst X4 hx (hb hby d1_93) (0 : Int32) rfl 94 rfl ?_
  exact own_retZ X4 hx hk hret (hb hby d1_94) rfl ⟨rfl, e4, rfl⟩ (by decide) (by decide)
theorem pd_0 : parseMethodDescriptor "(JJIIII)V" = some ⟨[.long, .long, .int, .int, .int, .int], none⟩ := by decide +kernel
theorem pd_1 : parseMethodDescriptor "(Ljava/lang/Object;)Z" = some ⟨[(.object "java/lang/Object")], some .boolean⟩ := by decide +kernel
theorem pd_4 : parseMethodDescriptor "(J)Ljava/lang/Long;" = some ⟨[.long], some (.object "java/lang/Long")⟩ := by decide +kernel
theorem pn_3 : plainName "com/example/maco/maco/model/PoolCountersEqualsPinLaw" = true := by first | (simp [plainName, overriddenIn]; done) | decide +kernel
theorem ef_6 (m : MethodId) (y0 : Int64) (y1 : Int64) (y2 : Int32) (y3 : Int32) (y4 : Int32) (y5 : Int32) : entryFrame m #[(.long y0), (.long y1), (.int y2), (.int y3), (.int y4), (.int y5)] maxLocals = mkF m 0 #[.val (.long y0), .second, .val (.long y1), .second, .val (.int y2), .val (.int y3), .val (.int y4), .val (.int y5), .unset, .unset, .unset, .unset, .unset, .unset, .unset, .unset, .unset, .unset, .unset, .unset, .unset] [] := by first | (simp [entryFrame, mkF, argsToLocals, Value.category, maxLocals]; done) | rfl
theorem rm0 (l : Launch) (Z : State) (a0 : Array Value) (hw : own_HW Z a0) (ws : List Jvm.Cond) (x0 : Int64) (x1 : Int64) (x2 : Int32) (x3 : Int32) (x4 : Int32) (x5 : Int32) (h0 : Heap) (n0 : Nat) {w_cacheJ : Addr} {c_cacheJ : Cell} (H : own_C Z Z.heap w_cacheJ c_cacheJ) (O : Old Z n0 h0) :
    own_Met l x code maxLocals ret ws room_1 Z #[(.long x0), (.long x1), (.int x2), (.int x3), (.int x4), (.int x5)] h0 (own_Q0 n0) := by
  refine own_met (plainFor_of_name pn_3) ?_
  intro p e s m below meth c T0 hx hby hml hown hret hk hnm hZ X0 e0
  have hown : s.vm.findClass "com/example/maco/maco/model/PoolCountersEqualsPinLaw" = some m.cls := hown
  obtain ⟨-, -⟩ := id H
  refine own_ent (ef_6 m x0 x1 x2 x3 x4 x5) ?_
  refine own_iload X0 hx (hb hby at_0) rfl 2 rfl ?_
  refine own_bipush X0 hx (hb hby at_2) (24 : Int32) rfl 4 rfl ?_
  refine own_iushr X0 hx (hb hby at_4) 5 rfl ?_
  obtain ⟨sl, h_sl⟩ : ∃ z : Int32, z = ((x5.toUInt32 >>> ((24 : Int32) &&& 31).toUInt32).toInt32) := ⟨_, rfl⟩
  rw [← h_sl]
  refine own_istore X0 hx (hb hby at_5) #[.val (.long x0), .second, .val (.long x1), .second, .val (.int x2), .val (.int x3), .val (.int x4), .val (.int x5), .val (.int sl), .unset, .unset, .unset, .unset, .unset, .unset, .unset, .unset, .unset, .unset, .unset, .unset] rfl 7 rfl ?_
  have J1 : ∀ bc : Int64, own_Go p.tables e below (own_Fin s below (own_Q0 n0) room_1.cells room_1.slots) (T0.setTop (mkF m 21 #[.val (.long x0), .second, .val (.long x1), .second, .val (.int x2), .val (.int x3), .val (.int x4), .val (.int x5), .val (.int sl), .val (.long bc), .second, .unset, .unset, .unset, .unset, .unset, .unset, .unset, .unset, .unset, .unset] [])) := by
    intro bc
    have J2 : ∀ bd : Int64, own_Go p.tables e below (own_Fin s below (own_Q0 n0) room_1.cells room_1.slots) (T0.setTop (mkF m 35 #[.val (.long x0), .second, .val (.long x1), .second, .val (.int x2), .val (.int x3), .val (.int x4), .val (.int x5), .val (.int sl), .val (.long bc), .second, .val (.long bd), .second, .unset, .unset, .unset, .unset, .unset, .unset, .unset, .unset] [])) := by
      intro bd
      have J3 : ∀ bf : Int32, own_Go p.tables e below (own_Fin s below (own_Q0 n0) room_1.cells room_1.slots) (T0.setTop (mkF m 51 #[.val (.long x0), .second, .val (.long x1), .second, .val (.int x2), .val (.int x3), .val (.int x4), .val (.int x5), .val (.int sl), .val (.long bc), .second, .val (.long bd), .second, .val (.int bf), .unset, .unset, .unset, .unset, .unset, .unset, .unset] [])) := by
        intro bf
        have J4 : ∀ bs : Int32, own_Go p.tables e below (own_Fin s below (own_Q0 n0) room_1.cells room_1.slots) (T0.setTop (mkF m 68 #[.val (.long x0), .second, .val (.long x1), .second, .val (.int x2), .val (.int x3), .val (.int x4), .val (.int x5), .val (.int sl), .val (.long bc), .second, .val (.long bd), .second, .val (.int bf), .val (.int bs), .unset, .unset, .unset, .unset, .unset, .unset] [])) := by
          intro bs
          have J5 : ∀ bu : Int32, own_Go p.tables e below (own_Fin s below (own_Q0 n0) room_1.cells room_1.slots) (T0.setTop (mkF m 85 #[.val (.long x0), .second, .val (.long x1), .second, .val (.int x2), .val (.int x3), .val (.int x4), .val (.int x5), .val (.int sl), .val (.long bc), .second, .val (.long bd), .second, .val (.int bf), .val (.int bs), .val (.int bu), .unset, .unset, .unset, .unset, .unset] [])) := by
            intro bu
            have J6 : ∀ bw : Int32, own_Go p.tables e below (own_Fin s below (own_Q0 n0) room_1.cells room_1.slots) (T0.setTop (mkF m 102 #[.val (.long x0), .second, .val (.long x1), .second, .val (.int x2), .val (.int x3), .val (.int x4), .val (.int x5), .val (.int sl), .val (.long bc), .second, .val (.long bd), .second, .val (.int bf), .val (.int bs), .val (.int bu), .val (.int bw), .unset, .unset, .unset, .unset] [])) := by
              intro bw
              refine own_iload X0 hx (hb hby at_102) rfl 104 rfl ?_
              refine own_bipush X0 hx (hb hby at_104) (6 : Int32) rfl 106 rfl ?_
              refine own_iushr X0 hx (hb hby at_106) 107 rfl ?_
              refine own_iconst X0 hx (hb hby at_107) (3 : Int32) rfl 108 rfl ?_
              refine own_iand X0 hx (hb hby at_108) 109 rfl ?_
              obtain ⟨md, h_md⟩ : ∃ z : Int32, z = (((sl.toUInt32 >>> ((6 : Int32) &&& 31).toUInt32).toInt32) &&& (3 : Int32)) := ⟨_, rfl⟩
              rw [← h_md]
              refine own_istore X0 hx (hb hby at_109) #[.val (.long x0), .second, .val (.long x1), .second, .val (.int x2), .val (.int x3), .val (.int x4), .val (.int x5), .val (.int sl), .val (.long bc), .second, .val (.long bd), .second, .val (.int bf), .val (.int bs), .val (.int bu), .val (.int bw), .val (.int md), .unset, .unset, .unset] rfl 111 rfl ?_
              refine own_newO X0 hx hZ hown (own_w hw 0 rfl) (own_w hw 1 rfl) (own_w hw 2 rfl) e0 (hb hby at_111) 114 rfl (by decide) (by decide) fun T7 a7 g7 X7 E7 A7 D7 => ?_
              have g_a7 : n0 ≤ a7 := Nat.le_trans (own_osz O) (Nat.le_of_eq g7)
              have O8 := O.ext E7
              have F7_created : Fld Z T7.heap a7 "com/example/maco/maco/model/PoolCounters" "created" "J" (.long (0 : Int64)) := D7 (Or.inr (own_w hw 10 rfl)) (ty := .long) (by decide)
              have F7_destroyed : Fld Z T7.heap a7 "com/example/maco/maco/model/PoolCounters" "destroyed" "J" (.long (0 : Int64)) := D7 (Or.inr (own_w hw 12 rfl)) (ty := .long) (by decide)
              have F7_free : Fld Z T7.heap a7 "com/example/maco/maco/model/PoolCounters" "free" "I" (.int (0 : Int32)) := D7 (Or.inr (own_w hw 14 rfl)) (ty := .int) (by decide)
              have F7_shared : Fld Z T7.heap a7 "com/example/maco/maco/model/PoolCounters" "shared" "I" (.int (0 : Int32)) := D7 (Or.inr (own_w hw 16 rfl)) (ty := .int) (by decide)
              have F7_unshared : Fld Z T7.heap a7 "com/example/maco/maco/model/PoolCounters" "unshared" "I" (.int (0 : Int32)) := D7 (Or.inr (own_w hw 18 rfl)) (ty := .int) (by decide)
              have F7_waiting : Fld Z T7.heap a7 "com/example/maco/maco/model/PoolCounters" "waiting" "I" (.int (0 : Int32)) := D7 (Or.inr (own_w hw 20 rfl)) (ty := .int) (by decide)
              refine own_dup X7 hx (hb hby at_114) rfl 115 rfl ?_
              refine own_lload_n X7 hx (hb hby at_115) rfl 116 rfl ?_
              refine own_lload_n X7 hx (hb hby at_116) rfl 117 rfl ?_
              refine own_iload X7 hx (hb hby at_117) rfl 119 rfl ?_
              refine own_iload X7 hx (hb hby at_119) rfl 121 rfl ?_
              refine own_iload X7 hx (hb hby at_121) rfl 123 rfl ?_
              refine own_iload X7 hx (hb hby at_123) rfl 125 rfl ?_
              refine own_kN X7 hx hZ rfl hown (own_w hw 3 rfl) (own_w hw 4 rfl) (own_w hw 2 rfl) (own_w hw 5 rfl) (by decide) a7 [(.long x0), (.long x1), (.int x2), (.int x3), (.int x4), (.int x5)] [(.ref a7)] 1 (rm__init__1 l Z a0 hw [] T7.heap n0 O8 a7 x0 x1 x2 x3 x4 x5 A7 F7_created F7_destroyed F7_free F7_shared F7_unshared F7_waiting g_a7) (by decide) (by decide) rfl (by rw [hml]; rfl) (lenOf pd_0 rfl) (Nat.le_of_eq rfl) (hb hby at_125) (by decide) (by decide) 128 rfl fun v9 T9 L9 X9 hQ9 => ?_
              obtain ⟨rfl, Nq9, Kq9, p9_0, p9_1, p9_2, p9_3, p9_4, p9_5, p9_6⟩ := hQ9
              have O10 := O8.keep Kq9 (allS g_a7 all0)
              have N10 := Fr.app (Fr.nil n0) Nq9
              refine own_nV ?_
              refine own_astore X9 hx (hb hby at_128) #[.val (.long x0), .second, .val (.long x1), .second, .val (.int x2), .val (.int x3), .val (.int x4), .val (.int x5), .val (.int sl), .val (.long bc), .second, .val (.long bd), .second, .val (.int bf), .val (.int bs), .val (.int bu), .val (.int bw), .val (.int md), .val (.ref a7), .unset, .unset] rfl rfl 130 rfl ?_
              refine own_iload X9 hx (hb hby at_130) rfl 132 rfl ?_
              refine own_iconst X9 hx (hb hby at_132) (2 : Int32) rfl 133 rfl ?_
              rcases Decidable.em (md = (2 : Int32)) with hc133_11 | hc133_11
              · skip
                refine own_icmpN X9 hx (hb hby at_133) (teq hc133_11).2 136 rfl ?_
                refine own_aload X9 hx (hb hby at_136) rfl rfl 138 rfl ?_
                refine own_aload X9 hx (hb hby at_138) rfl rfl 140 rfl ?_
                refine own_pureV X9 hx hZ hown (own_w hw 21 rfl) (own_w hw 22 rfl) (notFace_of_selects (args := #[]) (mvT hZ (own_w hw 24 rfl))) (own_w hw 24 rfl) (own_w hw 23 rfl) (own_w hw 2 rfl) (own_w hw 25 rfl) (by decide) a7 [(.ref a7)] [] 0 (rm_equals_2 l Z a0 hw [] T9.heap n0 O10 a7) (by decide) (by decide) rfl rfl rfl p9_0 (by rw [hml]; rfl) (lenOf pd_1 rfl) (Nat.le_of_eq rfl) (hb hby at_140) 143 rfl rfl (by decide) (by decide) fun T13 X13 e13 => ?_
                exact own_retZ X13 hx hk hret (hb hby at_143) rfl ⟨rfl, N10⟩ (by decide) (by decide)
              · skip
                refine own_icmpY X9 hx (hb hby at_133) (feq hc133_11).2 144 (by decide) (by decide) ?_
                refine own_iload X9 hx (hb hby at_144) rfl 146 rfl ?_
                refine own_iconst X9 hx (hb hby at_146) (3 : Int32) rfl 147 rfl ?_
                rcases Decidable.em (md = (3 : Int32)) with hc147_14 | hc147_14
                · skip
                  refine own_icmpN X9 hx (hb hby at_147) (teq hc147_14).2 150 rfl ?_
                  refine own_iload X9 hx (hb hby at_150) rfl 152 rfl ?_
                  refine own_iconst X9 hx (hb hby at_152) (1 : Int32) rfl 153 rfl ?_
                  refine own_iand X9 hx (hb hby at_153) 154 rfl ?_
                  rcases Decidable.em ((sl &&& (1 : Int32)) = (0 : Int32)) with hc154_15 | hc154_15
                  · skip
                    refine own_ifY X9 hx (hb hby at_154) ((if0 _ _).trans (teq hc154_15).1) 161 (by decide) (by decide) ?_
                    refine own_lload_n X9 hx (hb hby at_161) rfl 162 rfl ?_
                    refine own_kS X9 hx hZ hown (own_w hw 28 rfl) (own_w hw 29 rfl) (own_w hw 30 rfl) (own_w hw 31 rfl) (by decide) [(.long x0)] [] 0 (rm_valueOf_J l Z a0 hw [] x0 T9.heap n0 H O10) (by decide) (by decide) rfl (by rw [hml]; rfl) (lenOf pd_4 rfl) (Nat.le_of_eq rfl) (hb hby at_162) (by decide) (by decide) 165 rfl fun v16 T16 L16 X16 hQ16 => ?_
                    obtain ⟨r16, rfl, Nq16, Kq16, p16_0, p16_1⟩ := hQ16
                    have O17 := O10.keep Kq16 all0
                    have N17 := Fr.app N10 Nq16
                    refine own_nR ?_
                    refine own_astore X16 hx (hb hby at_165) #[.val (.long x0), .second, .val (.long x1), .second, .val (.int x2), .val (.int x3), .val (.int x4), .val (.int x5), .val (.int sl), .val (.long bc), .second, .val (.long bd), .second, .val (.int bf), .val (.int bs), .val (.int bu), .val (.int bw), .val (.int md), .val (.ref a7), .val (.ref r16), .unset] rfl rfl 167 rfl ?_
                    refine own_aload X16 hx (hb hby at_167) rfl rfl 169 rfl ?_
                    refine own_aload X16 hx (hb hby at_169) rfl rfl 171 rfl ?_
                    have f19 := (p9_0.keep Kq16)
                    have ne20 : a7 ≠ r16 := Exa.ne f19 p16_0 (by decide)
                    refine own_pureV X16 hx hZ hown (own_w hw 21 rfl) (own_w hw 22 rfl) (notFace_of_selects (args := #[]) (mvT hZ (own_w hw 24 rfl))) (own_w hw 24 rfl) (own_w hw 23 rfl) (own_w hw 2 rfl) (own_w hw 25 rfl) (by decide) a7 [(.ref r16)] [] 0 (rm_equals_5 l Z a0 hw [] T16.heap n0 O17 a7 r16 p16_0 ne20) (by decide) (by decide) rfl rfl rfl f19 (by rw [hml]; rfl) (lenOf pd_1 rfl) (Nat.le_of_eq rfl) (hb hby at_171) 174 rfl rfl (by decide) (by decide) fun T21 X21 e21 => ?_
                    refine own_ifN X21 hx (hb hby at_174) ((if0 _ _).trans (teq (by decide : (0 : Int32) = (0 : Int32))).2) 177 rfl ?_
                    refine own_iconst X21 hx (hb hby at_177) (1 : Int32) rfl 178 rfl ?_
                    refine own_goto X21 hx (hb hby at_178) 182 (by decide) (by decide) ?_
                    exact own_retZ X21 hx hk hret (hb hby at_182) rfl ⟨rfl, N17⟩ (by decide) (by decide)
                  · skip
                    refine own_ifN X9 hx (hb hby at_154) ((if0 _ _).trans (feq hc154_15).1) 157 rfl ?_
                    refine own_aconst_null X9 hx (hb hby at_157) 158 rfl ?_
                    refine own_goto X9 hx (hb hby at_158) 165 (by decide) (by decide) ?_
                    refine own_astore X9 hx (hb hby at_165) #[.val (.long x0), .second, .val (.long x1), .second, .val (.int x2), .val (.int x3), .val (.int x4), .val (.int x5), .val (.int sl), .val (.long bc), .second, .val (.long bd), .second, .val (.int bf), .val (.int bs), .val (.int bu), .val (.int bw), .val (.int md), .val (.ref a7), .val .null, .unset] rfl rfl 167 rfl ?_
                    refine own_aload X9 hx (hb hby at_167) rfl rfl 169 rfl ?_
                    refine own_aload X9 hx (hb hby at_169) rfl rfl 171 rfl ?_
                    refine own_pureV X9 hx hZ hown (own_w hw 21 rfl) (own_w hw 22 rfl) (notFace_of_selects (args := #[]) (mvT hZ (own_w hw 24 rfl))) (own_w hw 24 rfl) (own_w hw 23 rfl) (own_w hw 2 rfl) (own_w hw 25 rfl) (by decide) a7 [.null] [] 0 (rm_equals_6 l Z a0 hw [] T9.heap n0 O10 a7) (by decide) (by decide) rfl rfl rfl p9_0 (by rw [hml]; rfl) (lenOf pd_1 rfl) (Nat.le_of_eq rfl) (hb hby at_171) 174 rfl rfl (by decide) (by decide) fun T23 X23 e23 => ?_
                    refine own_ifN X23 hx (hb hby at_174) ((if0 _ _).trans (teq (by decide : (0 : Int32) = (0 : Int32))).2) 177 rfl ?_
                    refine own_iconst X23 hx (hb hby at_177) (1 : Int32) rfl 178 rfl ?_
                    refine own_goto X23 hx (hb hby at_178) 182 (by decide) (by decide) ?_
                    exact own_retZ X23 hx hk hret (hb hby at_182) rfl ⟨rfl, N10⟩ (by decide) (by decide)
                · skip
                  refine own_icmpY X9 hx (hb hby at_147) (feq hc147_14).2 183 (by decide) (by decide) ?_
                  refine own_newO X9 hx hZ hown (own_w hw 0 rfl) (own_w hw 1 rfl) (own_w hw 2 rfl) rfl (hb hby at_183) 186 rfl (by decide) (by decide) fun T24 a24 g24 X24 E24 A24 D24 => ?_
                  have g_a24 : n0 ≤ a24 := Nat.le_trans (own_osz O10) (Nat.le_of_eq g24)
                  have O25 := O10.ext E24
                  have F24_created : Fld Z T24.heap a24 "com/example/maco/maco/model/PoolCounters" "created" "J" (.long (0 : Int64)) := D24 (Or.inr (own_w hw 10 rfl)) (ty := .long) (by decide)
                  have F24_destroyed : Fld Z T24.heap a24 "com/example/maco/maco/model/PoolCounters" "destroyed" "J" (.long (0 : Int64)) := D24 (Or.inr (own_w hw 12 rfl)) (ty := .long) (by decide)
                  have F24_free : Fld Z T24.heap a24 "com/example/maco/maco/model/PoolCounters" "free" "I" (.int (0 : Int32)) := D24 (Or.inr (own_w hw 14 rfl)) (ty := .int) (by decide)
                  have F24_shared : Fld Z T24.heap a24 "com/example/maco/maco/model/PoolCounters" "shared" "I" (.int (0 : Int32)) := D24 (Or.inr (own_w hw 16 rfl)) (ty := .int) (by decide)
                  have F24_unshared : Fld Z T24.heap a24 "com/example/maco/maco/model/PoolCounters" "unshared" "I" (.int (0 : Int32)) := D24 (Or.inr (own_w hw 18 rfl)) (ty := .int) (by decide)
                  have F24_waiting : Fld Z T24.heap a24 "com/example/maco/maco/model/PoolCounters" "waiting" "I" (.int (0 : Int32)) := D24 (Or.inr (own_w hw 20 rfl)) (ty := .int) (by decide)
                  refine own_dup X24 hx (hb hby at_186) rfl 187 rfl ?_
                  refine own_lload X24 hx (hb hby at_187) rfl 189 rfl ?_
                  refine own_lload X24 hx (hb hby at_189) rfl 191 rfl ?_
                  refine own_iload X24 hx (hb hby at_191) rfl 193 rfl ?_
                  refine own_iload X24 hx (hb hby at_193) rfl 195 rfl ?_
                  refine own_iload X24 hx (hb hby at_195) rfl 197 rfl ?_
                  refine own_iload X24 hx (hb hby at_197) rfl 199 rfl ?_
                  refine own_kN X24 hx hZ rfl hown (own_w hw 3 rfl) (own_w hw 4 rfl) (own_w hw 2 rfl) (own_w hw 5 rfl) (by decide) a24 [(.long bc), (.long bd), (.int bf), (.int bs), (.int bu), (.int bw)] [(.ref a24)] 1 (rm__init__1 l Z a0 hw [] T24.heap n0 O25 a24 bc bd bf bs bu bw A24 F24_created F24_destroyed F24_free F24_shared F24_unshared F24_waiting g_a24) (by decide) (by decide) rfl (by rw [hml]; rfl) (lenOf pd_0 rfl) (Nat.le_of_eq rfl) (hb hby at_199) (by decide) (by decide) 202 rfl fun v26 T26 L26 X26 hQ26 => ?_
                  obtain ⟨rfl, Nq26, Kq26, p26_0, p26_1, p26_2, p26_3, p26_4, p26_5, p26_6⟩ := hQ26
                  have O27 := O25.keep Kq26 (allS g_a24 all0)
                  have N27 := Fr.app N10 Nq26
                  refine own_nV ?_
                  refine own_astore X26 hx (hb hby at_202) #[.val (.long x0), .second, .val (.long x1), .second, .val (.int x2), .val (.int x3), .val (.int x4), .val (.int x5), .val (.int sl), .val (.long bc), .second, .val (.long bd), .second, .val (.int bf), .val (.int bs), .val (.int bu), .val (.int bw), .val (.int md), .val (.ref a7), .val (.ref a24), .unset] rfl rfl 204 rfl ?_
                  refine own_lload X26 hx (hb hby at_204) rfl 206 rfl ?_
                  refine own_lload_n X26 hx (hb hby at_206) rfl 207 rfl ?_
                  refine own_lcmp X26 hx (hb hby at_207) 208 rfl ?_
                  rcases Decidable.em (bc = x0) with hc208_28 | hc208_28
                  · skip
                    refine own_ifN X26 hx (hb hby at_208) ((if0 _ _).trans (teq ((own_lceq _ _).mpr hc208_28)).2) 211 rfl ?_
                    refine own_lload X26 hx (hb hby at_211) rfl 213 rfl ?_
                    refine own_lload_n X26 hx (hb hby at_213) rfl 214 rfl ?_
                    refine own_lcmp X26 hx (hb hby at_214) 215 rfl ?_
                    rcases Decidable.em (bd = x1) with hc215_29 | hc215_29
                    · skip
                      refine own_ifN X26 hx (hb hby at_215) ((if0 _ _).trans (teq ((own_lceq _ _).mpr hc215_29)).2) 218 rfl ?_
                      refine own_iload X26 hx (hb hby at_218) rfl 220 rfl ?_
                      refine own_iload X26 hx (hb hby at_220) rfl 222 rfl ?_
                      rcases Decidable.em (bf = x2) with hc222_30 | hc222_30
                      · skip
                        refine own_icmpN X26 hx (hb hby at_222) (teq hc222_30).2 225 rfl ?_
                        refine own_iload X26 hx (hb hby at_225) rfl 227 rfl ?_
                        refine own_iload X26 hx (hb hby at_227) rfl 229 rfl ?_
                        rcases Decidable.em (bs = x3) with hc229_31 | hc229_31
                        · skip
                          refine own_icmpN X26 hx (hb hby at_229) (teq hc229_31).2 232 rfl ?_
                          refine own_iload X26 hx (hb hby at_232) rfl 234 rfl ?_
                          refine own_iload X26 hx (hb hby at_234) rfl 236 rfl ?_
                          rcases Decidable.em (bu = x4) with hc236_32 | hc236_32
                          · skip
                            refine own_icmpN X26 hx (hb hby at_236) (teq hc236_32).2 239 rfl ?_
                            refine own_iload X26 hx (hb hby at_239) rfl 241 rfl ?_
                            refine own_iload X26 hx (hb hby at_241) rfl 243 rfl ?_
                            rcases Decidable.em (bw = x5) with hc243_33 | hc243_33
                            · skip
                              refine own_icmpN X26 hx (hb hby at_243) (teq hc243_33).2 246 rfl ?_
                              refine own_iconst X26 hx (hb hby at_246) (1 : Int32) rfl 247 rfl ?_
                              refine own_goto X26 hx (hb hby at_247) 251 (by decide) (by decide) ?_
                              refine own_istore X26 hx (hb hby at_251) #[.val (.long x0), .second, .val (.long x1), .second, .val (.int x2), .val (.int x3), .val (.int x4), .val (.int x5), .val (.int sl), .val (.long bc), .second, .val (.long bd), .second, .val (.int bf), .val (.int bs), .val (.int bu), .val (.int bw), .val (.int md), .val (.ref a7), .val (.ref a24), .val (.int (1 : Int32))] rfl 253 rfl ?_
                              refine own_aload X26 hx (hb hby at_253) rfl rfl 255 rfl ?_
                              refine own_aload X26 hx (hb hby at_255) rfl rfl 257 rfl ?_
                              have f35 := ((p9_0.ext E24).keep Kq26)
                              have ne36 := own_nl A7.lt Kq9.1 (Nat.le_of_eq g24)
                              have f37 := ((p9_1.ext E24).keep Kq26 (ninS ne36 nin0))
                              have f38 := ((p9_2.ext E24).keep Kq26 (ninS ne36 nin0))
                              have f39 := ((p9_3.ext E24).keep Kq26 (ninS ne36 nin0))
                              have f40 := ((p9_4.ext E24).keep Kq26 (ninS ne36 nin0))
                              have f41 := ((p9_5.ext E24).keep Kq26 (ninS ne36 nin0))
                              have f42 := ((p9_6.ext E24).keep Kq26 (ninS ne36 nin0))
                              refine own_pureV X26 hx hZ hown (own_w hw 21 rfl) (own_w hw 22 rfl) (notFace_of_selects (args := #[]) (mvT hZ (own_w hw 24 rfl))) (own_w hw 24 rfl) (own_w hw 23 rfl) (own_w hw 2 rfl) (own_w hw 25 rfl) (by decide) a7 [(.ref a24)] [] 0 (rm_equals_7 l Z a0 hw [] T26.heap n0 O27 a7 a24 x0 x1 x2 x3 x4 x5 bc bd bf bs bu bw f37 f38 f39 f40 f41 f42 p26_0 p26_1 p26_2 p26_3 p26_4 p26_5 p26_6 ne36 hc208_28 hc215_29 hc222_30 hc229_31 hc236_32 hc243_33) (by decide) (by decide) rfl rfl rfl f35 (by rw [hml]; rfl) (lenOf pd_1 rfl) (Nat.le_of_eq rfl) (hb hby at_257) 260 rfl rfl (by decide) (by decide) fun T43 X43 e43 => ?_
                              refine own_iload X43 hx (hb hby at_260) rfl 262 rfl ?_
                              refine own_icmpN X43 hx (hb hby at_262) (teq (by decide : (1 : Int32) = (1 : Int32))).2 265 rfl ?_
                              refine own_aload X43 hx (hb hby at_265) rfl rfl 267 rfl ?_
                              refine own_aload X43 hx (hb hby at_267) rfl rfl 269 rfl ?_
                              refine own_pureV X43 hx hZ hown (own_w hw 21 rfl) (own_w hw 22 rfl) (notFace_of_selects (args := #[]) (mvT hZ (own_w hw 24 rfl))) (own_w hw 24 rfl) (own_w hw 23 rfl) (own_w hw 2 rfl) (own_w hw 25 rfl) (by decide) a24 [(.ref a7)] [] 0 (rm_equals_7 l Z a0 hw [] T26.heap n0 O27 a24 a7 bc bd bf bs bu bw x0 x1 x2 x3 x4 x5 p26_1 p26_2 p26_3 p26_4 p26_5 p26_6 f35 f37 f38 f39 f40 f41 f42 (Ne.symm ne36) (Eq.symm hc208_28) (Eq.symm hc215_29) (Eq.symm hc222_30) (Eq.symm hc229_31) (Eq.symm hc236_32) (Eq.symm hc243_33)) (by decide) (by decide) rfl rfl e43 p26_0 (by rw [hml]; rfl) (lenOf pd_1 rfl) (Nat.le_of_eq rfl) (hb hby at_269) 272 rfl rfl (by decide) (by decide) fun T45 X45 e45 => ?_
                              refine own_iload X45 hx (hb hby at_272) rfl 274 rfl ?_
                              refine own_icmpN X45 hx (hb hby at_274) (teq (by decide : (1 : Int32) = (1 : Int32))).2 277 rfl ?_
                              refine own_iconst X45 hx (hb hby at_277) (1 : Int32) rfl 278 rfl ?_
                              refine own_goto X45 hx (hb hby at_278) 282 (by decide) (by decide) ?_
                              exact own_retZ X45 hx hk hret (hb hby at_282) rfl ⟨rfl, N27⟩ (by decide) (by decide)
                            · skip
                              refine own_icmpY X26 hx (hb hby at_243) (feq hc243_33).2 250 (by decide) (by decide) ?_
                              refine own_iconst X26 hx (hb hby at_250) (0 : Int32) rfl 251 rfl ?_
                              refine own_istore X26 hx (hb hby at_251) #[.val (.long x0), .second, .val (.long x1), .second, .val (.int x2), .val (.int x3), .val (.int x4), .val (.int x5), .val (.int sl), .val (.long bc), .second, .val (.long bd), .second, .val (.int bf), .val (.int bs), .val (.int bu), .val (.int bw), .val (.int md), .val (.ref a7), .val (.ref a24), .val (.int (0 : Int32))] rfl 253 rfl ?_
                              refine own_aload X26 hx (hb hby at_253) rfl rfl 255 rfl ?_
                              refine own_aload X26 hx (hb hby at_255) rfl rfl 257 rfl ?_
                              have f47 := ((p9_0.ext E24).keep Kq26)
                              have ne48 := own_nl A7.lt Kq9.1 (Nat.le_of_eq g24)
                              have f49 := ((p9_1.ext E24).keep Kq26 (ninS ne48 nin0))
                              have f50 := ((p9_2.ext E24).keep Kq26 (ninS ne48 nin0))
                              have f51 := ((p9_3.ext E24).keep Kq26 (ninS ne48 nin0))
                              have f52 := ((p9_4.ext E24).keep Kq26 (ninS ne48 nin0))
                              have f53 := ((p9_5.ext E24).keep Kq26 (ninS ne48 nin0))
                              have f54 := ((p9_6.ext E24).keep Kq26 (ninS ne48 nin0))
                              refine own_pureV X26 hx hZ hown (own_w hw 21 rfl) (own_w hw 22 rfl) (notFace_of_selects (args := #[]) (mvT hZ (own_w hw 24 rfl))) (own_w hw 24 rfl) (own_w hw 23 rfl) (own_w hw 2 rfl) (own_w hw 25 rfl) (by decide) a7 [(.ref a24)] [] 0 (rm_equals_8 l Z a0 hw [] T26.heap n0 O27 a7 a24 x0 x1 x2 x3 x4 x5 bc bd bf bs bu bw f49 f50 f51 f52 f53 f54 p26_0 p26_1 p26_2 p26_3 p26_4 p26_5 p26_6 ne48 hc208_28 hc215_29 hc222_30 hc229_31 hc236_32 hc243_33) (by decide) (by decide) rfl rfl rfl f47 (by rw [hml]; rfl) (lenOf pd_1 rfl) (Nat.le_of_eq rfl) (hb hby at_257) 260 rfl rfl (by decide) (by decide) fun T55 X55 e55 => ?_
                              refine own_iload X55 hx (hb hby at_260) rfl 262 rfl ?_
                              refine own_icmpN X55 hx (hb hby at_262) (teq (by decide : (0 : Int32) = (0 : Int32))).2 265 rfl ?_
                              refine own_aload X55 hx (hb hby at_265) rfl rfl 267 rfl ?_
                              refine own_aload X55 hx (hb hby at_267) rfl rfl 269 rfl ?_
                              refine own_pureV X55 hx hZ hown (own_w hw 21 rfl) (own_w hw 22 rfl) (notFace_of_selects (args := #[]) (mvT hZ (own_w hw 24 rfl))) (own_w hw 24 rfl) (own_w hw 23 rfl) (own_w hw 2 rfl) (own_w hw 25 rfl) (by decide) a24 [(.ref a7)] [] 0 (rm_equals_8 l Z a0 hw [] T26.heap n0 O27 a24 a7 bc bd bf bs bu bw x0 x1 x2 x3 x4 x5 p26_1 p26_2 p26_3 p26_4 p26_5 p26_6 f47 f49 f50 f51 f52 f53 f54 (Ne.symm ne48) (Eq.symm hc208_28) (Eq.symm hc215_29) (Eq.symm hc222_30) (Eq.symm hc229_31) (Eq.symm hc236_32) (Ne.symm hc243_33)) (by decide) (by decide) rfl rfl e55 p26_0 (by rw [hml]; rfl) (lenOf pd_1 rfl) (Nat.le_of_eq rfl) (hb hby at_269) 272 rfl rfl (by decide) (by decide) fun T57 X57 e57 => ?_
                              refine own_iload X57 hx (hb hby at_272) rfl 274 rfl ?_
                              refine own_icmpN X57 hx (hb hby at_274) (teq (by decide : (0 : Int32) = (0 : Int32))).2 277 rfl ?_
                              refine own_iconst X57 hx (hb hby at_277) (1 : Int32) rfl 278 rfl ?_
                              refine own_goto X57 hx (hb hby at_278) 282 (by decide) (by decide) ?_
                              exact own_retZ X57 hx hk hret (hb hby at_282) rfl ⟨rfl, N27⟩ (by decide) (by decide)
                          · skip
                            refine own_icmpY X26 hx (hb hby at_236) (feq hc236_32).2 250 (by decide) (by decide) ?_
                            refine own_iconst X26 hx (hb hby at_250) (0 : Int32) rfl 251 rfl ?_
                            refine own_istore X26 hx (hb hby at_251) #[.val (.long x0), .second, .val (.long x1), .second, .val (.int x2), .val (.int x3), .val (.int x4), .val (.int x5), .val (.int sl), .val (.long bc), .second, .val (.long bd), .second, .val (.int bf), .val (.int bs), .val (.int bu), .val (.int bw), .val (.int md), .val (.ref a7), .val (.ref a24), .val (.int (0 : Int32))] rfl 253 rfl ?_
                            refine own_aload X26 hx (hb hby at_253) rfl rfl 255 rfl ?_
                            refine own_aload X26 hx (hb hby at_255) rfl rfl 257 rfl ?_
                            have f59 := ((p9_0.ext E24).keep Kq26)
                            have ne60 := own_nl A7.lt Kq9.1 (Nat.le_of_eq g24)
                            have f61 := ((p9_1.ext E24).keep Kq26 (ninS ne60 nin0))
                            have f62 := ((p9_2.ext E24).keep Kq26 (ninS ne60 nin0))
                            have f63 := ((p9_3.ext E24).keep Kq26 (ninS ne60 nin0))
                            have f64 := ((p9_4.ext E24).keep Kq26 (ninS ne60 nin0))
                            have f65 := ((p9_5.ext E24).keep Kq26 (ninS ne60 nin0))
                            refine own_pureV X26 hx hZ hown (own_w hw 21 rfl) (own_w hw 22 rfl) (notFace_of_selects (args := #[]) (mvT hZ (own_w hw 24 rfl))) (own_w hw 24 rfl) (own_w hw 23 rfl) (own_w hw 2 rfl) (own_w hw 25 rfl) (by decide) a7 [(.ref a24)] [] 0 (rm_equals_9 l Z a0 hw [] T26.heap n0 O27 a7 a24 x0 x1 x2 x3 x4 bc bd bf bs bu f61 f62 f63 f64 f65 p26_0 p26_1 p26_2 p26_3 p26_4 p26_5 ne60 hc208_28 hc215_29 hc222_30 hc229_31 hc236_32) (by decide) (by decide) rfl rfl rfl f59 (by rw [hml]; rfl) (lenOf pd_1 rfl) (Nat.le_of_eq rfl) (hb hby at_257) 260 rfl rfl (by decide) (by decide) fun T66 X66 e66 => ?_
                            refine own_iload X66 hx (hb hby at_260) rfl 262 rfl ?_
                            refine own_icmpN X66 hx (hb hby at_262) (teq (by decide : (0 : Int32) = (0 : Int32))).2 265 rfl ?_
                            refine own_aload X66 hx (hb hby at_265) rfl rfl 267 rfl ?_
                            refine own_aload X66 hx (hb hby at_267) rfl rfl 269 rfl ?_
                            refine own_pureV X66 hx hZ hown (own_w hw 21 rfl) (own_w hw 22 rfl) (notFace_of_selects (args := #[]) (mvT hZ (own_w hw 24 rfl))) (own_w hw 24 rfl) (own_w hw 23 rfl) (own_w hw 2 rfl) (own_w hw 25 rfl) (by decide) a24 [(.ref a7)] [] 0 (rm_equals_9 l Z a0 hw [] T26.heap n0 O27 a24 a7 bc bd bf bs bu x0 x1 x2 x3 x4 p26_1 p26_2 p26_3 p26_4 p26_5 f59 f61 f62 f63 f64 f65 (Ne.symm ne60) (Eq.symm hc208_28) (Eq.symm hc215_29) (Eq.symm hc222_30) (Eq.symm hc229_31) (Ne.symm hc236_32)) (by decide) (by decide) rfl rfl e66 p26_0 (by rw [hml]; rfl) (lenOf pd_1 rfl) (Nat.le_of_eq rfl) (hb hby at_269) 272 rfl rfl (by decide) (by decide) fun T68 X68 e68 => ?_
                            refine own_iload X68 hx (hb hby at_272) rfl 274 rfl ?_
                            refine own_icmpN X68 hx (hb hby at_274) (teq (by decide : (0 : Int32) = (0 : Int32))).2 277 rfl ?_
                            refine own_iconst X68 hx (hb hby at_277) (1 : Int32) rfl 278 rfl ?_
                            refine own_goto X68 hx (hb hby at_278) 282 (by decide) (by decide) ?_
                            exact own_retZ X68 hx hk hret (hb hby at_282) rfl ⟨rfl, N27⟩ (by decide) (by decide)
                        · skip
                          refine own_icmpY X26 hx (hb hby at_229) (feq hc229_31).2 250 (by decide) (by decide) ?_
                          refine own_iconst X26 hx (hb hby at_250) (0 : Int32) rfl 251 rfl ?_
                          refine own_istore X26 hx (hb hby at_251) #[.val (.long x0), .second, .val (.long x1), .second, .val (.int x2), .val (.int x3), .val (.int x4), .val (.int x5), .val (.int sl), .val (.long bc), .second, .val (.long bd), .second, .val (.int bf), .val (.int bs), .val (.int bu), .val (.int bw), .val (.int md), .val (.ref a7), .val (.ref a24), .val (.int (0 : Int32))] rfl 253 rfl ?_
                          refine own_aload X26 hx (hb hby at_253) rfl rfl 255 rfl ?_
                          refine own_aload X26 hx (hb hby at_255) rfl rfl 257 rfl ?_
                          have f70 := ((p9_0.ext E24).keep Kq26)
                          have ne71 := own_nl A7.lt Kq9.1 (Nat.le_of_eq g24)
                          have f72 := ((p9_1.ext E24).keep Kq26 (ninS ne71 nin0))
                          have f73 := ((p9_2.ext E24).keep Kq26 (ninS ne71 nin0))
                          have f74 := ((p9_3.ext E24).keep Kq26 (ninS ne71 nin0))
                          have f75 := ((p9_4.ext E24).keep Kq26 (ninS ne71 nin0))
                          refine own_pureV X26 hx hZ hown (own_w hw 21 rfl) (own_w hw 22 rfl) (notFace_of_selects (args := #[]) (mvT hZ (own_w hw 24 rfl))) (own_w hw 24 rfl) (own_w hw 23 rfl) (own_w hw 2 rfl) (own_w hw 25 rfl) (by decide) a7 [(.ref a24)] [] 0 (rm_equals_10 l Z a0 hw [] T26.heap n0 O27 a7 a24 x0 x1 x2 x3 bc bd bf bs f72 f73 f74 f75 p26_0 p26_1 p26_2 p26_3 p26_4 ne71 hc208_28 hc215_29 hc222_30 hc229_31) (by decide) (by decide) rfl rfl rfl f70 (by rw [hml]; rfl) (lenOf pd_1 rfl) (Nat.le_of_eq rfl) (hb hby at_257) 260 rfl rfl (by decide) (by decide) fun T76 X76 e76 => ?_
                          refine own_iload X76 hx (hb hby at_260) rfl 262 rfl ?_
                          refine own_icmpN X76 hx (hb hby at_262) (teq (by decide : (0 : Int32) = (0 : Int32))).2 265 rfl ?_
                          refine own_aload X76 hx (hb hby at_265) rfl rfl 267 rfl ?_
                          refine own_aload X76 hx (hb hby at_267) rfl rfl 269 rfl ?_
                          refine own_pureV X76 hx hZ hown (own_w hw 21 rfl) (own_w hw 22 rfl) (notFace_of_selects (args := #[]) (mvT hZ (own_w hw 24 rfl))) (own_w hw 24 rfl) (own_w hw 23 rfl) (own_w hw 2 rfl) (own_w hw 25 rfl) (by decide) a24 [(.ref a7)] [] 0 (rm_equals_10 l Z a0 hw [] T26.heap n0 O27 a24 a7 bc bd bf bs x0 x1 x2 x3 p26_1 p26_2 p26_3 p26_4 f70 f72 f73 f74 f75 (Ne.symm ne71) (Eq.symm hc208_28) (Eq.symm hc215_29) (Eq.symm hc222_30) (Ne.symm hc229_31)) (by decide) (by decide) rfl rfl e76 p26_0 (by rw [hml]; rfl) (lenOf pd_1 rfl) (Nat.le_of_eq rfl) (hb hby at_269) 272 rfl rfl (by decide) (by decide) fun T78 X78 e78 => ?_
                          refine own_iload X78 hx (hb hby at_272) rfl 274 rfl ?_
                          refine own_icmpN X78 hx (hb hby at_274) (teq (by decide : (0 : Int32) = (0 : Int32))).2 277 rfl ?_
                          refine own_iconst X78 hx (hb hby at_277) (1 : Int32) rfl 278 rfl ?_
                          refine own_goto X78 hx (hb hby at_278) 282 (by decide) (by decide) ?_
                          exact own_retZ X78 hx hk hret (hb hby at_282) rfl ⟨rfl, N27⟩ (by decide) (by decide)
                      · skip
                        refine own_icmpY X26 hx (hb hby at_222) (feq hc222_30).2 250 (by decide) (by decide) ?_
                        refine own_iconst X26 hx (hb hby at_250) (0 : Int32) rfl 251 rfl ?_
                        refine own_istore X26 hx (hb hby at_251) #[.val (.long x0), .second, .val (.long x1), .second, .val (.int x2), .val (.int x3), .val (.int x4), .val (.int x5), .val (.int sl), .val (.long bc), .second, .val (.long bd), .second, .val (.int bf), .val (.int bs), .val (.int bu), .val (.int bw), .val (.int md), .val (.ref a7), .val (.ref a24), .val (.int (0 : Int32))] rfl 253 rfl ?_
                        refine own_aload X26 hx (hb hby at_253) rfl rfl 255 rfl ?_
                        refine own_aload X26 hx (hb hby at_255) rfl rfl 257 rfl ?_
                        have f80 := ((p9_0.ext E24).keep Kq26)
                        have ne81 := own_nl A7.lt Kq9.1 (Nat.le_of_eq g24)
                        have f82 := ((p9_1.ext E24).keep Kq26 (ninS ne81 nin0))
                        have f83 := ((p9_2.ext E24).keep Kq26 (ninS ne81 nin0))
                        have f84 := ((p9_3.ext E24).keep Kq26 (ninS ne81 nin0))
                        refine own_pureV X26 hx hZ hown (own_w hw 21 rfl) (own_w hw 22 rfl) (notFace_of_selects (args := #[]) (mvT hZ (own_w hw 24 rfl))) (own_w hw 24 rfl) (own_w hw 23 rfl) (own_w hw 2 rfl) (own_w hw 25 rfl) (by decide) a7 [(.ref a24)] [] 0 (rm_equals_11 l Z a0 hw [] T26.heap n0 O27 a7 a24 x0 x1 x2 bc bd bf f82 f83 f84 p26_0 p26_1 p26_2 p26_3 ne81 hc208_28 hc215_29 hc222_30) (by decide) (by decide) rfl rfl rfl f80 (by rw [hml]; rfl) (lenOf pd_1 rfl) (Nat.le_of_eq rfl) (hb hby at_257) 260 rfl rfl (by decide) (by decide) fun T85 X85 e85 => ?_
                        refine own_iload X85 hx (hb hby at_260) rfl 262 rfl ?_
                        refine own_icmpN X85 hx (hb hby at_262) (teq (by decide : (0 : Int32) = (0 : Int32))).2 265 rfl ?_
                        refine own_aload X85 hx (hb hby at_265) rfl rfl 267 rfl ?_
                        refine own_aload X85 hx (hb hby at_267) rfl rfl 269 rfl ?_
                        refine own_pureV X85 hx hZ hown (own_w hw 21 rfl) (own_w hw 22 rfl) (notFace_of_selects (args := #[]) (mvT hZ (own_w hw 24 rfl))) (own_w hw 24 rfl) (own_w hw 23 rfl) (own_w hw 2 rfl) (own_w hw 25 rfl) (by decide) a24 [(.ref a7)] [] 0 (rm_equals_11 l Z a0 hw [] T26.heap n0 O27 a24 a7 bc bd bf x0 x1 x2 p26_1 p26_2 p26_3 f80 f82 f83 f84 (Ne.symm ne81) (Eq.symm hc208_28) (Eq.symm hc215_29) (Ne.symm hc222_30)) (by decide) (by decide) rfl rfl e85 p26_0 (by rw [hml]; rfl) (lenOf pd_1 rfl) (Nat.le_of_eq rfl) (hb hby at_269) 272 rfl rfl (by decide) (by decide) fun T87 X87 e87 => ?_
                        refine own_iload X87 hx (hb hby at_272) rfl 274 rfl ?_
                        refine own_icmpN X87 hx (hb hby at_274) (teq (by decide : (0 : Int32) = (0 : Int32))).2 277 rfl ?_
                        refine own_iconst X87 hx (hb hby at_277) (1 : Int32) rfl 278 rfl ?_
                        refine own_goto X87 hx (hb hby at_278) 282 (by decide) (by decide) ?_
                        exact own_retZ X87 hx hk hret (hb hby at_282) rfl ⟨rfl, N27⟩ (by decide) (by decide)
                    · skip
                      refine own_ifY X26 hx (hb hby at_215) ((if0 _ _).trans (feq (fun q => hc215_29 ((own_lceq _ _).mp q))).2) 250 (by decide) (by decide) ?_
                      refine own_iconst X26 hx (hb hby at_250) (0 : Int32) rfl 251 rfl ?_
                      refine own_istore X26 hx (hb hby at_251) #[.val (.long x0), .second, .val (.long x1), .second, .val (.int x2), .val (.int x3), .val (.int x4), .val (.int x5), .val (.int sl), .val (.long bc), .second, .val (.long bd), .second, .val (.int bf), .val (.int bs), .val (.int bu), .val (.int bw), .val (.int md), .val (.ref a7), .val (.ref a24), .val (.int (0 : Int32))] rfl 253 rfl ?_
                      refine own_aload X26 hx (hb hby at_253) rfl rfl 255 rfl ?_
                      refine own_aload X26 hx (hb hby at_255) rfl rfl 257 rfl ?_
                      have f89 := ((p9_0.ext E24).keep Kq26)
                      have ne90 := own_nl A7.lt Kq9.1 (Nat.le_of_eq g24)
                      have f91 := ((p9_1.ext E24).keep Kq26 (ninS ne90 nin0))
                      have f92 := ((p9_2.ext E24).keep Kq26 (ninS ne90 nin0))
                      refine own_pureV X26 hx hZ hown (own_w hw 21 rfl) (own_w hw 22 rfl) (notFace_of_selects (args := #[]) (mvT hZ (own_w hw 24 rfl))) (own_w hw 24 rfl) (own_w hw 23 rfl) (own_w hw 2 rfl) (own_w hw 25 rfl) (by decide) a7 [(.ref a24)] [] 0 (rm_equals_12 l Z a0 hw [] T26.heap n0 O27 a7 a24 x0 x1 bc bd f91 f92 p26_0 p26_1 p26_2 ne90 hc208_28 hc215_29) (by decide) (by decide) rfl rfl rfl f89 (by rw [hml]; rfl) (lenOf pd_1 rfl) (Nat.le_of_eq rfl) (hb hby at_257) 260 rfl rfl (by decide) (by decide) fun T93 X93 e93 => ?_
                      refine own_iload X93 hx (hb hby at_260) rfl 262 rfl ?_
                      refine own_icmpN X93 hx (hb hby at_262) (teq (by decide : (0 : Int32) = (0 : Int32))).2 265 rfl ?_
                      refine own_aload X93 hx (hb hby at_265) rfl rfl 267 rfl ?_
                      refine own_aload X93 hx (hb hby at_267) rfl rfl 269 rfl ?_
                      refine own_pureV X93 hx hZ hown (own_w hw 21 rfl) (own_w hw 22 rfl) (notFace_of_selects (args := #[]) (mvT hZ (own_w hw 24 rfl))) (own_w hw 24 rfl) (own_w hw 23 rfl) (own_w hw 2 rfl) (own_w hw 25 rfl) (by decide) a24 [(.ref a7)] [] 0 (rm_equals_12 l Z a0 hw [] T26.heap n0 O27 a24 a7 bc bd x0 x1 p26_1 p26_2 f89 f91 f92 (Ne.symm ne90) (Eq.symm hc208_28) (Ne.symm hc215_29)) (by decide) (by decide) rfl rfl e93 p26_0 (by rw [hml]; rfl) (lenOf pd_1 rfl) (Nat.le_of_eq rfl) (hb hby at_269) 272 rfl rfl (by decide) (by decide) fun T95 X95 e95 => ?_
                      refine own_iload X95 hx (hb hby at_272) rfl 274 rfl ?_
                      refine own_icmpN X95 hx (hb hby at_274) (teq (by decide : (0 : Int32) = (0 : Int32))).2 277 rfl ?_
                      refine own_iconst X95 hx (hb hby at_277) (1 : Int32) rfl 278 rfl ?_
                      refine own_goto X95 hx (hb hby at_278) 282 (by decide) (by decide) ?_
                      exact own_retZ X95 hx hk hret (hb hby at_282) rfl ⟨rfl, N27⟩ (by decide) (by decide)
                  · skip
                    refine own_ifY X26 hx (hb hby at_208) ((if0 _ _).trans (feq (fun q => hc208_28 ((own_lceq _ _).mp q))).2) 250 (by decide) (by decide) ?_
                    refine own_iconst X26 hx (hb hby at_250) (0 : Int32) rfl 251 rfl ?_
                    refine own_istore X26 hx (hb hby at_251) #[.val (.long x0), .second, .val (.long x1), .second, .val (.int x2), .val (.int x3), .val (.int x4), .val (.int x5), .val (.int sl), .val (.long bc), .second, .val (.long bd), .second, .val (.int bf), .val (.int bs), .val (.int bu), .val (.int bw), .val (.int md), .val (.ref a7), .val (.ref a24), .val (.int (0 : Int32))] rfl 253 rfl ?_
                    refine own_aload X26 hx (hb hby at_253) rfl rfl 255 rfl ?_
                    refine own_aload X26 hx (hb hby at_255) rfl rfl 257 rfl ?_
                    have f97 := ((p9_0.ext E24).keep Kq26)
                    have ne98 := own_nl A7.lt Kq9.1 (Nat.le_of_eq g24)
                    have f99 := ((p9_1.ext E24).keep Kq26 (ninS ne98 nin0))
                    refine own_pureV X26 hx hZ hown (own_w hw 21 rfl) (own_w hw 22 rfl) (notFace_of_selects (args := #[]) (mvT hZ (own_w hw 24 rfl))) (own_w hw 24 rfl) (own_w hw 23 rfl) (own_w hw 2 rfl) (own_w hw 25 rfl) (by decide) a7 [(.ref a24)] [] 0 (rm_equals_13 l Z a0 hw [] T26.heap n0 O27 a7 a24 x0 bc f99 p26_0 p26_1 ne98 hc208_28) (by decide) (by decide) rfl rfl rfl f97 (by rw [hml]; rfl) (lenOf pd_1 rfl) (Nat.le_of_eq rfl) (hb hby at_257) 260 rfl rfl (by decide) (by decide) fun T100 X100 e100 => ?_
                    refine own_iload X100 hx (hb hby at_260) rfl 262 rfl ?_
                    refine own_icmpN X100 hx (hb hby at_262) (teq (by decide : (0 : Int32) = (0 : Int32))).2 265 rfl ?_
                    refine own_aload X100 hx (hb hby at_265) rfl rfl 267 rfl ?_
                    refine own_aload X100 hx (hb hby at_267) rfl rfl 269 rfl ?_
                    refine own_pureV X100 hx hZ hown (own_w hw 21 rfl) (own_w hw 22 rfl) (notFace_of_selects (args := #[]) (mvT hZ (own_w hw 24 rfl))) (own_w hw 24 rfl) (own_w hw 23 rfl) (own_w hw 2 rfl) (own_w hw 25 rfl) (by decide) a24 [(.ref a7)] [] 0 (rm_equals_13 l Z a0 hw [] T26.heap n0 O27 a24 a7 bc x0 p26_1 f97 f99 (Ne.symm ne98) (Ne.symm hc208_28)) (by decide) (by decide) rfl rfl e100 p26_0 (by rw [hml]; rfl) (lenOf pd_1 rfl) (Nat.le_of_eq rfl) (hb hby at_269) 272 rfl rfl (by decide) (by decide) fun T102 X102 e102 => ?_
                    refine own_iload X102 hx (hb hby at_272) rfl 274 rfl ?_
                    refine own_icmpN X102 hx (hb hby at_274) (teq (by decide : (0 : Int32) = (0 : Int32))).2 277 rfl ?_
                    refine own_iconst X102 hx (hb hby at_277) (1 : Int32) rfl 278 rfl ?_
                    refine own_goto X102 hx (hb hby at_278) 282 (by decide) (by decide) ?_
                    exact own_retZ X102 hx hk hret (hb hby at_282) rfl ⟨rfl, N27⟩ (by decide) (by decide)
            refine own_iload X0 hx (hb hby at_85) rfl 87 rfl ?_
            refine own_bipush X0 hx (hb hby at_87) (32 : Int32) rfl 89 rfl ?_
            refine own_iand X0 hx (hb hby at_89) 90 rfl ?_
            rcases Decidable.em ((sl &&& (32 : Int32)) = (0 : Int32)) with hc90_103 | hc90_103
            · skip
              refine own_ifY X0 hx (hb hby at_90) ((if0 _ _).trans (teq hc90_103).1) 98 (by decide) (by decide) ?_
              refine own_iload X0 hx (hb hby at_98) rfl 100 rfl ?_
              refine own_istore X0 hx (hb hby at_100) #[.val (.long x0), .second, .val (.long x1), .second, .val (.int x2), .val (.int x3), .val (.int x4), .val (.int x5), .val (.int sl), .val (.long bc), .second, .val (.long bd), .second, .val (.int bf), .val (.int bs), .val (.int bu), .val (.int x5), .unset, .unset, .unset, .unset] rfl 102 rfl ?_
              exact J6 _
            · skip
              refine own_ifN X0 hx (hb hby at_90) ((if0 _ _).trans (feq hc90_103).1) 93 rfl ?_
              refine own_iload X0 hx (hb hby at_93) rfl 95 rfl ?_
              refine own_goto X0 hx (hb hby at_95) 100 (by decide) (by decide) ?_
              refine own_istore X0 hx (hb hby at_100) #[.val (.long x0), .second, .val (.long x1), .second, .val (.int x2), .val (.int x3), .val (.int x4), .val (.int x5), .val (.int sl), .val (.long bc), .second, .val (.long bd), .second, .val (.int bf), .val (.int bs), .val (.int bu), .val (.int x2), .unset, .unset, .unset, .unset] rfl 102 rfl ?_
              exact J6 _
          refine own_iload X0 hx (hb hby at_68) rfl 70 rfl ?_
          refine own_bipush X0 hx (hb hby at_70) (16 : Int32) rfl 72 rfl ?_
          refine own_iand X0 hx (hb hby at_72) 73 rfl ?_
          rcases Decidable.em ((sl &&& (16 : Int32)) = (0 : Int32)) with hc73_104 | hc73_104
          · skip
            refine own_ifY X0 hx (hb hby at_73) ((if0 _ _).trans (teq hc73_104).1) 81 (by decide) (by decide) ?_
            refine own_iload X0 hx (hb hby at_81) rfl 83 rfl ?_
            refine own_istore X0 hx (hb hby at_83) #[.val (.long x0), .second, .val (.long x1), .second, .val (.int x2), .val (.int x3), .val (.int x4), .val (.int x5), .val (.int sl), .val (.long bc), .second, .val (.long bd), .second, .val (.int bf), .val (.int bs), .val (.int x4), .unset, .unset, .unset, .unset, .unset] rfl 85 rfl ?_
            exact J5 _
          · skip
            refine own_ifN X0 hx (hb hby at_73) ((if0 _ _).trans (feq hc73_104).1) 76 rfl ?_
            refine own_iload X0 hx (hb hby at_76) rfl 78 rfl ?_
            refine own_goto X0 hx (hb hby at_78) 83 (by decide) (by decide) ?_
            refine own_istore X0 hx (hb hby at_83) #[.val (.long x0), .second, .val (.long x1), .second, .val (.int x2), .val (.int x3), .val (.int x4), .val (.int x5), .val (.int sl), .val (.long bc), .second, .val (.long bd), .second, .val (.int bf), .val (.int bs), .val (.int x5), .unset, .unset, .unset, .unset, .unset] rfl 85 rfl ?_
            exact J5 _
        refine own_iload X0 hx (hb hby at_51) rfl 53 rfl ?_
        refine own_bipush X0 hx (hb hby at_53) (8 : Int32) rfl 55 rfl ?_
        refine own_iand X0 hx (hb hby at_55) 56 rfl ?_
        rcases Decidable.em ((sl &&& (8 : Int32)) = (0 : Int32)) with hc56_105 | hc56_105
        · skip
          refine own_ifY X0 hx (hb hby at_56) ((if0 _ _).trans (teq hc56_105).1) 64 (by decide) (by decide) ?_
          refine own_iload X0 hx (hb hby at_64) rfl 66 rfl ?_
          refine own_istore X0 hx (hb hby at_66) #[.val (.long x0), .second, .val (.long x1), .second, .val (.int x2), .val (.int x3), .val (.int x4), .val (.int x5), .val (.int sl), .val (.long bc), .second, .val (.long bd), .second, .val (.int bf), .val (.int x3), .unset, .unset, .unset, .unset, .unset, .unset] rfl 68 rfl ?_
          exact J4 _
        · skip
          refine own_ifN X0 hx (hb hby at_56) ((if0 _ _).trans (feq hc56_105).1) 59 rfl ?_
          refine own_iload X0 hx (hb hby at_59) rfl 61 rfl ?_
          refine own_goto X0 hx (hb hby at_61) 66 (by decide) (by decide) ?_
          refine own_istore X0 hx (hb hby at_66) #[.val (.long x0), .second, .val (.long x1), .second, .val (.int x2), .val (.int x3), .val (.int x4), .val (.int x5), .val (.int sl), .val (.long bc), .second, .val (.long bd), .second, .val (.int bf), .val (.int x4), .unset, .unset, .unset, .unset, .unset, .unset] rfl 68 rfl ?_
          exact J4 _
      refine own_iload X0 hx (hb hby at_35) rfl 37 rfl ?_
      refine own_iconst X0 hx (hb hby at_37) (4 : Int32) rfl 38 rfl ?_
      refine own_iand X0 hx (hb hby at_38) 39 rfl ?_
      rcases Decidable.em ((sl &&& (4 : Int32)) = (0 : Int32)) with hc39_106 | hc39_106
      · skip
        refine own_ifY X0 hx (hb hby at_39) ((if0 _ _).trans (teq hc39_106).1) 47 (by decide) (by decide) ?_
        refine own_iload X0 hx (hb hby at_47) rfl 49 rfl ?_
        refine own_istore X0 hx (hb hby at_49) #[.val (.long x0), .second, .val (.long x1), .second, .val (.int x2), .val (.int x3), .val (.int x4), .val (.int x5), .val (.int sl), .val (.long bc), .second, .val (.long bd), .second, .val (.int x2), .unset, .unset, .unset, .unset, .unset, .unset, .unset] rfl 51 rfl ?_
        exact J3 _
      · skip
        refine own_ifN X0 hx (hb hby at_39) ((if0 _ _).trans (feq hc39_106).1) 42 rfl ?_
        refine own_iload X0 hx (hb hby at_42) rfl 44 rfl ?_
        refine own_goto X0 hx (hb hby at_44) 49 (by decide) (by decide) ?_
        refine own_istore X0 hx (hb hby at_49) #[.val (.long x0), .second, .val (.long x1), .second, .val (.int x2), .val (.int x3), .val (.int x4), .val (.int x5), .val (.int sl), .val (.long bc), .second, .val (.long bd), .second, .val (.int x3), .unset, .unset, .unset, .unset, .unset, .unset, .unset] rfl 51 rfl ?_
        exact J3 _
    refine own_iload X0 hx (hb hby at_21) rfl 23 rfl ?_
    refine own_iconst X0 hx (hb hby at_23) (2 : Int32) rfl 24 rfl ?_
    refine own_iand X0 hx (hb hby at_24) 25 rfl ?_
    rcases Decidable.em ((sl &&& (2 : Int32)) = (0 : Int32)) with hc25_107 | hc25_107
    · skip
      refine own_ifY X0 hx (hb hby at_25) ((if0 _ _).trans (teq hc25_107).1) 32 (by decide) (by decide) ?_
      refine own_lload_n X0 hx (hb hby at_32) rfl 33 rfl ?_
      refine own_lstore X0 hx (hb hby at_33) #[.val (.long x0), .second, .val (.long x1), .second, .val (.int x2), .val (.int x3), .val (.int x4), .val (.int x5), .val (.int sl), .val (.long bc), .second, .val (.long x1), .second, .unset, .unset, .unset, .unset, .unset, .unset, .unset, .unset] rfl 35 rfl ?_
      exact J2 _
    · skip
      refine own_ifN X0 hx (hb hby at_25) ((if0 _ _).trans (feq hc25_107).1) 28 rfl ?_
      refine own_lload_n X0 hx (hb hby at_28) rfl 29 rfl ?_
      refine own_goto X0 hx (hb hby at_29) 33 (by decide) (by decide) ?_
      refine own_lstore X0 hx (hb hby at_33) #[.val (.long x0), .second, .val (.long x1), .second, .val (.int x2), .val (.int x3), .val (.int x4), .val (.int x5), .val (.int sl), .val (.long bc), .second, .val (.long x0), .second, .unset, .unset, .unset, .unset, .unset, .unset, .unset, .unset] rfl 35 rfl ?_
      exact J2 _
  refine own_iload X0 hx (hb hby at_7) rfl 9 rfl ?_
  refine own_iconst X0 hx (hb hby at_9) (1 : Int32) rfl 10 rfl ?_
  refine own_iand X0 hx (hb hby at_10) 11 rfl ?_
  rcases Decidable.em ((sl &&& (1 : Int32)) = (0 : Int32)) with hc11_108 | hc11_108
  · skip
    refine own_ifY X0 hx (hb hby at_11) ((if0 _ _).trans (teq hc11_108).1) 18 (by decide) (by decide) ?_
    refine own_lload_n X0 hx (hb hby at_18) rfl 19 rfl ?_
    refine own_lstore X0 hx (hb hby at_19) #[.val (.long x0), .second, .val (.long x1), .second, .val (.int x2), .val (.int x3), .val (.int x4), .val (.int x5), .val (.int sl), .val (.long x0), .second, .unset, .unset, .unset, .unset, .unset, .unset, .unset, .unset, .unset, .unset] rfl 21 rfl ?_
    exact J1 _
  · skip
    refine own_ifN X0 hx (hb hby at_11) ((if0 _ _).trans (feq hc11_108).1) 14 rfl ?_
    refine own_lload_n X0 hx (hb hby at_14) rfl 15 rfl ?_
    refine own_goto X0 hx (hb hby at_15) 19 (by decide) (by decide) ?_
    refine own_lstore X0 hx (hb hby at_19) #[.val (.long x0), .second, .val (.long x1), .second, .val (.int x2), .val (.int x3), .val (.int x4), .val (.int x5), .val (.int sl), .val (.long x1), .second, .unset, .unset, .unset, .unset, .unset, .unset, .unset, .unset, .unset, .unset] rfl 21 rfl ?_
    exact J1 _
set_option maxRecDepth 65536 in
set_option maxHeartbeats 40000000 in
theorem comes_1 {Post : Tables → Env → Array Value → State → Outcome → State → Prop} (hpost : ∀ tb e args s v u, (limb_1_1.after args s (.returned v) u = true ∧ limb_1_2.after args s (.returned v) u = true ∧ True) → FrameEnd s (.returned v) u (Jvm.fieldLocs frame_1_writes args s ++ Jvm.arrayLocs frame_1_arrays args s ++ Jvm.staticLocs frame_1_statics s) 16 128 → Post tb e args s (.returned v) u) :
    ArmFor flags0 classFile x code maxLocals ret World_1 tables_1 room_1 Calls_1 rest_1 Pre_1 Post := by
  intro l hfl _ _ p e ha hc hk s m args below hf hA hF happ hP
  obtain ⟨hcalls, hrest, hpre⟩ := hP
  obtain ⟨-, -, -, hnamed, -, -, -, hat⟩ := (Spec.applies_iff hf).mp happ
  obtain ⟨hg, hn⟩ := and_e (Cond.before_iff.mp (show (Jvm.Cond.and given_1 narrow_1).before args s = true from hpre))
  obtain ⟨hn101a, hn101b⟩ := and_e hg
  obtain ⟨hn102a, hn102b⟩ := and_e hn101b
  obtain ⟨hn103a, hn103b⟩ := and_e hn102b
  obtain ⟨hn104a, hn104b⟩ := and_e hn103b
  obtain ⟨hn105a, hn105b⟩ := and_e hn104b
  obtain ⟨hn106a, hn106b⟩ := and_e hn105b
  obtain ⟨w0, w1, w2, w3, w4, w5, rfl⟩ : ∃ w0 w1 w2 w3 w4 w5 : Value, args = #[w0, w1, w2, w3, w4, w5] := by
    have hs : args.size = 6 := by simpa [Cond.value, given_1] using hn101a
    obtain ⟨L⟩ := args
    match L, hs with
    | [w0, w1, w2, w3, w4, w5], _ => exact ⟨w0, w1, w2, w3, w4, w5, rfl⟩
  have hw := fun d (hd : d ∈ tables_1) => atoms_spec (ws := Jvm.Cond.code x code maxLocals ret :: tables_1) hat d (List.mem_cons_of_mem _ hd)
  have hfit : Fit s := fun {y c} hc i hi => by
    obtain ⟨ha, rfl⟩ := Array.getElem?_eq_some_iff.mp hc
    have q := List.all_eq_true.mp ((Array.all_eq_true_iff_forall_mem.mp hF) _ (Array.getElem_mem ha)) i (List.mem_range.mpr hi)
    simpa [Array.getElem?_eq_getElem hi] using q
  obtain ⟨hsets, hown0⟩ := atoms_of _ (rest_1_c_eq ▸ (show rest_1_c.before _ s = true from hrest))
  have hr0 := Cond.before_iff.mp hown0
  obtain ⟨i0, ei0⟩ := isL_v hn102a
  obtain rfl : w0 = (.long i0) := Option.some.inj ei0
  obtain ⟨i1, ei1⟩ := isL_v hn103a
  obtain rfl : w1 = (.long i1) := Option.some.inj ei1
  obtain ⟨i2, ei2⟩ := is_v hn104a
  obtain rfl : w2 = (.int i2) := Option.some.inj ei2
  obtain ⟨i3, ei3⟩ := is_v hn105a
  obtain rfl : w3 = (.int i3) := Option.some.inj ei3
  obtain ⟨i4, ei4⟩ := is_v hn106a
  obtain rfl : w4 = (.int i4) := Option.some.inj ei4
  obtain ⟨i5, ei5⟩ := is_v hn106b
  obtain rfl : w5 = (.int i5) := Option.some.inj ei5
  have q_w_cacheJ := Cond.before_iff.mp (hsets _ (List.mem_of_getElem? (i := 2) rfl))
  obtain ⟨w_cacheJ, ev_w_cacheJ⟩ := arr_v q_w_cacheJ
  have S_w_cacheJ := Sta.start ev_w_cacheJ (Or.inl (hsets _ (List.mem_of_getElem? (i := 1) rfl)))
  obtain ⟨c_cacheJ, B_w_cacheJ⟩ := own_boxJ ev_w_cacheJ q_w_cacheJ (Cond.before_iff.mp (hsets _ (List.mem_of_getElem? (i := 4) rfl))) (Cond.before_iff.mp (hsets _ (List.mem_of_getElem? (i := 5) rfl)))
  obtain ⟨n, o, h1, h2, h3, _, L, rfl, ⟨rfl, N⟩, hq⟩ := rm0 l s _ hw tables_1 i0 i1 i2 i3 i4 i5 s.heap s.heap.size (show own_C s s.heap w_cacheJ c_cacheJ from ⟨S_w_cacheJ, B_w_cacheJ⟩) (Old.start s) p e ha hc hk s m _ below hf ((Spec.applies_iff_loose hf).mp happ).1 ⟨rfl, State.Warmed39.refl s, rfl⟩ trivial
  refine ⟨n, _, h1, h2, h3, hpost _ _ _ _ _ _ ⟨Cond.after_iff.mpr rfl, Cond.after_iff.mpr (eq_i res_at (Term.int_eval (1)) rfl), trivial⟩ ⟨hq.1, hq.2.1, (hq.2.2.sift fun y hy => Or.inr (N y hy)).mono (by decide) (by decide)⟩⟩
theorem main_1_1 : Claimed_1_1 := comes_1 fun _ _ _ _ _ _ h hF => ⟨h.1, hF⟩
theorem main_1_2 : Claimed_1_2 := comes_1 fun _ _ _ _ _ _ h hF => ⟨h.2.1, hF⟩
end Jvm.Pilot.@@N@@
namespace Jvm.Pilot.@@N@@
open Jvm Jvm.ClassFile Sem Op Lib Jvm.Free Jvm.Stand Jvm.Pilot.@@N@@.Jvm.D
/-! MADE BY PROGRAM (witnessworld.py) out of the Statement's table words and the real class files: 16 classes; the members and pool entries that the words name. The judged class is class 1, her method 1. -/
namespace start1
open Jvm.ClassFile
def u (s : String) : CpInfo := .utf8 (stringToUtf16 s)
/-- a pool by its gaps: so many unusable entries, then the entry; so many at the end -/
def gap : Nat → List CpInfo → List CpInfo
  | 0, r => r
  | n + 1, r => .unusable :: gap n r
def poolList (es : List (Nat × CpInfo)) (last : Nat) : List CpInfo := es.foldr (fun e r => gap e.1 (e.2 :: r)) (gap last [])
def pool (es : List (Nat × CpInfo)) (last : Nat) : Array CpInfo := ⟨poolList es last⟩
def fileOf (pool : Array CpInfo) (this : Nat) (attrs : Array Attribute := #[]) (ms : Array MethodInfo := #[]) (fl : Nat := 33) (sup : Nat := 0) (ifs : Array Nat := #[]) (fds : Array FieldInfo := #[]) : ClassFile where
  minorVersion := 0
  majorVersion := 65
  constantPool := pool
  accessFlags := fl
  thisClass := this
  superClass := sup
  interfaces := ifs
  fields := fds
  methods := ms
  attributes := attrs
def plain (name : String) (sup : Option ClassId) : Class where
  name := name
  kind := .ordinary
  loader := none
  accessFlags := 33
  super := sup
  interfaces := #[]
  cf := none
  fields := #[]
  methods := #[]
  instanceTypes := #[]
  staticTypes := #[]
  resolved := #[]
  callSites := []
  init := .initialized
  statics := none
  mirror := none

def pool0 : Array CpInfo := pool [(5, u "<init>"), (0, u "()V"), (1, .class_ 10), (1, u "java/lang/Object")] 113

def k0c0 : Code := { maxStack := 0, maxLocals := 1, code := object_method_1_code, exceptionTable := #[], attributes := #[] }
def k0m0 : Method := { name := "<init>", desc := "()V", sig := { parameters := [], returnType := none }, accessFlags := 1, code := some k0c0 }
/-- java/lang/Object -/
def k0 : Class := { plain "java/lang/Object" none with
  accessFlags := 33
  interfaces := #[]
  cf := some (fileOf pool0 8 #[] #[{ accessFlags := 1, nameIndex := 5, descriptorIndex := 6, attributes := #[] }] 33 0 #[] #[])
  fields := #[]
  methods := #[k0m0]
  instanceTypes := #[]
  staticTypes := #[]
  resolved := Array.replicate 124 none
  statics := none }

def pool1 : Array CpInfo := pool [(2, .class_ 4), (1, u "java/lang/Object"), (0, u "<init>"), (0, u "()V"), (0, .class_ 8), (0, u "com/example/maco/maco/model/PoolCounters"), (0, .methodref 7 10), (0, .nameAndType 5 11), (0, u "(JJIIII)V"), (0, .methodref 7 13), (0, .nameAndType 14 15), (0, u "equals"), (0, u "(Ljava/lang/Object;)Z"), (0, .methodref 17 18), (0, .class_ 19), (0, .nameAndType 20 21), (0, u "java/lang/Long"), (0, u "valueOf"), (0, u "(J)Ljava/lang/Long;"), (0, .class_ 23), (0, u "com/example/maco/maco/model/PoolCountersEqualsPinLaw"), (2, u "law"), (0, u "(JJIIII)Z")] 3

def k1m0 : Method := { name := "<init>", desc := "()V", sig := { parameters := [], returnType := none }, accessFlags := 1, code := none }
def k1c1 : Code := { maxStack := 10, maxLocals := 21, code := code, exceptionTable := #[], attributes := #[] }
def k1m1 : Method := { name := "law", desc := "(JJIIII)Z", sig := { parameters := [.long, .long, .int, .int, .int, .int], returnType := some .boolean }, accessFlags := 9, code := some k1c1 }
/-- com/example/maco/maco/model/PoolCountersEqualsPinLaw -/
def k1 : Class := { plain "com/example/maco/maco/model/PoolCountersEqualsPinLaw" (some 0) with
  accessFlags := 49
  interfaces := #[]
  cf := some (fileOf pool1 22 #[] #[{ accessFlags := 1, nameIndex := 5, descriptorIndex := 6, attributes := #[] }, { accessFlags := 9, nameIndex := 26, descriptorIndex := 27, attributes := #[] }] 49 2 #[] #[])
  fields := #[]
  methods := #[k1m0, k1m1]
  instanceTypes := #[]
  staticTypes := #[]
  resolved := Array.replicate 31 none
  statics := none }

def pool2 : Array CpInfo := pool [(1, .methodref 2 3), (0, .class_ 4), (0, .nameAndType 5 6), (0, u "java/lang/Object"), (0, u "<init>"), (0, u "()V"), (0, .fieldref 8 9), (0, .class_ 10), (0, .nameAndType 11 12), (0, u "com/example/maco/maco/model/PoolCounters"), (0, u "created"), (0, u "J"), (0, .fieldref 8 14), (0, .nameAndType 15 12), (0, u "destroyed"), (0, .fieldref 8 17), (0, .nameAndType 18 19), (0, u "free"), (0, u "I"), (0, .fieldref 8 21), (0, .nameAndType 22 19), (0, u "shared"), (0, .fieldref 8 24), (0, .nameAndType 25 19), (0, u "unshared"), (0, .fieldref 8 27), (0, .nameAndType 28 19), (0, u "waiting"), (25, u "(JJIIII)V"), (10, u "equals"), (0, u "(Ljava/lang/Object;)Z")] 6

def k2c0 : Code := { maxStack := 3, maxLocals := 9, code := prog_24_method_1_code, exceptionTable := #[], attributes := #[] }
def k2m0 : Method := { name := "<init>", desc := "(JJIIII)V", sig := { parameters := [.long, .long, .int, .int, .int, .int], returnType := none }, accessFlags := 1, code := some k2c0 }
def k2c1 : Code := { maxStack := 4, maxLocals := 3, code := prog_24_method_8_code, exceptionTable := #[], attributes := #[] }
def k2m1 : Method := { name := "equals", desc := "(Ljava/lang/Object;)Z", sig := { parameters := [(.object "java/lang/Object")], returnType := some .boolean }, accessFlags := 1, code := some k2c1 }
/-- com/example/maco/maco/model/PoolCounters -/
def k2 : Class := { plain "com/example/maco/maco/model/PoolCounters" (some 0) with
  accessFlags := 49
  interfaces := #[]
  cf := some (fileOf pool2 8 #[] #[{ accessFlags := 1, nameIndex := 5, descriptorIndex := 54, attributes := #[] }, { accessFlags := 1, nameIndex := 65, descriptorIndex := 66, attributes := #[] }] 49 2 #[] #[{ accessFlags := 18, nameIndex := 11, descriptorIndex := 12, attributes := #[] }, { accessFlags := 18, nameIndex := 15, descriptorIndex := 12, attributes := #[] }, { accessFlags := 18, nameIndex := 18, descriptorIndex := 19, attributes := #[] }, { accessFlags := 18, nameIndex := 22, descriptorIndex := 19, attributes := #[] }, { accessFlags := 18, nameIndex := 25, descriptorIndex := 19, attributes := #[] }, { accessFlags := 18, nameIndex := 28, descriptorIndex := 19, attributes := #[] }])
  fields := #[{ name := "created", type := .long, accessFlags := 18, slot := 0, constantValue := 0 }, { name := "destroyed", type := .long, accessFlags := 18, slot := 1, constantValue := 0 }, { name := "free", type := .int, accessFlags := 18, slot := 2, constantValue := 0 }, { name := "shared", type := .int, accessFlags := 18, slot := 3, constantValue := 0 }, { name := "unshared", type := .int, accessFlags := 18, slot := 4, constantValue := 0 }, { name := "waiting", type := .int, accessFlags := 18, slot := 5, constantValue := 0 }]
  methods := #[k2m0, k2m1]
  instanceTypes := #[.long, .long, .int, .int, .int, .int]
  staticTypes := #[]
  resolved := Array.replicate 73 none
  statics := none }

def pool3 : Array CpInfo := pool [(1, .class_ 2), (0, u "java/io/Serializable"), (0, .class_ 4), (0, u "java/lang/Object")] 2

/-- java/io/Serializable -/
def k3 : Class := { plain "java/io/Serializable" (some 0) with
  accessFlags := 1537
  interfaces := #[]
  cf := some (fileOf pool3 1 #[] #[] 1537 3 #[] #[])
  fields := #[]
  methods := #[]
  instanceTypes := #[]
  staticTypes := #[]
  resolved := Array.replicate 7 none
  statics := none }

def pool4 : Array CpInfo := pool [(1, .methodref 2 3), (0, .class_ 4), (0, .nameAndType 5 6), (0, u "java/lang/Object"), (0, u "<init>"), (0, u "()V"), (1, .class_ 10), (1, u "java/lang/Number"), (2, .class_ 14), (0, u "java/io/Serializable"), (0, u "serialVersionUID"), (0, u "J")] 20

def k4c0 : Code := { maxStack := 1, maxLocals := 1, code := jdk_18_method_1_code, exceptionTable := #[], attributes := #[] }
def k4m0 : Method := { name := "<init>", desc := "()V", sig := { parameters := [], returnType := none }, accessFlags := 1, code := some k4c0 }
/-- java/lang/Number -/
def k4 : Class := { plain "java/lang/Number" (some 0) with
  accessFlags := 1057
  interfaces := #[3]
  cf := some (fileOf pool4 8 #[] #[{ accessFlags := 1, nameIndex := 5, descriptorIndex := 6, attributes := #[] }] 1057 2 #[13] #[{ accessFlags := 26, nameIndex := 15, descriptorIndex := 16, attributes := #[] }])
  fields := #[{ name := "serialVersionUID", type := .long, accessFlags := 26, slot := 0, constantValue := 0 }]
  methods := #[k4m0]
  instanceTypes := #[]
  staticTypes := #[.long]
  resolved := Array.replicate 37 none
  statics := none }

def pool5 : Array CpInfo := pool [(1, .class_ 2), (0, u "java/lang/Comparable"), (0, .class_ 4), (0, u "java/lang/Object")] 7

/-- java/lang/Comparable -/
def k5 : Class := { plain "java/lang/Comparable" (some 0) with
  accessFlags := 1537
  interfaces := #[]
  cf := some (fileOf pool5 1 #[] #[] 1537 3 #[] #[])
  fields := #[]
  methods := #[]
  instanceTypes := #[]
  staticTypes := #[]
  resolved := Array.replicate 12 none
  statics := none }

def pool6 : Array CpInfo := pool [(1, .class_ 2), (0, u "java/lang/constant/Constable"), (0, .class_ 4), (0, u "java/lang/Object")] 6

/-- java/lang/constant/Constable -/
def k6 : Class := { plain "java/lang/constant/Constable" (some 0) with
  accessFlags := 1537
  interfaces := #[]
  cf := some (fileOf pool6 1 #[] #[] 1537 3 #[] #[])
  fields := #[]
  methods := #[]
  instanceTypes := #[]
  staticTypes := #[]
  resolved := Array.replicate 11 none
  statics := none }

def pool7 : Array CpInfo := pool [(1, .class_ 2), (0, u "java/lang/constant/ConstantDesc"), (0, .class_ 4), (0, u "java/lang/Object")] 32

/-- java/lang/constant/ConstantDesc -/
def k7 : Class := { plain "java/lang/constant/ConstantDesc" (some 0) with
  accessFlags := 1537
  interfaces := #[]
  cf := some (fileOf pool7 1 #[] #[] 1537 3 #[] #[])
  fields := #[]
  methods := #[]
  instanceTypes := #[]
  staticTypes := #[]
  resolved := Array.replicate 37 none
  statics := none }

def pool8 : Array CpInfo := pool [(1, .class_ 2), (0, u "java/lang/Long"), (55, .nameAndType 59 60), (0, u "<init>"), (0, u "()V"), (24, u "valueOf"), (143, u "(J)Ljava/lang/Long;"), (0, .long 18446744073709551488), (1, .long 127), (1, .fieldref 235 236), (0, .class_ 237), (0, .nameAndType 238 239), (0, u "java/lang/Long$LongCache"), (0, u "cache"), (0, u "[Ljava/lang/Long;"), (0, .methodref 1 241), (0, .nameAndType 59 242), (0, u "(J)V"), (27, .methodref 271 58), (0, .class_ 272), (0, u "java/lang/Number"), (0, .fieldref 1 274), (0, .nameAndType 275 276), (0, u "value"), (0, u "J"), (84, u "TYPE"), (0, u "Ljava/lang/Class;"), (0, .class_ 364), (0, u "java/lang/Comparable"), (0, .class_ 366), (0, u "java/lang/constant/Constable"), (0, .class_ 368), (0, u "java/lang/constant/ConstantDesc"), (0, u "MIN_VALUE"), (1, u "MAX_VALUE"), (4, u "SIZE"), (0, u "I"), (1, u "BYTES"), (1, u "serialVersionUID")] 142

def k8c0 : Code := { maxStack := 4, maxLocals := 3, code := jdk_35_method_24_code, exceptionTable := #[], attributes := #[] }
def k8m0 : Method := { name := "valueOf", desc := "(J)Ljava/lang/Long;", sig := { parameters := [.long], returnType := some (.object "java/lang/Long") }, accessFlags := 9, code := some k8c0 }
def k8c1 : Code := { maxStack := 3, maxLocals := 3, code := jdk_35_method_26_code, exceptionTable := #[], attributes := #[] }
def k8m1 : Method := { name := "<init>", desc := "(J)V", sig := { parameters := [.long], returnType := none }, accessFlags := 1, code := some k8c1 }
/-- java/lang/Long -/
def k8 : Class := { plain "java/lang/Long" (some 4) with
  accessFlags := 49
  interfaces := #[5, 6, 7]
  cf := some (fileOf pool8 1 #[.nestMembers #[235]] #[{ accessFlags := 9, nameIndex := 85, descriptorIndex := 229, attributes := #[] }, { accessFlags := 1, nameIndex := 59, descriptorIndex := 242, attributes := #[] }] 49 271 #[363, 365, 367] #[{ accessFlags := 25, nameIndex := 369, descriptorIndex := 276, attributes := #[] }, { accessFlags := 25, nameIndex := 371, descriptorIndex := 276, attributes := #[] }, { accessFlags := 25, nameIndex := 361, descriptorIndex := 362, attributes := #[] }, { accessFlags := 18, nameIndex := 275, descriptorIndex := 276, attributes := #[] }, { accessFlags := 25, nameIndex := 376, descriptorIndex := 377, attributes := #[] }, { accessFlags := 25, nameIndex := 379, descriptorIndex := 377, attributes := #[] }, { accessFlags := 26, nameIndex := 381, descriptorIndex := 276, attributes := #[] }])
  fields := #[{ name := "MIN_VALUE", type := .long, accessFlags := 25, slot := 0, constantValue := 0 }, { name := "MAX_VALUE", type := .long, accessFlags := 25, slot := 1, constantValue := 0 }, { name := "TYPE", type := (.object "java/lang/Class"), accessFlags := 25, slot := 2, constantValue := 0 }, { name := "value", type := .long, accessFlags := 18, slot := 0, constantValue := 0 }, { name := "SIZE", type := .int, accessFlags := 25, slot := 3, constantValue := 0 }, { name := "BYTES", type := .int, accessFlags := 25, slot := 4, constantValue := 0 }, { name := "serialVersionUID", type := .long, accessFlags := 26, slot := 5, constantValue := 0 }]
  methods := #[k8m0, k8m1]
  instanceTypes := #[.long]
  staticTypes := #[.long, .long, (.object "java/lang/Class"), .int, .int, .long]
  resolved := Array.replicate 524 none
  statics := none }

def pool9 : Array CpInfo := pool [(2, .class_ 4), (1, u "java/lang/Object"), (0, u "<init>"), (0, u "()V"), (0, .class_ 8), (0, u "java/lang/Long"), (7, .class_ 18), (1, u "java/lang/Long$LongCache"), (0, u "$assertionsDisabled"), (0, u "Z"), (8, u "archivedCache"), (0, u "[Ljava/lang/Long;"), (7, u "cache")] 24

def k9m0 : Method := { name := "<init>", desc := "()V", sig := { parameters := [], returnType := none }, accessFlags := 2, code := none }
/-- java/lang/Long$LongCache -/
def k9 : Class := { plain "java/lang/Long$LongCache" (some 0) with
  accessFlags := 48
  interfaces := #[]
  cf := some (fileOf pool9 16 #[.nestHost 7] #[{ accessFlags := 2, nameIndex := 5, descriptorIndex := 6, attributes := #[] }] 48 2 #[] #[{ accessFlags := 24, nameIndex := 38, descriptorIndex := 30, attributes := #[] }, { accessFlags := 8, nameIndex := 29, descriptorIndex := 30, attributes := #[] }, { accessFlags := 4120, nameIndex := 19, descriptorIndex := 20, attributes := #[] }])
  fields := #[{ name := "cache", type := (.array (.object "java/lang/Long")), accessFlags := 24, slot := 0, constantValue := 0 }, { name := "archivedCache", type := (.array (.object "java/lang/Long")), accessFlags := 8, slot := 1, constantValue := 0 }, { name := "$assertionsDisabled", type := .boolean, accessFlags := 4120, slot := 2, constantValue := 0 }]
  methods := #[k9m0]
  instanceTypes := #[]
  staticTypes := #[(.array (.object "java/lang/Long")), (.array (.object "java/lang/Long")), .boolean]
  resolved := Array.replicate 63 none
  statics := some 0 }

def pool10 : Array CpInfo := pool [(1, u "java/lang/Cloneable"), (0, .class_ 1), (0, u "java/lang/Object"), (0, .class_ 3)] 3

/-- java/lang/Cloneable -/
def k10 : Class := { plain "java/lang/Cloneable" (some 0) with
  accessFlags := 1537
  interfaces := #[]
  cf := some (fileOf pool10 2 #[] #[] 1537 4 #[] #[])
  fields := #[]
  methods := #[]
  instanceTypes := #[]
  staticTypes := #[]
  resolved := Array.replicate 8 none
  statics := none }

/-- the primitive byte -/
def k11 : Class := { plain "byte" none with kind := .primitive 'B', accessFlags := 0x411 }
/-- [B -/
def k12 : Class := { plain "[B" (some 0) with kind := .array 11 .byte, interfaces := #[10, 3], accessFlags := 1041 }

/-- the primitive int -/
def k13 : Class := { plain "int" none with kind := .primitive 'I', accessFlags := 0x411 }
/-- [I -/
def k14 : Class := { plain "[I" (some 0) with kind := .array 13 .int, interfaces := #[10, 3], accessFlags := 1041 }

/-- [Ljava/lang/Long; -/
def k15 : Class := { plain "[Ljava/lang/Long;" (some 0) with kind := .array 8 (.object "java/lang/Long"), interfaces := #[10, 3], accessFlags := 1041 }

def heap : Heap := #[{ cls := 9, slots := #[.ref 1, .null, .int 0], vm := .statics 9 },
  { cls := 15, slots := #[.ref 2, .ref 3, .ref 4, .ref 5, .ref 6, .ref 7, .ref 8, .ref 9, .ref 10, .ref 11, .ref 12, .ref 13, .ref 14, .ref 15, .ref 16, .ref 17, .ref 18, .ref 19, .ref 20, .ref 21, .ref 22, .ref 23, .ref 24, .ref 25, .ref 26, .ref 27, .ref 28, .ref 29, .ref 30, .ref 31, .ref 32, .ref 33, .ref 34, .ref 35, .ref 36, .ref 37, .ref 38, .ref 39, .ref 40, .ref 41, .ref 42, .ref 43, .ref 44, .ref 45, .ref 46, .ref 47, .ref 48, .ref 49, .ref 50, .ref 51, .ref 52, .ref 53, .ref 54, .ref 55, .ref 56, .ref 57, .ref 58, .ref 59, .ref 60, .ref 61, .ref 62, .ref 63, .ref 64, .ref 65, .ref 66, .ref 67, .ref 68, .ref 69, .ref 70, .ref 71, .ref 72, .ref 73, .ref 74, .ref 75, .ref 76, .ref 77, .ref 78, .ref 79, .ref 80, .ref 81, .ref 82, .ref 83, .ref 84, .ref 85, .ref 86, .ref 87, .ref 88, .ref 89, .ref 90, .ref 91, .ref 92, .ref 93, .ref 94, .ref 95, .ref 96, .ref 97, .ref 98, .ref 99, .ref 100, .ref 101, .ref 102, .ref 103, .ref 104, .ref 105, .ref 106, .ref 107, .ref 108, .ref 109, .ref 110, .ref 111, .ref 112, .ref 113, .ref 114, .ref 115, .ref 116, .ref 117, .ref 118, .ref 119, .ref 120, .ref 121, .ref 122, .ref 123, .ref 124, .ref 125, .ref 126, .ref 127, .ref 128, .ref 129, .ref 130, .ref 131, .ref 132, .ref 133, .ref 134, .ref 135, .ref 136, .ref 137, .ref 138, .ref 139, .ref 140, .ref 141, .ref 142, .ref 143, .ref 144, .ref 145, .ref 146, .ref 147, .ref 148, .ref 149, .ref 150, .ref 151, .ref 152, .ref 153, .ref 154, .ref 155, .ref 156, .ref 157, .ref 158, .ref 159, .ref 160, .ref 161, .ref 162, .ref 163, .ref 164, .ref 165, .ref 166, .ref 167, .ref 168, .ref 169, .ref 170, .ref 171, .ref 172, .ref 173, .ref 174, .ref 175, .ref 176, .ref 177, .ref 178, .ref 179, .ref 180, .ref 181, .ref 182, .ref 183, .ref 184, .ref 185, .ref 186, .ref 187, .ref 188, .ref 189, .ref 190, .ref 191, .ref 192, .ref 193, .ref 194, .ref 195, .ref 196, .ref 197, .ref 198, .ref 199, .ref 200, .ref 201, .ref 202, .ref 203, .ref 204, .ref 205, .ref 206, .ref 207, .ref 208, .ref 209, .ref 210, .ref 211, .ref 212, .ref 213, .ref 214, .ref 215, .ref 216, .ref 217, .ref 218, .ref 219, .ref 220, .ref 221, .ref 222, .ref 223, .ref 224, .ref 225, .ref 226, .ref 227, .ref 228, .ref 229, .ref 230, .ref 231, .ref 232, .ref 233, .ref 234, .ref 235, .ref 236, .ref 237, .ref 238, .ref 239, .ref 240, .ref 241, .ref 242, .ref 243, .ref 244, .ref 245, .ref 246, .ref 247, .ref 248, .ref 249, .ref 250, .ref 251, .ref 252, .ref 253, .ref 254, .ref 255, .ref 256, .ref 257], vm := .none },
  { cls := 8, slots := #[.long (-128)], vm := .none },
  { cls := 8, slots := #[.long (-127)], vm := .none },
  { cls := 8, slots := #[.long (-126)], vm := .none },
  { cls := 8, slots := #[.long (-125)], vm := .none },
  { cls := 8, slots := #[.long (-124)], vm := .none },
  { cls := 8, slots := #[.long (-123)], vm := .none },
  { cls := 8, slots := #[.long (-122)], vm := .none },
  { cls := 8, slots := #[.long (-121)], vm := .none },
  { cls := 8, slots := #[.long (-120)], vm := .none },
  { cls := 8, slots := #[.long (-119)], vm := .none },
  { cls := 8, slots := #[.long (-118)], vm := .none },
  { cls := 8, slots := #[.long (-117)], vm := .none },
  { cls := 8, slots := #[.long (-116)], vm := .none },
  { cls := 8, slots := #[.long (-115)], vm := .none },
  { cls := 8, slots := #[.long (-114)], vm := .none },
  { cls := 8, slots := #[.long (-113)], vm := .none },
  { cls := 8, slots := #[.long (-112)], vm := .none },
  { cls := 8, slots := #[.long (-111)], vm := .none },
  { cls := 8, slots := #[.long (-110)], vm := .none },
  { cls := 8, slots := #[.long (-109)], vm := .none },
  { cls := 8, slots := #[.long (-108)], vm := .none },
  { cls := 8, slots := #[.long (-107)], vm := .none },
  { cls := 8, slots := #[.long (-106)], vm := .none },
  { cls := 8, slots := #[.long (-105)], vm := .none },
  { cls := 8, slots := #[.long (-104)], vm := .none },
  { cls := 8, slots := #[.long (-103)], vm := .none },
  { cls := 8, slots := #[.long (-102)], vm := .none },
  { cls := 8, slots := #[.long (-101)], vm := .none },
  { cls := 8, slots := #[.long (-100)], vm := .none },
  { cls := 8, slots := #[.long (-99)], vm := .none },
  { cls := 8, slots := #[.long (-98)], vm := .none },
  { cls := 8, slots := #[.long (-97)], vm := .none },
  { cls := 8, slots := #[.long (-96)], vm := .none },
  { cls := 8, slots := #[.long (-95)], vm := .none },
  { cls := 8, slots := #[.long (-94)], vm := .none },
  { cls := 8, slots := #[.long (-93)], vm := .none },
  { cls := 8, slots := #[.long (-92)], vm := .none },
  { cls := 8, slots := #[.long (-91)], vm := .none },
  { cls := 8, slots := #[.long (-90)], vm := .none },
  { cls := 8, slots := #[.long (-89)], vm := .none },
  { cls := 8, slots := #[.long (-88)], vm := .none },
  { cls := 8, slots := #[.long (-87)], vm := .none },
  { cls := 8, slots := #[.long (-86)], vm := .none },
  { cls := 8, slots := #[.long (-85)], vm := .none },
  { cls := 8, slots := #[.long (-84)], vm := .none },
  { cls := 8, slots := #[.long (-83)], vm := .none },
  { cls := 8, slots := #[.long (-82)], vm := .none },
  { cls := 8, slots := #[.long (-81)], vm := .none },
  { cls := 8, slots := #[.long (-80)], vm := .none },
  { cls := 8, slots := #[.long (-79)], vm := .none },
  { cls := 8, slots := #[.long (-78)], vm := .none },
  { cls := 8, slots := #[.long (-77)], vm := .none },
  { cls := 8, slots := #[.long (-76)], vm := .none },
  { cls := 8, slots := #[.long (-75)], vm := .none },
  { cls := 8, slots := #[.long (-74)], vm := .none },
  { cls := 8, slots := #[.long (-73)], vm := .none },
  { cls := 8, slots := #[.long (-72)], vm := .none },
  { cls := 8, slots := #[.long (-71)], vm := .none },
  { cls := 8, slots := #[.long (-70)], vm := .none },
  { cls := 8, slots := #[.long (-69)], vm := .none },
  { cls := 8, slots := #[.long (-68)], vm := .none },
  { cls := 8, slots := #[.long (-67)], vm := .none },
  { cls := 8, slots := #[.long (-66)], vm := .none },
  { cls := 8, slots := #[.long (-65)], vm := .none },
  { cls := 8, slots := #[.long (-64)], vm := .none },
  { cls := 8, slots := #[.long (-63)], vm := .none },
  { cls := 8, slots := #[.long (-62)], vm := .none },
  { cls := 8, slots := #[.long (-61)], vm := .none },
  { cls := 8, slots := #[.long (-60)], vm := .none },
  { cls := 8, slots := #[.long (-59)], vm := .none },
  { cls := 8, slots := #[.long (-58)], vm := .none },
  { cls := 8, slots := #[.long (-57)], vm := .none },
  { cls := 8, slots := #[.long (-56)], vm := .none },
  { cls := 8, slots := #[.long (-55)], vm := .none },
  { cls := 8, slots := #[.long (-54)], vm := .none },
  { cls := 8, slots := #[.long (-53)], vm := .none },
  { cls := 8, slots := #[.long (-52)], vm := .none },
  { cls := 8, slots := #[.long (-51)], vm := .none },
  { cls := 8, slots := #[.long (-50)], vm := .none },
  { cls := 8, slots := #[.long (-49)], vm := .none },
  { cls := 8, slots := #[.long (-48)], vm := .none },
  { cls := 8, slots := #[.long (-47)], vm := .none },
  { cls := 8, slots := #[.long (-46)], vm := .none },
  { cls := 8, slots := #[.long (-45)], vm := .none },
  { cls := 8, slots := #[.long (-44)], vm := .none },
  { cls := 8, slots := #[.long (-43)], vm := .none },
  { cls := 8, slots := #[.long (-42)], vm := .none },
  { cls := 8, slots := #[.long (-41)], vm := .none },
  { cls := 8, slots := #[.long (-40)], vm := .none },
  { cls := 8, slots := #[.long (-39)], vm := .none },
  { cls := 8, slots := #[.long (-38)], vm := .none },
  { cls := 8, slots := #[.long (-37)], vm := .none },
  { cls := 8, slots := #[.long (-36)], vm := .none },
  { cls := 8, slots := #[.long (-35)], vm := .none },
  { cls := 8, slots := #[.long (-34)], vm := .none },
  { cls := 8, slots := #[.long (-33)], vm := .none },
  { cls := 8, slots := #[.long (-32)], vm := .none },
  { cls := 8, slots := #[.long (-31)], vm := .none },
  { cls := 8, slots := #[.long (-30)], vm := .none },
  { cls := 8, slots := #[.long (-29)], vm := .none },
  { cls := 8, slots := #[.long (-28)], vm := .none },
  { cls := 8, slots := #[.long (-27)], vm := .none },
  { cls := 8, slots := #[.long (-26)], vm := .none },
  { cls := 8, slots := #[.long (-25)], vm := .none },
  { cls := 8, slots := #[.long (-24)], vm := .none },
  { cls := 8, slots := #[.long (-23)], vm := .none },
  { cls := 8, slots := #[.long (-22)], vm := .none },
  { cls := 8, slots := #[.long (-21)], vm := .none },
  { cls := 8, slots := #[.long (-20)], vm := .none },
  { cls := 8, slots := #[.long (-19)], vm := .none },
  { cls := 8, slots := #[.long (-18)], vm := .none },
  { cls := 8, slots := #[.long (-17)], vm := .none },
  { cls := 8, slots := #[.long (-16)], vm := .none },
  { cls := 8, slots := #[.long (-15)], vm := .none },
  { cls := 8, slots := #[.long (-14)], vm := .none },
  { cls := 8, slots := #[.long (-13)], vm := .none },
  { cls := 8, slots := #[.long (-12)], vm := .none },
  { cls := 8, slots := #[.long (-11)], vm := .none },
  { cls := 8, slots := #[.long (-10)], vm := .none },
  { cls := 8, slots := #[.long (-9)], vm := .none },
  { cls := 8, slots := #[.long (-8)], vm := .none },
  { cls := 8, slots := #[.long (-7)], vm := .none },
  { cls := 8, slots := #[.long (-6)], vm := .none },
  { cls := 8, slots := #[.long (-5)], vm := .none },
  { cls := 8, slots := #[.long (-4)], vm := .none },
  { cls := 8, slots := #[.long (-3)], vm := .none },
  { cls := 8, slots := #[.long (-2)], vm := .none },
  { cls := 8, slots := #[.long (-1)], vm := .none },
  { cls := 8, slots := #[.long 0], vm := .none },
  { cls := 8, slots := #[.long 1], vm := .none },
  { cls := 8, slots := #[.long 2], vm := .none },
  { cls := 8, slots := #[.long 3], vm := .none },
  { cls := 8, slots := #[.long 4], vm := .none },
  { cls := 8, slots := #[.long 5], vm := .none },
  { cls := 8, slots := #[.long 6], vm := .none },
  { cls := 8, slots := #[.long 7], vm := .none },
  { cls := 8, slots := #[.long 8], vm := .none },
  { cls := 8, slots := #[.long 9], vm := .none },
  { cls := 8, slots := #[.long 10], vm := .none },
  { cls := 8, slots := #[.long 11], vm := .none },
  { cls := 8, slots := #[.long 12], vm := .none },
  { cls := 8, slots := #[.long 13], vm := .none },
  { cls := 8, slots := #[.long 14], vm := .none },
  { cls := 8, slots := #[.long 15], vm := .none },
  { cls := 8, slots := #[.long 16], vm := .none },
  { cls := 8, slots := #[.long 17], vm := .none },
  { cls := 8, slots := #[.long 18], vm := .none },
  { cls := 8, slots := #[.long 19], vm := .none },
  { cls := 8, slots := #[.long 20], vm := .none },
  { cls := 8, slots := #[.long 21], vm := .none },
  { cls := 8, slots := #[.long 22], vm := .none },
  { cls := 8, slots := #[.long 23], vm := .none },
  { cls := 8, slots := #[.long 24], vm := .none },
  { cls := 8, slots := #[.long 25], vm := .none },
  { cls := 8, slots := #[.long 26], vm := .none },
  { cls := 8, slots := #[.long 27], vm := .none },
  { cls := 8, slots := #[.long 28], vm := .none },
  { cls := 8, slots := #[.long 29], vm := .none },
  { cls := 8, slots := #[.long 30], vm := .none },
  { cls := 8, slots := #[.long 31], vm := .none },
  { cls := 8, slots := #[.long 32], vm := .none },
  { cls := 8, slots := #[.long 33], vm := .none },
  { cls := 8, slots := #[.long 34], vm := .none },
  { cls := 8, slots := #[.long 35], vm := .none },
  { cls := 8, slots := #[.long 36], vm := .none },
  { cls := 8, slots := #[.long 37], vm := .none },
  { cls := 8, slots := #[.long 38], vm := .none },
  { cls := 8, slots := #[.long 39], vm := .none },
  { cls := 8, slots := #[.long 40], vm := .none },
  { cls := 8, slots := #[.long 41], vm := .none },
  { cls := 8, slots := #[.long 42], vm := .none },
  { cls := 8, slots := #[.long 43], vm := .none },
  { cls := 8, slots := #[.long 44], vm := .none },
  { cls := 8, slots := #[.long 45], vm := .none },
  { cls := 8, slots := #[.long 46], vm := .none },
  { cls := 8, slots := #[.long 47], vm := .none },
  { cls := 8, slots := #[.long 48], vm := .none },
  { cls := 8, slots := #[.long 49], vm := .none },
  { cls := 8, slots := #[.long 50], vm := .none },
  { cls := 8, slots := #[.long 51], vm := .none },
  { cls := 8, slots := #[.long 52], vm := .none },
  { cls := 8, slots := #[.long 53], vm := .none },
  { cls := 8, slots := #[.long 54], vm := .none },
  { cls := 8, slots := #[.long 55], vm := .none },
  { cls := 8, slots := #[.long 56], vm := .none },
  { cls := 8, slots := #[.long 57], vm := .none },
  { cls := 8, slots := #[.long 58], vm := .none },
  { cls := 8, slots := #[.long 59], vm := .none },
  { cls := 8, slots := #[.long 60], vm := .none },
  { cls := 8, slots := #[.long 61], vm := .none },
  { cls := 8, slots := #[.long 62], vm := .none },
  { cls := 8, slots := #[.long 63], vm := .none },
  { cls := 8, slots := #[.long 64], vm := .none },
  { cls := 8, slots := #[.long 65], vm := .none },
  { cls := 8, slots := #[.long 66], vm := .none },
  { cls := 8, slots := #[.long 67], vm := .none },
  { cls := 8, slots := #[.long 68], vm := .none },
  { cls := 8, slots := #[.long 69], vm := .none },
  { cls := 8, slots := #[.long 70], vm := .none },
  { cls := 8, slots := #[.long 71], vm := .none },
  { cls := 8, slots := #[.long 72], vm := .none },
  { cls := 8, slots := #[.long 73], vm := .none },
  { cls := 8, slots := #[.long 74], vm := .none },
  { cls := 8, slots := #[.long 75], vm := .none },
  { cls := 8, slots := #[.long 76], vm := .none },
  { cls := 8, slots := #[.long 77], vm := .none },
  { cls := 8, slots := #[.long 78], vm := .none },
  { cls := 8, slots := #[.long 79], vm := .none },
  { cls := 8, slots := #[.long 80], vm := .none },
  { cls := 8, slots := #[.long 81], vm := .none },
  { cls := 8, slots := #[.long 82], vm := .none },
  { cls := 8, slots := #[.long 83], vm := .none },
  { cls := 8, slots := #[.long 84], vm := .none },
  { cls := 8, slots := #[.long 85], vm := .none },
  { cls := 8, slots := #[.long 86], vm := .none },
  { cls := 8, slots := #[.long 87], vm := .none },
  { cls := 8, slots := #[.long 88], vm := .none },
  { cls := 8, slots := #[.long 89], vm := .none },
  { cls := 8, slots := #[.long 90], vm := .none },
  { cls := 8, slots := #[.long 91], vm := .none },
  { cls := 8, slots := #[.long 92], vm := .none },
  { cls := 8, slots := #[.long 93], vm := .none },
  { cls := 8, slots := #[.long 94], vm := .none },
  { cls := 8, slots := #[.long 95], vm := .none },
  { cls := 8, slots := #[.long 96], vm := .none },
  { cls := 8, slots := #[.long 97], vm := .none },
  { cls := 8, slots := #[.long 98], vm := .none },
  { cls := 8, slots := #[.long 99], vm := .none },
  { cls := 8, slots := #[.long 100], vm := .none },
  { cls := 8, slots := #[.long 101], vm := .none },
  { cls := 8, slots := #[.long 102], vm := .none },
  { cls := 8, slots := #[.long 103], vm := .none },
  { cls := 8, slots := #[.long 104], vm := .none },
  { cls := 8, slots := #[.long 105], vm := .none },
  { cls := 8, slots := #[.long 106], vm := .none },
  { cls := 8, slots := #[.long 107], vm := .none },
  { cls := 8, slots := #[.long 108], vm := .none },
  { cls := 8, slots := #[.long 109], vm := .none },
  { cls := 8, slots := #[.long 110], vm := .none },
  { cls := 8, slots := #[.long 111], vm := .none },
  { cls := 8, slots := #[.long 112], vm := .none },
  { cls := 8, slots := #[.long 113], vm := .none },
  { cls := 8, slots := #[.long 114], vm := .none },
  { cls := 8, slots := #[.long 115], vm := .none },
  { cls := 8, slots := #[.long 116], vm := .none },
  { cls := 8, slots := #[.long 117], vm := .none },
  { cls := 8, slots := #[.long 118], vm := .none },
  { cls := 8, slots := #[.long 119], vm := .none },
  { cls := 8, slots := #[.long 120], vm := .none },
  { cls := 8, slots := #[.long 121], vm := .none },
  { cls := 8, slots := #[.long 122], vm := .none },
  { cls := 8, slots := #[.long 123], vm := .none },
  { cls := 8, slots := #[.long 124], vm := .none },
  { cls := 8, slots := #[.long 125], vm := .none },
  { cls := 8, slots := #[.long 126], vm := .none },
  { cls := 8, slots := #[.long 127], vm := .none }]
def classes : Array Class := #[k0, k1, k2, k3, k4, k5, k6, k7, k8, k9, k10, k11, k12, k13, k14, k15]
def interned : List (Array UInt16 × Addr) := []
def slotsUsed : Nat := 515
def theMethod : MethodId := ⟨1, 1⟩
def args0 : Array Value := #[.long 1, .long 2, .int 3, .int 4, .int 5, .int 6]
def aboutOver (below : List Frame) : State where
  vm := { classes := classes, interned := interned.toArray }
  heap := heap
  slotsUsed := slotsUsed
  threads := #[{ frames := .invoking theMethod args0 :: below }]
def below0 : List Frame := [.native { method := ⟨0, 0⟩, args := #[] }]
def about1 : State := aboutOver below0
def p0 : Program := .bare "" "" ""
def e0 : Env := launch0.env 0 0 0
theorem w_frames : about1.frames = Frame.invoking theMethod args0 :: below0 := rfl
set_option maxRecDepth 65536 in
theorem w_args : argsFit about1.vm theMethod args0 = true := by decide +kernel
set_option maxRecDepth 65536 in
theorem w_heap : heapFits about1 = true := by decide +kernel
set_option maxRecDepth 65536 in
theorem w_runnable : about1.curStatus? = some .runnable := by decide +kernel
set_option maxRecDepth 65536 in
theorem w_alone : about1.alone = true := by decide +kernel
set_option maxRecDepth 65536 in
theorem w_named : about1.methodNamed? x = some theMethod := by decide +kernel
set_option maxRecDepth 65536 in
theorem w_hears : about1.hears theMethod below0 = true := by decide +kernel
set_option maxRecDepth 65536 in
theorem w_ripe : about1.ripe theMethod args0 below0 = true := by decide +kernel
theorem w_running : about1.status = .running := rfl
set_option maxRecDepth 65536 in
theorem w_room : about1.hasRoom e0.platform room_1 = true :=
  launch0.hasRoom_least _ room_1 (by decide +kernel) (by decide +kernel) (by decide +kernel) (by decide +kernel) (by decide +kernel) (by decide +kernel)
theorem allAtoms_all (ts : List Jvm.Cond) (a : Array Jvm.Value) (st : Jvm.State) : (allAtoms ts).before a st = ts.all (fun c => c.before a st) := by
  induction ts with
  | nil => rfl
  | cons c t ih =>
    show (Jvm.Cond.and c (allAtoms t)).before a st = _
    rw [Jvm.Cond.before_and, ih, List.all_cons]
def words1 : List Jvm.Cond := Jvm.Cond.code x code maxLocals ret :: tables_1
/-- a 'code' word, met by the world's own term for the bytes: nothing is compared byte by byte -/
theorem code_word {y : MethodName} {bytes : ByteArray} {mx : Nat} {rt : Option FieldType} {a : Array Value} {s : State} {m : MethodId} {meth : Method} {c : Code} (h1 : s.methodNamed? y = some m) (h2 : s.vm.method? m = some meth) (h3 : meth.code = some c) (h4 : c.code = bytes)
    (h5 : (c.maxLocals == mx && c.exceptionTable.isEmpty && decide (c.maxStack ≤ mostOperands) && decide (meth.sig.returnType = rt) && !meth.locks && decide (parseMethodDescriptor y.desc = some meth.sig)) = true) : (Jvm.Cond.code y bytes mx rt).before a s = true := by
  simp only [Bool.and_eq_true, beq_iff_eq, Bool.not_eq_true', decide_eq_true_eq] at h5
  obtain ⟨⟨⟨⟨⟨g1, g2⟩, g3⟩, g4⟩, g5⟩, g6⟩ := h5
  simp [Cond.before, Cond.holds, Cond.value, h1, h2, h3, h4, g1, g2, g3, g4, g5, g6]
def isCode : Jvm.Cond → Bool
  | .code _ _ _ _ => true
  | _ => false
theorem all_split {L : List Jvm.Cond} {P : Jvm.Cond → Bool} (h1 : L.all (fun c => isCode c || P c) = true) (h2 : ∀ c ∈ L.filter isCode, P c = true) : L.all P = true := by
  refine List.all_eq_true.mpr fun c hc => ?_
  have h := List.all_eq_true.mp h1 c hc
  rcases Bool.eq_false_or_eq_true (isCode c) with hi | hi
  · exact h2 c (List.mem_filter.mpr ⟨hc, hi⟩)
  · simpa [hi] using h
set_option maxRecDepth 65536 in
theorem w_c0 : (Jvm.Cond.code x code maxLocals ret).before args0 about1 = true := code_word (m := ⟨1, 1⟩) (meth := k1m1) (c := k1c1) (by decide +kernel) rfl rfl rfl (by decide +kernel)
set_option maxRecDepth 65536 in
theorem w_c1 : (Jvm.Cond.code ({ cls := "com/example/maco/maco/model/PoolCounters", name := "<init>", desc := "(JJIIII)V" } : Jvm.MethodName) prog_24_method_1_code (9 : Nat) (Option.none : Option Jvm.ClassFile.FieldType)).before args0 about1 = true := code_word (m := ⟨2, 0⟩) (meth := k2m0) (c := k2c0) (by decide +kernel) rfl rfl rfl (by decide +kernel)
set_option maxRecDepth 65536 in
theorem w_c2 : (Jvm.Cond.code ({ cls := "java/lang/Object", name := "<init>", desc := "()V" } : Jvm.MethodName) object_method_1_code (1 : Nat) (Option.none : Option Jvm.ClassFile.FieldType)).before args0 about1 = true := code_word (m := ⟨0, 0⟩) (meth := k0m0) (c := k0c0) (by decide +kernel) rfl rfl rfl (by decide +kernel)
set_option maxRecDepth 65536 in
theorem w_c3 : (Jvm.Cond.code ({ cls := "com/example/maco/maco/model/PoolCounters", name := "equals", desc := "(Ljava/lang/Object;)Z" } : Jvm.MethodName) prog_24_method_8_code (3 : Nat) (Option.some Jvm.ClassFile.FieldType.boolean)).before args0 about1 = true := code_word (m := ⟨2, 1⟩) (meth := k2m1) (c := k2c1) (by decide +kernel) rfl rfl rfl (by decide +kernel)
set_option maxRecDepth 65536 in
theorem w_c4 : (Jvm.Cond.code ({ cls := "java/lang/Long", name := "valueOf", desc := "(J)Ljava/lang/Long;" } : Jvm.MethodName) jdk_35_method_24_code (3 : Nat) (Option.some (Jvm.ClassFile.FieldType.object "java/lang/Long"))).before args0 about1 = true := code_word (m := ⟨8, 0⟩) (meth := k8m0) (c := k8c0) (by decide +kernel) rfl rfl rfl (by decide +kernel)
set_option maxRecDepth 65536 in
theorem w_c5 : (Jvm.Cond.code ({ cls := "java/lang/Long", name := "<init>", desc := "(J)V" } : Jvm.MethodName) jdk_35_method_26_code (3 : Nat) (Option.none : Option Jvm.ClassFile.FieldType)).before args0 about1 = true := code_word (m := ⟨8, 1⟩) (meth := k8m1) (c := k8c1) (by decide +kernel) rfl rfl rfl (by decide +kernel)
set_option maxRecDepth 65536 in
theorem w_c6 : (Jvm.Cond.code ({ cls := "java/lang/Number", name := "<init>", desc := "()V" } : Jvm.MethodName) jdk_18_method_1_code (1 : Nat) (Option.none : Option Jvm.ClassFile.FieldType)).before args0 about1 = true := code_word (m := ⟨4, 0⟩) (meth := k4m0) (c := k4c0) (by decide +kernel) rfl rfl rfl (by decide +kernel)
def codes1 : List Jvm.Cond := [Jvm.Cond.code x code maxLocals ret, Jvm.Cond.code ({ cls := "com/example/maco/maco/model/PoolCounters", name := "<init>", desc := "(JJIIII)V" } : Jvm.MethodName) prog_24_method_1_code (9 : Nat) (Option.none : Option Jvm.ClassFile.FieldType), Jvm.Cond.code ({ cls := "java/lang/Object", name := "<init>", desc := "()V" } : Jvm.MethodName) object_method_1_code (1 : Nat) (Option.none : Option Jvm.ClassFile.FieldType), Jvm.Cond.code ({ cls := "com/example/maco/maco/model/PoolCounters", name := "equals", desc := "(Ljava/lang/Object;)Z" } : Jvm.MethodName) prog_24_method_8_code (3 : Nat) (Option.some Jvm.ClassFile.FieldType.boolean), Jvm.Cond.code ({ cls := "java/lang/Long", name := "valueOf", desc := "(J)Ljava/lang/Long;" } : Jvm.MethodName) jdk_35_method_24_code (3 : Nat) (Option.some (Jvm.ClassFile.FieldType.object "java/lang/Long")), Jvm.Cond.code ({ cls := "java/lang/Long", name := "<init>", desc := "(J)V" } : Jvm.MethodName) jdk_35_method_26_code (3 : Nat) (Option.none : Option Jvm.ClassFile.FieldType), Jvm.Cond.code ({ cls := "java/lang/Number", name := "<init>", desc := "()V" } : Jvm.MethodName) jdk_18_method_1_code (1 : Nat) (Option.none : Option Jvm.ClassFile.FieldType)]
set_option maxRecDepth 65536 in
theorem codes_eq : words1.filter isCode = codes1 := rfl
theorem w_codes : ∀ c ∈ words1.filter isCode, c.before args0 about1 = true := by
  rw [codes_eq]
  intro c hc
  simp only [codes1, List.mem_cons, List.not_mem_nil, or_false] at hc
  rcases hc with rfl | rfl | rfl | rfl | rfl | rfl | rfl
  · exact w_c0
  · exact w_c1
  · exact w_c2
  · exact w_c3
  · exact w_c4
  · exact w_c5
  · exact w_c6
set_option maxRecDepth 65536 in
theorem w_t1 : (words1.take 24).all (fun c => isCode c || c.before args0 about1) = true := by decide +kernel
set_option maxRecDepth 65536 in
theorem w_t2 : ((words1.drop 24).take 24).all (fun c => isCode c || c.before args0 about1) = true := by decide +kernel
set_option maxRecDepth 65536 in
theorem w_t3 : ((words1.drop 24).drop 24).all (fun c => isCode c || c.before args0 about1) = true := by decide +kernel
theorem w_tables : (allAtoms (Jvm.Cond.code x code maxLocals ret :: tables_1)).before args0 about1 = true := by
  rw [allAtoms_all]
  show words1.all (fun c => c.before args0 about1) = true
  refine all_split ?_ w_codes
  rw [← List.take_append_drop 24 words1, List.all_append, w_t1, ← List.take_append_drop 24 (words1.drop 24), List.all_append, w_t2, w_t3]
  rfl
set_option maxRecDepth 65536 in
theorem w_rest : rest_1_c.before args0 about1 = true := by decide +kernel
set_option maxRecDepth 65536 in
theorem w_case : (Jvm.Cond.and given_1 narrow_1).before args0 about1 = true := by decide +kernel
theorem w_applies : (headSpec (Jvm.Cond.code x code maxLocals ret :: tables_1) room_1).applies x e0.platform about1 = true :=
  (Spec.applies_iff w_frames).mpr ⟨w_running, w_runnable, w_alone, w_named, w_hears, w_ripe, w_room, w_tables⟩
theorem atStart : AtStart classFile x code maxLocals ret World_1 tables_1 room_1 Calls_1 rest_1 Pre_1 launch0 p0 e0 about1 theMethod args0 below0 :=
  ⟨lists_1, trivial, launch0.admits_env _ _ _, launch0.least_env, fairChoices_fair.cas, fairChoices_fair.clock, w_frames, w_args, w_heap, w_applies, trivial, w_rest, w_case⟩
end start1
theorem witness_1 : WitnessClaimed_1 := ⟨start1.p0, start1.e0, start1.about1, start1.theMethod, start1.args0, start1.below0, start1.atStart⟩
end Jvm.Pilot.@@N@@
